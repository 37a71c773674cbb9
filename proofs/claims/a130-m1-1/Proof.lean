import JvmDerived
import JvmDerived.Pilot.@@N@@Statement
import JvmDerived.Pilot.@@N@@Code
set_option linter.unusedVariables false
set_option linter.unusedSimpArgs false
namespace Jvm.RoadKit
open Sem ClassFile Op Lib Jvm.Stand Jvm.Free Jvm.LawKit
section New
variable {p : Program} {l : Launch} {e : Env} {R : Room} {s : State} {m : MethodId} {args : Array Value} {below : List Frame} {meth : Method} {c : Code} {T : State} {locs : List Loc} {cells slots : Nat}
theorem retI (X : Stand p l e R s m args below meth c T locs cells slots) (hx : p.tables.exec = Jvm.exec) {pc : Nat} {Ls : Array Slot} {z : Int32} {rest : List Value} (hret : meth.sig.returnType = some .int) (hd : decode c.code pc = .ok (.ireturn, 1)) {fs : List Frame}
    (hl : ∀ (f : JFrame) (acts : List Action), f.method = m → f.locked = none → f.entered = [] → (doReturn e (T.setTop f) acts (some (.int z))).1 = T.setFrames fs) : Steps p.tables e below (T.setTop (mkF m pc Ls (.int z :: rest))) (T.setFrames fs) :=
  retOut X hx hret rfl (Or.inl ⟨rfl, Or.inl rfl, _, rfl⟩) hd hl
def Elt (Z : State) (h : Heap) (a : Addr) (ty : FieldType) (j : Int32) (v : Value) : Prop := ∃ cl : Cell, Arr Z h a cl ty ∧ ¬ (j < 0 ∨ cl.slots.size ≤ j.toNatClampNeg) ∧ cl.slots[j.toNatClampNeg]? = some v
theorem Elt.of {Z : State} {h : Heap} {a : Addr} {k : ClassId} {ty : FieldType} {n j : Int32} {vs : List Value} {d v : Value} (F : Arv Z h a k ty n vs d) (q : ¬ j < 0 ∧ j < n) (u : vs.getD j.toNatClampNeg d = v) : Elt Z h a ty j v := by
  obtain ⟨c, A, _, S, _, H, _⟩ := F
  exact ⟨c, A, inb_of S q, H.at (inb_of S q) u⟩
def Goes (tb : Tables) (e : Env) (below : List Frame) (P : State → Outcome → Prop) (A : State) : Prop := ∃ s₂ o, Steps tb e below A s₂ ∧ P s₂ o
theorem Goes.start {tb : Tables} {e : Env} {below : List Frame} {P : State → Outcome → Prop} {A : State} (h : Goes tb e below P A) : ∃ s₂ o, Steps tb e below A s₂ ∧ P s₂ o := h
theorem Goes.by {tb : Tables} {e : Env} {below : List Frame} {P : State → Outcome → Prop} {A B : State} (h : ∀ t, Steps tb e below B t → Steps tb e below A t) (g : Goes tb e below P B) : Goes tb e below P A := by
  obtain ⟨s₂, o, h1, h2⟩ := g
  exact ⟨s₂, o, h _ h1, h2⟩
theorem Goes.mk {tb : Tables} {e : Env} {below : List Frame} {P : State → Outcome → Prop} {A : State} (s₂ : State) (o : Outcome) (h : Steps tb e below A s₂) (hp : P s₂ o) : Goes tb e below P A := ⟨s₂, o, h, hp⟩
end New
end Jvm.RoadKit
namespace Jvm.Pilot.@@N@@
open Jvm Jvm.ClassFile Sem Op Lib Jvm.Free Jvm.Stand Jvm.LawKit Jvm.RoadKit Bundle Jvm.Pilot.@@N@@.Jvm.D
theorem d1_0 : decode prog_20_method_1_code 0 = .ok (.aload_n 0, 1) := by decide +kernel
theorem d1_1 : decode prog_20_method_1_code 1 = .ok (.invokespecial 1, 3) := by decide +kernel
theorem d1_4 : decode prog_20_method_1_code 4 = .ok (.aload_n 0, 1) := by decide +kernel
theorem d1_5 : decode prog_20_method_1_code 5 = .ok (.iload_n 1, 1) := by decide +kernel
theorem d1_6 : decode prog_20_method_1_code 6 = .ok (.putfield 7, 3) := by decide +kernel
theorem d1_9 : decode prog_20_method_1_code 9 = .ok (.aload_n 0, 1) := by decide +kernel
theorem d1_10 : decode prog_20_method_1_code 10 = .ok (.iload_n 2, 1) := by decide +kernel
theorem d1_11 : decode prog_20_method_1_code 11 = .ok (.putfield 13, 3) := by decide +kernel
theorem d1_14 : decode prog_20_method_1_code 14 = .ok (.aload_n 0, 1) := by decide +kernel
theorem d1_15 : decode prog_20_method_1_code 15 = .ok (.iload_n 1, 1) := by decide +kernel
theorem d1_16 : decode prog_20_method_1_code 16 = .ok (.ifCond .eq 11, 3) := by decide +kernel
theorem d1_27 : decode prog_20_method_1_code 27 = .ok (.iconst 0, 1) := by decide +kernel
theorem d1_19 : decode prog_20_method_1_code 19 = .ok (.iload_n 3, 1) := by decide +kernel
theorem d1_20 : decode prog_20_method_1_code 20 = .ok (.ifCond .eq 7, 3) := by decide +kernel
theorem d1_23 : decode prog_20_method_1_code 23 = .ok (.iconst 1, 1) := by decide +kernel
theorem d1_24 : decode prog_20_method_1_code 24 = .ok (.goto 4, 3) := by decide +kernel
theorem d1_28 : decode prog_20_method_1_code 28 = .ok (.putfield 16, 3) := by decide +kernel
theorem d1_31 : decode prog_20_method_1_code 31 = .ok (.return_, 1) := by decide +kernel
def Q1 (Z : State) (a0 : Addr) (p1 : Int32) (p2 : Int32) (p3 : Int32) (h0 : Heap) (n0 : Nat) (v : Option Value) (h : Heap) (L : List Loc) : Prop := v = none ∧ Fr n0 L ∧ Keep h0 h [a0] ∧ Exa Z h a0 "com/example/bare_octets/bareoctets/codec/WellFormedSequences" ∧ Fld Z h a0 "com/example/bare_octets/bareoctets/codec/WellFormedSequences" "surrogateForms" "Z" (.int (nar .boolean p1)) ∧ Fld Z h a0 "com/example/bare_octets/bareoctets/codec/WellFormedSequences" "nulInTwoBytes" "Z" (.int (nar .boolean p2)) ∧ Fld Z h a0 "com/example/bare_octets/bareoctets/codec/WellFormedSequences" "surrogatesPair" "Z" (.int (nar .boolean (if p1 = (0 : Int32) then (0 : Int32) else (if p3 = (0 : Int32) then (0 : Int32) else (1 : Int32)))))
theorem own_pn_com_example_bare_octets_bareoctets_codec_WellFormedSequences : plainName "com/example/bare_octets/bareoctets/codec/WellFormedSequences" = true := by first | (simp [plainName, overriddenIn]; done) | decide +kernel
theorem ef1 (m : MethodId) (x0 : Addr) (x1 : Int32) (x2 : Int32) (x3 : Int32) : entryFrame m #[(.ref x0), (.int x1), (.int x2), (.int x3)] 4 = mkF m 0 #[.val (.ref x0), .val (.int x1), .val (.int x2), .val (.int x3)] [] := by first | (simp [entryFrame, mkF, argsToLocals, Value.category]; done) | rfl
set_option maxRecDepth 65536 in
set_option maxHeartbeats 40000000 in
theorem rm1 (l : Launch) (Z : State) (a0 : Array Value) (hw : ∀ d ∈ tables_1, d.before a0 Z = true) (ws : List Jvm.Cond) (a0 : Addr) (p1 : Int32) (p2 : Int32) (p3 : Int32) (h0 : Heap) (n0 : Nat) (Z0 : n0 ≤ h0.size) (F0 : Exa Z h0 a0 "com/example/bare_octets/bareoctets/codec/WellFormedSequences") (F1 : Fld Z h0 a0 "com/example/bare_octets/bareoctets/codec/WellFormedSequences" "surrogateForms" "Z" (.int (0 : Int32))) (F2 : Fld Z h0 a0 "com/example/bare_octets/bareoctets/codec/WellFormedSequences" "nulInTwoBytes" "Z" (.int (0 : Int32))) (F3 : Fld Z h0 a0 "com/example/bare_octets/bareoctets/codec/WellFormedSequences" "surrogatesPair" "Z" (.int (0 : Int32))) (Ge0 : n0 ≤ a0) :
    MetFree l (⟨"com/example/bare_octets/bareoctets/codec/WellFormedSequences", "<init>", "(ZZZ)V"⟩ : MethodName) (head1 (Jvm.Cond.code (⟨"com/example/bare_octets/bareoctets/codec/WellFormedSequences", "<init>", "(ZZZ)V"⟩ : MethodName) prog_20_method_1_code 4 none :: ws) ({ frames := 1, cells := 0, slots := 0, locals := 12 } : Room)) (fun a U => a = #[(.ref a0), (.int p1), (.int p2), (.int p3)] ∧ Z.Warmed39 U.vm ∧ U.heap = h0) (fun _ _ _ _ _ => True) (fun _ U o U' => ∃ v L, o = .returned v ∧ Q1 Z a0 p1 p2 p3 h0 n0 v U'.heap L ∧ FrameEnd U o U' L ({ frames := 1, cells := 0, slots := 0, locals := 12 } : Room).cells ({ frames := 1, cells := 0, slots := 0, locals := 12 } : Room).slots) := by
  refine MetFree.of_bodySF (plainFor_of_name own_pn_com_example_bare_octets_bareoctets_codec_WellFormedSequences) hisR ?_
  intro p e s m args below meth c s₁ Bd hml0 hP hK
  obtain ⟨rfl, hZ, hh⟩ := hP
  have hx := Bd.exec
  have hby := Bd.bytes
  have hml : c.maxLocals = 4 := hml0
  have hown : s.vm.findClass "com/example/bare_octets/bareoctets/codec/WellFormedSequences" = some m.cls := findClass_of_methodNamed Bd.named
  have hnm := (name_of_methodNamed Bd.named Bd.method).1
  have X0 : Stand p l e ({ frames := 1, cells := 0, slots := 0, locals := 12 } : Room) s m #[(.ref a0), (.int p1), (.int p2), (.int p3)] below meth c s₁ [] 0 0 := Stand.of_body Bd
  have e0 : s₁.heap = h0 := by rw [← hh, Bd.state]; rfl
  have N0 := Fr.nil n0
  have Kp0 : Keep h0 h0 [a0] := Keep.refl _ _
  refine Goes.start ?_
  refine Goes.by (B := s₁.setTop (mkF m 0 #[.val (.ref a0), .val (.int p1), .val (.int p2), .val (.int p3)] [])) (fun t k => castTop (ef1 m a0 p1 p2 p3) k) ?_
  refine Goes.by (B := s₁.setTop (mkF m 1 #[.val (.ref a0), .val (.int p1), .val (.int p2), .val (.int p3)] [(.ref a0)])) (fun t k => ?_) ?_
  · show Steps p.tables e below (s₁.setTop (mkF m 0 #[.val (.ref a0), .val (.int p1), .val (.int p2), .val (.int p3)] [])) t
    refine XS.aloadN X0.here hx rfl (hb hby d1_0) rfl rfl ?_
    exact k
  obtain ⟨T1, X1, e1, st1⟩ := initO X0 hx hZ hown (hw _ (List.mem_of_getElem? (i := 6) rfl)) (hw _ (List.mem_of_getElem? (i := 7) rfl)) (hw _ (List.mem_of_getElem? (i := 8) rfl)) e0 (g := (mkF m 1 #[.val (.ref a0), .val (.int p1), .val (.int p2), .val (.int p3)] [(.ref a0)])) rfl (by rw [hml]; rfl) rfl (hb hby d1_1) (by decide) (W := 0) (by show 2 * 0 + _ ≤ _; exact Nat.le_of_eq rfl) (by decide)
  refine Goes.by st1 ?_
  show Goes p.tables e below _ (T1.setTop (mkF m 4 #[.val (.ref a0), .val (.int p1), .val (.int p2), .val (.int p3)] []))
  refine Goes.by (B := T1.setTop (mkF m 6 #[.val (.ref a0), .val (.int p1), .val (.int p2), .val (.int p3)] [(.int p1), (.ref a0)])) (fun t k => ?_) ?_
  · show Steps p.tables e below (T1.setTop (mkF m 4 #[.val (.ref a0), .val (.int p1), .val (.int p2), .val (.int p3)] [])) t
    refine XS.aloadN X1.here hx rfl (hb hby d1_4) rfl rfl ?_
    show Steps p.tables e below (T1.setTop (mkF m 5 #[.val (.ref a0), .val (.int p1), .val (.int p2), .val (.int p3)] [(.ref a0)])) t
    refine XS.iloadN X1.here hx rfl (hb hby d1_5) rfl ?_
    exact k
  obtain ⟨T2, h2, X2, e2, W2, st2⟩ := putFN X1 hx hZ hown (hw _ (List.mem_of_getElem? (i := 9) rfl)) Via.refl e1 F1 F0 (Or.inr ⟨(hw _ (List.mem_of_getElem? (i := 10) rfl)), rfl, hnm⟩) (hw _ (List.mem_of_getElem? (i := 1) rfl)) (ty := .boolean) (v' := (.int (nar .boolean p1))) (by decide) rfl (fits_nar_bool _) (g := (mkF m 6 #[.val (.ref a0), .val (.int p1), .val (.int p2), .val (.int p3)] [(.int p1), (.ref a0)])) rfl rfl (hb hby d1_6)
  have f3 : Exa Z h2 a0 "com/example/bare_octets/bareoctets/codec/WellFormedSequences" := F0.wr W2
  have f4 : Fld Z h2 a0 "com/example/bare_octets/bareoctets/codec/WellFormedSequences" "nulInTwoBytes" "Z" (.int (0 : Int32)) := F2.other W2 (Or.inr (slot_ne (Or.inr (hw _ (List.mem_of_getElem? (i := 12) rfl))) (Or.inr (hw _ (List.mem_of_getElem? (i := 10) rfl))) (by decide) (t := .boolean) (t' := .boolean) (by decide) (by decide)))
  have f5 : Fld Z h2 a0 "com/example/bare_octets/bareoctets/codec/WellFormedSequences" "surrogatesPair" "Z" (.int (0 : Int32)) := F3.other W2 (Or.inr (slot_ne (Or.inr (hw _ (List.mem_of_getElem? (i := 14) rfl))) (Or.inr (hw _ (List.mem_of_getElem? (i := 10) rfl))) (by decide) (t := .boolean) (t' := .boolean) (by decide) (by decide)))
  have f6 : Fld Z h2 a0 "com/example/bare_octets/bareoctets/codec/WellFormedSequences" "surrogateForms" "Z" (.int (nar .boolean p1)) := F1.same W2
  have Kp2 : Keep h0 h2 [a0] := Kp0.wr W2 (Or.inl (List.mem_of_getElem? (i := 0) rfl))
  have Z7 : n0 ≤ h2.size := Nat.le_trans Z0 (Nat.le_of_eq W2.size.symm)
  have N8 := Fr.snoc X2 N0 Ge0
  refine Goes.by st2 ?_
  show Goes p.tables e below _ (T2.setTop (mkF m 9 #[.val (.ref a0), .val (.int p1), .val (.int p2), .val (.int p3)] []))
  refine Goes.by (B := T2.setTop (mkF m 11 #[.val (.ref a0), .val (.int p1), .val (.int p2), .val (.int p3)] [(.int p2), (.ref a0)])) (fun t k => ?_) ?_
  · show Steps p.tables e below (T2.setTop (mkF m 9 #[.val (.ref a0), .val (.int p1), .val (.int p2), .val (.int p3)] [])) t
    refine XS.aloadN X2.here hx rfl (hb hby d1_9) rfl rfl ?_
    show Steps p.tables e below (T2.setTop (mkF m 10 #[.val (.ref a0), .val (.int p1), .val (.int p2), .val (.int p3)] [(.ref a0)])) t
    refine XS.iloadN X2.here hx rfl (hb hby d1_10) rfl ?_
    exact k
  obtain ⟨T9, h9, X9, e9, W9, st9⟩ := putFN X2 hx hZ hown (hw _ (List.mem_of_getElem? (i := 11) rfl)) Via.refl e2 f4 f3 (Or.inr ⟨(hw _ (List.mem_of_getElem? (i := 12) rfl)), rfl, hnm⟩) (hw _ (List.mem_of_getElem? (i := 1) rfl)) (ty := .boolean) (v' := (.int (nar .boolean p2))) (by decide) rfl (fits_nar_bool _) (g := (mkF m 11 #[.val (.ref a0), .val (.int p1), .val (.int p2), .val (.int p3)] [(.int p2), (.ref a0)])) rfl rfl (hb hby d1_11)
  have f10 : Exa Z h9 a0 "com/example/bare_octets/bareoctets/codec/WellFormedSequences" := f3.wr W9
  have f11 : Fld Z h9 a0 "com/example/bare_octets/bareoctets/codec/WellFormedSequences" "surrogatesPair" "Z" (.int (0 : Int32)) := f5.other W9 (Or.inr (slot_ne (Or.inr (hw _ (List.mem_of_getElem? (i := 14) rfl))) (Or.inr (hw _ (List.mem_of_getElem? (i := 12) rfl))) (by decide) (t := .boolean) (t' := .boolean) (by decide) (by decide)))
  have f12 : Fld Z h9 a0 "com/example/bare_octets/bareoctets/codec/WellFormedSequences" "surrogateForms" "Z" (.int (nar .boolean p1)) := f6.other W9 (Or.inr (slot_ne (Or.inr (hw _ (List.mem_of_getElem? (i := 10) rfl))) (Or.inr (hw _ (List.mem_of_getElem? (i := 12) rfl))) (by decide) (t := .boolean) (t' := .boolean) (by decide) (by decide)))
  have f13 : Fld Z h9 a0 "com/example/bare_octets/bareoctets/codec/WellFormedSequences" "nulInTwoBytes" "Z" (.int (nar .boolean p2)) := f4.same W9
  have Kp9 : Keep h0 h9 [a0] := Kp2.wr W9 (Or.inl (List.mem_of_getElem? (i := 0) rfl))
  have Z14 : n0 ≤ h9.size := Nat.le_trans Z7 (Nat.le_of_eq W9.size.symm)
  have N15 := Fr.snoc X9 N8 Ge0
  refine Goes.by st9 ?_
  show Goes p.tables e below _ (T9.setTop (mkF m 14 #[.val (.ref a0), .val (.int p1), .val (.int p2), .val (.int p3)] []))
  refine Goes.by (B := T9.setTop (mkF m 16 #[.val (.ref a0), .val (.int p1), .val (.int p2), .val (.int p3)] [(.int p1), (.ref a0)])) (fun t k => ?_) ?_
  · show Steps p.tables e below (T9.setTop (mkF m 14 #[.val (.ref a0), .val (.int p1), .val (.int p2), .val (.int p3)] [])) t
    refine XS.aloadN X9.here hx rfl (hb hby d1_14) rfl rfl ?_
    show Steps p.tables e below (T9.setTop (mkF m 15 #[.val (.ref a0), .val (.int p1), .val (.int p2), .val (.int p3)] [(.ref a0)])) t
    refine XS.iloadN X9.here hx rfl (hb hby d1_15) rfl ?_
    exact k
  refine Goes.by (B := T9.setTop (mkF m 28 #[.val (.ref a0), .val (.int p1), .val (.int p2), .val (.int p3)] [(.int (if p1 = (0 : Int32) then (0 : Int32) else (if p3 = (0 : Int32) then (0 : Int32) else (1 : Int32)))), (.ref a0)])) (fun t k => ?_) ?_
  · by_cases hm16 : p1 = (0 : Int32)
    · simp only [if_pos hm16] at k
      show Steps p.tables e below (T9.setTop (mkF m 16 #[.val (.ref a0), .val (.int p1), .val (.int p2), .val (.int p3)] [(.int p1), (.ref a0)])) t
      refine XS.ifYes X9.here hx rfl (pc0 := 16) (pc' := 27) rfl (hb hby d1_16) rfl ((if0 _ _).trans (teq hm16).1) (by decide) (by decide) ?_
      show Steps p.tables e below (T9.setTop (mkF m 27 #[.val (.ref a0), .val (.int p1), .val (.int p2), .val (.int p3)] [(.ref a0)])) t
      refine XS.iconst X9.here hx rfl (hb hby d1_27) ?_
      exact k
    · by_cases hm17 : p3 = (0 : Int32)
      · simp only [if_neg hm16, if_pos hm17] at k
        show Steps p.tables e below (T9.setTop (mkF m 16 #[.val (.ref a0), .val (.int p1), .val (.int p2), .val (.int p3)] [(.int p1), (.ref a0)])) t
        refine XS.ifNo X9.here hx rfl (hb hby d1_16) rfl ((if0 _ _).trans (feq hm16).1) ?_
        show Steps p.tables e below (T9.setTop (mkF m 19 #[.val (.ref a0), .val (.int p1), .val (.int p2), .val (.int p3)] [(.ref a0)])) t
        refine XS.iloadN X9.here hx rfl (hb hby d1_19) rfl ?_
        show Steps p.tables e below (T9.setTop (mkF m 20 #[.val (.ref a0), .val (.int p1), .val (.int p2), .val (.int p3)] [(.int p3), (.ref a0)])) t
        refine XS.ifYes X9.here hx rfl (pc0 := 20) (pc' := 27) rfl (hb hby d1_20) rfl ((if0 _ _).trans (teq hm17).1) (by decide) (by decide) ?_
        show Steps p.tables e below (T9.setTop (mkF m 27 #[.val (.ref a0), .val (.int p1), .val (.int p2), .val (.int p3)] [(.ref a0)])) t
        refine XS.iconst X9.here hx rfl (hb hby d1_27) ?_
        exact k
      · simp only [if_neg hm16, if_neg hm17] at k
        show Steps p.tables e below (T9.setTop (mkF m 16 #[.val (.ref a0), .val (.int p1), .val (.int p2), .val (.int p3)] [(.int p1), (.ref a0)])) t
        refine XS.ifNo X9.here hx rfl (hb hby d1_16) rfl ((if0 _ _).trans (feq hm16).1) ?_
        show Steps p.tables e below (T9.setTop (mkF m 19 #[.val (.ref a0), .val (.int p1), .val (.int p2), .val (.int p3)] [(.ref a0)])) t
        refine XS.iloadN X9.here hx rfl (hb hby d1_19) rfl ?_
        show Steps p.tables e below (T9.setTop (mkF m 20 #[.val (.ref a0), .val (.int p1), .val (.int p2), .val (.int p3)] [(.int p3), (.ref a0)])) t
        refine XS.ifNo X9.here hx rfl (hb hby d1_20) rfl ((if0 _ _).trans (feq hm17).1) ?_
        show Steps p.tables e below (T9.setTop (mkF m 23 #[.val (.ref a0), .val (.int p1), .val (.int p2), .val (.int p3)] [(.ref a0)])) t
        refine XS.iconst X9.here hx rfl (hb hby d1_23) ?_
        show Steps p.tables e below (T9.setTop (mkF m 24 #[.val (.ref a0), .val (.int p1), .val (.int p2), .val (.int p3)] [(.int (1 : Int32)), (.ref a0)])) t
        refine XS.goto X9.here hx rfl (pc0 := 24) (pc' := 28) rfl (hb hby d1_24) (by decide) (by decide) ?_
        exact k
  obtain ⟨T18, h18, X18, e18, W18, st18⟩ := putFN X9 hx hZ hown (hw _ (List.mem_of_getElem? (i := 13) rfl)) Via.refl e9 f11 f10 (Or.inr ⟨(hw _ (List.mem_of_getElem? (i := 14) rfl)), rfl, hnm⟩) (hw _ (List.mem_of_getElem? (i := 1) rfl)) (ty := .boolean) (v' := (.int (nar .boolean (if p1 = (0 : Int32) then (0 : Int32) else (if p3 = (0 : Int32) then (0 : Int32) else (1 : Int32)))))) (by decide) rfl (fits_nar_bool _) (g := (mkF m 28 #[.val (.ref a0), .val (.int p1), .val (.int p2), .val (.int p3)] [(.int (if p1 = (0 : Int32) then (0 : Int32) else (if p3 = (0 : Int32) then (0 : Int32) else (1 : Int32)))), (.ref a0)])) rfl rfl (hb hby d1_28)
  have f19 : Exa Z h18 a0 "com/example/bare_octets/bareoctets/codec/WellFormedSequences" := f10.wr W18
  have f20 : Fld Z h18 a0 "com/example/bare_octets/bareoctets/codec/WellFormedSequences" "surrogateForms" "Z" (.int (nar .boolean p1)) := f12.other W18 (Or.inr (slot_ne (Or.inr (hw _ (List.mem_of_getElem? (i := 10) rfl))) (Or.inr (hw _ (List.mem_of_getElem? (i := 14) rfl))) (by decide) (t := .boolean) (t' := .boolean) (by decide) (by decide)))
  have f21 : Fld Z h18 a0 "com/example/bare_octets/bareoctets/codec/WellFormedSequences" "nulInTwoBytes" "Z" (.int (nar .boolean p2)) := f13.other W18 (Or.inr (slot_ne (Or.inr (hw _ (List.mem_of_getElem? (i := 12) rfl))) (Or.inr (hw _ (List.mem_of_getElem? (i := 14) rfl))) (by decide) (t := .boolean) (t' := .boolean) (by decide) (by decide)))
  have f22 : Fld Z h18 a0 "com/example/bare_octets/bareoctets/codec/WellFormedSequences" "surrogatesPair" "Z" (.int (nar .boolean (if p1 = (0 : Int32) then (0 : Int32) else (if p3 = (0 : Int32) then (0 : Int32) else (1 : Int32))))) := f11.same W18
  have Kp18 : Keep h0 h18 [a0] := Kp9.wr W18 (Or.inl (List.mem_of_getElem? (i := 0) rfl))
  have Z23 : n0 ≤ h18.size := Nat.le_trans Z14 (Nat.le_of_eq W18.size.symm)
  have N24 := Fr.snoc X18 N15 Ge0
  refine Goes.by st18 ?_
  show Goes p.tables e below _ (T18.setTop (mkF m 31 #[.val (.ref a0), .val (.int p1), .val (.int p2), .val (.int p3)] []))
  obtain ⟨fs, hr, hrun, hended, hW, hsame⟩ := X18.leave (v := none) (fun _ => rfl)
  refine Goes.mk _ _ ?_ ⟨hrun, hended, _, _, rfl, ?_, ⟨_, rfl⟩, hW, hsame.mono (by decide) (by decide)⟩
  · exact X18.returnOut hx Bd.returns (hb hby d1_31) hr
  · show Q1 Z a0 p1 p2 p3 h0 n0 _ T18.heap _
    rw [e18]
    exact ⟨rfl, N24, Kp18, f19, f20, f21, f22⟩
theorem d3_0 : decode prog_20_method_2_code 0 = .ok (.iload_n 1, 1) := by decide +kernel
theorem d3_1 : decode prog_20_method_2_code 1 = .ok (.sipush 255, 3) := by decide +kernel
theorem d3_4 : decode prog_20_method_2_code 4 = .ok (.iand, 1) := by decide +kernel
theorem d3_5 : decode prog_20_method_2_code 5 = .ok (.istore_n 2, 1) := by decide +kernel
theorem d3_6 : decode prog_20_method_2_code 6 = .ok (.iload_n 2, 1) := by decide +kernel
theorem d3_7 : decode prog_20_method_2_code 7 = .ok (.bipush 127, 2) := by decide +kernel
theorem d3_9 : decode prog_20_method_2_code 9 = .ok (.if_icmp .gt 20, 3) := by decide +kernel
theorem d3_29 : decode prog_20_method_2_code 29 = .ok (.iload_n 2, 1) := by decide +kernel
theorem d3_30 : decode prog_20_method_2_code 30 = .ok (.sipush 194, 3) := by decide +kernel
theorem d3_33 : decode prog_20_method_2_code 33 = .ok (.if_icmp .ge 23, 3) := by decide +kernel
theorem d3_36 : decode prog_20_method_2_code 36 = .ok (.iload_n 2, 1) := by decide +kernel
theorem d3_37 : decode prog_20_method_2_code 37 = .ok (.sipush 192, 3) := by decide +kernel
theorem d3_40 : decode prog_20_method_2_code 40 = .ok (.if_icmp .ne 14, 3) := by decide +kernel
theorem d3_43 : decode prog_20_method_2_code 43 = .ok (.aload_n 0, 1) := by decide +kernel
theorem d3_44 : decode prog_20_method_2_code 44 = .ok (.getfield 13, 3) := by decide +kernel
theorem d3_47 : decode prog_20_method_2_code 47 = .ok (.ifCond .eq 7, 3) := by decide +kernel
theorem d3_54 : decode prog_20_method_2_code 54 = .ok (.iconst 0, 1) := by decide +kernel
theorem d3_55 : decode prog_20_method_2_code 55 = .ok (.ireturn, 1) := by decide +kernel
theorem d3_50 : decode prog_20_method_2_code 50 = .ok (.iconst 2, 1) := by decide +kernel
theorem d3_51 : decode prog_20_method_2_code 51 = .ok (.goto 4, 3) := by decide +kernel
theorem d3_56 : decode prog_20_method_2_code 56 = .ok (.iload_n 2, 1) := by decide +kernel
theorem d3_57 : decode prog_20_method_2_code 57 = .ok (.sipush 223, 3) := by decide +kernel
theorem d3_60 : decode prog_20_method_2_code 60 = .ok (.if_icmp .gt 5, 3) := by decide +kernel
theorem d3_65 : decode prog_20_method_2_code 65 = .ok (.iload_n 2, 1) := by decide +kernel
theorem d3_66 : decode prog_20_method_2_code 66 = .ok (.sipush 239, 3) := by decide +kernel
theorem d3_69 : decode prog_20_method_2_code 69 = .ok (.if_icmp .gt 5, 3) := by decide +kernel
theorem d3_74 : decode prog_20_method_2_code 74 = .ok (.iload_n 2, 1) := by decide +kernel
theorem d3_75 : decode prog_20_method_2_code 75 = .ok (.sipush 244, 3) := by decide +kernel
theorem d3_78 : decode prog_20_method_2_code 78 = .ok (.if_icmp .gt 12, 3) := by decide +kernel
theorem d3_90 : decode prog_20_method_2_code 90 = .ok (.iconst 0, 1) := by decide +kernel
theorem d3_91 : decode prog_20_method_2_code 91 = .ok (.ireturn, 1) := by decide +kernel
theorem d3_81 : decode prog_20_method_2_code 81 = .ok (.aload_n 0, 1) := by decide +kernel
theorem d3_82 : decode prog_20_method_2_code 82 = .ok (.getfield 7, 3) := by decide +kernel
theorem d3_85 : decode prog_20_method_2_code 85 = .ok (.ifCond .ne 5, 3) := by decide +kernel
theorem d3_88 : decode prog_20_method_2_code 88 = .ok (.iconst 4, 1) := by decide +kernel
theorem d3_89 : decode prog_20_method_2_code 89 = .ok (.ireturn, 1) := by decide +kernel
theorem d3_72 : decode prog_20_method_2_code 72 = .ok (.iconst 3, 1) := by decide +kernel
theorem d3_73 : decode prog_20_method_2_code 73 = .ok (.ireturn, 1) := by decide +kernel
theorem d3_63 : decode prog_20_method_2_code 63 = .ok (.iconst 2, 1) := by decide +kernel
theorem d3_64 : decode prog_20_method_2_code 64 = .ok (.ireturn, 1) := by decide +kernel
theorem d3_12 : decode prog_20_method_2_code 12 = .ok (.iload_n 2, 1) := by decide +kernel
theorem d3_13 : decode prog_20_method_2_code 13 = .ok (.ifCond .ne 14, 3) := by decide +kernel
theorem d3_16 : decode prog_20_method_2_code 16 = .ok (.aload_n 0, 1) := by decide +kernel
theorem d3_17 : decode prog_20_method_2_code 17 = .ok (.getfield 13, 3) := by decide +kernel
theorem d3_20 : decode prog_20_method_2_code 20 = .ok (.ifCond .eq 7, 3) := by decide +kernel
theorem d3_27 : decode prog_20_method_2_code 27 = .ok (.iconst 1, 1) := by decide +kernel
theorem d3_28 : decode prog_20_method_2_code 28 = .ok (.ireturn, 1) := by decide +kernel
theorem d3_23 : decode prog_20_method_2_code 23 = .ok (.iconst 0, 1) := by decide +kernel
theorem d3_24 : decode prog_20_method_2_code 24 = .ok (.goto 4, 3) := by decide +kernel
def f3 (p1 : Int32) (w1 : Int32) (w2 : Int32) : Int32 := (if (127 : Int32) < (p1 &&& (255 : Int32)) then (if (p1 &&& (255 : Int32)) < (194 : Int32) then (if (p1 &&& (255 : Int32)) = (192 : Int32) then (if w2 = (0 : Int32) then (0 : Int32) else (2 : Int32)) else (0 : Int32)) else (if (223 : Int32) < (p1 &&& (255 : Int32)) then (if (239 : Int32) < (p1 &&& (255 : Int32)) then (if (244 : Int32) < (p1 &&& (255 : Int32)) then (0 : Int32) else (if w1 = (0 : Int32) then (4 : Int32) else (0 : Int32))) else (3 : Int32)) else (2 : Int32))) else (if (p1 &&& (255 : Int32)) = (0 : Int32) then (if w2 = (0 : Int32) then (1 : Int32) else (0 : Int32)) else (1 : Int32)))
def Q3 (Z : State) (a0 : Addr) (p1 : Int32) (w1 : Int32) (w2 : Int32) (h0 : Heap) (n0 : Nat) (v : Option Value) (h : Heap) (L : List Loc) : Prop := v = some (.int (f3 p1 w1 w2)) ∧ Fr n0 L ∧ h = h0
theorem ef3 (m : MethodId) (x0 : Addr) (x1 : Int32) : entryFrame m #[(.ref x0), (.int x1)] 3 = mkF m 0 #[.val (.ref x0), .val (.int x1), .unset] [] := by first | (simp [entryFrame, mkF, argsToLocals, Value.category]; done) | rfl
set_option maxRecDepth 65536 in
set_option maxHeartbeats 40000000 in
theorem rm3 (l : Launch) (Z : State) (a0 : Array Value) (hw : ∀ d ∈ tables_1, d.before a0 Z = true) (ws : List Jvm.Cond) (a0 : Addr) (p1 : Int32) (w1 : Int32) (w2 : Int32) (h0 : Heap) (n0 : Nat) (Z0 : n0 ≤ h0.size) (F0 : Fld Z h0 a0 "com/example/bare_octets/bareoctets/codec/WellFormedSequences" "surrogateForms" "Z" (.int w1)) (F1 : Fld Z h0 a0 "com/example/bare_octets/bareoctets/codec/WellFormedSequences" "nulInTwoBytes" "Z" (.int w2)) :
    MetFree l (⟨"com/example/bare_octets/bareoctets/codec/WellFormedSequences", "length", "(B)I"⟩ : MethodName) (head1 (Jvm.Cond.code (⟨"com/example/bare_octets/bareoctets/codec/WellFormedSequences", "length", "(B)I"⟩ : MethodName) prog_20_method_2_code 3 (some .int) :: ws) ({ frames := 0, cells := 0, slots := 0, locals := 0 } : Room)) (fun a U => a = #[(.ref a0), (.int p1)] ∧ Z.Warmed39 U.vm ∧ U.heap = h0) (fun _ _ _ _ _ => True) (fun _ U o U' => ∃ v L, o = .returned v ∧ Q3 Z a0 p1 w1 w2 h0 n0 v U'.heap L ∧ FrameEnd U o U' L ({ frames := 0, cells := 0, slots := 0, locals := 0 } : Room).cells ({ frames := 0, cells := 0, slots := 0, locals := 0 } : Room).slots) := by
  refine MetFree.of_bodySF (plainFor_of_name own_pn_com_example_bare_octets_bareoctets_codec_WellFormedSequences) hisR ?_
  intro p e s m args below meth c s₁ Bd hml0 hP hK
  obtain ⟨rfl, hZ, hh⟩ := hP
  have hx := Bd.exec
  have hby := Bd.bytes
  have hml : c.maxLocals = 3 := hml0
  have hown : s.vm.findClass "com/example/bare_octets/bareoctets/codec/WellFormedSequences" = some m.cls := findClass_of_methodNamed Bd.named
  have hnm := (name_of_methodNamed Bd.named Bd.method).1
  have X0 : Stand p l e ({ frames := 0, cells := 0, slots := 0, locals := 0 } : Room) s m #[(.ref a0), (.int p1)] below meth c s₁ [] 0 0 := Stand.of_body Bd
  have e0 : s₁.heap = h0 := by rw [← hh, Bd.state]; rfl
  have N0 := Fr.nil n0
  have Kp0 : Keep h0 h0 [] := Keep.refl _ _
  refine Goes.start ?_
  refine Goes.by (B := s₁.setTop (mkF m 0 #[.val (.ref a0), .val (.int p1), .unset] [])) (fun t k => castTop (ef3 m a0 p1) k) ?_
  refine Goes.by (B := s₁.setTop (mkF m 9 #[.val (.ref a0), .val (.int p1), .val (.int (p1 &&& (255 : Int32)))] [(.int (127 : Int32)), (.int (p1 &&& (255 : Int32)))])) (fun t k => ?_) ?_
  · show Steps p.tables e below (s₁.setTop (mkF m 0 #[.val (.ref a0), .val (.int p1), .unset] [])) t
    refine XS.iloadN X0.here hx rfl (hb hby d3_0) rfl ?_
    show Steps p.tables e below (s₁.setTop (mkF m 1 #[.val (.ref a0), .val (.int p1), .unset] [(.int p1)])) t
    refine XS.sipush X0.here hx rfl (hb hby d3_1) ?_
    show Steps p.tables e below (s₁.setTop (mkF m 4 #[.val (.ref a0), .val (.int p1), .unset] [(.int (255 : Int32)), (.int p1)])) t
    refine XS.iand X0.here hx rfl (hb hby d3_4) rfl ?_
    show Steps p.tables e below (s₁.setTop (mkF m 5 #[.val (.ref a0), .val (.int p1), .unset] [(.int (p1 &&& (255 : Int32)))])) t
    refine XS.istoreN X0.here hx rfl (hb hby d3_5) rfl (l' := #[.val (.ref a0), .val (.int p1), .val (.int (p1 &&& (255 : Int32)))]) rfl ?_
    show Steps p.tables e below (s₁.setTop (mkF m 6 #[.val (.ref a0), .val (.int p1), .val (.int (p1 &&& (255 : Int32)))] [])) t
    refine XS.iloadN X0.here hx rfl (hb hby d3_6) rfl ?_
    show Steps p.tables e below (s₁.setTop (mkF m 7 #[.val (.ref a0), .val (.int p1), .val (.int (p1 &&& (255 : Int32)))] [(.int (p1 &&& (255 : Int32)))])) t
    refine XS.bipush X0.here hx rfl (hb hby d3_7) ?_
    exact k
  by_cases hc1 : (127 : Int32) < (p1 &&& (255 : Int32))
  · refine Goes.by (B := s₁.setTop (mkF m 33 #[.val (.ref a0), .val (.int p1), .val (.int (p1 &&& (255 : Int32)))] [(.int (194 : Int32)), (.int (p1 &&& (255 : Int32)))])) (fun t k => ?_) ?_
    · show Steps p.tables e below (s₁.setTop (mkF m 9 #[.val (.ref a0), .val (.int p1), .val (.int (p1 &&& (255 : Int32)))] [(.int (127 : Int32)), (.int (p1 &&& (255 : Int32)))])) t
      refine XS.icmpYes X0.here hx rfl (pc0 := 9) (pc' := 29) rfl (hb hby d3_9) rfl (tlt hc1).2.2.1 (by decide) (by decide) ?_
      show Steps p.tables e below (s₁.setTop (mkF m 29 #[.val (.ref a0), .val (.int p1), .val (.int (p1 &&& (255 : Int32)))] [])) t
      refine XS.iloadN X0.here hx rfl (hb hby d3_29) rfl ?_
      show Steps p.tables e below (s₁.setTop (mkF m 30 #[.val (.ref a0), .val (.int p1), .val (.int (p1 &&& (255 : Int32)))] [(.int (p1 &&& (255 : Int32)))])) t
      refine XS.sipush X0.here hx rfl (hb hby d3_30) ?_
      exact k
    by_cases hc2 : (p1 &&& (255 : Int32)) < (194 : Int32)
    · refine Goes.by (B := s₁.setTop (mkF m 40 #[.val (.ref a0), .val (.int p1), .val (.int (p1 &&& (255 : Int32)))] [(.int (192 : Int32)), (.int (p1 &&& (255 : Int32)))])) (fun t k => ?_) ?_
      · show Steps p.tables e below (s₁.setTop (mkF m 33 #[.val (.ref a0), .val (.int p1), .val (.int (p1 &&& (255 : Int32)))] [(.int (194 : Int32)), (.int (p1 &&& (255 : Int32)))])) t
        refine XS.icmpNo X0.here hx rfl (hb hby d3_33) rfl (tlt hc2).2.1 ?_
        show Steps p.tables e below (s₁.setTop (mkF m 36 #[.val (.ref a0), .val (.int p1), .val (.int (p1 &&& (255 : Int32)))] [])) t
        refine XS.iloadN X0.here hx rfl (hb hby d3_36) rfl ?_
        show Steps p.tables e below (s₁.setTop (mkF m 37 #[.val (.ref a0), .val (.int p1), .val (.int (p1 &&& (255 : Int32)))] [(.int (p1 &&& (255 : Int32)))])) t
        refine XS.sipush X0.here hx rfl (hb hby d3_37) ?_
        exact k
      by_cases hc3 : (p1 &&& (255 : Int32)) = (192 : Int32)
      · refine Goes.by (B := s₁.setTop (mkF m 44 #[.val (.ref a0), .val (.int p1), .val (.int (p1 &&& (255 : Int32)))] [(.ref a0)])) (fun t k => ?_) ?_
        · show Steps p.tables e below (s₁.setTop (mkF m 40 #[.val (.ref a0), .val (.int p1), .val (.int (p1 &&& (255 : Int32)))] [(.int (192 : Int32)), (.int (p1 &&& (255 : Int32)))])) t
          refine XS.icmpNo X0.here hx rfl (hb hby d3_40) rfl (teq hc3).2 ?_
          show Steps p.tables e below (s₁.setTop (mkF m 43 #[.val (.ref a0), .val (.int p1), .val (.int (p1 &&& (255 : Int32)))] [])) t
          refine XS.aloadN X0.here hx rfl (hb hby d3_43) rfl rfl ?_
          exact k
        obtain ⟨T4, X4, e4, st4⟩ := getF X0 hx hZ hown (host := "") (Or.inl (hw _ (List.mem_of_getElem? (i := 11) rfl))) Via.refl e0 F1 (g := (mkF m 44 #[.val (.ref a0), .val (.int p1), .val (.int (p1 &&& (255 : Int32)))] [(.ref a0)])) rfl rfl (hb hby d3_44)
        refine Goes.by st4 ?_
        show Goes p.tables e below _ (T4.setTop (mkF m 47 #[.val (.ref a0), .val (.int p1), .val (.int (p1 &&& (255 : Int32)))] [(.int w2)]))
        by_cases hc5 : w2 = (0 : Int32)
        · refine Goes.by (B := T4.setTop (mkF m 55 #[.val (.ref a0), .val (.int p1), .val (.int (p1 &&& (255 : Int32)))] [(.int (0 : Int32))])) (fun t k => ?_) ?_
          · show Steps p.tables e below (T4.setTop (mkF m 47 #[.val (.ref a0), .val (.int p1), .val (.int (p1 &&& (255 : Int32)))] [(.int w2)])) t
            refine XS.ifYes X4.here hx rfl (pc0 := 47) (pc' := 54) rfl (hb hby d3_47) rfl ((if0 _ _).trans (teq hc5).1) (by decide) (by decide) ?_
            show Steps p.tables e below (T4.setTop (mkF m 54 #[.val (.ref a0), .val (.int p1), .val (.int (p1 &&& (255 : Int32)))] [])) t
            refine XS.iconst X4.here hx rfl (hb hby d3_54) ?_
            exact k
          obtain ⟨fs, hr, hrun, hended, hW, hsame⟩ := X4.leave (v := some (.int (0 : Int32))) (fun h => by rw [Bd.returns] at h; cases h)
          refine Goes.mk _ _ ?_ ⟨hrun, hended, _, _, rfl, ?_, ⟨_, rfl⟩, hW, hsame.mono (by decide) (by decide)⟩
          · exact retI X4 hx Bd.returns (hb hby d3_55) hr
          · show Q3 Z a0 p1 w1 w2 h0 n0 _ T4.heap _
            rw [e4]
            exact ⟨(by simp only [f3, if_pos hc1, if_pos hc2, if_pos hc3, if_pos hc5]), N0, rfl⟩
        · refine Goes.by (B := T4.setTop (mkF m 55 #[.val (.ref a0), .val (.int p1), .val (.int (p1 &&& (255 : Int32)))] [(.int (2 : Int32))])) (fun t k => ?_) ?_
          · show Steps p.tables e below (T4.setTop (mkF m 47 #[.val (.ref a0), .val (.int p1), .val (.int (p1 &&& (255 : Int32)))] [(.int w2)])) t
            refine XS.ifNo X4.here hx rfl (hb hby d3_47) rfl ((if0 _ _).trans (feq hc5).1) ?_
            show Steps p.tables e below (T4.setTop (mkF m 50 #[.val (.ref a0), .val (.int p1), .val (.int (p1 &&& (255 : Int32)))] [])) t
            refine XS.iconst X4.here hx rfl (hb hby d3_50) ?_
            show Steps p.tables e below (T4.setTop (mkF m 51 #[.val (.ref a0), .val (.int p1), .val (.int (p1 &&& (255 : Int32)))] [(.int (2 : Int32))])) t
            refine XS.goto X4.here hx rfl (pc0 := 51) (pc' := 55) rfl (hb hby d3_51) (by decide) (by decide) ?_
            exact k
          obtain ⟨fs, hr, hrun, hended, hW, hsame⟩ := X4.leave (v := some (.int (2 : Int32))) (fun h => by rw [Bd.returns] at h; cases h)
          refine Goes.mk _ _ ?_ ⟨hrun, hended, _, _, rfl, ?_, ⟨_, rfl⟩, hW, hsame.mono (by decide) (by decide)⟩
          · exact retI X4 hx Bd.returns (hb hby d3_55) hr
          · show Q3 Z a0 p1 w1 w2 h0 n0 _ T4.heap _
            rw [e4]
            exact ⟨(by simp only [f3, if_pos hc1, if_pos hc2, if_pos hc3, if_neg hc5]), N0, rfl⟩
      · refine Goes.by (B := s₁.setTop (mkF m 55 #[.val (.ref a0), .val (.int p1), .val (.int (p1 &&& (255 : Int32)))] [(.int (0 : Int32))])) (fun t k => ?_) ?_
        · show Steps p.tables e below (s₁.setTop (mkF m 40 #[.val (.ref a0), .val (.int p1), .val (.int (p1 &&& (255 : Int32)))] [(.int (192 : Int32)), (.int (p1 &&& (255 : Int32)))])) t
          refine XS.icmpYes X0.here hx rfl (pc0 := 40) (pc' := 54) rfl (hb hby d3_40) rfl (feq hc3).2 (by decide) (by decide) ?_
          show Steps p.tables e below (s₁.setTop (mkF m 54 #[.val (.ref a0), .val (.int p1), .val (.int (p1 &&& (255 : Int32)))] [])) t
          refine XS.iconst X0.here hx rfl (hb hby d3_54) ?_
          exact k
        obtain ⟨fs, hr, hrun, hended, hW, hsame⟩ := X0.leave (v := some (.int (0 : Int32))) (fun h => by rw [Bd.returns] at h; cases h)
        refine Goes.mk _ _ ?_ ⟨hrun, hended, _, _, rfl, ?_, ⟨_, rfl⟩, hW, hsame.mono (by decide) (by decide)⟩
        · exact retI X0 hx Bd.returns (hb hby d3_55) hr
        · show Q3 Z a0 p1 w1 w2 h0 n0 _ s₁.heap _
          rw [e0]
          exact ⟨(by simp only [f3, if_pos hc1, if_pos hc2, if_neg hc3]), N0, rfl⟩
    · refine Goes.by (B := s₁.setTop (mkF m 60 #[.val (.ref a0), .val (.int p1), .val (.int (p1 &&& (255 : Int32)))] [(.int (223 : Int32)), (.int (p1 &&& (255 : Int32)))])) (fun t k => ?_) ?_
      · show Steps p.tables e below (s₁.setTop (mkF m 33 #[.val (.ref a0), .val (.int p1), .val (.int (p1 &&& (255 : Int32)))] [(.int (194 : Int32)), (.int (p1 &&& (255 : Int32)))])) t
        refine XS.icmpYes X0.here hx rfl (pc0 := 33) (pc' := 56) rfl (hb hby d3_33) rfl (flt hc2).2.1 (by decide) (by decide) ?_
        show Steps p.tables e below (s₁.setTop (mkF m 56 #[.val (.ref a0), .val (.int p1), .val (.int (p1 &&& (255 : Int32)))] [])) t
        refine XS.iloadN X0.here hx rfl (hb hby d3_56) rfl ?_
        show Steps p.tables e below (s₁.setTop (mkF m 57 #[.val (.ref a0), .val (.int p1), .val (.int (p1 &&& (255 : Int32)))] [(.int (p1 &&& (255 : Int32)))])) t
        refine XS.sipush X0.here hx rfl (hb hby d3_57) ?_
        exact k
      by_cases hc6 : (223 : Int32) < (p1 &&& (255 : Int32))
      · refine Goes.by (B := s₁.setTop (mkF m 69 #[.val (.ref a0), .val (.int p1), .val (.int (p1 &&& (255 : Int32)))] [(.int (239 : Int32)), (.int (p1 &&& (255 : Int32)))])) (fun t k => ?_) ?_
        · show Steps p.tables e below (s₁.setTop (mkF m 60 #[.val (.ref a0), .val (.int p1), .val (.int (p1 &&& (255 : Int32)))] [(.int (223 : Int32)), (.int (p1 &&& (255 : Int32)))])) t
          refine XS.icmpYes X0.here hx rfl (pc0 := 60) (pc' := 65) rfl (hb hby d3_60) rfl (tlt hc6).2.2.1 (by decide) (by decide) ?_
          show Steps p.tables e below (s₁.setTop (mkF m 65 #[.val (.ref a0), .val (.int p1), .val (.int (p1 &&& (255 : Int32)))] [])) t
          refine XS.iloadN X0.here hx rfl (hb hby d3_65) rfl ?_
          show Steps p.tables e below (s₁.setTop (mkF m 66 #[.val (.ref a0), .val (.int p1), .val (.int (p1 &&& (255 : Int32)))] [(.int (p1 &&& (255 : Int32)))])) t
          refine XS.sipush X0.here hx rfl (hb hby d3_66) ?_
          exact k
        by_cases hc7 : (239 : Int32) < (p1 &&& (255 : Int32))
        · refine Goes.by (B := s₁.setTop (mkF m 78 #[.val (.ref a0), .val (.int p1), .val (.int (p1 &&& (255 : Int32)))] [(.int (244 : Int32)), (.int (p1 &&& (255 : Int32)))])) (fun t k => ?_) ?_
          · show Steps p.tables e below (s₁.setTop (mkF m 69 #[.val (.ref a0), .val (.int p1), .val (.int (p1 &&& (255 : Int32)))] [(.int (239 : Int32)), (.int (p1 &&& (255 : Int32)))])) t
            refine XS.icmpYes X0.here hx rfl (pc0 := 69) (pc' := 74) rfl (hb hby d3_69) rfl (tlt hc7).2.2.1 (by decide) (by decide) ?_
            show Steps p.tables e below (s₁.setTop (mkF m 74 #[.val (.ref a0), .val (.int p1), .val (.int (p1 &&& (255 : Int32)))] [])) t
            refine XS.iloadN X0.here hx rfl (hb hby d3_74) rfl ?_
            show Steps p.tables e below (s₁.setTop (mkF m 75 #[.val (.ref a0), .val (.int p1), .val (.int (p1 &&& (255 : Int32)))] [(.int (p1 &&& (255 : Int32)))])) t
            refine XS.sipush X0.here hx rfl (hb hby d3_75) ?_
            exact k
          by_cases hc8 : (244 : Int32) < (p1 &&& (255 : Int32))
          · refine Goes.by (B := s₁.setTop (mkF m 91 #[.val (.ref a0), .val (.int p1), .val (.int (p1 &&& (255 : Int32)))] [(.int (0 : Int32))])) (fun t k => ?_) ?_
            · show Steps p.tables e below (s₁.setTop (mkF m 78 #[.val (.ref a0), .val (.int p1), .val (.int (p1 &&& (255 : Int32)))] [(.int (244 : Int32)), (.int (p1 &&& (255 : Int32)))])) t
              refine XS.icmpYes X0.here hx rfl (pc0 := 78) (pc' := 90) rfl (hb hby d3_78) rfl (tlt hc8).2.2.1 (by decide) (by decide) ?_
              show Steps p.tables e below (s₁.setTop (mkF m 90 #[.val (.ref a0), .val (.int p1), .val (.int (p1 &&& (255 : Int32)))] [])) t
              refine XS.iconst X0.here hx rfl (hb hby d3_90) ?_
              exact k
            obtain ⟨fs, hr, hrun, hended, hW, hsame⟩ := X0.leave (v := some (.int (0 : Int32))) (fun h => by rw [Bd.returns] at h; cases h)
            refine Goes.mk _ _ ?_ ⟨hrun, hended, _, _, rfl, ?_, ⟨_, rfl⟩, hW, hsame.mono (by decide) (by decide)⟩
            · exact retI X0 hx Bd.returns (hb hby d3_91) hr
            · show Q3 Z a0 p1 w1 w2 h0 n0 _ s₁.heap _
              rw [e0]
              exact ⟨(by simp only [f3, if_pos hc1, if_neg hc2, if_pos hc6, if_pos hc7, if_pos hc8]), N0, rfl⟩
          · refine Goes.by (B := s₁.setTop (mkF m 82 #[.val (.ref a0), .val (.int p1), .val (.int (p1 &&& (255 : Int32)))] [(.ref a0)])) (fun t k => ?_) ?_
            · show Steps p.tables e below (s₁.setTop (mkF m 78 #[.val (.ref a0), .val (.int p1), .val (.int (p1 &&& (255 : Int32)))] [(.int (244 : Int32)), (.int (p1 &&& (255 : Int32)))])) t
              refine XS.icmpNo X0.here hx rfl (hb hby d3_78) rfl (flt hc8).2.2.1 ?_
              show Steps p.tables e below (s₁.setTop (mkF m 81 #[.val (.ref a0), .val (.int p1), .val (.int (p1 &&& (255 : Int32)))] [])) t
              refine XS.aloadN X0.here hx rfl (hb hby d3_81) rfl rfl ?_
              exact k
            obtain ⟨T9, X9, e9, st9⟩ := getF X0 hx hZ hown (host := "") (Or.inl (hw _ (List.mem_of_getElem? (i := 9) rfl))) Via.refl e0 F0 (g := (mkF m 82 #[.val (.ref a0), .val (.int p1), .val (.int (p1 &&& (255 : Int32)))] [(.ref a0)])) rfl rfl (hb hby d3_82)
            refine Goes.by st9 ?_
            show Goes p.tables e below _ (T9.setTop (mkF m 85 #[.val (.ref a0), .val (.int p1), .val (.int (p1 &&& (255 : Int32)))] [(.int w1)]))
            by_cases hc10 : w1 = (0 : Int32)
            · refine Goes.by (B := T9.setTop (mkF m 89 #[.val (.ref a0), .val (.int p1), .val (.int (p1 &&& (255 : Int32)))] [(.int (4 : Int32))])) (fun t k => ?_) ?_
              · show Steps p.tables e below (T9.setTop (mkF m 85 #[.val (.ref a0), .val (.int p1), .val (.int (p1 &&& (255 : Int32)))] [(.int w1)])) t
                refine XS.ifNo X9.here hx rfl (hb hby d3_85) rfl ((if0 _ _).trans (teq hc10).2) ?_
                show Steps p.tables e below (T9.setTop (mkF m 88 #[.val (.ref a0), .val (.int p1), .val (.int (p1 &&& (255 : Int32)))] [])) t
                refine XS.iconst X9.here hx rfl (hb hby d3_88) ?_
                exact k
              obtain ⟨fs, hr, hrun, hended, hW, hsame⟩ := X9.leave (v := some (.int (4 : Int32))) (fun h => by rw [Bd.returns] at h; cases h)
              refine Goes.mk _ _ ?_ ⟨hrun, hended, _, _, rfl, ?_, ⟨_, rfl⟩, hW, hsame.mono (by decide) (by decide)⟩
              · exact retI X9 hx Bd.returns (hb hby d3_89) hr
              · show Q3 Z a0 p1 w1 w2 h0 n0 _ T9.heap _
                rw [e9]
                exact ⟨(by simp only [f3, if_pos hc1, if_neg hc2, if_pos hc6, if_pos hc7, if_neg hc8, if_pos hc10]), N0, rfl⟩
            · refine Goes.by (B := T9.setTop (mkF m 91 #[.val (.ref a0), .val (.int p1), .val (.int (p1 &&& (255 : Int32)))] [(.int (0 : Int32))])) (fun t k => ?_) ?_
              · show Steps p.tables e below (T9.setTop (mkF m 85 #[.val (.ref a0), .val (.int p1), .val (.int (p1 &&& (255 : Int32)))] [(.int w1)])) t
                refine XS.ifYes X9.here hx rfl (pc0 := 85) (pc' := 90) rfl (hb hby d3_85) rfl ((if0 _ _).trans (feq hc10).2) (by decide) (by decide) ?_
                show Steps p.tables e below (T9.setTop (mkF m 90 #[.val (.ref a0), .val (.int p1), .val (.int (p1 &&& (255 : Int32)))] [])) t
                refine XS.iconst X9.here hx rfl (hb hby d3_90) ?_
                exact k
              obtain ⟨fs, hr, hrun, hended, hW, hsame⟩ := X9.leave (v := some (.int (0 : Int32))) (fun h => by rw [Bd.returns] at h; cases h)
              refine Goes.mk _ _ ?_ ⟨hrun, hended, _, _, rfl, ?_, ⟨_, rfl⟩, hW, hsame.mono (by decide) (by decide)⟩
              · exact retI X9 hx Bd.returns (hb hby d3_91) hr
              · show Q3 Z a0 p1 w1 w2 h0 n0 _ T9.heap _
                rw [e9]
                exact ⟨(by simp only [f3, if_pos hc1, if_neg hc2, if_pos hc6, if_pos hc7, if_neg hc8, if_neg hc10]), N0, rfl⟩
        · refine Goes.by (B := s₁.setTop (mkF m 73 #[.val (.ref a0), .val (.int p1), .val (.int (p1 &&& (255 : Int32)))] [(.int (3 : Int32))])) (fun t k => ?_) ?_
          · show Steps p.tables e below (s₁.setTop (mkF m 69 #[.val (.ref a0), .val (.int p1), .val (.int (p1 &&& (255 : Int32)))] [(.int (239 : Int32)), (.int (p1 &&& (255 : Int32)))])) t
            refine XS.icmpNo X0.here hx rfl (hb hby d3_69) rfl (flt hc7).2.2.1 ?_
            show Steps p.tables e below (s₁.setTop (mkF m 72 #[.val (.ref a0), .val (.int p1), .val (.int (p1 &&& (255 : Int32)))] [])) t
            refine XS.iconst X0.here hx rfl (hb hby d3_72) ?_
            exact k
          obtain ⟨fs, hr, hrun, hended, hW, hsame⟩ := X0.leave (v := some (.int (3 : Int32))) (fun h => by rw [Bd.returns] at h; cases h)
          refine Goes.mk _ _ ?_ ⟨hrun, hended, _, _, rfl, ?_, ⟨_, rfl⟩, hW, hsame.mono (by decide) (by decide)⟩
          · exact retI X0 hx Bd.returns (hb hby d3_73) hr
          · show Q3 Z a0 p1 w1 w2 h0 n0 _ s₁.heap _
            rw [e0]
            exact ⟨(by simp only [f3, if_pos hc1, if_neg hc2, if_pos hc6, if_neg hc7]), N0, rfl⟩
      · refine Goes.by (B := s₁.setTop (mkF m 64 #[.val (.ref a0), .val (.int p1), .val (.int (p1 &&& (255 : Int32)))] [(.int (2 : Int32))])) (fun t k => ?_) ?_
        · show Steps p.tables e below (s₁.setTop (mkF m 60 #[.val (.ref a0), .val (.int p1), .val (.int (p1 &&& (255 : Int32)))] [(.int (223 : Int32)), (.int (p1 &&& (255 : Int32)))])) t
          refine XS.icmpNo X0.here hx rfl (hb hby d3_60) rfl (flt hc6).2.2.1 ?_
          show Steps p.tables e below (s₁.setTop (mkF m 63 #[.val (.ref a0), .val (.int p1), .val (.int (p1 &&& (255 : Int32)))] [])) t
          refine XS.iconst X0.here hx rfl (hb hby d3_63) ?_
          exact k
        obtain ⟨fs, hr, hrun, hended, hW, hsame⟩ := X0.leave (v := some (.int (2 : Int32))) (fun h => by rw [Bd.returns] at h; cases h)
        refine Goes.mk _ _ ?_ ⟨hrun, hended, _, _, rfl, ?_, ⟨_, rfl⟩, hW, hsame.mono (by decide) (by decide)⟩
        · exact retI X0 hx Bd.returns (hb hby d3_64) hr
        · show Q3 Z a0 p1 w1 w2 h0 n0 _ s₁.heap _
          rw [e0]
          exact ⟨(by simp only [f3, if_pos hc1, if_neg hc2, if_neg hc6]), N0, rfl⟩
  · refine Goes.by (B := s₁.setTop (mkF m 13 #[.val (.ref a0), .val (.int p1), .val (.int (p1 &&& (255 : Int32)))] [(.int (p1 &&& (255 : Int32)))])) (fun t k => ?_) ?_
    · show Steps p.tables e below (s₁.setTop (mkF m 9 #[.val (.ref a0), .val (.int p1), .val (.int (p1 &&& (255 : Int32)))] [(.int (127 : Int32)), (.int (p1 &&& (255 : Int32)))])) t
      refine XS.icmpNo X0.here hx rfl (hb hby d3_9) rfl (flt hc1).2.2.1 ?_
      show Steps p.tables e below (s₁.setTop (mkF m 12 #[.val (.ref a0), .val (.int p1), .val (.int (p1 &&& (255 : Int32)))] [])) t
      refine XS.iloadN X0.here hx rfl (hb hby d3_12) rfl ?_
      exact k
    by_cases hc11 : (p1 &&& (255 : Int32)) = (0 : Int32)
    · refine Goes.by (B := s₁.setTop (mkF m 17 #[.val (.ref a0), .val (.int p1), .val (.int (p1 &&& (255 : Int32)))] [(.ref a0)])) (fun t k => ?_) ?_
      · show Steps p.tables e below (s₁.setTop (mkF m 13 #[.val (.ref a0), .val (.int p1), .val (.int (p1 &&& (255 : Int32)))] [(.int (p1 &&& (255 : Int32)))])) t
        refine XS.ifNo X0.here hx rfl (hb hby d3_13) rfl ((if0 _ _).trans (teq hc11).2) ?_
        show Steps p.tables e below (s₁.setTop (mkF m 16 #[.val (.ref a0), .val (.int p1), .val (.int (p1 &&& (255 : Int32)))] [])) t
        refine XS.aloadN X0.here hx rfl (hb hby d3_16) rfl rfl ?_
        exact k
      obtain ⟨T12, X12, e12, st12⟩ := getF X0 hx hZ hown (host := "") (Or.inl (hw _ (List.mem_of_getElem? (i := 11) rfl))) Via.refl e0 F1 (g := (mkF m 17 #[.val (.ref a0), .val (.int p1), .val (.int (p1 &&& (255 : Int32)))] [(.ref a0)])) rfl rfl (hb hby d3_17)
      refine Goes.by st12 ?_
      show Goes p.tables e below _ (T12.setTop (mkF m 20 #[.val (.ref a0), .val (.int p1), .val (.int (p1 &&& (255 : Int32)))] [(.int w2)]))
      by_cases hc13 : w2 = (0 : Int32)
      · refine Goes.by (B := T12.setTop (mkF m 28 #[.val (.ref a0), .val (.int p1), .val (.int (p1 &&& (255 : Int32)))] [(.int (1 : Int32))])) (fun t k => ?_) ?_
        · show Steps p.tables e below (T12.setTop (mkF m 20 #[.val (.ref a0), .val (.int p1), .val (.int (p1 &&& (255 : Int32)))] [(.int w2)])) t
          refine XS.ifYes X12.here hx rfl (pc0 := 20) (pc' := 27) rfl (hb hby d3_20) rfl ((if0 _ _).trans (teq hc13).1) (by decide) (by decide) ?_
          show Steps p.tables e below (T12.setTop (mkF m 27 #[.val (.ref a0), .val (.int p1), .val (.int (p1 &&& (255 : Int32)))] [])) t
          refine XS.iconst X12.here hx rfl (hb hby d3_27) ?_
          exact k
        obtain ⟨fs, hr, hrun, hended, hW, hsame⟩ := X12.leave (v := some (.int (1 : Int32))) (fun h => by rw [Bd.returns] at h; cases h)
        refine Goes.mk _ _ ?_ ⟨hrun, hended, _, _, rfl, ?_, ⟨_, rfl⟩, hW, hsame.mono (by decide) (by decide)⟩
        · exact retI X12 hx Bd.returns (hb hby d3_28) hr
        · show Q3 Z a0 p1 w1 w2 h0 n0 _ T12.heap _
          rw [e12]
          exact ⟨(by simp only [f3, if_neg hc1, if_pos hc11, if_pos hc13]), N0, rfl⟩
      · refine Goes.by (B := T12.setTop (mkF m 28 #[.val (.ref a0), .val (.int p1), .val (.int (p1 &&& (255 : Int32)))] [(.int (0 : Int32))])) (fun t k => ?_) ?_
        · show Steps p.tables e below (T12.setTop (mkF m 20 #[.val (.ref a0), .val (.int p1), .val (.int (p1 &&& (255 : Int32)))] [(.int w2)])) t
          refine XS.ifNo X12.here hx rfl (hb hby d3_20) rfl ((if0 _ _).trans (feq hc13).1) ?_
          show Steps p.tables e below (T12.setTop (mkF m 23 #[.val (.ref a0), .val (.int p1), .val (.int (p1 &&& (255 : Int32)))] [])) t
          refine XS.iconst X12.here hx rfl (hb hby d3_23) ?_
          show Steps p.tables e below (T12.setTop (mkF m 24 #[.val (.ref a0), .val (.int p1), .val (.int (p1 &&& (255 : Int32)))] [(.int (0 : Int32))])) t
          refine XS.goto X12.here hx rfl (pc0 := 24) (pc' := 28) rfl (hb hby d3_24) (by decide) (by decide) ?_
          exact k
        obtain ⟨fs, hr, hrun, hended, hW, hsame⟩ := X12.leave (v := some (.int (0 : Int32))) (fun h => by rw [Bd.returns] at h; cases h)
        refine Goes.mk _ _ ?_ ⟨hrun, hended, _, _, rfl, ?_, ⟨_, rfl⟩, hW, hsame.mono (by decide) (by decide)⟩
        · exact retI X12 hx Bd.returns (hb hby d3_28) hr
        · show Q3 Z a0 p1 w1 w2 h0 n0 _ T12.heap _
          rw [e12]
          exact ⟨(by simp only [f3, if_neg hc1, if_pos hc11, if_neg hc13]), N0, rfl⟩
    · refine Goes.by (B := s₁.setTop (mkF m 28 #[.val (.ref a0), .val (.int p1), .val (.int (p1 &&& (255 : Int32)))] [(.int (1 : Int32))])) (fun t k => ?_) ?_
      · show Steps p.tables e below (s₁.setTop (mkF m 13 #[.val (.ref a0), .val (.int p1), .val (.int (p1 &&& (255 : Int32)))] [(.int (p1 &&& (255 : Int32)))])) t
        refine XS.ifYes X0.here hx rfl (pc0 := 13) (pc' := 27) rfl (hb hby d3_13) rfl ((if0 _ _).trans (feq hc11).2) (by decide) (by decide) ?_
        show Steps p.tables e below (s₁.setTop (mkF m 27 #[.val (.ref a0), .val (.int p1), .val (.int (p1 &&& (255 : Int32)))] [])) t
        refine XS.iconst X0.here hx rfl (hb hby d3_27) ?_
        exact k
      obtain ⟨fs, hr, hrun, hended, hW, hsame⟩ := X0.leave (v := some (.int (1 : Int32))) (fun h => by rw [Bd.returns] at h; cases h)
      refine Goes.mk _ _ ?_ ⟨hrun, hended, _, _, rfl, ?_, ⟨_, rfl⟩, hW, hsame.mono (by decide) (by decide)⟩
      · exact retI X0 hx Bd.returns (hb hby d3_28) hr
      · show Q3 Z a0 p1 w1 w2 h0 n0 _ s₁.heap _
        rw [e0]
        exact ⟨(by simp only [f3, if_neg hc1, if_neg hc11]), N0, rfl⟩
theorem d4_0 : decode method_3_code 0 = .ok (.iload_n 0, 1) := by decide +kernel
theorem d4_1 : decode method_3_code 1 = .ok (.ifCond .ne 11, 3) := by decide +kernel
theorem d4_4 : decode method_3_code 4 = .ok (.iload_n 2, 1) := by decide +kernel
theorem d4_5 : decode method_3_code 5 = .ok (.ifCond .eq 5, 3) := by decide +kernel
theorem d4_10 : decode method_3_code 10 = .ok (.iconst 1, 1) := by decide +kernel
theorem d4_11 : decode method_3_code 11 = .ok (.ireturn, 1) := by decide +kernel
theorem d4_8 : decode method_3_code 8 = .ok (.iconst 0, 1) := by decide +kernel
theorem d4_9 : decode method_3_code 9 = .ok (.ireturn, 1) := by decide +kernel
theorem d4_12 : decode method_3_code 12 = .ok (.iload_n 0, 1) := by decide +kernel
theorem d4_13 : decode method_3_code 13 = .ok (.sipush 192, 3) := by decide +kernel
theorem d4_16 : decode method_3_code 16 = .ok (.if_icmp .ne 11, 3) := by decide +kernel
theorem d4_19 : decode method_3_code 19 = .ok (.iload_n 2, 1) := by decide +kernel
theorem d4_20 : decode method_3_code 20 = .ok (.ifCond .eq 5, 3) := by decide +kernel
theorem d4_25 : decode method_3_code 25 = .ok (.iconst 0, 1) := by decide +kernel
theorem d4_26 : decode method_3_code 26 = .ok (.ireturn, 1) := by decide +kernel
theorem d4_23 : decode method_3_code 23 = .ok (.iconst 2, 1) := by decide +kernel
theorem d4_24 : decode method_3_code 24 = .ok (.ireturn, 1) := by decide +kernel
theorem d4_27 : decode method_3_code 27 = .ok (.iload_n 0, 1) := by decide +kernel
theorem d4_28 : decode method_3_code 28 = .ok (.sipush 128, 3) := by decide +kernel
theorem d4_31 : decode method_3_code 31 = .ok (.if_icmp .ge 5, 3) := by decide +kernel
theorem d4_34 : decode method_3_code 34 = .ok (.iconst 1, 1) := by decide +kernel
theorem d4_35 : decode method_3_code 35 = .ok (.ireturn, 1) := by decide +kernel
theorem d4_36 : decode method_3_code 36 = .ok (.iload_n 0, 1) := by decide +kernel
theorem d4_37 : decode method_3_code 37 = .ok (.sipush 194, 3) := by decide +kernel
theorem d4_40 : decode method_3_code 40 = .ok (.if_icmp .lt 12, 3) := by decide +kernel
theorem d4_52 : decode method_3_code 52 = .ok (.iload_n 0, 1) := by decide +kernel
theorem d4_53 : decode method_3_code 53 = .ok (.sipush 224, 3) := by decide +kernel
theorem d4_56 : decode method_3_code 56 = .ok (.if_icmp .lt 12, 3) := by decide +kernel
theorem d4_68 : decode method_3_code 68 = .ok (.iload_n 0, 1) := by decide +kernel
theorem d4_69 : decode method_3_code 69 = .ok (.sipush 240, 3) := by decide +kernel
theorem d4_72 : decode method_3_code 72 = .ok (.if_icmp .lt 18, 3) := by decide +kernel
theorem d4_90 : decode method_3_code 90 = .ok (.iconst 0, 1) := by decide +kernel
theorem d4_91 : decode method_3_code 91 = .ok (.ireturn, 1) := by decide +kernel
theorem d4_75 : decode method_3_code 75 = .ok (.iload_n 0, 1) := by decide +kernel
theorem d4_76 : decode method_3_code 76 = .ok (.sipush 245, 3) := by decide +kernel
theorem d4_79 : decode method_3_code 79 = .ok (.if_icmp .ge 11, 3) := by decide +kernel
theorem d4_82 : decode method_3_code 82 = .ok (.iload_n 1, 1) := by decide +kernel
theorem d4_83 : decode method_3_code 83 = .ok (.ifCond .eq 5, 3) := by decide +kernel
theorem d4_88 : decode method_3_code 88 = .ok (.iconst 4, 1) := by decide +kernel
theorem d4_89 : decode method_3_code 89 = .ok (.ireturn, 1) := by decide +kernel
theorem d4_86 : decode method_3_code 86 = .ok (.iconst 0, 1) := by decide +kernel
theorem d4_87 : decode method_3_code 87 = .ok (.ireturn, 1) := by decide +kernel
theorem d4_59 : decode method_3_code 59 = .ok (.iload_n 0, 1) := by decide +kernel
theorem d4_60 : decode method_3_code 60 = .ok (.sipush 240, 3) := by decide +kernel
theorem d4_63 : decode method_3_code 63 = .ok (.if_icmp .ge 5, 3) := by decide +kernel
theorem d4_66 : decode method_3_code 66 = .ok (.iconst 3, 1) := by decide +kernel
theorem d4_67 : decode method_3_code 67 = .ok (.ireturn, 1) := by decide +kernel
theorem d4_43 : decode method_3_code 43 = .ok (.iload_n 0, 1) := by decide +kernel
theorem d4_44 : decode method_3_code 44 = .ok (.sipush 224, 3) := by decide +kernel
theorem d4_47 : decode method_3_code 47 = .ok (.if_icmp .ge 5, 3) := by decide +kernel
theorem d4_50 : decode method_3_code 50 = .ok (.iconst 2, 1) := by decide +kernel
theorem d4_51 : decode method_3_code 51 = .ok (.ireturn, 1) := by decide +kernel
def f4 (p0 : Int32) (p1 : Int32) (p2 : Int32) : Int32 := (if p0 = (0 : Int32) then (if p2 = (0 : Int32) then (1 : Int32) else (0 : Int32)) else (if p0 = (192 : Int32) then (if p2 = (0 : Int32) then (0 : Int32) else (2 : Int32)) else (if p0 < (128 : Int32) then (1 : Int32) else (if p0 < (194 : Int32) then (if p0 < (224 : Int32) then (if p0 < (240 : Int32) then (0 : Int32) else (if p0 < (245 : Int32) then (if p1 = (0 : Int32) then (4 : Int32) else (0 : Int32)) else (0 : Int32))) else (if p0 < (240 : Int32) then (3 : Int32) else (if p0 < (245 : Int32) then (if p1 = (0 : Int32) then (4 : Int32) else (0 : Int32)) else (0 : Int32)))) else (if p0 < (224 : Int32) then (2 : Int32) else (if p0 < (240 : Int32) then (3 : Int32) else (if p0 < (245 : Int32) then (if p1 = (0 : Int32) then (4 : Int32) else (0 : Int32)) else (0 : Int32))))))))
def Q4 (Z : State) (p0 : Int32) (p1 : Int32) (p2 : Int32) (h0 : Heap) (n0 : Nat) (v : Option Value) (h : Heap) (L : List Loc) : Prop := v = some (.int (f4 p0 p1 p2)) ∧ Fr n0 L ∧ h = h0
theorem own_pn_com_example_bare_octets_bareoctets_codec_WellFormedSequencesLengthPinLaw : plainName "com/example/bare_octets/bareoctets/codec/WellFormedSequencesLengthPinLaw" = true := by first | (simp [plainName, overriddenIn]; done) | decide +kernel
theorem ef4 (m : MethodId) (x0 : Int32) (x1 : Int32) (x2 : Int32) : entryFrame m #[(.int x0), (.int x1), (.int x2)] 3 = mkF m 0 #[.val (.int x0), .val (.int x1), .val (.int x2)] [] := by first | (simp [entryFrame, mkF, argsToLocals, Value.category]; done) | rfl
set_option maxRecDepth 65536 in
set_option maxHeartbeats 40000000 in
theorem rm4 (l : Launch) (Z : State) (a0 : Array Value) (hw : ∀ d ∈ tables_1, d.before a0 Z = true) (ws : List Jvm.Cond) (p0 : Int32) (p1 : Int32) (p2 : Int32) (h0 : Heap) (n0 : Nat) (Z0 : n0 ≤ h0.size) :
    MetFree l (⟨"com/example/bare_octets/bareoctets/codec/WellFormedSequencesLengthPinLaw", "expected", "(IZZ)I"⟩ : MethodName) (head1 (Jvm.Cond.code (⟨"com/example/bare_octets/bareoctets/codec/WellFormedSequencesLengthPinLaw", "expected", "(IZZ)I"⟩ : MethodName) method_3_code 3 (some .int) :: ws) ({ frames := 0, cells := 0, slots := 0, locals := 0 } : Room)) (fun a U => a = #[(.int p0), (.int p1), (.int p2)] ∧ Z.Warmed39 U.vm ∧ U.heap = h0) (fun _ _ _ _ _ => True) (fun _ U o U' => ∃ v L, o = .returned v ∧ Q4 Z p0 p1 p2 h0 n0 v U'.heap L ∧ FrameEnd U o U' L ({ frames := 0, cells := 0, slots := 0, locals := 0 } : Room).cells ({ frames := 0, cells := 0, slots := 0, locals := 0 } : Room).slots) := by
  refine MetFree.of_bodySF (plainFor_of_name own_pn_com_example_bare_octets_bareoctets_codec_WellFormedSequencesLengthPinLaw) hisR ?_
  intro p e s m args below meth c s₁ Bd hml0 hP hK
  obtain ⟨rfl, hZ, hh⟩ := hP
  have hx := Bd.exec
  have hby := Bd.bytes
  have hml : c.maxLocals = 3 := hml0
  have hown : s.vm.findClass "com/example/bare_octets/bareoctets/codec/WellFormedSequencesLengthPinLaw" = some m.cls := findClass_of_methodNamed Bd.named
  have hnm := (name_of_methodNamed Bd.named Bd.method).1
  have X0 : Stand p l e ({ frames := 0, cells := 0, slots := 0, locals := 0 } : Room) s m #[(.int p0), (.int p1), (.int p2)] below meth c s₁ [] 0 0 := Stand.of_body Bd
  have e0 : s₁.heap = h0 := by rw [← hh, Bd.state]; rfl
  have N0 := Fr.nil n0
  have Kp0 : Keep h0 h0 [] := Keep.refl _ _
  refine Goes.start ?_
  refine Goes.by (B := s₁.setTop (mkF m 0 #[.val (.int p0), .val (.int p1), .val (.int p2)] [])) (fun t k => castTop (ef4 m p0 p1 p2) k) ?_
  refine Goes.by (B := s₁.setTop (mkF m 1 #[.val (.int p0), .val (.int p1), .val (.int p2)] [(.int p0)])) (fun t k => ?_) ?_
  · show Steps p.tables e below (s₁.setTop (mkF m 0 #[.val (.int p0), .val (.int p1), .val (.int p2)] [])) t
    refine XS.iloadN X0.here hx rfl (hb hby d4_0) rfl ?_
    exact k
  by_cases hc1 : p0 = (0 : Int32)
  · refine Goes.by (B := s₁.setTop (mkF m 5 #[.val (.int p0), .val (.int p1), .val (.int p2)] [(.int p2)])) (fun t k => ?_) ?_
    · show Steps p.tables e below (s₁.setTop (mkF m 1 #[.val (.int p0), .val (.int p1), .val (.int p2)] [(.int p0)])) t
      refine XS.ifNo X0.here hx rfl (hb hby d4_1) rfl ((if0 _ _).trans (teq hc1).2) ?_
      show Steps p.tables e below (s₁.setTop (mkF m 4 #[.val (.int p0), .val (.int p1), .val (.int p2)] [])) t
      refine XS.iloadN X0.here hx rfl (hb hby d4_4) rfl ?_
      exact k
    by_cases hc2 : p2 = (0 : Int32)
    · refine Goes.by (B := s₁.setTop (mkF m 11 #[.val (.int p0), .val (.int p1), .val (.int p2)] [(.int (1 : Int32))])) (fun t k => ?_) ?_
      · show Steps p.tables e below (s₁.setTop (mkF m 5 #[.val (.int p0), .val (.int p1), .val (.int p2)] [(.int p2)])) t
        refine XS.ifYes X0.here hx rfl (pc0 := 5) (pc' := 10) rfl (hb hby d4_5) rfl ((if0 _ _).trans (teq hc2).1) (by decide) (by decide) ?_
        show Steps p.tables e below (s₁.setTop (mkF m 10 #[.val (.int p0), .val (.int p1), .val (.int p2)] [])) t
        refine XS.iconst X0.here hx rfl (hb hby d4_10) ?_
        exact k
      obtain ⟨fs, hr, hrun, hended, hW, hsame⟩ := X0.leave (v := some (.int (1 : Int32))) (fun h => by rw [Bd.returns] at h; cases h)
      refine Goes.mk _ _ ?_ ⟨hrun, hended, _, _, rfl, ?_, ⟨_, rfl⟩, hW, hsame.mono (by decide) (by decide)⟩
      · exact retI X0 hx Bd.returns (hb hby d4_11) hr
      · show Q4 Z p0 p1 p2 h0 n0 _ s₁.heap _
        rw [e0]
        exact ⟨(by simp only [f4, if_pos hc1, if_pos hc2]), N0, rfl⟩
    · refine Goes.by (B := s₁.setTop (mkF m 9 #[.val (.int p0), .val (.int p1), .val (.int p2)] [(.int (0 : Int32))])) (fun t k => ?_) ?_
      · show Steps p.tables e below (s₁.setTop (mkF m 5 #[.val (.int p0), .val (.int p1), .val (.int p2)] [(.int p2)])) t
        refine XS.ifNo X0.here hx rfl (hb hby d4_5) rfl ((if0 _ _).trans (feq hc2).1) ?_
        show Steps p.tables e below (s₁.setTop (mkF m 8 #[.val (.int p0), .val (.int p1), .val (.int p2)] [])) t
        refine XS.iconst X0.here hx rfl (hb hby d4_8) ?_
        exact k
      obtain ⟨fs, hr, hrun, hended, hW, hsame⟩ := X0.leave (v := some (.int (0 : Int32))) (fun h => by rw [Bd.returns] at h; cases h)
      refine Goes.mk _ _ ?_ ⟨hrun, hended, _, _, rfl, ?_, ⟨_, rfl⟩, hW, hsame.mono (by decide) (by decide)⟩
      · exact retI X0 hx Bd.returns (hb hby d4_9) hr
      · show Q4 Z p0 p1 p2 h0 n0 _ s₁.heap _
        rw [e0]
        exact ⟨(by simp only [f4, if_pos hc1, if_neg hc2]), N0, rfl⟩
  · refine Goes.by (B := s₁.setTop (mkF m 16 #[.val (.int p0), .val (.int p1), .val (.int p2)] [(.int (192 : Int32)), (.int p0)])) (fun t k => ?_) ?_
    · show Steps p.tables e below (s₁.setTop (mkF m 1 #[.val (.int p0), .val (.int p1), .val (.int p2)] [(.int p0)])) t
      refine XS.ifYes X0.here hx rfl (pc0 := 1) (pc' := 12) rfl (hb hby d4_1) rfl ((if0 _ _).trans (feq hc1).2) (by decide) (by decide) ?_
      show Steps p.tables e below (s₁.setTop (mkF m 12 #[.val (.int p0), .val (.int p1), .val (.int p2)] [])) t
      refine XS.iloadN X0.here hx rfl (hb hby d4_12) rfl ?_
      show Steps p.tables e below (s₁.setTop (mkF m 13 #[.val (.int p0), .val (.int p1), .val (.int p2)] [(.int p0)])) t
      refine XS.sipush X0.here hx rfl (hb hby d4_13) ?_
      exact k
    by_cases hc3 : p0 = (192 : Int32)
    · refine Goes.by (B := s₁.setTop (mkF m 20 #[.val (.int p0), .val (.int p1), .val (.int p2)] [(.int p2)])) (fun t k => ?_) ?_
      · show Steps p.tables e below (s₁.setTop (mkF m 16 #[.val (.int p0), .val (.int p1), .val (.int p2)] [(.int (192 : Int32)), (.int p0)])) t
        refine XS.icmpNo X0.here hx rfl (hb hby d4_16) rfl (teq hc3).2 ?_
        show Steps p.tables e below (s₁.setTop (mkF m 19 #[.val (.int p0), .val (.int p1), .val (.int p2)] [])) t
        refine XS.iloadN X0.here hx rfl (hb hby d4_19) rfl ?_
        exact k
      by_cases hc4 : p2 = (0 : Int32)
      · refine Goes.by (B := s₁.setTop (mkF m 26 #[.val (.int p0), .val (.int p1), .val (.int p2)] [(.int (0 : Int32))])) (fun t k => ?_) ?_
        · show Steps p.tables e below (s₁.setTop (mkF m 20 #[.val (.int p0), .val (.int p1), .val (.int p2)] [(.int p2)])) t
          refine XS.ifYes X0.here hx rfl (pc0 := 20) (pc' := 25) rfl (hb hby d4_20) rfl ((if0 _ _).trans (teq hc4).1) (by decide) (by decide) ?_
          show Steps p.tables e below (s₁.setTop (mkF m 25 #[.val (.int p0), .val (.int p1), .val (.int p2)] [])) t
          refine XS.iconst X0.here hx rfl (hb hby d4_25) ?_
          exact k
        obtain ⟨fs, hr, hrun, hended, hW, hsame⟩ := X0.leave (v := some (.int (0 : Int32))) (fun h => by rw [Bd.returns] at h; cases h)
        refine Goes.mk _ _ ?_ ⟨hrun, hended, _, _, rfl, ?_, ⟨_, rfl⟩, hW, hsame.mono (by decide) (by decide)⟩
        · exact retI X0 hx Bd.returns (hb hby d4_26) hr
        · show Q4 Z p0 p1 p2 h0 n0 _ s₁.heap _
          rw [e0]
          exact ⟨(by simp only [f4, if_neg hc1, if_pos hc3, if_pos hc4]), N0, rfl⟩
      · refine Goes.by (B := s₁.setTop (mkF m 24 #[.val (.int p0), .val (.int p1), .val (.int p2)] [(.int (2 : Int32))])) (fun t k => ?_) ?_
        · show Steps p.tables e below (s₁.setTop (mkF m 20 #[.val (.int p0), .val (.int p1), .val (.int p2)] [(.int p2)])) t
          refine XS.ifNo X0.here hx rfl (hb hby d4_20) rfl ((if0 _ _).trans (feq hc4).1) ?_
          show Steps p.tables e below (s₁.setTop (mkF m 23 #[.val (.int p0), .val (.int p1), .val (.int p2)] [])) t
          refine XS.iconst X0.here hx rfl (hb hby d4_23) ?_
          exact k
        obtain ⟨fs, hr, hrun, hended, hW, hsame⟩ := X0.leave (v := some (.int (2 : Int32))) (fun h => by rw [Bd.returns] at h; cases h)
        refine Goes.mk _ _ ?_ ⟨hrun, hended, _, _, rfl, ?_, ⟨_, rfl⟩, hW, hsame.mono (by decide) (by decide)⟩
        · exact retI X0 hx Bd.returns (hb hby d4_24) hr
        · show Q4 Z p0 p1 p2 h0 n0 _ s₁.heap _
          rw [e0]
          exact ⟨(by simp only [f4, if_neg hc1, if_pos hc3, if_neg hc4]), N0, rfl⟩
    · refine Goes.by (B := s₁.setTop (mkF m 31 #[.val (.int p0), .val (.int p1), .val (.int p2)] [(.int (128 : Int32)), (.int p0)])) (fun t k => ?_) ?_
      · show Steps p.tables e below (s₁.setTop (mkF m 16 #[.val (.int p0), .val (.int p1), .val (.int p2)] [(.int (192 : Int32)), (.int p0)])) t
        refine XS.icmpYes X0.here hx rfl (pc0 := 16) (pc' := 27) rfl (hb hby d4_16) rfl (feq hc3).2 (by decide) (by decide) ?_
        show Steps p.tables e below (s₁.setTop (mkF m 27 #[.val (.int p0), .val (.int p1), .val (.int p2)] [])) t
        refine XS.iloadN X0.here hx rfl (hb hby d4_27) rfl ?_
        show Steps p.tables e below (s₁.setTop (mkF m 28 #[.val (.int p0), .val (.int p1), .val (.int p2)] [(.int p0)])) t
        refine XS.sipush X0.here hx rfl (hb hby d4_28) ?_
        exact k
      by_cases hc5 : p0 < (128 : Int32)
      · refine Goes.by (B := s₁.setTop (mkF m 35 #[.val (.int p0), .val (.int p1), .val (.int p2)] [(.int (1 : Int32))])) (fun t k => ?_) ?_
        · show Steps p.tables e below (s₁.setTop (mkF m 31 #[.val (.int p0), .val (.int p1), .val (.int p2)] [(.int (128 : Int32)), (.int p0)])) t
          refine XS.icmpNo X0.here hx rfl (hb hby d4_31) rfl (tlt hc5).2.1 ?_
          show Steps p.tables e below (s₁.setTop (mkF m 34 #[.val (.int p0), .val (.int p1), .val (.int p2)] [])) t
          refine XS.iconst X0.here hx rfl (hb hby d4_34) ?_
          exact k
        obtain ⟨fs, hr, hrun, hended, hW, hsame⟩ := X0.leave (v := some (.int (1 : Int32))) (fun h => by rw [Bd.returns] at h; cases h)
        refine Goes.mk _ _ ?_ ⟨hrun, hended, _, _, rfl, ?_, ⟨_, rfl⟩, hW, hsame.mono (by decide) (by decide)⟩
        · exact retI X0 hx Bd.returns (hb hby d4_35) hr
        · show Q4 Z p0 p1 p2 h0 n0 _ s₁.heap _
          rw [e0]
          exact ⟨(by simp only [f4, if_neg hc1, if_neg hc3, if_pos hc5]), N0, rfl⟩
      · refine Goes.by (B := s₁.setTop (mkF m 40 #[.val (.int p0), .val (.int p1), .val (.int p2)] [(.int (194 : Int32)), (.int p0)])) (fun t k => ?_) ?_
        · show Steps p.tables e below (s₁.setTop (mkF m 31 #[.val (.int p0), .val (.int p1), .val (.int p2)] [(.int (128 : Int32)), (.int p0)])) t
          refine XS.icmpYes X0.here hx rfl (pc0 := 31) (pc' := 36) rfl (hb hby d4_31) rfl (flt hc5).2.1 (by decide) (by decide) ?_
          show Steps p.tables e below (s₁.setTop (mkF m 36 #[.val (.int p0), .val (.int p1), .val (.int p2)] [])) t
          refine XS.iloadN X0.here hx rfl (hb hby d4_36) rfl ?_
          show Steps p.tables e below (s₁.setTop (mkF m 37 #[.val (.int p0), .val (.int p1), .val (.int p2)] [(.int p0)])) t
          refine XS.sipush X0.here hx rfl (hb hby d4_37) ?_
          exact k
        by_cases hc6 : p0 < (194 : Int32)
        · refine Goes.by (B := s₁.setTop (mkF m 56 #[.val (.int p0), .val (.int p1), .val (.int p2)] [(.int (224 : Int32)), (.int p0)])) (fun t k => ?_) ?_
          · show Steps p.tables e below (s₁.setTop (mkF m 40 #[.val (.int p0), .val (.int p1), .val (.int p2)] [(.int (194 : Int32)), (.int p0)])) t
            refine XS.icmpYes X0.here hx rfl (pc0 := 40) (pc' := 52) rfl (hb hby d4_40) rfl (tlt hc6).1 (by decide) (by decide) ?_
            show Steps p.tables e below (s₁.setTop (mkF m 52 #[.val (.int p0), .val (.int p1), .val (.int p2)] [])) t
            refine XS.iloadN X0.here hx rfl (hb hby d4_52) rfl ?_
            show Steps p.tables e below (s₁.setTop (mkF m 53 #[.val (.int p0), .val (.int p1), .val (.int p2)] [(.int p0)])) t
            refine XS.sipush X0.here hx rfl (hb hby d4_53) ?_
            exact k
          by_cases hc7 : p0 < (224 : Int32)
          · refine Goes.by (B := s₁.setTop (mkF m 72 #[.val (.int p0), .val (.int p1), .val (.int p2)] [(.int (240 : Int32)), (.int p0)])) (fun t k => ?_) ?_
            · show Steps p.tables e below (s₁.setTop (mkF m 56 #[.val (.int p0), .val (.int p1), .val (.int p2)] [(.int (224 : Int32)), (.int p0)])) t
              refine XS.icmpYes X0.here hx rfl (pc0 := 56) (pc' := 68) rfl (hb hby d4_56) rfl (tlt hc7).1 (by decide) (by decide) ?_
              show Steps p.tables e below (s₁.setTop (mkF m 68 #[.val (.int p0), .val (.int p1), .val (.int p2)] [])) t
              refine XS.iloadN X0.here hx rfl (hb hby d4_68) rfl ?_
              show Steps p.tables e below (s₁.setTop (mkF m 69 #[.val (.int p0), .val (.int p1), .val (.int p2)] [(.int p0)])) t
              refine XS.sipush X0.here hx rfl (hb hby d4_69) ?_
              exact k
            by_cases hc8 : p0 < (240 : Int32)
            · refine Goes.by (B := s₁.setTop (mkF m 91 #[.val (.int p0), .val (.int p1), .val (.int p2)] [(.int (0 : Int32))])) (fun t k => ?_) ?_
              · show Steps p.tables e below (s₁.setTop (mkF m 72 #[.val (.int p0), .val (.int p1), .val (.int p2)] [(.int (240 : Int32)), (.int p0)])) t
                refine XS.icmpYes X0.here hx rfl (pc0 := 72) (pc' := 90) rfl (hb hby d4_72) rfl (tlt hc8).1 (by decide) (by decide) ?_
                show Steps p.tables e below (s₁.setTop (mkF m 90 #[.val (.int p0), .val (.int p1), .val (.int p2)] [])) t
                refine XS.iconst X0.here hx rfl (hb hby d4_90) ?_
                exact k
              obtain ⟨fs, hr, hrun, hended, hW, hsame⟩ := X0.leave (v := some (.int (0 : Int32))) (fun h => by rw [Bd.returns] at h; cases h)
              refine Goes.mk _ _ ?_ ⟨hrun, hended, _, _, rfl, ?_, ⟨_, rfl⟩, hW, hsame.mono (by decide) (by decide)⟩
              · exact retI X0 hx Bd.returns (hb hby d4_91) hr
              · show Q4 Z p0 p1 p2 h0 n0 _ s₁.heap _
                rw [e0]
                exact ⟨(by simp only [f4, if_neg hc1, if_neg hc3, if_neg hc5, if_pos hc6, if_pos hc7, if_pos hc8]), N0, rfl⟩
            · refine Goes.by (B := s₁.setTop (mkF m 79 #[.val (.int p0), .val (.int p1), .val (.int p2)] [(.int (245 : Int32)), (.int p0)])) (fun t k => ?_) ?_
              · show Steps p.tables e below (s₁.setTop (mkF m 72 #[.val (.int p0), .val (.int p1), .val (.int p2)] [(.int (240 : Int32)), (.int p0)])) t
                refine XS.icmpNo X0.here hx rfl (hb hby d4_72) rfl (flt hc8).1 ?_
                show Steps p.tables e below (s₁.setTop (mkF m 75 #[.val (.int p0), .val (.int p1), .val (.int p2)] [])) t
                refine XS.iloadN X0.here hx rfl (hb hby d4_75) rfl ?_
                show Steps p.tables e below (s₁.setTop (mkF m 76 #[.val (.int p0), .val (.int p1), .val (.int p2)] [(.int p0)])) t
                refine XS.sipush X0.here hx rfl (hb hby d4_76) ?_
                exact k
              by_cases hc9 : p0 < (245 : Int32)
              · refine Goes.by (B := s₁.setTop (mkF m 83 #[.val (.int p0), .val (.int p1), .val (.int p2)] [(.int p1)])) (fun t k => ?_) ?_
                · show Steps p.tables e below (s₁.setTop (mkF m 79 #[.val (.int p0), .val (.int p1), .val (.int p2)] [(.int (245 : Int32)), (.int p0)])) t
                  refine XS.icmpNo X0.here hx rfl (hb hby d4_79) rfl (tlt hc9).2.1 ?_
                  show Steps p.tables e below (s₁.setTop (mkF m 82 #[.val (.int p0), .val (.int p1), .val (.int p2)] [])) t
                  refine XS.iloadN X0.here hx rfl (hb hby d4_82) rfl ?_
                  exact k
                by_cases hc10 : p1 = (0 : Int32)
                · refine Goes.by (B := s₁.setTop (mkF m 89 #[.val (.int p0), .val (.int p1), .val (.int p2)] [(.int (4 : Int32))])) (fun t k => ?_) ?_
                  · show Steps p.tables e below (s₁.setTop (mkF m 83 #[.val (.int p0), .val (.int p1), .val (.int p2)] [(.int p1)])) t
                    refine XS.ifYes X0.here hx rfl (pc0 := 83) (pc' := 88) rfl (hb hby d4_83) rfl ((if0 _ _).trans (teq hc10).1) (by decide) (by decide) ?_
                    show Steps p.tables e below (s₁.setTop (mkF m 88 #[.val (.int p0), .val (.int p1), .val (.int p2)] [])) t
                    refine XS.iconst X0.here hx rfl (hb hby d4_88) ?_
                    exact k
                  obtain ⟨fs, hr, hrun, hended, hW, hsame⟩ := X0.leave (v := some (.int (4 : Int32))) (fun h => by rw [Bd.returns] at h; cases h)
                  refine Goes.mk _ _ ?_ ⟨hrun, hended, _, _, rfl, ?_, ⟨_, rfl⟩, hW, hsame.mono (by decide) (by decide)⟩
                  · exact retI X0 hx Bd.returns (hb hby d4_89) hr
                  · show Q4 Z p0 p1 p2 h0 n0 _ s₁.heap _
                    rw [e0]
                    exact ⟨(by simp only [f4, if_neg hc1, if_neg hc3, if_neg hc5, if_pos hc6, if_pos hc7, if_neg hc8, if_pos hc9, if_pos hc10]), N0, rfl⟩
                · refine Goes.by (B := s₁.setTop (mkF m 87 #[.val (.int p0), .val (.int p1), .val (.int p2)] [(.int (0 : Int32))])) (fun t k => ?_) ?_
                  · show Steps p.tables e below (s₁.setTop (mkF m 83 #[.val (.int p0), .val (.int p1), .val (.int p2)] [(.int p1)])) t
                    refine XS.ifNo X0.here hx rfl (hb hby d4_83) rfl ((if0 _ _).trans (feq hc10).1) ?_
                    show Steps p.tables e below (s₁.setTop (mkF m 86 #[.val (.int p0), .val (.int p1), .val (.int p2)] [])) t
                    refine XS.iconst X0.here hx rfl (hb hby d4_86) ?_
                    exact k
                  obtain ⟨fs, hr, hrun, hended, hW, hsame⟩ := X0.leave (v := some (.int (0 : Int32))) (fun h => by rw [Bd.returns] at h; cases h)
                  refine Goes.mk _ _ ?_ ⟨hrun, hended, _, _, rfl, ?_, ⟨_, rfl⟩, hW, hsame.mono (by decide) (by decide)⟩
                  · exact retI X0 hx Bd.returns (hb hby d4_87) hr
                  · show Q4 Z p0 p1 p2 h0 n0 _ s₁.heap _
                    rw [e0]
                    exact ⟨(by simp only [f4, if_neg hc1, if_neg hc3, if_neg hc5, if_pos hc6, if_pos hc7, if_neg hc8, if_pos hc9, if_neg hc10]), N0, rfl⟩
              · refine Goes.by (B := s₁.setTop (mkF m 91 #[.val (.int p0), .val (.int p1), .val (.int p2)] [(.int (0 : Int32))])) (fun t k => ?_) ?_
                · show Steps p.tables e below (s₁.setTop (mkF m 79 #[.val (.int p0), .val (.int p1), .val (.int p2)] [(.int (245 : Int32)), (.int p0)])) t
                  refine XS.icmpYes X0.here hx rfl (pc0 := 79) (pc' := 90) rfl (hb hby d4_79) rfl (flt hc9).2.1 (by decide) (by decide) ?_
                  show Steps p.tables e below (s₁.setTop (mkF m 90 #[.val (.int p0), .val (.int p1), .val (.int p2)] [])) t
                  refine XS.iconst X0.here hx rfl (hb hby d4_90) ?_
                  exact k
                obtain ⟨fs, hr, hrun, hended, hW, hsame⟩ := X0.leave (v := some (.int (0 : Int32))) (fun h => by rw [Bd.returns] at h; cases h)
                refine Goes.mk _ _ ?_ ⟨hrun, hended, _, _, rfl, ?_, ⟨_, rfl⟩, hW, hsame.mono (by decide) (by decide)⟩
                · exact retI X0 hx Bd.returns (hb hby d4_91) hr
                · show Q4 Z p0 p1 p2 h0 n0 _ s₁.heap _
                  rw [e0]
                  exact ⟨(by simp only [f4, if_neg hc1, if_neg hc3, if_neg hc5, if_pos hc6, if_pos hc7, if_neg hc8, if_neg hc9]), N0, rfl⟩
          · refine Goes.by (B := s₁.setTop (mkF m 63 #[.val (.int p0), .val (.int p1), .val (.int p2)] [(.int (240 : Int32)), (.int p0)])) (fun t k => ?_) ?_
            · show Steps p.tables e below (s₁.setTop (mkF m 56 #[.val (.int p0), .val (.int p1), .val (.int p2)] [(.int (224 : Int32)), (.int p0)])) t
              refine XS.icmpNo X0.here hx rfl (hb hby d4_56) rfl (flt hc7).1 ?_
              show Steps p.tables e below (s₁.setTop (mkF m 59 #[.val (.int p0), .val (.int p1), .val (.int p2)] [])) t
              refine XS.iloadN X0.here hx rfl (hb hby d4_59) rfl ?_
              show Steps p.tables e below (s₁.setTop (mkF m 60 #[.val (.int p0), .val (.int p1), .val (.int p2)] [(.int p0)])) t
              refine XS.sipush X0.here hx rfl (hb hby d4_60) ?_
              exact k
            by_cases hc11 : p0 < (240 : Int32)
            · refine Goes.by (B := s₁.setTop (mkF m 67 #[.val (.int p0), .val (.int p1), .val (.int p2)] [(.int (3 : Int32))])) (fun t k => ?_) ?_
              · show Steps p.tables e below (s₁.setTop (mkF m 63 #[.val (.int p0), .val (.int p1), .val (.int p2)] [(.int (240 : Int32)), (.int p0)])) t
                refine XS.icmpNo X0.here hx rfl (hb hby d4_63) rfl (tlt hc11).2.1 ?_
                show Steps p.tables e below (s₁.setTop (mkF m 66 #[.val (.int p0), .val (.int p1), .val (.int p2)] [])) t
                refine XS.iconst X0.here hx rfl (hb hby d4_66) ?_
                exact k
              obtain ⟨fs, hr, hrun, hended, hW, hsame⟩ := X0.leave (v := some (.int (3 : Int32))) (fun h => by rw [Bd.returns] at h; cases h)
              refine Goes.mk _ _ ?_ ⟨hrun, hended, _, _, rfl, ?_, ⟨_, rfl⟩, hW, hsame.mono (by decide) (by decide)⟩
              · exact retI X0 hx Bd.returns (hb hby d4_67) hr
              · show Q4 Z p0 p1 p2 h0 n0 _ s₁.heap _
                rw [e0]
                exact ⟨(by simp only [f4, if_neg hc1, if_neg hc3, if_neg hc5, if_pos hc6, if_neg hc7, if_pos hc11]), N0, rfl⟩
            · refine Goes.by (B := s₁.setTop (mkF m 79 #[.val (.int p0), .val (.int p1), .val (.int p2)] [(.int (245 : Int32)), (.int p0)])) (fun t k => ?_) ?_
              · show Steps p.tables e below (s₁.setTop (mkF m 63 #[.val (.int p0), .val (.int p1), .val (.int p2)] [(.int (240 : Int32)), (.int p0)])) t
                refine XS.icmpYes X0.here hx rfl (pc0 := 63) (pc' := 68) rfl (hb hby d4_63) rfl (flt hc11).2.1 (by decide) (by decide) ?_
                show Steps p.tables e below (s₁.setTop (mkF m 68 #[.val (.int p0), .val (.int p1), .val (.int p2)] [])) t
                refine XS.iloadN X0.here hx rfl (hb hby d4_68) rfl ?_
                show Steps p.tables e below (s₁.setTop (mkF m 69 #[.val (.int p0), .val (.int p1), .val (.int p2)] [(.int p0)])) t
                refine XS.sipush X0.here hx rfl (hb hby d4_69) ?_
                show Steps p.tables e below (s₁.setTop (mkF m 72 #[.val (.int p0), .val (.int p1), .val (.int p2)] [(.int (240 : Int32)), (.int p0)])) t
                refine XS.icmpNo X0.here hx rfl (hb hby d4_72) rfl (flt hc11).1 ?_
                show Steps p.tables e below (s₁.setTop (mkF m 75 #[.val (.int p0), .val (.int p1), .val (.int p2)] [])) t
                refine XS.iloadN X0.here hx rfl (hb hby d4_75) rfl ?_
                show Steps p.tables e below (s₁.setTop (mkF m 76 #[.val (.int p0), .val (.int p1), .val (.int p2)] [(.int p0)])) t
                refine XS.sipush X0.here hx rfl (hb hby d4_76) ?_
                exact k
              by_cases hc12 : p0 < (245 : Int32)
              · refine Goes.by (B := s₁.setTop (mkF m 83 #[.val (.int p0), .val (.int p1), .val (.int p2)] [(.int p1)])) (fun t k => ?_) ?_
                · show Steps p.tables e below (s₁.setTop (mkF m 79 #[.val (.int p0), .val (.int p1), .val (.int p2)] [(.int (245 : Int32)), (.int p0)])) t
                  refine XS.icmpNo X0.here hx rfl (hb hby d4_79) rfl (tlt hc12).2.1 ?_
                  show Steps p.tables e below (s₁.setTop (mkF m 82 #[.val (.int p0), .val (.int p1), .val (.int p2)] [])) t
                  refine XS.iloadN X0.here hx rfl (hb hby d4_82) rfl ?_
                  exact k
                by_cases hc13 : p1 = (0 : Int32)
                · refine Goes.by (B := s₁.setTop (mkF m 89 #[.val (.int p0), .val (.int p1), .val (.int p2)] [(.int (4 : Int32))])) (fun t k => ?_) ?_
                  · show Steps p.tables e below (s₁.setTop (mkF m 83 #[.val (.int p0), .val (.int p1), .val (.int p2)] [(.int p1)])) t
                    refine XS.ifYes X0.here hx rfl (pc0 := 83) (pc' := 88) rfl (hb hby d4_83) rfl ((if0 _ _).trans (teq hc13).1) (by decide) (by decide) ?_
                    show Steps p.tables e below (s₁.setTop (mkF m 88 #[.val (.int p0), .val (.int p1), .val (.int p2)] [])) t
                    refine XS.iconst X0.here hx rfl (hb hby d4_88) ?_
                    exact k
                  obtain ⟨fs, hr, hrun, hended, hW, hsame⟩ := X0.leave (v := some (.int (4 : Int32))) (fun h => by rw [Bd.returns] at h; cases h)
                  refine Goes.mk _ _ ?_ ⟨hrun, hended, _, _, rfl, ?_, ⟨_, rfl⟩, hW, hsame.mono (by decide) (by decide)⟩
                  · exact retI X0 hx Bd.returns (hb hby d4_89) hr
                  · show Q4 Z p0 p1 p2 h0 n0 _ s₁.heap _
                    rw [e0]
                    exact ⟨(by simp only [f4, if_neg hc1, if_neg hc3, if_neg hc5, if_pos hc6, if_neg hc7, if_neg hc11, if_pos hc12, if_pos hc13]), N0, rfl⟩
                · refine Goes.by (B := s₁.setTop (mkF m 87 #[.val (.int p0), .val (.int p1), .val (.int p2)] [(.int (0 : Int32))])) (fun t k => ?_) ?_
                  · show Steps p.tables e below (s₁.setTop (mkF m 83 #[.val (.int p0), .val (.int p1), .val (.int p2)] [(.int p1)])) t
                    refine XS.ifNo X0.here hx rfl (hb hby d4_83) rfl ((if0 _ _).trans (feq hc13).1) ?_
                    show Steps p.tables e below (s₁.setTop (mkF m 86 #[.val (.int p0), .val (.int p1), .val (.int p2)] [])) t
                    refine XS.iconst X0.here hx rfl (hb hby d4_86) ?_
                    exact k
                  obtain ⟨fs, hr, hrun, hended, hW, hsame⟩ := X0.leave (v := some (.int (0 : Int32))) (fun h => by rw [Bd.returns] at h; cases h)
                  refine Goes.mk _ _ ?_ ⟨hrun, hended, _, _, rfl, ?_, ⟨_, rfl⟩, hW, hsame.mono (by decide) (by decide)⟩
                  · exact retI X0 hx Bd.returns (hb hby d4_87) hr
                  · show Q4 Z p0 p1 p2 h0 n0 _ s₁.heap _
                    rw [e0]
                    exact ⟨(by simp only [f4, if_neg hc1, if_neg hc3, if_neg hc5, if_pos hc6, if_neg hc7, if_neg hc11, if_pos hc12, if_neg hc13]), N0, rfl⟩
              · refine Goes.by (B := s₁.setTop (mkF m 91 #[.val (.int p0), .val (.int p1), .val (.int p2)] [(.int (0 : Int32))])) (fun t k => ?_) ?_
                · show Steps p.tables e below (s₁.setTop (mkF m 79 #[.val (.int p0), .val (.int p1), .val (.int p2)] [(.int (245 : Int32)), (.int p0)])) t
                  refine XS.icmpYes X0.here hx rfl (pc0 := 79) (pc' := 90) rfl (hb hby d4_79) rfl (flt hc12).2.1 (by decide) (by decide) ?_
                  show Steps p.tables e below (s₁.setTop (mkF m 90 #[.val (.int p0), .val (.int p1), .val (.int p2)] [])) t
                  refine XS.iconst X0.here hx rfl (hb hby d4_90) ?_
                  exact k
                obtain ⟨fs, hr, hrun, hended, hW, hsame⟩ := X0.leave (v := some (.int (0 : Int32))) (fun h => by rw [Bd.returns] at h; cases h)
                refine Goes.mk _ _ ?_ ⟨hrun, hended, _, _, rfl, ?_, ⟨_, rfl⟩, hW, hsame.mono (by decide) (by decide)⟩
                · exact retI X0 hx Bd.returns (hb hby d4_91) hr
                · show Q4 Z p0 p1 p2 h0 n0 _ s₁.heap _
                  rw [e0]
                  exact ⟨(by simp only [f4, if_neg hc1, if_neg hc3, if_neg hc5, if_pos hc6, if_neg hc7, if_neg hc11, if_neg hc12]), N0, rfl⟩
        · refine Goes.by (B := s₁.setTop (mkF m 47 #[.val (.int p0), .val (.int p1), .val (.int p2)] [(.int (224 : Int32)), (.int p0)])) (fun t k => ?_) ?_
          · show Steps p.tables e below (s₁.setTop (mkF m 40 #[.val (.int p0), .val (.int p1), .val (.int p2)] [(.int (194 : Int32)), (.int p0)])) t
            refine XS.icmpNo X0.here hx rfl (hb hby d4_40) rfl (flt hc6).1 ?_
            show Steps p.tables e below (s₁.setTop (mkF m 43 #[.val (.int p0), .val (.int p1), .val (.int p2)] [])) t
            refine XS.iloadN X0.here hx rfl (hb hby d4_43) rfl ?_
            show Steps p.tables e below (s₁.setTop (mkF m 44 #[.val (.int p0), .val (.int p1), .val (.int p2)] [(.int p0)])) t
            refine XS.sipush X0.here hx rfl (hb hby d4_44) ?_
            exact k
          by_cases hc14 : p0 < (224 : Int32)
          · refine Goes.by (B := s₁.setTop (mkF m 51 #[.val (.int p0), .val (.int p1), .val (.int p2)] [(.int (2 : Int32))])) (fun t k => ?_) ?_
            · show Steps p.tables e below (s₁.setTop (mkF m 47 #[.val (.int p0), .val (.int p1), .val (.int p2)] [(.int (224 : Int32)), (.int p0)])) t
              refine XS.icmpNo X0.here hx rfl (hb hby d4_47) rfl (tlt hc14).2.1 ?_
              show Steps p.tables e below (s₁.setTop (mkF m 50 #[.val (.int p0), .val (.int p1), .val (.int p2)] [])) t
              refine XS.iconst X0.here hx rfl (hb hby d4_50) ?_
              exact k
            obtain ⟨fs, hr, hrun, hended, hW, hsame⟩ := X0.leave (v := some (.int (2 : Int32))) (fun h => by rw [Bd.returns] at h; cases h)
            refine Goes.mk _ _ ?_ ⟨hrun, hended, _, _, rfl, ?_, ⟨_, rfl⟩, hW, hsame.mono (by decide) (by decide)⟩
            · exact retI X0 hx Bd.returns (hb hby d4_51) hr
            · show Q4 Z p0 p1 p2 h0 n0 _ s₁.heap _
              rw [e0]
              exact ⟨(by simp only [f4, if_neg hc1, if_neg hc3, if_neg hc5, if_neg hc6, if_pos hc14]), N0, rfl⟩
          · refine Goes.by (B := s₁.setTop (mkF m 63 #[.val (.int p0), .val (.int p1), .val (.int p2)] [(.int (240 : Int32)), (.int p0)])) (fun t k => ?_) ?_
            · show Steps p.tables e below (s₁.setTop (mkF m 47 #[.val (.int p0), .val (.int p1), .val (.int p2)] [(.int (224 : Int32)), (.int p0)])) t
              refine XS.icmpYes X0.here hx rfl (pc0 := 47) (pc' := 52) rfl (hb hby d4_47) rfl (flt hc14).2.1 (by decide) (by decide) ?_
              show Steps p.tables e below (s₁.setTop (mkF m 52 #[.val (.int p0), .val (.int p1), .val (.int p2)] [])) t
              refine XS.iloadN X0.here hx rfl (hb hby d4_52) rfl ?_
              show Steps p.tables e below (s₁.setTop (mkF m 53 #[.val (.int p0), .val (.int p1), .val (.int p2)] [(.int p0)])) t
              refine XS.sipush X0.here hx rfl (hb hby d4_53) ?_
              show Steps p.tables e below (s₁.setTop (mkF m 56 #[.val (.int p0), .val (.int p1), .val (.int p2)] [(.int (224 : Int32)), (.int p0)])) t
              refine XS.icmpNo X0.here hx rfl (hb hby d4_56) rfl (flt hc14).1 ?_
              show Steps p.tables e below (s₁.setTop (mkF m 59 #[.val (.int p0), .val (.int p1), .val (.int p2)] [])) t
              refine XS.iloadN X0.here hx rfl (hb hby d4_59) rfl ?_
              show Steps p.tables e below (s₁.setTop (mkF m 60 #[.val (.int p0), .val (.int p1), .val (.int p2)] [(.int p0)])) t
              refine XS.sipush X0.here hx rfl (hb hby d4_60) ?_
              exact k
            by_cases hc15 : p0 < (240 : Int32)
            · refine Goes.by (B := s₁.setTop (mkF m 67 #[.val (.int p0), .val (.int p1), .val (.int p2)] [(.int (3 : Int32))])) (fun t k => ?_) ?_
              · show Steps p.tables e below (s₁.setTop (mkF m 63 #[.val (.int p0), .val (.int p1), .val (.int p2)] [(.int (240 : Int32)), (.int p0)])) t
                refine XS.icmpNo X0.here hx rfl (hb hby d4_63) rfl (tlt hc15).2.1 ?_
                show Steps p.tables e below (s₁.setTop (mkF m 66 #[.val (.int p0), .val (.int p1), .val (.int p2)] [])) t
                refine XS.iconst X0.here hx rfl (hb hby d4_66) ?_
                exact k
              obtain ⟨fs, hr, hrun, hended, hW, hsame⟩ := X0.leave (v := some (.int (3 : Int32))) (fun h => by rw [Bd.returns] at h; cases h)
              refine Goes.mk _ _ ?_ ⟨hrun, hended, _, _, rfl, ?_, ⟨_, rfl⟩, hW, hsame.mono (by decide) (by decide)⟩
              · exact retI X0 hx Bd.returns (hb hby d4_67) hr
              · show Q4 Z p0 p1 p2 h0 n0 _ s₁.heap _
                rw [e0]
                exact ⟨(by simp only [f4, if_neg hc1, if_neg hc3, if_neg hc5, if_neg hc6, if_neg hc14, if_pos hc15]), N0, rfl⟩
            · refine Goes.by (B := s₁.setTop (mkF m 79 #[.val (.int p0), .val (.int p1), .val (.int p2)] [(.int (245 : Int32)), (.int p0)])) (fun t k => ?_) ?_
              · show Steps p.tables e below (s₁.setTop (mkF m 63 #[.val (.int p0), .val (.int p1), .val (.int p2)] [(.int (240 : Int32)), (.int p0)])) t
                refine XS.icmpYes X0.here hx rfl (pc0 := 63) (pc' := 68) rfl (hb hby d4_63) rfl (flt hc15).2.1 (by decide) (by decide) ?_
                show Steps p.tables e below (s₁.setTop (mkF m 68 #[.val (.int p0), .val (.int p1), .val (.int p2)] [])) t
                refine XS.iloadN X0.here hx rfl (hb hby d4_68) rfl ?_
                show Steps p.tables e below (s₁.setTop (mkF m 69 #[.val (.int p0), .val (.int p1), .val (.int p2)] [(.int p0)])) t
                refine XS.sipush X0.here hx rfl (hb hby d4_69) ?_
                show Steps p.tables e below (s₁.setTop (mkF m 72 #[.val (.int p0), .val (.int p1), .val (.int p2)] [(.int (240 : Int32)), (.int p0)])) t
                refine XS.icmpNo X0.here hx rfl (hb hby d4_72) rfl (flt hc15).1 ?_
                show Steps p.tables e below (s₁.setTop (mkF m 75 #[.val (.int p0), .val (.int p1), .val (.int p2)] [])) t
                refine XS.iloadN X0.here hx rfl (hb hby d4_75) rfl ?_
                show Steps p.tables e below (s₁.setTop (mkF m 76 #[.val (.int p0), .val (.int p1), .val (.int p2)] [(.int p0)])) t
                refine XS.sipush X0.here hx rfl (hb hby d4_76) ?_
                exact k
              by_cases hc16 : p0 < (245 : Int32)
              · refine Goes.by (B := s₁.setTop (mkF m 83 #[.val (.int p0), .val (.int p1), .val (.int p2)] [(.int p1)])) (fun t k => ?_) ?_
                · show Steps p.tables e below (s₁.setTop (mkF m 79 #[.val (.int p0), .val (.int p1), .val (.int p2)] [(.int (245 : Int32)), (.int p0)])) t
                  refine XS.icmpNo X0.here hx rfl (hb hby d4_79) rfl (tlt hc16).2.1 ?_
                  show Steps p.tables e below (s₁.setTop (mkF m 82 #[.val (.int p0), .val (.int p1), .val (.int p2)] [])) t
                  refine XS.iloadN X0.here hx rfl (hb hby d4_82) rfl ?_
                  exact k
                by_cases hc17 : p1 = (0 : Int32)
                · refine Goes.by (B := s₁.setTop (mkF m 89 #[.val (.int p0), .val (.int p1), .val (.int p2)] [(.int (4 : Int32))])) (fun t k => ?_) ?_
                  · show Steps p.tables e below (s₁.setTop (mkF m 83 #[.val (.int p0), .val (.int p1), .val (.int p2)] [(.int p1)])) t
                    refine XS.ifYes X0.here hx rfl (pc0 := 83) (pc' := 88) rfl (hb hby d4_83) rfl ((if0 _ _).trans (teq hc17).1) (by decide) (by decide) ?_
                    show Steps p.tables e below (s₁.setTop (mkF m 88 #[.val (.int p0), .val (.int p1), .val (.int p2)] [])) t
                    refine XS.iconst X0.here hx rfl (hb hby d4_88) ?_
                    exact k
                  obtain ⟨fs, hr, hrun, hended, hW, hsame⟩ := X0.leave (v := some (.int (4 : Int32))) (fun h => by rw [Bd.returns] at h; cases h)
                  refine Goes.mk _ _ ?_ ⟨hrun, hended, _, _, rfl, ?_, ⟨_, rfl⟩, hW, hsame.mono (by decide) (by decide)⟩
                  · exact retI X0 hx Bd.returns (hb hby d4_89) hr
                  · show Q4 Z p0 p1 p2 h0 n0 _ s₁.heap _
                    rw [e0]
                    exact ⟨(by simp only [f4, if_neg hc1, if_neg hc3, if_neg hc5, if_neg hc6, if_neg hc14, if_neg hc15, if_pos hc16, if_pos hc17]), N0, rfl⟩
                · refine Goes.by (B := s₁.setTop (mkF m 87 #[.val (.int p0), .val (.int p1), .val (.int p2)] [(.int (0 : Int32))])) (fun t k => ?_) ?_
                  · show Steps p.tables e below (s₁.setTop (mkF m 83 #[.val (.int p0), .val (.int p1), .val (.int p2)] [(.int p1)])) t
                    refine XS.ifNo X0.here hx rfl (hb hby d4_83) rfl ((if0 _ _).trans (feq hc17).1) ?_
                    show Steps p.tables e below (s₁.setTop (mkF m 86 #[.val (.int p0), .val (.int p1), .val (.int p2)] [])) t
                    refine XS.iconst X0.here hx rfl (hb hby d4_86) ?_
                    exact k
                  obtain ⟨fs, hr, hrun, hended, hW, hsame⟩ := X0.leave (v := some (.int (0 : Int32))) (fun h => by rw [Bd.returns] at h; cases h)
                  refine Goes.mk _ _ ?_ ⟨hrun, hended, _, _, rfl, ?_, ⟨_, rfl⟩, hW, hsame.mono (by decide) (by decide)⟩
                  · exact retI X0 hx Bd.returns (hb hby d4_87) hr
                  · show Q4 Z p0 p1 p2 h0 n0 _ s₁.heap _
                    rw [e0]
                    exact ⟨(by simp only [f4, if_neg hc1, if_neg hc3, if_neg hc5, if_neg hc6, if_neg hc14, if_neg hc15, if_pos hc16, if_neg hc17]), N0, rfl⟩
              · refine Goes.by (B := s₁.setTop (mkF m 91 #[.val (.int p0), .val (.int p1), .val (.int p2)] [(.int (0 : Int32))])) (fun t k => ?_) ?_
                · show Steps p.tables e below (s₁.setTop (mkF m 79 #[.val (.int p0), .val (.int p1), .val (.int p2)] [(.int (245 : Int32)), (.int p0)])) t
                  refine XS.icmpYes X0.here hx rfl (pc0 := 79) (pc' := 90) rfl (hb hby d4_79) rfl (flt hc16).2.1 (by decide) (by decide) ?_
                  show Steps p.tables e below (s₁.setTop (mkF m 90 #[.val (.int p0), .val (.int p1), .val (.int p2)] [])) t
                  refine XS.iconst X0.here hx rfl (hb hby d4_90) ?_
                  exact k
                obtain ⟨fs, hr, hrun, hended, hW, hsame⟩ := X0.leave (v := some (.int (0 : Int32))) (fun h => by rw [Bd.returns] at h; cases h)
                refine Goes.mk _ _ ?_ ⟨hrun, hended, _, _, rfl, ?_, ⟨_, rfl⟩, hW, hsame.mono (by decide) (by decide)⟩
                · exact retI X0 hx Bd.returns (hb hby d4_91) hr
                · show Q4 Z p0 p1 p2 h0 n0 _ s₁.heap _
                  rw [e0]
                  exact ⟨(by simp only [f4, if_neg hc1, if_neg hc3, if_neg hc5, if_neg hc6, if_neg hc14, if_neg hc15, if_neg hc16]), N0, rfl⟩
theorem own_i8 (v : Int32) : (v.toInt8.toInt32 &&& (255 : Int32)) = (v &&& (255 : Int32)) := by
  have h := c_i2b v
  have m1 := c_mask (v.toInt8.toInt32) (255 : Int32) 8 (by decide) (by decide)
  have m2 := c_mask v (255 : Int32) 8 (by decide) (by decide)
  apply Int32.toInt_inj.mp
  rw [m1, m2]
  have e : ((2 ^ 8 : Nat) : Int) = 256 := rfl
  rw [e]; omega
theorem own_fin (v : Int32) : ∃ k : Fin 256, (v &&& (255 : Int32)) = Int32.ofInt (k.val : Int) := by
  have m2 := c_mask v (255 : Int32) 8 (by decide) (by decide)
  have e : ((2 ^ 8 : Nat) : Int) = 256 := rfl
  rw [e] at m2
  have hlt : (v.toInt % 256).toNat < 256 := by omega
  refine ⟨⟨(v.toInt % 256).toNat, hlt⟩, ?_⟩
  rw [← Int32.ofInt_toInt (v &&& (255 : Int32)), m2]
  congr 1
  show v.toInt % 256 = (((v.toInt % 256).toNat : Nat) : Int)
  omega
theorem own_tab : ∀ k : Fin 256, (∀ s : Fin 2, ∀ n : Fin 2, f4 (Int32.ofInt (k.val : Int)) (Int32.ofInt (s.val : Int)) (Int32.ofInt (n.val : Int)) = (fun u w1 w2 : Int32 => (if (127 : Int32) < u then (if u < (194 : Int32) then (if u = (192 : Int32) then (if w2 = (0 : Int32) then (0 : Int32) else (2 : Int32)) else (0 : Int32)) else (if (223 : Int32) < u then (if (239 : Int32) < u then (if (244 : Int32) < u then (0 : Int32) else (if w1 = (0 : Int32) then (4 : Int32) else (0 : Int32))) else (3 : Int32)) else (2 : Int32))) else (if u = (0 : Int32) then (if w2 = (0 : Int32) then (1 : Int32) else (0 : Int32)) else (1 : Int32)))) (Int32.ofInt (k.val : Int)) (Int32.ofInt (s.val : Int)) (Int32.ofInt (n.val : Int))) := by decide +kernel
theorem own_law (v s n : Int32) (hs : s = 0 ∨ s = 1) (hn : n = 0 ∨ n = 1) : f3 (v.toInt8.toInt32) (nar .boolean s) (nar .boolean n) = f4 (v &&& 255) s n := by
  obtain ⟨k, hk⟩ := own_fin v
  have e : ∀ w1 w2 : Int32, f3 (v.toInt8.toInt32) w1 w2 = (fun u w1 w2 : Int32 => (if (127 : Int32) < u then (if u < (194 : Int32) then (if u = (192 : Int32) then (if w2 = (0 : Int32) then (0 : Int32) else (2 : Int32)) else (0 : Int32)) else (if (223 : Int32) < u then (if (239 : Int32) < u then (if (244 : Int32) < u then (0 : Int32) else (if w1 = (0 : Int32) then (4 : Int32) else (0 : Int32))) else (3 : Int32)) else (2 : Int32))) else (if u = (0 : Int32) then (if w2 = (0 : Int32) then (1 : Int32) else (0 : Int32)) else (1 : Int32)))) (v &&& (255 : Int32)) w1 w2 := fun w1 w2 => by simp only [f3, own_i8]
  have s0 : nar .boolean (0 : Int32) = Int32.ofInt (((0 : Fin 2).val : Nat) : Int) := by decide
  have s1 : nar .boolean (1 : Int32) = Int32.ofInt (((1 : Fin 2).val : Nat) : Int) := by decide
  have t0 : (0 : Int32) = Int32.ofInt (((0 : Fin 2).val : Nat) : Int) := by decide
  have t1 : (1 : Int32) = Int32.ofInt (((1 : Fin 2).val : Nat) : Int) := by decide
  rw [e, hk]
  rcases hs with rfl | rfl <;> rcases hn with rfl | rfl
  · exact (own_tab k 0 0).symm
  · exact (own_tab k 0 1).symm
  · exact (own_tab k 1 0).symm
  · exact (own_tab k 1 1).symm
theorem own_01 (c : Prop) [Decidable c] : (if c then (0 : Int32) else 1) = 0 ∨ (if c then (0 : Int32) else 1) = 1 := by
  by_cases h : c
  · exact Or.inl (if_pos h)
  · exact Or.inr (if_neg h)
theorem own_pd0 : parseMethodDescriptor "(ZZZ)V" = some ⟨[.boolean, .boolean, .boolean], none⟩ := by decide +kernel
theorem own_pd1 : parseMethodDescriptor "(B)I" = some ⟨[.byte], some .int⟩ := by decide +kernel
theorem own_pd2 : parseMethodDescriptor "(IZZ)I" = some ⟨[.int, .boolean, .boolean], some .int⟩ := by decide +kernel
def Q0 (Z : State) (p0 : Int32) (p1 : Int32) (h0 : Heap) (n0 : Nat) (v : Option Value) (h : Heap) (L : List Loc) : Prop := v = some (.int 1) ∧ Fr n0 L
theorem ef0 (m : MethodId) (x0 : Int32) (x1 : Int32) : entryFrame m #[(.int x0), (.int x1)] maxLocals = mkF m 0 #[.val (.int x0), .val (.int x1), .unset, .unset, .unset, .unset, .unset, .unset] [] := by first | (simp [entryFrame, mkF, argsToLocals, Value.category, maxLocals]; done) | rfl
set_option maxRecDepth 65536 in
set_option maxHeartbeats 40000000 in
theorem rm0 (l : Launch) (Z : State) (a0 : Array Value) (hw : ∀ d ∈ tables_1, d.before a0 Z = true) (ws : List Jvm.Cond) (p0 : Int32) (p1 : Int32) (h0 : Heap) (n0 : Nat) (Z0 : n0 ≤ h0.size) :
    MetFree l x (head1 (Jvm.Cond.code x code maxLocals ret :: ws) room_1) (fun a U => a = #[(.int p0), (.int p1)] ∧ Z.Warmed39 U.vm ∧ U.heap = h0) (fun _ _ _ _ _ => True) (fun _ U o U' => ∃ v L, o = .returned v ∧ Q0 Z p0 p1 h0 n0 v U'.heap L ∧ FrameEnd U o U' L 1 3) := by
  refine MetFree.of_bodySF (plainFor_of_name own_pn_com_example_bare_octets_bareoctets_codec_WellFormedSequencesLengthPinLaw) hisR ?_
  intro p e s m args below meth c s₁ Bd hml0 hP hK
  obtain ⟨rfl, hZ, hh⟩ := hP
  have hx := Bd.exec
  have hby := Bd.bytes
  have hml : c.maxLocals = 8 := hml0
  have hown : s.vm.findClass "com/example/bare_octets/bareoctets/codec/WellFormedSequencesLengthPinLaw" = some m.cls := findClass_of_methodNamed Bd.named
  have hnm := (name_of_methodNamed Bd.named Bd.method).1
  have X0 : Stand p l e room_1 s m #[(.int p0), (.int p1)] below meth c s₁ [] 0 0 := Stand.of_body Bd
  have e0 : s₁.heap = h0 := by rw [← hh, Bd.state]; rfl
  have N0 := Fr.nil n0
  have Kp0 : Keep h0 h0 [] := Keep.refl _ _
  refine Goes.start ?_
  refine Goes.by (B := s₁.setTop (mkF m 0 #[.val (.int p0), .val (.int p1), .unset, .unset, .unset, .unset, .unset, .unset] [])) (fun t k => castTop (ef0 m p0 p1) k) ?_
  refine Goes.by (B := s₁.setTop (mkF m 3 #[.val (.int p0), .val (.int p1), .unset, .unset, .unset, .unset, .unset, .unset] [(.int (p1 &&& (1 : Int32)))])) (fun t k => ?_) ?_
  · show Steps p.tables e below (s₁.setTop (mkF m 0 #[.val (.int p0), .val (.int p1), .unset, .unset, .unset, .unset, .unset, .unset] [])) t
    refine XS.iloadN X0.here hx rfl (hb hby at_0) rfl ?_
    show Steps p.tables e below (s₁.setTop (mkF m 1 #[.val (.int p0), .val (.int p1), .unset, .unset, .unset, .unset, .unset, .unset] [(.int p1)])) t
    refine XS.iconst X0.here hx rfl (hb hby at_1) ?_
    show Steps p.tables e below (s₁.setTop (mkF m 2 #[.val (.int p0), .val (.int p1), .unset, .unset, .unset, .unset, .unset, .unset] [(.int (1 : Int32)), (.int p1)])) t
    refine XS.iand X0.here hx rfl (hb hby at_2) rfl ?_
    exact k
  refine Goes.by (B := s₁.setTop (mkF m 11 #[.val (.int p0), .val (.int p1), .unset, .unset, .unset, .unset, .unset, .unset] [(.int (if (p1 &&& (1 : Int32)) = (0 : Int32) then (0 : Int32) else (1 : Int32)))])) (fun t k => ?_) ?_
  · by_cases hm1 : (p1 &&& (1 : Int32)) = (0 : Int32)
    · simp only [if_pos hm1] at k
      show Steps p.tables e below (s₁.setTop (mkF m 3 #[.val (.int p0), .val (.int p1), .unset, .unset, .unset, .unset, .unset, .unset] [(.int (p1 &&& (1 : Int32)))])) t
      refine XS.ifYes X0.here hx rfl (pc0 := 3) (pc' := 10) rfl (hb hby at_3) rfl ((if0 _ _).trans (teq hm1).1) (by decide) (by decide) ?_
      show Steps p.tables e below (s₁.setTop (mkF m 10 #[.val (.int p0), .val (.int p1), .unset, .unset, .unset, .unset, .unset, .unset] [])) t
      refine XS.iconst X0.here hx rfl (hb hby at_10) ?_
      exact k
    · simp only [if_neg hm1] at k
      show Steps p.tables e below (s₁.setTop (mkF m 3 #[.val (.int p0), .val (.int p1), .unset, .unset, .unset, .unset, .unset, .unset] [(.int (p1 &&& (1 : Int32)))])) t
      refine XS.ifNo X0.here hx rfl (hb hby at_3) rfl ((if0 _ _).trans (feq hm1).1) ?_
      show Steps p.tables e below (s₁.setTop (mkF m 6 #[.val (.int p0), .val (.int p1), .unset, .unset, .unset, .unset, .unset, .unset] [])) t
      refine XS.iconst X0.here hx rfl (hb hby at_6) ?_
      show Steps p.tables e below (s₁.setTop (mkF m 7 #[.val (.int p0), .val (.int p1), .unset, .unset, .unset, .unset, .unset, .unset] [(.int (1 : Int32))])) t
      refine XS.goto X0.here hx rfl (pc0 := 7) (pc' := 11) rfl (hb hby at_7) (by decide) (by decide) ?_
      exact k
  refine Goes.by (B := s₁.setTop (mkF m 15 #[.val (.int p0), .val (.int p1), .val (.int (if (p1 &&& (1 : Int32)) = (0 : Int32) then (0 : Int32) else (1 : Int32))), .unset, .unset, .unset, .unset, .unset] [(.int (p1 &&& (2 : Int32)))])) (fun t k => ?_) ?_
  · show Steps p.tables e below (s₁.setTop (mkF m 11 #[.val (.int p0), .val (.int p1), .unset, .unset, .unset, .unset, .unset, .unset] [(.int (if (p1 &&& (1 : Int32)) = (0 : Int32) then (0 : Int32) else (1 : Int32)))])) t
    refine XS.istoreN X0.here hx rfl (hb hby at_11) rfl (l' := #[.val (.int p0), .val (.int p1), .val (.int (if (p1 &&& (1 : Int32)) = (0 : Int32) then (0 : Int32) else (1 : Int32))), .unset, .unset, .unset, .unset, .unset]) rfl ?_
    show Steps p.tables e below (s₁.setTop (mkF m 12 #[.val (.int p0), .val (.int p1), .val (.int (if (p1 &&& (1 : Int32)) = (0 : Int32) then (0 : Int32) else (1 : Int32))), .unset, .unset, .unset, .unset, .unset] [])) t
    refine XS.iloadN X0.here hx rfl (hb hby at_12) rfl ?_
    show Steps p.tables e below (s₁.setTop (mkF m 13 #[.val (.int p0), .val (.int p1), .val (.int (if (p1 &&& (1 : Int32)) = (0 : Int32) then (0 : Int32) else (1 : Int32))), .unset, .unset, .unset, .unset, .unset] [(.int p1)])) t
    refine XS.iconst X0.here hx rfl (hb hby at_13) ?_
    show Steps p.tables e below (s₁.setTop (mkF m 14 #[.val (.int p0), .val (.int p1), .val (.int (if (p1 &&& (1 : Int32)) = (0 : Int32) then (0 : Int32) else (1 : Int32))), .unset, .unset, .unset, .unset, .unset] [(.int (2 : Int32)), (.int p1)])) t
    refine XS.iand X0.here hx rfl (hb hby at_14) rfl ?_
    exact k
  refine Goes.by (B := s₁.setTop (mkF m 23 #[.val (.int p0), .val (.int p1), .val (.int (if (p1 &&& (1 : Int32)) = (0 : Int32) then (0 : Int32) else (1 : Int32))), .unset, .unset, .unset, .unset, .unset] [(.int (if (p1 &&& (2 : Int32)) = (0 : Int32) then (0 : Int32) else (1 : Int32)))])) (fun t k => ?_) ?_
  · by_cases hm2 : (p1 &&& (2 : Int32)) = (0 : Int32)
    · simp only [if_pos hm2] at k
      show Steps p.tables e below (s₁.setTop (mkF m 15 #[.val (.int p0), .val (.int p1), .val (.int (if (p1 &&& (1 : Int32)) = (0 : Int32) then (0 : Int32) else (1 : Int32))), .unset, .unset, .unset, .unset, .unset] [(.int (p1 &&& (2 : Int32)))])) t
      refine XS.ifYes X0.here hx rfl (pc0 := 15) (pc' := 22) rfl (hb hby at_15) rfl ((if0 _ _).trans (teq hm2).1) (by decide) (by decide) ?_
      show Steps p.tables e below (s₁.setTop (mkF m 22 #[.val (.int p0), .val (.int p1), .val (.int (if (p1 &&& (1 : Int32)) = (0 : Int32) then (0 : Int32) else (1 : Int32))), .unset, .unset, .unset, .unset, .unset] [])) t
      refine XS.iconst X0.here hx rfl (hb hby at_22) ?_
      exact k
    · simp only [if_neg hm2] at k
      show Steps p.tables e below (s₁.setTop (mkF m 15 #[.val (.int p0), .val (.int p1), .val (.int (if (p1 &&& (1 : Int32)) = (0 : Int32) then (0 : Int32) else (1 : Int32))), .unset, .unset, .unset, .unset, .unset] [(.int (p1 &&& (2 : Int32)))])) t
      refine XS.ifNo X0.here hx rfl (hb hby at_15) rfl ((if0 _ _).trans (feq hm2).1) ?_
      show Steps p.tables e below (s₁.setTop (mkF m 18 #[.val (.int p0), .val (.int p1), .val (.int (if (p1 &&& (1 : Int32)) = (0 : Int32) then (0 : Int32) else (1 : Int32))), .unset, .unset, .unset, .unset, .unset] [])) t
      refine XS.iconst X0.here hx rfl (hb hby at_18) ?_
      show Steps p.tables e below (s₁.setTop (mkF m 19 #[.val (.int p0), .val (.int p1), .val (.int (if (p1 &&& (1 : Int32)) = (0 : Int32) then (0 : Int32) else (1 : Int32))), .unset, .unset, .unset, .unset, .unset] [(.int (1 : Int32))])) t
      refine XS.goto X0.here hx rfl (pc0 := 19) (pc' := 23) rfl (hb hby at_19) (by decide) (by decide) ?_
      exact k
  refine Goes.by (B := s₁.setTop (mkF m 27 #[.val (.int p0), .val (.int p1), .val (.int (if (p1 &&& (1 : Int32)) = (0 : Int32) then (0 : Int32) else (1 : Int32))), .val (.int (if (p1 &&& (2 : Int32)) = (0 : Int32) then (0 : Int32) else (1 : Int32))), .unset, .unset, .unset, .unset] [(.int (p1 &&& (4 : Int32)))])) (fun t k => ?_) ?_
  · show Steps p.tables e below (s₁.setTop (mkF m 23 #[.val (.int p0), .val (.int p1), .val (.int (if (p1 &&& (1 : Int32)) = (0 : Int32) then (0 : Int32) else (1 : Int32))), .unset, .unset, .unset, .unset, .unset] [(.int (if (p1 &&& (2 : Int32)) = (0 : Int32) then (0 : Int32) else (1 : Int32)))])) t
    refine XS.istoreN X0.here hx rfl (hb hby at_23) rfl (l' := #[.val (.int p0), .val (.int p1), .val (.int (if (p1 &&& (1 : Int32)) = (0 : Int32) then (0 : Int32) else (1 : Int32))), .val (.int (if (p1 &&& (2 : Int32)) = (0 : Int32) then (0 : Int32) else (1 : Int32))), .unset, .unset, .unset, .unset]) rfl ?_
    show Steps p.tables e below (s₁.setTop (mkF m 24 #[.val (.int p0), .val (.int p1), .val (.int (if (p1 &&& (1 : Int32)) = (0 : Int32) then (0 : Int32) else (1 : Int32))), .val (.int (if (p1 &&& (2 : Int32)) = (0 : Int32) then (0 : Int32) else (1 : Int32))), .unset, .unset, .unset, .unset] [])) t
    refine XS.iloadN X0.here hx rfl (hb hby at_24) rfl ?_
    show Steps p.tables e below (s₁.setTop (mkF m 25 #[.val (.int p0), .val (.int p1), .val (.int (if (p1 &&& (1 : Int32)) = (0 : Int32) then (0 : Int32) else (1 : Int32))), .val (.int (if (p1 &&& (2 : Int32)) = (0 : Int32) then (0 : Int32) else (1 : Int32))), .unset, .unset, .unset, .unset] [(.int p1)])) t
    refine XS.iconst X0.here hx rfl (hb hby at_25) ?_
    show Steps p.tables e below (s₁.setTop (mkF m 26 #[.val (.int p0), .val (.int p1), .val (.int (if (p1 &&& (1 : Int32)) = (0 : Int32) then (0 : Int32) else (1 : Int32))), .val (.int (if (p1 &&& (2 : Int32)) = (0 : Int32) then (0 : Int32) else (1 : Int32))), .unset, .unset, .unset, .unset] [(.int (4 : Int32)), (.int p1)])) t
    refine XS.iand X0.here hx rfl (hb hby at_26) rfl ?_
    exact k
  refine Goes.by (B := s₁.setTop (mkF m 35 #[.val (.int p0), .val (.int p1), .val (.int (if (p1 &&& (1 : Int32)) = (0 : Int32) then (0 : Int32) else (1 : Int32))), .val (.int (if (p1 &&& (2 : Int32)) = (0 : Int32) then (0 : Int32) else (1 : Int32))), .unset, .unset, .unset, .unset] [(.int (if (p1 &&& (4 : Int32)) = (0 : Int32) then (0 : Int32) else (1 : Int32)))])) (fun t k => ?_) ?_
  · by_cases hm3 : (p1 &&& (4 : Int32)) = (0 : Int32)
    · simp only [if_pos hm3] at k
      show Steps p.tables e below (s₁.setTop (mkF m 27 #[.val (.int p0), .val (.int p1), .val (.int (if (p1 &&& (1 : Int32)) = (0 : Int32) then (0 : Int32) else (1 : Int32))), .val (.int (if (p1 &&& (2 : Int32)) = (0 : Int32) then (0 : Int32) else (1 : Int32))), .unset, .unset, .unset, .unset] [(.int (p1 &&& (4 : Int32)))])) t
      refine XS.ifYes X0.here hx rfl (pc0 := 27) (pc' := 34) rfl (hb hby at_27) rfl ((if0 _ _).trans (teq hm3).1) (by decide) (by decide) ?_
      show Steps p.tables e below (s₁.setTop (mkF m 34 #[.val (.int p0), .val (.int p1), .val (.int (if (p1 &&& (1 : Int32)) = (0 : Int32) then (0 : Int32) else (1 : Int32))), .val (.int (if (p1 &&& (2 : Int32)) = (0 : Int32) then (0 : Int32) else (1 : Int32))), .unset, .unset, .unset, .unset] [])) t
      refine XS.iconst X0.here hx rfl (hb hby at_34) ?_
      exact k
    · simp only [if_neg hm3] at k
      show Steps p.tables e below (s₁.setTop (mkF m 27 #[.val (.int p0), .val (.int p1), .val (.int (if (p1 &&& (1 : Int32)) = (0 : Int32) then (0 : Int32) else (1 : Int32))), .val (.int (if (p1 &&& (2 : Int32)) = (0 : Int32) then (0 : Int32) else (1 : Int32))), .unset, .unset, .unset, .unset] [(.int (p1 &&& (4 : Int32)))])) t
      refine XS.ifNo X0.here hx rfl (hb hby at_27) rfl ((if0 _ _).trans (feq hm3).1) ?_
      show Steps p.tables e below (s₁.setTop (mkF m 30 #[.val (.int p0), .val (.int p1), .val (.int (if (p1 &&& (1 : Int32)) = (0 : Int32) then (0 : Int32) else (1 : Int32))), .val (.int (if (p1 &&& (2 : Int32)) = (0 : Int32) then (0 : Int32) else (1 : Int32))), .unset, .unset, .unset, .unset] [])) t
      refine XS.iconst X0.here hx rfl (hb hby at_30) ?_
      show Steps p.tables e below (s₁.setTop (mkF m 31 #[.val (.int p0), .val (.int p1), .val (.int (if (p1 &&& (1 : Int32)) = (0 : Int32) then (0 : Int32) else (1 : Int32))), .val (.int (if (p1 &&& (2 : Int32)) = (0 : Int32) then (0 : Int32) else (1 : Int32))), .unset, .unset, .unset, .unset] [(.int (1 : Int32))])) t
      refine XS.goto X0.here hx rfl (pc0 := 31) (pc' := 35) rfl (hb hby at_31) (by decide) (by decide) ?_
      exact k
  refine Goes.by (B := s₁.setTop (mkF m 37 #[.val (.int p0), .val (.int p1), .val (.int (if (p1 &&& (1 : Int32)) = (0 : Int32) then (0 : Int32) else (1 : Int32))), .val (.int (if (p1 &&& (2 : Int32)) = (0 : Int32) then (0 : Int32) else (1 : Int32))), .val (.int (if (p1 &&& (4 : Int32)) = (0 : Int32) then (0 : Int32) else (1 : Int32))), .unset, .unset, .unset] [])) (fun t k => ?_) ?_
  · show Steps p.tables e below (s₁.setTop (mkF m 35 #[.val (.int p0), .val (.int p1), .val (.int (if (p1 &&& (1 : Int32)) = (0 : Int32) then (0 : Int32) else (1 : Int32))), .val (.int (if (p1 &&& (2 : Int32)) = (0 : Int32) then (0 : Int32) else (1 : Int32))), .unset, .unset, .unset, .unset] [(.int (if (p1 &&& (4 : Int32)) = (0 : Int32) then (0 : Int32) else (1 : Int32)))])) t
    refine XS.istore X0.here hx rfl (hb hby at_35) rfl (l' := #[.val (.int p0), .val (.int p1), .val (.int (if (p1 &&& (1 : Int32)) = (0 : Int32) then (0 : Int32) else (1 : Int32))), .val (.int (if (p1 &&& (2 : Int32)) = (0 : Int32) then (0 : Int32) else (1 : Int32))), .val (.int (if (p1 &&& (4 : Int32)) = (0 : Int32) then (0 : Int32) else (1 : Int32))), .unset, .unset, .unset]) rfl ?_
    exact k
  obtain ⟨T4, h4, X4, e4, E4, A4, D4, -, st4⟩ := newO X0 hx hZ hown (hw _ (List.mem_of_getElem? (i := 0) rfl)) (hw _ (List.mem_of_getElem? (i := 1) rfl)) (hw _ (List.mem_of_getElem? (i := 2) rfl)) e0 (g := (mkF m 37 #[.val (.int p0), .val (.int p1), .val (.int (if (p1 &&& (1 : Int32)) = (0 : Int32) then (0 : Int32) else (1 : Int32))), .val (.int (if (p1 &&& (2 : Int32)) = (0 : Int32) then (0 : Int32) else (1 : Int32))), .val (.int (if (p1 &&& (4 : Int32)) = (0 : Int32) then (0 : Int32) else (1 : Int32))), .unset, .unset, .unset] [])) rfl (hb hby at_37) (by decide) (by decide)
  obtain ⟨b5, g4⟩ : ∃ z, z = h0.size := ⟨_, rfl⟩
  rw [← g4] at A4 D4 st4
  have ge6 : n0 ≤ b5 := Nat.le_trans Z0 (Nat.le_of_eq g4.symm)
  have sz7 : h0.size ≤ b5 := Nat.le_trans Kp0.1 (Nat.le_of_eq g4.symm)
  have f8 : Fld Z h4 b5 "com/example/bare_octets/bareoctets/codec/WellFormedSequences" "surrogateForms" "Z" (.int (0 : Int32)) := D4 (Or.inr (hw _ (List.mem_of_getElem? (i := 10) rfl))) (ty := .boolean) (by decide)
  have f9 : Fld Z h4 b5 "com/example/bare_octets/bareoctets/codec/WellFormedSequences" "nulInTwoBytes" "Z" (.int (0 : Int32)) := D4 (Or.inr (hw _ (List.mem_of_getElem? (i := 12) rfl))) (ty := .boolean) (by decide)
  have f10 : Fld Z h4 b5 "com/example/bare_octets/bareoctets/codec/WellFormedSequences" "surrogatesPair" "Z" (.int (0 : Int32)) := D4 (Or.inr (hw _ (List.mem_of_getElem? (i := 14) rfl))) (ty := .boolean) (by decide)
  have Kp4 : Keep h0 h4 [] := Kp0.ext E4
  have Z11 : n0 ≤ h4.size := Nat.le_trans Z0 E4.1
  refine Goes.by st4 ?_
  show Goes p.tables e below _ (T4.setTop (mkF m 40 #[.val (.int p0), .val (.int p1), .val (.int (if (p1 &&& (1 : Int32)) = (0 : Int32) then (0 : Int32) else (1 : Int32))), .val (.int (if (p1 &&& (2 : Int32)) = (0 : Int32) then (0 : Int32) else (1 : Int32))), .val (.int (if (p1 &&& (4 : Int32)) = (0 : Int32) then (0 : Int32) else (1 : Int32))), .unset, .unset, .unset] [(.ref b5)]))
  refine Goes.by (B := T4.setTop (mkF m 45 #[.val (.int p0), .val (.int p1), .val (.int (if (p1 &&& (1 : Int32)) = (0 : Int32) then (0 : Int32) else (1 : Int32))), .val (.int (if (p1 &&& (2 : Int32)) = (0 : Int32) then (0 : Int32) else (1 : Int32))), .val (.int (if (p1 &&& (4 : Int32)) = (0 : Int32) then (0 : Int32) else (1 : Int32))), .unset, .unset, .unset] [(.int (if (p1 &&& (4 : Int32)) = (0 : Int32) then (0 : Int32) else (1 : Int32))), (.int (if (p1 &&& (2 : Int32)) = (0 : Int32) then (0 : Int32) else (1 : Int32))), (.int (if (p1 &&& (1 : Int32)) = (0 : Int32) then (0 : Int32) else (1 : Int32))), (.ref b5), (.ref b5)])) (fun t k => ?_) ?_
  · show Steps p.tables e below (T4.setTop (mkF m 40 #[.val (.int p0), .val (.int p1), .val (.int (if (p1 &&& (1 : Int32)) = (0 : Int32) then (0 : Int32) else (1 : Int32))), .val (.int (if (p1 &&& (2 : Int32)) = (0 : Int32) then (0 : Int32) else (1 : Int32))), .val (.int (if (p1 &&& (4 : Int32)) = (0 : Int32) then (0 : Int32) else (1 : Int32))), .unset, .unset, .unset] [(.ref b5)])) t
    refine XS.dup X4.here hx rfl (hb hby at_40) rfl rfl ?_
    show Steps p.tables e below (T4.setTop (mkF m 41 #[.val (.int p0), .val (.int p1), .val (.int (if (p1 &&& (1 : Int32)) = (0 : Int32) then (0 : Int32) else (1 : Int32))), .val (.int (if (p1 &&& (2 : Int32)) = (0 : Int32) then (0 : Int32) else (1 : Int32))), .val (.int (if (p1 &&& (4 : Int32)) = (0 : Int32) then (0 : Int32) else (1 : Int32))), .unset, .unset, .unset] [(.ref b5), (.ref b5)])) t
    refine XS.iloadN X4.here hx rfl (hb hby at_41) rfl ?_
    show Steps p.tables e below (T4.setTop (mkF m 42 #[.val (.int p0), .val (.int p1), .val (.int (if (p1 &&& (1 : Int32)) = (0 : Int32) then (0 : Int32) else (1 : Int32))), .val (.int (if (p1 &&& (2 : Int32)) = (0 : Int32) then (0 : Int32) else (1 : Int32))), .val (.int (if (p1 &&& (4 : Int32)) = (0 : Int32) then (0 : Int32) else (1 : Int32))), .unset, .unset, .unset] [(.int (if (p1 &&& (1 : Int32)) = (0 : Int32) then (0 : Int32) else (1 : Int32))), (.ref b5), (.ref b5)])) t
    refine XS.iloadN X4.here hx rfl (hb hby at_42) rfl ?_
    show Steps p.tables e below (T4.setTop (mkF m 43 #[.val (.int p0), .val (.int p1), .val (.int (if (p1 &&& (1 : Int32)) = (0 : Int32) then (0 : Int32) else (1 : Int32))), .val (.int (if (p1 &&& (2 : Int32)) = (0 : Int32) then (0 : Int32) else (1 : Int32))), .val (.int (if (p1 &&& (4 : Int32)) = (0 : Int32) then (0 : Int32) else (1 : Int32))), .unset, .unset, .unset] [(.int (if (p1 &&& (2 : Int32)) = (0 : Int32) then (0 : Int32) else (1 : Int32))), (.int (if (p1 &&& (1 : Int32)) = (0 : Int32) then (0 : Int32) else (1 : Int32))), (.ref b5), (.ref b5)])) t
    refine XS.iload X4.here hx rfl (hb hby at_43) rfl ?_
    exact k
  obtain ⟨_, _, ⟨T12, L12, k12, n12⟩, -, X12, ⟨Lc12, hQ12, l12, y12, z12⟩, st12⟩ := X4.specialBack hx (y := (⟨"com/example/bare_octets/bareoctets/codec/WellFormedSequences", "<init>", "(ZZZ)V"⟩ : MethodName)) rfl hown (mvT hZ (hw _ (List.mem_of_getElem? (i := 3) rfl))) (mvT hZ (hw _ (List.mem_of_getElem? (i := 4) rfl))) (mvT hZ (hw _ (List.mem_of_getElem? (i := 5) rfl))) (by decide) (backOf (W := 1) (rm1 l Z a0 hw [] b5 (if (p1 &&& (1 : Int32)) = (0 : Int32) then (0 : Int32) else (1 : Int32)) (if (p1 &&& (2 : Int32)) = (0 : Int32) then (0 : Int32) else (1 : Int32)) (if (p1 &&& (4 : Int32)) = (0 : Int32) then (0 : Int32) else (1 : Int32)) h4 n0 Z11 A4 f8 f9 f10 ge6) hZ (hw _ (List.mem_of_getElem? (i := 5) rfl)) (hw _ (List.mem_of_getElem? (i := 2) rfl)) (by decide) (by decide)) (g := (mkF m 45 #[.val (.int p0), .val (.int p1), .val (.int (if (p1 &&& (1 : Int32)) = (0 : Int32) then (0 : Int32) else (1 : Int32))), .val (.int (if (p1 &&& (2 : Int32)) = (0 : Int32) then (0 : Int32) else (1 : Int32))), .val (.int (if (p1 &&& (4 : Int32)) = (0 : Int32) then (0 : Int32) else (1 : Int32))), .unset, .unset, .unset] [(.int (if (p1 &&& (4 : Int32)) = (0 : Int32) then (0 : Int32) else (1 : Int32))), (.int (if (p1 &&& (2 : Int32)) = (0 : Int32) then (0 : Int32) else (1 : Int32))), (.int (if (p1 &&& (1 : Int32)) = (0 : Int32) then (0 : Int32) else (1 : Int32))), (.ref b5), (.ref b5)])) rfl (by rw [hml]; rfl) (Steps.refl _) (a := b5) (argsL := [(.int (if (p1 &&& (1 : Int32)) = (0 : Int32) then (0 : Int32) else (1 : Int32))), (.int (if (p1 &&& (2 : Int32)) = (0 : Int32) then (0 : Int32) else (1 : Int32))), (.int (if (p1 &&& (4 : Int32)) = (0 : Int32) then (0 : Int32) else (1 : Int32)))]) (rest := [(.ref b5)]) (lenOf own_pd0 rfl) rfl (by show 2 * 0 + _ ≤ _; exact Nat.le_of_eq rfl) (hb hby at_45) (fun _ _ => ⟨rfl, e4, (by decide : 1 + 0 ≤ _), (by decide : 3 + 0 ≤ _)⟩)
  dsimp only [Pt.U, Pt.locs, Pt.cells, Pt.slots] at X12 l12 y12 z12 st12 hQ12
  subst l12 y12 z12
  obtain ⟨rfl, N12q, K12, f13, f14, f15, f16⟩ := hQ12
  have f17 : Exa Z T12.heap b5 "com/example/bare_octets/bareoctets/codec/WellFormedSequences" := A4.keep K12
  have Kp12 : Keep h0 T12.heap [] := Kp4.trans K12 (allS (Or.inr sz7) all0)
  have Z18 : n0 ≤ T12.heap.size := Nat.le_trans Z11 K12.1
  have N19 := Fr.app N0 N12q
  refine Goes.by (fun _ k => st12.trans k) ?_
  show Goes p.tables e below _ (T12.setTop (mkF m 48 #[.val (.int p0), .val (.int p1), .val (.int (if (p1 &&& (1 : Int32)) = (0 : Int32) then (0 : Int32) else (1 : Int32))), .val (.int (if (p1 &&& (2 : Int32)) = (0 : Int32) then (0 : Int32) else (1 : Int32))), .val (.int (if (p1 &&& (4 : Int32)) = (0 : Int32) then (0 : Int32) else (1 : Int32))), .unset, .unset, .unset] [(.ref b5)]))
  refine Goes.by (B := T12.setTop (mkF m 58 #[.val (.int p0), .val (.int p1), .val (.int (if (p1 &&& (1 : Int32)) = (0 : Int32) then (0 : Int32) else (1 : Int32))), .val (.int (if (p1 &&& (2 : Int32)) = (0 : Int32) then (0 : Int32) else (1 : Int32))), .val (.int (if (p1 &&& (4 : Int32)) = (0 : Int32) then (0 : Int32) else (1 : Int32))), .val (.ref b5), .val (.int (p0.toInt8.toInt32)), .unset] [(.int (p0.toInt8.toInt32)), (.ref b5)])) (fun t k => ?_) ?_
  · show Steps p.tables e below (T12.setTop (mkF m 48 #[.val (.int p0), .val (.int p1), .val (.int (if (p1 &&& (1 : Int32)) = (0 : Int32) then (0 : Int32) else (1 : Int32))), .val (.int (if (p1 &&& (2 : Int32)) = (0 : Int32) then (0 : Int32) else (1 : Int32))), .val (.int (if (p1 &&& (4 : Int32)) = (0 : Int32) then (0 : Int32) else (1 : Int32))), .unset, .unset, .unset] [(.ref b5)])) t
    refine XS.astore X12.here hx rfl (hb hby at_48) rfl rfl (l' := #[.val (.int p0), .val (.int p1), .val (.int (if (p1 &&& (1 : Int32)) = (0 : Int32) then (0 : Int32) else (1 : Int32))), .val (.int (if (p1 &&& (2 : Int32)) = (0 : Int32) then (0 : Int32) else (1 : Int32))), .val (.int (if (p1 &&& (4 : Int32)) = (0 : Int32) then (0 : Int32) else (1 : Int32))), .val (.ref b5), .unset, .unset]) rfl ?_
    show Steps p.tables e below (T12.setTop (mkF m 50 #[.val (.int p0), .val (.int p1), .val (.int (if (p1 &&& (1 : Int32)) = (0 : Int32) then (0 : Int32) else (1 : Int32))), .val (.int (if (p1 &&& (2 : Int32)) = (0 : Int32) then (0 : Int32) else (1 : Int32))), .val (.int (if (p1 &&& (4 : Int32)) = (0 : Int32) then (0 : Int32) else (1 : Int32))), .val (.ref b5), .unset, .unset] [])) t
    refine XS.iloadN X12.here hx rfl (hb hby at_50) rfl ?_
    show Steps p.tables e below (T12.setTop (mkF m 51 #[.val (.int p0), .val (.int p1), .val (.int (if (p1 &&& (1 : Int32)) = (0 : Int32) then (0 : Int32) else (1 : Int32))), .val (.int (if (p1 &&& (2 : Int32)) = (0 : Int32) then (0 : Int32) else (1 : Int32))), .val (.int (if (p1 &&& (4 : Int32)) = (0 : Int32) then (0 : Int32) else (1 : Int32))), .val (.ref b5), .unset, .unset] [(.int p0)])) t
    refine XS.i2b X12.here hx rfl (hb hby at_51) rfl ?_
    show Steps p.tables e below (T12.setTop (mkF m 52 #[.val (.int p0), .val (.int p1), .val (.int (if (p1 &&& (1 : Int32)) = (0 : Int32) then (0 : Int32) else (1 : Int32))), .val (.int (if (p1 &&& (2 : Int32)) = (0 : Int32) then (0 : Int32) else (1 : Int32))), .val (.int (if (p1 &&& (4 : Int32)) = (0 : Int32) then (0 : Int32) else (1 : Int32))), .val (.ref b5), .unset, .unset] [(.int (p0.toInt8.toInt32))])) t
    refine XS.istore X12.here hx rfl (hb hby at_52) rfl (l' := #[.val (.int p0), .val (.int p1), .val (.int (if (p1 &&& (1 : Int32)) = (0 : Int32) then (0 : Int32) else (1 : Int32))), .val (.int (if (p1 &&& (2 : Int32)) = (0 : Int32) then (0 : Int32) else (1 : Int32))), .val (.int (if (p1 &&& (4 : Int32)) = (0 : Int32) then (0 : Int32) else (1 : Int32))), .val (.ref b5), .val (.int (p0.toInt8.toInt32)), .unset]) rfl ?_
    show Steps p.tables e below (T12.setTop (mkF m 54 #[.val (.int p0), .val (.int p1), .val (.int (if (p1 &&& (1 : Int32)) = (0 : Int32) then (0 : Int32) else (1 : Int32))), .val (.int (if (p1 &&& (2 : Int32)) = (0 : Int32) then (0 : Int32) else (1 : Int32))), .val (.int (if (p1 &&& (4 : Int32)) = (0 : Int32) then (0 : Int32) else (1 : Int32))), .val (.ref b5), .val (.int (p0.toInt8.toInt32)), .unset] [])) t
    refine XS.aload X12.here hx rfl (hb hby at_54) rfl rfl ?_
    show Steps p.tables e below (T12.setTop (mkF m 56 #[.val (.int p0), .val (.int p1), .val (.int (if (p1 &&& (1 : Int32)) = (0 : Int32) then (0 : Int32) else (1 : Int32))), .val (.int (if (p1 &&& (2 : Int32)) = (0 : Int32) then (0 : Int32) else (1 : Int32))), .val (.int (if (p1 &&& (4 : Int32)) = (0 : Int32) then (0 : Int32) else (1 : Int32))), .val (.ref b5), .val (.int (p0.toInt8.toInt32)), .unset] [(.ref b5)])) t
    refine XS.iload X12.here hx rfl (hb hby at_56) rfl ?_
    exact k
  obtain ⟨cq20, kq20, q20a, q20b, q20c⟩ := isOf hZ rfl f13
  obtain ⟨_, _, ⟨T20, L20, k20, n20⟩, -, X20, ⟨Lc20, hQ20, l20, y20, z20⟩, st20⟩ := X12.virtualBack hx (y := (⟨"com/example/bare_octets/bareoctets/codec/WellFormedSequences", "length", "(B)I"⟩ : MethodName)) (z := (⟨"com/example/bare_octets/bareoctets/codec/WellFormedSequences", "length", "(B)I"⟩ : MethodName)) hown (mvT hZ (hw _ (List.mem_of_getElem? (i := 15) rfl))) (mvT hZ (hw _ (List.mem_of_getElem? (i := 16) rfl))) (notFace_of_selects (args := #[]) (mvT hZ (hw _ (List.mem_of_getElem? (i := 18) rfl)))) (mvT hZ (hw _ (List.mem_of_getElem? (i := 18) rfl))) (mvT hZ (hw _ (List.mem_of_getElem? (i := 17) rfl))) (by decide) (backOf (W := 0) (rm3 l Z a0 hw [] b5 (p0.toInt8.toInt32) (nar .boolean (if (p1 &&& (1 : Int32)) = (0 : Int32) then (0 : Int32) else (1 : Int32))) (nar .boolean (if (p1 &&& (2 : Int32)) = (0 : Int32) then (0 : Int32) else (1 : Int32))) T12.heap n0 Z18 f14 f15) hZ (hw _ (List.mem_of_getElem? (i := 19) rfl)) (hw _ (List.mem_of_getElem? (i := 2) rfl)) (by decide) (by decide)) q20a q20c (g := (mkF m 58 #[.val (.int p0), .val (.int p1), .val (.int (if (p1 &&& (1 : Int32)) = (0 : Int32) then (0 : Int32) else (1 : Int32))), .val (.int (if (p1 &&& (2 : Int32)) = (0 : Int32) then (0 : Int32) else (1 : Int32))), .val (.int (if (p1 &&& (4 : Int32)) = (0 : Int32) then (0 : Int32) else (1 : Int32))), .val (.ref b5), .val (.int (p0.toInt8.toInt32)), .unset] [(.int (p0.toInt8.toInt32)), (.ref b5)])) rfl (by rw [hml]; rfl) (Steps.refl _) (argsL := [(.int (p0.toInt8.toInt32))]) (rest := []) (lenOf own_pd1 rfl) rfl (by show 2 * 0 + _ ≤ _; exact Nat.le_of_eq rfl) (hb hby at_58) (fun _ _ => ⟨rfl, rfl, (by decide : 1 + 0 ≤ _), (by decide : 3 + 0 ≤ _)⟩)
  dsimp only [Pt.U, Pt.locs, Pt.cells, Pt.slots] at X20 l20 y20 z20 st20 hQ20
  subst l20 y20 z20
  obtain ⟨rfl, N20q, e20⟩ := hQ20
  have N21 := Fr.app N19 N20q
  refine Goes.by (fun _ k => st20.trans k) ?_
  show Goes p.tables e below _ (T20.setTop (mkF m 61 #[.val (.int p0), .val (.int p1), .val (.int (if (p1 &&& (1 : Int32)) = (0 : Int32) then (0 : Int32) else (1 : Int32))), .val (.int (if (p1 &&& (2 : Int32)) = (0 : Int32) then (0 : Int32) else (1 : Int32))), .val (.int (if (p1 &&& (4 : Int32)) = (0 : Int32) then (0 : Int32) else (1 : Int32))), .val (.ref b5), .val (.int (p0.toInt8.toInt32)), .unset] [(.int (f3 (p0.toInt8.toInt32) (nar .boolean (if (p1 &&& (1 : Int32)) = (0 : Int32) then (0 : Int32) else (1 : Int32))) (nar .boolean (if (p1 &&& (2 : Int32)) = (0 : Int32) then (0 : Int32) else (1 : Int32)))))]))
  refine Goes.by (B := T20.setTop (mkF m 72 #[.val (.int p0), .val (.int p1), .val (.int (if (p1 &&& (1 : Int32)) = (0 : Int32) then (0 : Int32) else (1 : Int32))), .val (.int (if (p1 &&& (2 : Int32)) = (0 : Int32) then (0 : Int32) else (1 : Int32))), .val (.int (if (p1 &&& (4 : Int32)) = (0 : Int32) then (0 : Int32) else (1 : Int32))), .val (.ref b5), .val (.int (p0.toInt8.toInt32)), .val (.int (f3 (p0.toInt8.toInt32) (nar .boolean (if (p1 &&& (1 : Int32)) = (0 : Int32) then (0 : Int32) else (1 : Int32))) (nar .boolean (if (p1 &&& (2 : Int32)) = (0 : Int32) then (0 : Int32) else (1 : Int32)))))] [(.int (if (p1 &&& (2 : Int32)) = (0 : Int32) then (0 : Int32) else (1 : Int32))), (.int (if (p1 &&& (1 : Int32)) = (0 : Int32) then (0 : Int32) else (1 : Int32))), (.int (p0 &&& (255 : Int32))), (.int (f3 (p0.toInt8.toInt32) (nar .boolean (if (p1 &&& (1 : Int32)) = (0 : Int32) then (0 : Int32) else (1 : Int32))) (nar .boolean (if (p1 &&& (2 : Int32)) = (0 : Int32) then (0 : Int32) else (1 : Int32)))))])) (fun t k => ?_) ?_
  · show Steps p.tables e below (T20.setTop (mkF m 61 #[.val (.int p0), .val (.int p1), .val (.int (if (p1 &&& (1 : Int32)) = (0 : Int32) then (0 : Int32) else (1 : Int32))), .val (.int (if (p1 &&& (2 : Int32)) = (0 : Int32) then (0 : Int32) else (1 : Int32))), .val (.int (if (p1 &&& (4 : Int32)) = (0 : Int32) then (0 : Int32) else (1 : Int32))), .val (.ref b5), .val (.int (p0.toInt8.toInt32)), .unset] [(.int (f3 (p0.toInt8.toInt32) (nar .boolean (if (p1 &&& (1 : Int32)) = (0 : Int32) then (0 : Int32) else (1 : Int32))) (nar .boolean (if (p1 &&& (2 : Int32)) = (0 : Int32) then (0 : Int32) else (1 : Int32)))))])) t
    refine XS.istore X20.here hx rfl (hb hby at_61) rfl (l' := #[.val (.int p0), .val (.int p1), .val (.int (if (p1 &&& (1 : Int32)) = (0 : Int32) then (0 : Int32) else (1 : Int32))), .val (.int (if (p1 &&& (2 : Int32)) = (0 : Int32) then (0 : Int32) else (1 : Int32))), .val (.int (if (p1 &&& (4 : Int32)) = (0 : Int32) then (0 : Int32) else (1 : Int32))), .val (.ref b5), .val (.int (p0.toInt8.toInt32)), .val (.int (f3 (p0.toInt8.toInt32) (nar .boolean (if (p1 &&& (1 : Int32)) = (0 : Int32) then (0 : Int32) else (1 : Int32))) (nar .boolean (if (p1 &&& (2 : Int32)) = (0 : Int32) then (0 : Int32) else (1 : Int32)))))]) rfl ?_
    show Steps p.tables e below (T20.setTop (mkF m 63 #[.val (.int p0), .val (.int p1), .val (.int (if (p1 &&& (1 : Int32)) = (0 : Int32) then (0 : Int32) else (1 : Int32))), .val (.int (if (p1 &&& (2 : Int32)) = (0 : Int32) then (0 : Int32) else (1 : Int32))), .val (.int (if (p1 &&& (4 : Int32)) = (0 : Int32) then (0 : Int32) else (1 : Int32))), .val (.ref b5), .val (.int (p0.toInt8.toInt32)), .val (.int (f3 (p0.toInt8.toInt32) (nar .boolean (if (p1 &&& (1 : Int32)) = (0 : Int32) then (0 : Int32) else (1 : Int32))) (nar .boolean (if (p1 &&& (2 : Int32)) = (0 : Int32) then (0 : Int32) else (1 : Int32)))))] [])) t
    refine XS.iload X20.here hx rfl (hb hby at_63) rfl ?_
    show Steps p.tables e below (T20.setTop (mkF m 65 #[.val (.int p0), .val (.int p1), .val (.int (if (p1 &&& (1 : Int32)) = (0 : Int32) then (0 : Int32) else (1 : Int32))), .val (.int (if (p1 &&& (2 : Int32)) = (0 : Int32) then (0 : Int32) else (1 : Int32))), .val (.int (if (p1 &&& (4 : Int32)) = (0 : Int32) then (0 : Int32) else (1 : Int32))), .val (.ref b5), .val (.int (p0.toInt8.toInt32)), .val (.int (f3 (p0.toInt8.toInt32) (nar .boolean (if (p1 &&& (1 : Int32)) = (0 : Int32) then (0 : Int32) else (1 : Int32))) (nar .boolean (if (p1 &&& (2 : Int32)) = (0 : Int32) then (0 : Int32) else (1 : Int32)))))] [(.int (f3 (p0.toInt8.toInt32) (nar .boolean (if (p1 &&& (1 : Int32)) = (0 : Int32) then (0 : Int32) else (1 : Int32))) (nar .boolean (if (p1 &&& (2 : Int32)) = (0 : Int32) then (0 : Int32) else (1 : Int32)))))])) t
    refine XS.iloadN X20.here hx rfl (hb hby at_65) rfl ?_
    show Steps p.tables e below (T20.setTop (mkF m 66 #[.val (.int p0), .val (.int p1), .val (.int (if (p1 &&& (1 : Int32)) = (0 : Int32) then (0 : Int32) else (1 : Int32))), .val (.int (if (p1 &&& (2 : Int32)) = (0 : Int32) then (0 : Int32) else (1 : Int32))), .val (.int (if (p1 &&& (4 : Int32)) = (0 : Int32) then (0 : Int32) else (1 : Int32))), .val (.ref b5), .val (.int (p0.toInt8.toInt32)), .val (.int (f3 (p0.toInt8.toInt32) (nar .boolean (if (p1 &&& (1 : Int32)) = (0 : Int32) then (0 : Int32) else (1 : Int32))) (nar .boolean (if (p1 &&& (2 : Int32)) = (0 : Int32) then (0 : Int32) else (1 : Int32)))))] [(.int p0), (.int (f3 (p0.toInt8.toInt32) (nar .boolean (if (p1 &&& (1 : Int32)) = (0 : Int32) then (0 : Int32) else (1 : Int32))) (nar .boolean (if (p1 &&& (2 : Int32)) = (0 : Int32) then (0 : Int32) else (1 : Int32)))))])) t
    refine XS.sipush X20.here hx rfl (hb hby at_66) ?_
    show Steps p.tables e below (T20.setTop (mkF m 69 #[.val (.int p0), .val (.int p1), .val (.int (if (p1 &&& (1 : Int32)) = (0 : Int32) then (0 : Int32) else (1 : Int32))), .val (.int (if (p1 &&& (2 : Int32)) = (0 : Int32) then (0 : Int32) else (1 : Int32))), .val (.int (if (p1 &&& (4 : Int32)) = (0 : Int32) then (0 : Int32) else (1 : Int32))), .val (.ref b5), .val (.int (p0.toInt8.toInt32)), .val (.int (f3 (p0.toInt8.toInt32) (nar .boolean (if (p1 &&& (1 : Int32)) = (0 : Int32) then (0 : Int32) else (1 : Int32))) (nar .boolean (if (p1 &&& (2 : Int32)) = (0 : Int32) then (0 : Int32) else (1 : Int32)))))] [(.int (255 : Int32)), (.int p0), (.int (f3 (p0.toInt8.toInt32) (nar .boolean (if (p1 &&& (1 : Int32)) = (0 : Int32) then (0 : Int32) else (1 : Int32))) (nar .boolean (if (p1 &&& (2 : Int32)) = (0 : Int32) then (0 : Int32) else (1 : Int32)))))])) t
    refine XS.iand X20.here hx rfl (hb hby at_69) rfl ?_
    show Steps p.tables e below (T20.setTop (mkF m 70 #[.val (.int p0), .val (.int p1), .val (.int (if (p1 &&& (1 : Int32)) = (0 : Int32) then (0 : Int32) else (1 : Int32))), .val (.int (if (p1 &&& (2 : Int32)) = (0 : Int32) then (0 : Int32) else (1 : Int32))), .val (.int (if (p1 &&& (4 : Int32)) = (0 : Int32) then (0 : Int32) else (1 : Int32))), .val (.ref b5), .val (.int (p0.toInt8.toInt32)), .val (.int (f3 (p0.toInt8.toInt32) (nar .boolean (if (p1 &&& (1 : Int32)) = (0 : Int32) then (0 : Int32) else (1 : Int32))) (nar .boolean (if (p1 &&& (2 : Int32)) = (0 : Int32) then (0 : Int32) else (1 : Int32)))))] [(.int (p0 &&& (255 : Int32))), (.int (f3 (p0.toInt8.toInt32) (nar .boolean (if (p1 &&& (1 : Int32)) = (0 : Int32) then (0 : Int32) else (1 : Int32))) (nar .boolean (if (p1 &&& (2 : Int32)) = (0 : Int32) then (0 : Int32) else (1 : Int32)))))])) t
    refine XS.iloadN X20.here hx rfl (hb hby at_70) rfl ?_
    show Steps p.tables e below (T20.setTop (mkF m 71 #[.val (.int p0), .val (.int p1), .val (.int (if (p1 &&& (1 : Int32)) = (0 : Int32) then (0 : Int32) else (1 : Int32))), .val (.int (if (p1 &&& (2 : Int32)) = (0 : Int32) then (0 : Int32) else (1 : Int32))), .val (.int (if (p1 &&& (4 : Int32)) = (0 : Int32) then (0 : Int32) else (1 : Int32))), .val (.ref b5), .val (.int (p0.toInt8.toInt32)), .val (.int (f3 (p0.toInt8.toInt32) (nar .boolean (if (p1 &&& (1 : Int32)) = (0 : Int32) then (0 : Int32) else (1 : Int32))) (nar .boolean (if (p1 &&& (2 : Int32)) = (0 : Int32) then (0 : Int32) else (1 : Int32)))))] [(.int (if (p1 &&& (1 : Int32)) = (0 : Int32) then (0 : Int32) else (1 : Int32))), (.int (p0 &&& (255 : Int32))), (.int (f3 (p0.toInt8.toInt32) (nar .boolean (if (p1 &&& (1 : Int32)) = (0 : Int32) then (0 : Int32) else (1 : Int32))) (nar .boolean (if (p1 &&& (2 : Int32)) = (0 : Int32) then (0 : Int32) else (1 : Int32)))))])) t
    refine XS.iloadN X20.here hx rfl (hb hby at_71) rfl ?_
    exact k
  obtain ⟨_, _, ⟨T22, L22, k22, n22⟩, -, X22, ⟨Lc22, hQ22, l22, y22, z22⟩, st22⟩ := Jvm.LawKit.callS X20 hx (y := (⟨"com/example/bare_octets/bareoctets/codec/WellFormedSequencesLengthPinLaw", "expected", "(IZZ)I"⟩ : MethodName)) hown (mvT hZ (hw _ (List.mem_of_getElem? (i := 20) rfl))) (mvT hZ (hw _ (List.mem_of_getElem? (i := 21) rfl))) (mvT hZ (hw _ (List.mem_of_getElem? (i := 22) rfl))) (mvT hZ (hw _ (List.mem_of_getElem? (i := 23) rfl))) (by decide) (backOf (W := 1) (rm4 l Z a0 hw [] (p0 &&& (255 : Int32)) (if (p1 &&& (1 : Int32)) = (0 : Int32) then (0 : Int32) else (1 : Int32)) (if (p1 &&& (2 : Int32)) = (0 : Int32) then (0 : Int32) else (1 : Int32)) T12.heap n0 Z18 ) hZ (hw _ (List.mem_of_getElem? (i := 23) rfl)) (hw _ (List.mem_of_getElem? (i := 22) rfl)) (by decide) (by decide)) (g := (mkF m 72 #[.val (.int p0), .val (.int p1), .val (.int (if (p1 &&& (1 : Int32)) = (0 : Int32) then (0 : Int32) else (1 : Int32))), .val (.int (if (p1 &&& (2 : Int32)) = (0 : Int32) then (0 : Int32) else (1 : Int32))), .val (.int (if (p1 &&& (4 : Int32)) = (0 : Int32) then (0 : Int32) else (1 : Int32))), .val (.ref b5), .val (.int (p0.toInt8.toInt32)), .val (.int (f3 (p0.toInt8.toInt32) (nar .boolean (if (p1 &&& (1 : Int32)) = (0 : Int32) then (0 : Int32) else (1 : Int32))) (nar .boolean (if (p1 &&& (2 : Int32)) = (0 : Int32) then (0 : Int32) else (1 : Int32)))))] [(.int (if (p1 &&& (2 : Int32)) = (0 : Int32) then (0 : Int32) else (1 : Int32))), (.int (if (p1 &&& (1 : Int32)) = (0 : Int32) then (0 : Int32) else (1 : Int32))), (.int (p0 &&& (255 : Int32))), (.int (f3 (p0.toInt8.toInt32) (nar .boolean (if (p1 &&& (1 : Int32)) = (0 : Int32) then (0 : Int32) else (1 : Int32))) (nar .boolean (if (p1 &&& (2 : Int32)) = (0 : Int32) then (0 : Int32) else (1 : Int32)))))])) rfl (by rw [hml]; rfl) (argsL := [(.int (p0 &&& (255 : Int32))), (.int (if (p1 &&& (1 : Int32)) = (0 : Int32) then (0 : Int32) else (1 : Int32))), (.int (if (p1 &&& (2 : Int32)) = (0 : Int32) then (0 : Int32) else (1 : Int32)))]) (rest := [(.int (f3 (p0.toInt8.toInt32) (nar .boolean (if (p1 &&& (1 : Int32)) = (0 : Int32) then (0 : Int32) else (1 : Int32))) (nar .boolean (if (p1 &&& (2 : Int32)) = (0 : Int32) then (0 : Int32) else (1 : Int32)))))]) (lenOf own_pd2 rfl) rfl (by show 2 * 0 + _ ≤ _; exact Nat.le_of_eq rfl) (hb hby at_72) (fun _ _ => ⟨rfl, e20, (by decide : 1 + 0 ≤ _), (by decide : 3 + 0 ≤ _)⟩)
  dsimp only [Pt.U, Pt.locs, Pt.cells, Pt.slots] at X22 l22 y22 z22 st22 hQ22
  subst l22 y22 z22
  obtain ⟨rfl, N22q, e22⟩ := hQ22
  have N23 := Fr.app N21 N22q
  refine Goes.by st22 ?_
  show Goes p.tables e below _ (T22.setTop (mkF m 75 #[.val (.int p0), .val (.int p1), .val (.int (if (p1 &&& (1 : Int32)) = (0 : Int32) then (0 : Int32) else (1 : Int32))), .val (.int (if (p1 &&& (2 : Int32)) = (0 : Int32) then (0 : Int32) else (1 : Int32))), .val (.int (if (p1 &&& (4 : Int32)) = (0 : Int32) then (0 : Int32) else (1 : Int32))), .val (.ref b5), .val (.int (p0.toInt8.toInt32)), .val (.int (f3 (p0.toInt8.toInt32) (nar .boolean (if (p1 &&& (1 : Int32)) = (0 : Int32) then (0 : Int32) else (1 : Int32))) (nar .boolean (if (p1 &&& (2 : Int32)) = (0 : Int32) then (0 : Int32) else (1 : Int32)))))] [(.int (f4 (p0 &&& (255 : Int32)) (if (p1 &&& (1 : Int32)) = (0 : Int32) then (0 : Int32) else (1 : Int32)) (if (p1 &&& (2 : Int32)) = (0 : Int32) then (0 : Int32) else (1 : Int32)))), (.int (f3 (p0.toInt8.toInt32) (nar .boolean (if (p1 &&& (1 : Int32)) = (0 : Int32) then (0 : Int32) else (1 : Int32))) (nar .boolean (if (p1 &&& (2 : Int32)) = (0 : Int32) then (0 : Int32) else (1 : Int32)))))]))
  refine Goes.by (B := T22.setTop (mkF m 83 #[.val (.int p0), .val (.int p1), .val (.int (if (p1 &&& (1 : Int32)) = (0 : Int32) then (0 : Int32) else (1 : Int32))), .val (.int (if (p1 &&& (2 : Int32)) = (0 : Int32) then (0 : Int32) else (1 : Int32))), .val (.int (if (p1 &&& (4 : Int32)) = (0 : Int32) then (0 : Int32) else (1 : Int32))), .val (.ref b5), .val (.int (p0.toInt8.toInt32)), .val (.int (f3 (p0.toInt8.toInt32) (nar .boolean (if (p1 &&& (1 : Int32)) = (0 : Int32) then (0 : Int32) else (1 : Int32))) (nar .boolean (if (p1 &&& (2 : Int32)) = (0 : Int32) then (0 : Int32) else (1 : Int32)))))] [(.int (1 : Int32))])) (fun t k => ?_) ?_
  · show Steps p.tables e below (T22.setTop (mkF m 75 #[.val (.int p0), .val (.int p1), .val (.int (if (p1 &&& (1 : Int32)) = (0 : Int32) then (0 : Int32) else (1 : Int32))), .val (.int (if (p1 &&& (2 : Int32)) = (0 : Int32) then (0 : Int32) else (1 : Int32))), .val (.int (if (p1 &&& (4 : Int32)) = (0 : Int32) then (0 : Int32) else (1 : Int32))), .val (.ref b5), .val (.int (p0.toInt8.toInt32)), .val (.int (f3 (p0.toInt8.toInt32) (nar .boolean (if (p1 &&& (1 : Int32)) = (0 : Int32) then (0 : Int32) else (1 : Int32))) (nar .boolean (if (p1 &&& (2 : Int32)) = (0 : Int32) then (0 : Int32) else (1 : Int32)))))] [(.int (f4 (p0 &&& (255 : Int32)) (if (p1 &&& (1 : Int32)) = (0 : Int32) then (0 : Int32) else (1 : Int32)) (if (p1 &&& (2 : Int32)) = (0 : Int32) then (0 : Int32) else (1 : Int32)))), (.int (f3 (p0.toInt8.toInt32) (nar .boolean (if (p1 &&& (1 : Int32)) = (0 : Int32) then (0 : Int32) else (1 : Int32))) (nar .boolean (if (p1 &&& (2 : Int32)) = (0 : Int32) then (0 : Int32) else (1 : Int32)))))])) t
    refine XS.icmpNo X22.here hx rfl (hb hby at_75) rfl (teq (own_law p0 _ _ (own_01 _) (own_01 _))).2 ?_
    show Steps p.tables e below (T22.setTop (mkF m 78 #[.val (.int p0), .val (.int p1), .val (.int (if (p1 &&& (1 : Int32)) = (0 : Int32) then (0 : Int32) else (1 : Int32))), .val (.int (if (p1 &&& (2 : Int32)) = (0 : Int32) then (0 : Int32) else (1 : Int32))), .val (.int (if (p1 &&& (4 : Int32)) = (0 : Int32) then (0 : Int32) else (1 : Int32))), .val (.ref b5), .val (.int (p0.toInt8.toInt32)), .val (.int (f3 (p0.toInt8.toInt32) (nar .boolean (if (p1 &&& (1 : Int32)) = (0 : Int32) then (0 : Int32) else (1 : Int32))) (nar .boolean (if (p1 &&& (2 : Int32)) = (0 : Int32) then (0 : Int32) else (1 : Int32)))))] [])) t
    refine XS.iconst X22.here hx rfl (hb hby at_78) ?_
    show Steps p.tables e below (T22.setTop (mkF m 79 #[.val (.int p0), .val (.int p1), .val (.int (if (p1 &&& (1 : Int32)) = (0 : Int32) then (0 : Int32) else (1 : Int32))), .val (.int (if (p1 &&& (2 : Int32)) = (0 : Int32) then (0 : Int32) else (1 : Int32))), .val (.int (if (p1 &&& (4 : Int32)) = (0 : Int32) then (0 : Int32) else (1 : Int32))), .val (.ref b5), .val (.int (p0.toInt8.toInt32)), .val (.int (f3 (p0.toInt8.toInt32) (nar .boolean (if (p1 &&& (1 : Int32)) = (0 : Int32) then (0 : Int32) else (1 : Int32))) (nar .boolean (if (p1 &&& (2 : Int32)) = (0 : Int32) then (0 : Int32) else (1 : Int32)))))] [(.int (1 : Int32))])) t
    refine XS.goto X22.here hx rfl (pc0 := 79) (pc' := 83) rfl (hb hby at_79) (by decide) (by decide) ?_
    exact k
  obtain ⟨fs, hr, hrun, hended, hW, hsame⟩ := X22.leave (v := some (.int (1 : Int32))) (fun h => by rw [Bd.returns] at h; cases h)
  refine Goes.mk _ _ ?_ ⟨hrun, hended, _, _, rfl, ?_, ⟨_, rfl⟩, hW, hsame.mono (by decide) (by decide)⟩
  · exact retN X22 hx (t := .boolean) Bd.returns (by simp) (hb hby at_83) hr
  · show Q0 Z p0 p1 h0 n0 _ T22.heap _
    rw [e22]
    exact ⟨rfl, N23⟩
set_option maxRecDepth 65536 in
set_option maxHeartbeats 40000000 in
theorem comes_1 {Post : Tables → Env → Array Value → State → Outcome → State → Prop} (hpost : ∀ tb e args s v u, (limb_1_1.after args s (.returned v) u = true ∧ limb_1_2.after args s (.returned v) u = true ∧ True) → FrameEnd s (.returned v) u (Jvm.fieldLocs frame_1_writes args s ++ Jvm.arrayLocs frame_1_arrays args s ++ Jvm.staticLocs frame_1_statics s) 16 128 → Post tb e args s (.returned v) u) :
    ArmFor flags0 classFile x code maxLocals ret World_1 tables_1 room_1 Calls_1 rest_1 Pre_1 Post := by
  intro l hfl _ _ p e ha hc hk s m args below hf hA hF happ hP
  obtain ⟨hcalls, hrest, hpre⟩ := hP
  obtain ⟨-, -, -, hnamed, -, -, -, hat⟩ := (Spec.applies_iff hf).mp happ
  obtain ⟨hg, hn⟩ := and_e (Cond.before_iff.mp (show (Jvm.Cond.and given_1 narrow_1).before args s = true from hpre))
  obtain ⟨gg1, gg2⟩ := and_e hg
  obtain ⟨gg3, gg4⟩ := and_e gg2
  obtain ⟨w0, w1, rfl⟩ : ∃ w0 w1 : Value, args = #[w0, w1] := by
    have hs : args.size = 2 := by simpa [Cond.value, given_1] using gg1
    obtain ⟨L⟩ := args
    match L, hs with
    | [w0, w1], _ => exact ⟨w0, w1, rfl⟩
  have hw := fun d (hd : d ∈ tables_1) => atoms_spec (ws := Jvm.Cond.code x code maxLocals ret :: tables_1) hat d (List.mem_cons_of_mem _ hd)
  have hfit : Fit s := fun {y c} hc i hi => by
    obtain ⟨ha, rfl⟩ := Array.getElem?_eq_some_iff.mp hc
    have q := List.all_eq_true.mp ((Array.all_eq_true_iff_forall_mem.mp hF) _ (Array.getElem_mem ha)) i (List.mem_range.mpr hi)
    simpa [Array.getElem?_eq_getElem hi] using q
  obtain ⟨i0, ei0⟩ := is_v gg3
  obtain rfl : w0 = (.int i0) := Option.some.inj ei0
  obtain ⟨i1, ei1⟩ := is_v gg4
  obtain rfl : w1 = (.int i1) := Option.some.inj ei1
  obtain ⟨n, o, h1, h2, h3, _, L, rfl, ⟨rfl, N⟩, hq⟩ := rm0 l s _ hw tables_1 i0 i1 s.heap s.heap.size (Nat.le_refl _)  p e ha hc hk s m _ below hf ((Spec.applies_iff_loose hf).mp happ).1 ⟨rfl, State.Warmed39.refl s, rfl⟩ trivial
  refine ⟨n, _, h1, h2, h3, hpost _ _ _ _ _ _ ⟨Cond.after_iff.mpr rfl, Cond.after_iff.mpr (eq_i res_at (Term.int_eval (1)) rfl), trivial⟩ ⟨hq.1, hq.2.1, (hq.2.2.sift fun y hy => Or.inr (N y hy)).mono (by decide) (by decide)⟩⟩
theorem main_1_1 : Claimed_1_1 := comes_1 fun _ _ _ _ _ _ h hF => ⟨h.1, hF⟩
theorem main_1_2 : Claimed_1_2 := comes_1 fun _ _ _ _ _ _ h hF => ⟨h.2.1, hF⟩
end Jvm.Pilot.@@N@@
namespace Jvm.Pilot.@@N@@
open Jvm Jvm.ClassFile Sem Op Lib Jvm.Free Jvm.Stand Jvm.Pilot.@@N@@.Jvm.D
/-! MADE BY PROGRAM (witnessworld.py) out of the Statement's table words and the real class files: 9 classes; the members and pool entries that the words name. The judged class is class 1, her method 1. -/
namespace start1
open Jvm.ClassFile
def u (s : String) : CpInfo := .utf8 (stringToUtf16 s)
/-- a pool by its gaps: so many unusable entries, then the entry; so many at the end -/
def gap : Nat → List CpInfo → List CpInfo
  | 0, r => r
  | n + 1, r => .unusable :: gap n r
def poolList (es : List (Nat × CpInfo)) (last : Nat) : List CpInfo := es.foldr (fun e r => gap e.1 (e.2 :: r)) (gap last [])
def pool (es : List (Nat × CpInfo)) (last : Nat) : Array CpInfo := ⟨poolList es last⟩
def fileOf (pool : Array CpInfo) (this : Nat) (attrs : Array Attribute := #[]) (ms : Array MethodInfo := #[]) (fl : Nat := 33) (sup : Nat := 0) (ifs : Array Nat := #[]) (fds : Array FieldInfo := #[]) : ClassFile where
  minorVersion := 0
  majorVersion := 65
  constantPool := pool
  accessFlags := fl
  thisClass := this
  superClass := sup
  interfaces := ifs
  fields := fds
  methods := ms
  attributes := attrs
def plain (name : String) (sup : Option ClassId) : Class where
  name := name
  kind := .ordinary
  loader := none
  accessFlags := 33
  super := sup
  interfaces := #[]
  cf := none
  fields := #[]
  methods := #[]
  instanceTypes := #[]
  staticTypes := #[]
  resolved := #[]
  callSites := []
  init := .initialized
  statics := none
  mirror := none

def pool0 : Array CpInfo := pool [(5, u "<init>"), (0, u "()V"), (1, .class_ 10), (1, u "java/lang/Object")] 113

def k0c0 : Code := { maxStack := 0, maxLocals := 1, code := object_method_1_code, exceptionTable := #[], attributes := #[] }
def k0m0 : Method := { name := "<init>", desc := "()V", sig := { parameters := [], returnType := none }, accessFlags := 1, code := some k0c0 }
/-- java/lang/Object -/
def k0 : Class := { plain "java/lang/Object" none with
  accessFlags := 33
  interfaces := #[]
  cf := some (fileOf pool0 8 #[] #[{ accessFlags := 1, nameIndex := 5, descriptorIndex := 6, attributes := #[] }] 33 0 #[] #[])
  fields := #[]
  methods := #[k0m0]
  instanceTypes := #[]
  staticTypes := #[]
  resolved := Array.replicate 124 none
  statics := none }

def pool1 : Array CpInfo := pool [(2, .class_ 4), (1, u "java/lang/Object"), (0, u "<init>"), (0, u "()V"), (0, .class_ 8), (0, u "com/example/bare_octets/bareoctets/codec/WellFormedSequences"), (0, .methodref 7 10), (0, .nameAndType 5 11), (0, u "(ZZZ)V"), (0, .methodref 7 13), (0, .nameAndType 14 15), (0, u "length"), (0, u "(B)I"), (0, .methodref 17 18), (0, .class_ 19), (0, .nameAndType 20 21), (0, u "com/example/bare_octets/bareoctets/codec/WellFormedSequencesLengthPinLaw"), (0, u "expected"), (0, u "(IZZ)I"), (2, u "law"), (0, u "(II)Z")] 3

def k1m0 : Method := { name := "<init>", desc := "()V", sig := { parameters := [], returnType := none }, accessFlags := 1, code := none }
def k1c1 : Code := { maxStack := 5, maxLocals := 8, code := code, exceptionTable := #[], attributes := #[] }
def k1m1 : Method := { name := "law", desc := "(II)Z", sig := { parameters := [.int, .int], returnType := some .boolean }, accessFlags := 9, code := some k1c1 }
def k1c2 : Code := { maxStack := 2, maxLocals := 3, code := method_3_code, exceptionTable := #[], attributes := #[] }
def k1m2 : Method := { name := "expected", desc := "(IZZ)I", sig := { parameters := [.int, .boolean, .boolean], returnType := some .int }, accessFlags := 10, code := some k1c2 }
/-- com/example/bare_octets/bareoctets/codec/WellFormedSequencesLengthPinLaw -/
def k1 : Class := { plain "com/example/bare_octets/bareoctets/codec/WellFormedSequencesLengthPinLaw" (some 0) with
  accessFlags := 49
  interfaces := #[]
  cf := some (fileOf pool1 17 #[] #[{ accessFlags := 1, nameIndex := 5, descriptorIndex := 6, attributes := #[] }, { accessFlags := 9, nameIndex := 24, descriptorIndex := 25, attributes := #[] }, { accessFlags := 10, nameIndex := 20, descriptorIndex := 21, attributes := #[] }] 49 2 #[] #[])
  fields := #[]
  methods := #[k1m0, k1m1, k1m2]
  instanceTypes := #[]
  staticTypes := #[]
  resolved := Array.replicate 29 none
  statics := none }

def pool2 : Array CpInfo := pool [(1, .methodref 2 3), (0, .class_ 4), (0, .nameAndType 5 6), (0, u "java/lang/Object"), (0, u "<init>"), (0, u "()V"), (0, .fieldref 8 9), (0, .class_ 10), (0, .nameAndType 11 12), (0, u "com/example/bare_octets/bareoctets/codec/WellFormedSequences"), (0, u "surrogateForms"), (0, u "Z"), (0, .fieldref 8 14), (0, .nameAndType 15 12), (0, u "nulInTwoBytes"), (0, .fieldref 8 17), (0, .nameAndType 18 12), (0, u "surrogatesPair"), (2, u "length"), (0, u "(B)I"), (141, u "LITTLE_ENDIAN_LONGS"), (0, u "Ljava/lang/invoke/VarHandle;"), (7, u "BIG_ENDIAN_INTS"), (4, u "BIG_ENDIAN_CHARS"), (42, u "LONGEST"), (0, u "I"), (2, u "SURROGATE_LEAD"), (0, u "B"), (1, u "FIRST_SURROGATE_SECOND"), (1, u "FIRST_LOW_SURROGATE_SECOND"), (1, u "HIGH_BITS"), (0, u "J"), (0, u "LANE_HIGH_BITS"), (0, u "(ZZZ)V")] 11

def k2c0 : Code := { maxStack := 2, maxLocals := 4, code := prog_20_method_1_code, exceptionTable := #[], attributes := #[] }
def k2m0 : Method := { name := "<init>", desc := "(ZZZ)V", sig := { parameters := [.boolean, .boolean, .boolean], returnType := none }, accessFlags := 0, code := some k2c0 }
def k2c1 : Code := { maxStack := 2, maxLocals := 3, code := prog_20_method_2_code, exceptionTable := #[], attributes := #[] }
def k2m1 : Method := { name := "length", desc := "(B)I", sig := { parameters := [.byte], returnType := some .int }, accessFlags := 1, code := some k2c1 }
/-- com/example/bare_octets/bareoctets/codec/WellFormedSequences -/
def k2 : Class := { plain "com/example/bare_octets/bareoctets/codec/WellFormedSequences" (some 0) with
  accessFlags := 49
  interfaces := #[]
  cf := some (fileOf pool2 8 #[] #[{ accessFlags := 0, nameIndex := 5, descriptorIndex := 235, attributes := #[] }, { accessFlags := 1, nameIndex := 21, descriptorIndex := 22, attributes := #[] }] 49 2 #[] #[{ accessFlags := 25, nameIndex := 221, descriptorIndex := 222, attributes := #[] }, { accessFlags := 26, nameIndex := 225, descriptorIndex := 226, attributes := #[] }, { accessFlags := 26, nameIndex := 228, descriptorIndex := 222, attributes := #[] }, { accessFlags := 26, nameIndex := 230, descriptorIndex := 222, attributes := #[] }, { accessFlags := 26, nameIndex := 164, descriptorIndex := 165, attributes := #[] }, { accessFlags := 26, nameIndex := 173, descriptorIndex := 165, attributes := #[] }, { accessFlags := 26, nameIndex := 178, descriptorIndex := 165, attributes := #[] }, { accessFlags := 26, nameIndex := 232, descriptorIndex := 233, attributes := #[] }, { accessFlags := 26, nameIndex := 234, descriptorIndex := 233, attributes := #[] }, { accessFlags := 18, nameIndex := 11, descriptorIndex := 12, attributes := #[] }, { accessFlags := 18, nameIndex := 15, descriptorIndex := 12, attributes := #[] }, { accessFlags := 18, nameIndex := 18, descriptorIndex := 12, attributes := #[] }])
  fields := #[{ name := "LONGEST", type := .int, accessFlags := 25, slot := 0, constantValue := 0 }, { name := "SURROGATE_LEAD", type := .byte, accessFlags := 26, slot := 1, constantValue := 0 }, { name := "FIRST_SURROGATE_SECOND", type := .int, accessFlags := 26, slot := 2, constantValue := 0 }, { name := "FIRST_LOW_SURROGATE_SECOND", type := .int, accessFlags := 26, slot := 3, constantValue := 0 }, { name := "LITTLE_ENDIAN_LONGS", type := (.object "java/lang/invoke/VarHandle"), accessFlags := 26, slot := 4, constantValue := 0 }, { name := "BIG_ENDIAN_INTS", type := (.object "java/lang/invoke/VarHandle"), accessFlags := 26, slot := 5, constantValue := 0 }, { name := "BIG_ENDIAN_CHARS", type := (.object "java/lang/invoke/VarHandle"), accessFlags := 26, slot := 6, constantValue := 0 }, { name := "HIGH_BITS", type := .long, accessFlags := 26, slot := 7, constantValue := 0 }, { name := "LANE_HIGH_BITS", type := .long, accessFlags := 26, slot := 8, constantValue := 0 }, { name := "surrogateForms", type := .boolean, accessFlags := 18, slot := 0, constantValue := 0 }, { name := "nulInTwoBytes", type := .boolean, accessFlags := 18, slot := 1, constantValue := 0 }, { name := "surrogatesPair", type := .boolean, accessFlags := 18, slot := 2, constantValue := 0 }]
  methods := #[k2m0, k2m1]
  instanceTypes := #[.boolean, .boolean, .boolean]
  staticTypes := #[.int, .byte, .int, .int, (.object "java/lang/invoke/VarHandle"), (.object "java/lang/invoke/VarHandle"), (.object "java/lang/invoke/VarHandle"), .long, .long]
  resolved := Array.replicate 247 none
  statics := none }

def pool3 : Array CpInfo := pool [(1, u "java/lang/Cloneable"), (0, .class_ 1), (0, u "java/lang/Object"), (0, .class_ 3)] 3

/-- java/lang/Cloneable -/
def k3 : Class := { plain "java/lang/Cloneable" (some 0) with
  accessFlags := 1537
  interfaces := #[]
  cf := some (fileOf pool3 2 #[] #[] 1537 4 #[] #[])
  fields := #[]
  methods := #[]
  instanceTypes := #[]
  staticTypes := #[]
  resolved := Array.replicate 8 none
  statics := none }

def pool4 : Array CpInfo := pool [(1, u "java/io/Serializable"), (0, .class_ 1), (0, u "java/lang/Object"), (0, .class_ 3)] 3

/-- java/io/Serializable -/
def k4 : Class := { plain "java/io/Serializable" (some 0) with
  accessFlags := 1537
  interfaces := #[]
  cf := some (fileOf pool4 2 #[] #[] 1537 4 #[] #[])
  fields := #[]
  methods := #[]
  instanceTypes := #[]
  staticTypes := #[]
  resolved := Array.replicate 8 none
  statics := none }

/-- the primitive byte -/
def k5 : Class := { plain "byte" none with kind := .primitive 'B', accessFlags := 0x411 }
/-- [B -/
def k6 : Class := { plain "[B" (some 0) with kind := .array 5 .byte, interfaces := #[3, 4], accessFlags := 1041 }

/-- the primitive int -/
def k7 : Class := { plain "int" none with kind := .primitive 'I', accessFlags := 0x411 }
/-- [I -/
def k8 : Class := { plain "[I" (some 0) with kind := .array 7 .int, interfaces := #[3, 4], accessFlags := 1041 }

def heap : Heap := #[]
def classes : Array Class := #[k0, k1, k2, k3, k4, k5, k6, k7, k8]
def interned : List (Array UInt16 × Addr) := []
def slotsUsed : Nat := 0
def theMethod : MethodId := ⟨1, 1⟩
def args0 : Array Value := #[.int 5, .int 7]
def aboutOver (below : List Frame) : State where
  vm := { classes := classes, interned := interned.toArray }
  heap := heap
  slotsUsed := slotsUsed
  threads := #[{ frames := .invoking theMethod args0 :: below }]
def below0 : List Frame := [.native { method := ⟨0, 0⟩, args := #[] }]
def about1 : State := aboutOver below0
def p0 : Program := .bare "" "" ""
def e0 : Env := launch0.env 0 0 0
theorem w_frames : about1.frames = Frame.invoking theMethod args0 :: below0 := rfl
set_option maxRecDepth 65536 in
theorem w_args : argsFit about1.vm theMethod args0 = true := by decide +kernel
set_option maxRecDepth 65536 in
theorem w_heap : heapFits about1 = true := by decide +kernel
set_option maxRecDepth 65536 in
theorem w_runnable : about1.curStatus? = some .runnable := by decide +kernel
set_option maxRecDepth 65536 in
theorem w_alone : about1.alone = true := by decide +kernel
set_option maxRecDepth 65536 in
theorem w_named : about1.methodNamed? x = some theMethod := by decide +kernel
set_option maxRecDepth 65536 in
theorem w_hears : about1.hears theMethod below0 = true := by decide +kernel
set_option maxRecDepth 65536 in
theorem w_ripe : about1.ripe theMethod args0 below0 = true := by decide +kernel
theorem w_running : about1.status = .running := rfl
set_option maxRecDepth 65536 in
theorem w_room : about1.hasRoom e0.platform room_1 = true :=
  launch0.hasRoom_least _ room_1 (by decide +kernel) (by decide +kernel) (by decide +kernel) (by decide +kernel) (by decide +kernel) (by decide +kernel)
theorem allAtoms_all (ts : List Jvm.Cond) (a : Array Jvm.Value) (st : Jvm.State) : (allAtoms ts).before a st = ts.all (fun c => c.before a st) := by
  induction ts with
  | nil => rfl
  | cons c t ih =>
    show (Jvm.Cond.and c (allAtoms t)).before a st = _
    rw [Jvm.Cond.before_and, ih, List.all_cons]
def words1 : List Jvm.Cond := Jvm.Cond.code x code maxLocals ret :: tables_1
/-- a 'code' word, met by the world's own term for the bytes: nothing is compared byte by byte -/
theorem code_word {y : MethodName} {bytes : ByteArray} {mx : Nat} {rt : Option FieldType} {a : Array Value} {s : State} {m : MethodId} {meth : Method} {c : Code} (h1 : s.methodNamed? y = some m) (h2 : s.vm.method? m = some meth) (h3 : meth.code = some c) (h4 : c.code = bytes)
    (h5 : (c.maxLocals == mx && c.exceptionTable.isEmpty && decide (c.maxStack ≤ mostOperands) && decide (meth.sig.returnType = rt) && !meth.locks && decide (parseMethodDescriptor y.desc = some meth.sig)) = true) : (Jvm.Cond.code y bytes mx rt).before a s = true := by
  simp only [Bool.and_eq_true, beq_iff_eq, Bool.not_eq_true', decide_eq_true_eq] at h5
  obtain ⟨⟨⟨⟨⟨g1, g2⟩, g3⟩, g4⟩, g5⟩, g6⟩ := h5
  simp [Cond.before, Cond.holds, Cond.value, h1, h2, h3, h4, g1, g2, g3, g4, g5, g6]
def isCode : Jvm.Cond → Bool
  | .code _ _ _ _ => true
  | _ => false
theorem all_split {L : List Jvm.Cond} {P : Jvm.Cond → Bool} (h1 : L.all (fun c => isCode c || P c) = true) (h2 : ∀ c ∈ L.filter isCode, P c = true) : L.all P = true := by
  refine List.all_eq_true.mpr fun c hc => ?_
  have h := List.all_eq_true.mp h1 c hc
  rcases Bool.eq_false_or_eq_true (isCode c) with hi | hi
  · exact h2 c (List.mem_filter.mpr ⟨hc, hi⟩)
  · simpa [hi] using h
set_option maxRecDepth 65536 in
theorem w_c0 : (Jvm.Cond.code x code maxLocals ret).before args0 about1 = true := code_word (m := ⟨1, 1⟩) (meth := k1m1) (c := k1c1) (by decide +kernel) rfl rfl rfl (by decide +kernel)
set_option maxRecDepth 65536 in
theorem w_c1 : (Jvm.Cond.code ({ cls := "com/example/bare_octets/bareoctets/codec/WellFormedSequences", name := "<init>", desc := "(ZZZ)V" } : Jvm.MethodName) prog_20_method_1_code (4 : Nat) (Option.none : Option Jvm.ClassFile.FieldType)).before args0 about1 = true := code_word (m := ⟨2, 0⟩) (meth := k2m0) (c := k2c0) (by decide +kernel) rfl rfl rfl (by decide +kernel)
set_option maxRecDepth 65536 in
theorem w_c2 : (Jvm.Cond.code ({ cls := "java/lang/Object", name := "<init>", desc := "()V" } : Jvm.MethodName) object_method_1_code (1 : Nat) (Option.none : Option Jvm.ClassFile.FieldType)).before args0 about1 = true := code_word (m := ⟨0, 0⟩) (meth := k0m0) (c := k0c0) (by decide +kernel) rfl rfl rfl (by decide +kernel)
set_option maxRecDepth 65536 in
theorem w_c3 : (Jvm.Cond.code ({ cls := "com/example/bare_octets/bareoctets/codec/WellFormedSequences", name := "length", desc := "(B)I" } : Jvm.MethodName) prog_20_method_2_code (3 : Nat) (Option.some Jvm.ClassFile.FieldType.int)).before args0 about1 = true := code_word (m := ⟨2, 1⟩) (meth := k2m1) (c := k2c1) (by decide +kernel) rfl rfl rfl (by decide +kernel)
set_option maxRecDepth 65536 in
theorem w_c4 : (Jvm.Cond.code ({ cls := "com/example/bare_octets/bareoctets/codec/WellFormedSequencesLengthPinLaw", name := "expected", desc := "(IZZ)I" } : Jvm.MethodName) method_3_code (3 : Nat) (Option.some Jvm.ClassFile.FieldType.int)).before args0 about1 = true := code_word (m := ⟨1, 2⟩) (meth := k1m2) (c := k1c2) (by decide +kernel) rfl rfl rfl (by decide +kernel)
def codes1 : List Jvm.Cond := [Jvm.Cond.code x code maxLocals ret, Jvm.Cond.code ({ cls := "com/example/bare_octets/bareoctets/codec/WellFormedSequences", name := "<init>", desc := "(ZZZ)V" } : Jvm.MethodName) prog_20_method_1_code (4 : Nat) (Option.none : Option Jvm.ClassFile.FieldType), Jvm.Cond.code ({ cls := "java/lang/Object", name := "<init>", desc := "()V" } : Jvm.MethodName) object_method_1_code (1 : Nat) (Option.none : Option Jvm.ClassFile.FieldType), Jvm.Cond.code ({ cls := "com/example/bare_octets/bareoctets/codec/WellFormedSequences", name := "length", desc := "(B)I" } : Jvm.MethodName) prog_20_method_2_code (3 : Nat) (Option.some Jvm.ClassFile.FieldType.int), Jvm.Cond.code ({ cls := "com/example/bare_octets/bareoctets/codec/WellFormedSequencesLengthPinLaw", name := "expected", desc := "(IZZ)I" } : Jvm.MethodName) method_3_code (3 : Nat) (Option.some Jvm.ClassFile.FieldType.int)]
set_option maxRecDepth 65536 in
theorem codes_eq : words1.filter isCode = codes1 := rfl
theorem w_codes : ∀ c ∈ words1.filter isCode, c.before args0 about1 = true := by
  rw [codes_eq]
  intro c hc
  simp only [codes1, List.mem_cons, List.not_mem_nil, or_false] at hc
  rcases hc with rfl | rfl | rfl | rfl | rfl
  · exact w_c0
  · exact w_c1
  · exact w_c2
  · exact w_c3
  · exact w_c4
set_option maxRecDepth 65536 in
theorem w_t1 : (words1.take 24).all (fun c => isCode c || c.before args0 about1) = true := by decide +kernel
set_option maxRecDepth 65536 in
theorem w_t2 : (words1.drop 24).all (fun c => isCode c || c.before args0 about1) = true := by decide +kernel
theorem w_tables : (allAtoms (Jvm.Cond.code x code maxLocals ret :: tables_1)).before args0 about1 = true := by
  rw [allAtoms_all]
  show words1.all (fun c => c.before args0 about1) = true
  refine all_split ?_ w_codes
  rw [← List.take_append_drop 24 words1, List.all_append, w_t1, w_t2]
  rfl
set_option maxRecDepth 65536 in
theorem w_case : (Jvm.Cond.and given_1 narrow_1).before args0 about1 = true := by decide +kernel
theorem w_applies : (headSpec (Jvm.Cond.code x code maxLocals ret :: tables_1) room_1).applies x e0.platform about1 = true :=
  (Spec.applies_iff w_frames).mpr ⟨w_running, w_runnable, w_alone, w_named, w_hears, w_ripe, w_room, w_tables⟩
theorem atStart : AtStart classFile x code maxLocals ret World_1 tables_1 room_1 Calls_1 rest_1 Pre_1 launch0 p0 e0 about1 theMethod args0 below0 :=
  ⟨lists_1, trivial, launch0.admits_env _ _ _, launch0.least_env, fairChoices_fair.cas, fairChoices_fair.clock, w_frames, w_args, w_heap, w_applies, trivial, trivial, w_case⟩
end start1
theorem witness_1 : WitnessClaimed_1 := ⟨start1.p0, start1.e0, start1.about1, start1.theMethod, start1.args0, start1.below0, start1.atStart⟩
end Jvm.Pilot.@@N@@
