import JvmDerived
import JvmDerived.Pilot.@@N@@Statement
import JvmDerived.Pilot.@@N@@Code
set_option linter.unusedVariables false
set_option linter.unusedSimpArgs false
namespace Jvm.RoadKit
open Sem ClassFile Op Lib Jvm.Stand Jvm.Free Jvm.LawKit
section New
variable {p : Program} {l : Launch} {e : Env} {R : Room} {s : State} {m : MethodId} {args : Array Value} {below : List Frame} {meth : Method} {c : Code} {T : State} {locs : List Loc} {cells slots : Nat}
theorem retI (X : Stand p l e R s m args below meth c T locs cells slots) (hx : p.tables.exec = Jvm.exec) {pc : Nat} {Ls : Array Slot} {z : Int32} {rest : List Value} (hret : meth.sig.returnType = some .int) (hd : decode c.code pc = .ok (.ireturn, 1)) {fs : List Frame}
    (hl : ∀ (f : JFrame) (acts : List Action), f.method = m → f.locked = none → f.entered = [] → (doReturn e (T.setTop f) acts (some (.int z))).1 = T.setFrames fs) : Steps p.tables e below (T.setTop (mkF m pc Ls (.int z :: rest))) (T.setFrames fs) :=
  retOut X hx hret rfl (Or.inl ⟨rfl, Or.inl rfl, _, rfl⟩) hd hl
def Elt (Z : State) (h : Heap) (a : Addr) (ty : FieldType) (j : Int32) (v : Value) : Prop := ∃ cl : Cell, Arr Z h a cl ty ∧ ¬ (j < 0 ∨ cl.slots.size ≤ j.toNatClampNeg) ∧ cl.slots[j.toNatClampNeg]? = some v
theorem Elt.of {Z : State} {h : Heap} {a : Addr} {k : ClassId} {ty : FieldType} {n j : Int32} {vs : List Value} {d v : Value} (F : Arv Z h a k ty n vs d) (q : ¬ j < 0 ∧ j < n) (u : vs.getD j.toNatClampNeg d = v) : Elt Z h a ty j v := by
  obtain ⟨c, A, _, S, _, H, _⟩ := F
  exact ⟨c, A, inb_of S q, H.at (inb_of S q) u⟩
def Goes (tb : Tables) (e : Env) (below : List Frame) (P : State → Outcome → Prop) (A : State) : Prop := ∃ s₂ o, Steps tb e below A s₂ ∧ P s₂ o
theorem Goes.start {tb : Tables} {e : Env} {below : List Frame} {P : State → Outcome → Prop} {A : State} (h : Goes tb e below P A) : ∃ s₂ o, Steps tb e below A s₂ ∧ P s₂ o := h
theorem Goes.by {tb : Tables} {e : Env} {below : List Frame} {P : State → Outcome → Prop} {A B : State} (h : ∀ t, Steps tb e below B t → Steps tb e below A t) (g : Goes tb e below P B) : Goes tb e below P A := by
  obtain ⟨s₂, o, h1, h2⟩ := g
  exact ⟨s₂, o, h _ h1, h2⟩
theorem Goes.mk {tb : Tables} {e : Env} {below : List Frame} {P : State → Outcome → Prop} {A : State} (s₂ : State) (o : Outcome) (h : Steps tb e below A s₂) (hp : P s₂ o) : Goes tb e below P A := ⟨s₂, o, h, hp⟩
end New
end Jvm.RoadKit
namespace Jvm.Pilot.@@N@@
open Jvm Jvm.ClassFile Sem Op Lib Jvm.Free Jvm.Stand Jvm.LawKit Jvm.RoadKit Bundle Jvm.Pilot.@@N@@.Jvm.D
theorem d1_0 : decode method_3_code 0 = .ok (.iload_n 0, 1) := by decide +kernel
theorem d1_1 : decode method_3_code 1 = .ok (.iload_n 1, 1) := by decide +kernel
theorem d1_2 : decode method_3_code 2 = .ok (.iushr, 1) := by decide +kernel
theorem d1_3 : decode method_3_code 3 = .ok (.iconst 1, 1) := by decide +kernel
theorem d1_4 : decode method_3_code 4 = .ok (.iand, 1) := by decide +kernel
theorem d1_5 : decode method_3_code 5 = .ok (.ifCond .eq 14, 3) := by decide +kernel
theorem d1_19 : decode method_3_code 19 = .ok (.lconst 0, 1) := by decide +kernel
theorem d1_20 : decode method_3_code 20 = .ok (.lreturn, 1) := by decide +kernel
theorem d1_8 : decode method_3_code 8 = .ok (.ldc2_w 29, 3) := by decide +kernel
theorem d1_11 : decode method_3_code 11 = .ok (.bipush 16, 2) := by decide +kernel
theorem d1_13 : decode method_3_code 13 = .ok (.iload_n 1, 1) := by decide +kernel
theorem d1_14 : decode method_3_code 14 = .ok (.imul, 1) := by decide +kernel
theorem d1_15 : decode method_3_code 15 = .ok (.lshl, 1) := by decide +kernel
theorem d1_16 : decode method_3_code 16 = .ok (.goto 4, 3) := by decide +kernel
def f1 (p0 : Int32) (p1 : Int32) : Int64 := (if (((p0.toUInt32 >>> (p1 &&& 31).toUInt32).toInt32) &&& (1 : Int32)) = (0 : Int32) then (0 : Int64) else ((65535 : Int64) <<< (((16 : Int32) * p1) &&& 0x3f).toInt64))
def Q1 (Z : State) (p0 : Int32) (p1 : Int32) (h0 : Heap) (n0 : Nat) (v : Option Value) (h : Heap) (L : List Loc) : Prop := v = some (.long (f1 p0 p1)) ∧ Fr n0 L ∧ h = h0
theorem own_pn_com_example_bare_octets_bareoctets_codec_WellFormedSequencesTwoByteFormLaneStopsPinLaw : plainName "com/example/bare_octets/bareoctets/codec/WellFormedSequencesTwoByteFormLaneStopsPinLaw" = true := by first | (simp [plainName, overriddenIn]; done) | decide +kernel
theorem ef1 (m : MethodId) (x0 : Int32) (x1 : Int32) : entryFrame m #[(.int x0), (.int x1)] 2 = mkF m 0 #[.val (.int x0), .val (.int x1)] [] := by first | (simp [entryFrame, mkF, argsToLocals, Value.category]; done) | rfl
set_option maxRecDepth 65536 in
set_option maxHeartbeats 40000000 in
theorem rm1 (l : Launch) (Z : State) (az : Array Value) (hw : ∀ d ∈ tables_1, d.before az Z = true) (ws : List Jvm.Cond) (p0 : Int32) (p1 : Int32) (h0 : Heap) (n0 : Nat) (Z0 : n0 ≤ h0.size) :
    MetFree l (⟨"com/example/bare_octets/bareoctets/codec/WellFormedSequencesTwoByteFormLaneStopsPinLaw", "laneMask", "(II)J"⟩ : MethodName) (head1 (Jvm.Cond.code (⟨"com/example/bare_octets/bareoctets/codec/WellFormedSequencesTwoByteFormLaneStopsPinLaw", "laneMask", "(II)J"⟩ : MethodName) method_3_code 2 (some .long) :: ws) ({ frames := 0, cells := 0, slots := 0, locals := 0 } : Room)) (fun a U => a = #[(.int p0), (.int p1)] ∧ Z.Warmed39 U.vm ∧ U.heap = h0) (fun _ _ _ _ _ => True) (fun _ U o U' => ∃ v L, o = .returned v ∧ Q1 Z p0 p1 h0 n0 v U'.heap L ∧ FrameEnd U o U' L ({ frames := 0, cells := 0, slots := 0, locals := 0 } : Room).cells ({ frames := 0, cells := 0, slots := 0, locals := 0 } : Room).slots) := by
  refine MetFree.of_bodySF (plainFor_of_name own_pn_com_example_bare_octets_bareoctets_codec_WellFormedSequencesTwoByteFormLaneStopsPinLaw) hisR ?_
  intro p e s m args below meth c s₁ Bd hml0 hP hK
  obtain ⟨rfl, hZ, hh⟩ := hP
  have hx := Bd.exec
  have hby := Bd.bytes
  have hml : c.maxLocals = 2 := hml0
  have hown : s.vm.findClass "com/example/bare_octets/bareoctets/codec/WellFormedSequencesTwoByteFormLaneStopsPinLaw" = some m.cls := findClass_of_methodNamed Bd.named
  have hnm := (name_of_methodNamed Bd.named Bd.method).1
  have X0 : Stand p l e ({ frames := 0, cells := 0, slots := 0, locals := 0 } : Room) s m #[(.int p0), (.int p1)] below meth c s₁ [] 0 0 := Stand.of_body Bd
  have e0 : s₁.heap = h0 := by rw [← hh, Bd.state]; rfl
  have N0 := Fr.nil n0
  have Kp0 : Keep h0 h0 [] := Keep.refl _ _
  refine Goes.start ?_
  refine Goes.by (B := s₁.setTop (mkF m 0 #[.val (.int p0), .val (.int p1)] [])) (fun t k => castTop (ef1 m p0 p1) k) ?_
  refine Goes.by (B := s₁.setTop (mkF m 5 #[.val (.int p0), .val (.int p1)] [(.int (((p0.toUInt32 >>> (p1 &&& 31).toUInt32).toInt32) &&& (1 : Int32)))])) (fun t k => ?_) ?_
  · show Steps p.tables e below (s₁.setTop (mkF m 0 #[.val (.int p0), .val (.int p1)] [])) t
    refine XS.iloadN X0.here hx rfl (hb hby d1_0) rfl ?_
    show Steps p.tables e below (s₁.setTop (mkF m 1 #[.val (.int p0), .val (.int p1)] [(.int p0)])) t
    refine XS.iloadN X0.here hx rfl (hb hby d1_1) rfl ?_
    show Steps p.tables e below (s₁.setTop (mkF m 2 #[.val (.int p0), .val (.int p1)] [(.int p1), (.int p0)])) t
    refine XS.iushr X0.here hx rfl (hb hby d1_2) rfl ?_
    show Steps p.tables e below (s₁.setTop (mkF m 3 #[.val (.int p0), .val (.int p1)] [(.int ((p0.toUInt32 >>> (p1 &&& 31).toUInt32).toInt32))])) t
    refine XS.iconst X0.here hx rfl (hb hby d1_3) ?_
    show Steps p.tables e below (s₁.setTop (mkF m 4 #[.val (.int p0), .val (.int p1)] [(.int (1 : Int32)), (.int ((p0.toUInt32 >>> (p1 &&& 31).toUInt32).toInt32))])) t
    refine XS.iand X0.here hx rfl (hb hby d1_4) rfl ?_
    exact k
  by_cases hc1 : (((p0.toUInt32 >>> (p1 &&& 31).toUInt32).toInt32) &&& (1 : Int32)) = (0 : Int32)
  · refine Goes.by (B := s₁.setTop (mkF m 20 #[.val (.int p0), .val (.int p1)] [(.long (0 : Int64))])) (fun t k => ?_) ?_
    · show Steps p.tables e below (s₁.setTop (mkF m 5 #[.val (.int p0), .val (.int p1)] [(.int (((p0.toUInt32 >>> (p1 &&& 31).toUInt32).toInt32) &&& (1 : Int32)))])) t
      refine XS.ifYes X0.here hx rfl (pc0 := 5) (pc' := 19) rfl (hb hby d1_5) rfl ((if0 _ _).trans (teq hc1).1) (by decide) (by decide) ?_
      show Steps p.tables e below (s₁.setTop (mkF m 19 #[.val (.int p0), .val (.int p1)] [])) t
      refine XS.lconst X0.here hx rfl (hb hby d1_19) ?_
      exact k
    obtain ⟨fs, hr, hrun, hended, hW, hsame⟩ := X0.leave (v := some (.long (0 : Int64))) (fun h => by rw [Bd.returns] at h; cases h)
    refine Goes.mk _ _ ?_ ⟨hrun, hended, _, _, rfl, ?_, ⟨_, rfl⟩, hW, hsame.mono (by decide) (by decide)⟩
    · exact retOut X0 hx Bd.returns rfl (Or.inr (Or.inl ⟨rfl, rfl, _, rfl⟩)) (hb hby d1_20) hr
    · show Q1 Z p0 p1 h0 n0 _ s₁.heap _
      rw [e0]
      exact ⟨(by simp only [f1, if_pos hc1]), N0, rfl⟩
  · refine Goes.by (B := s₁.setTop (mkF m 20 #[.val (.int p0), .val (.int p1)] [(.long ((65535 : Int64) <<< (((16 : Int32) * p1) &&& 0x3f).toInt64))])) (fun t k => ?_) ?_
    · show Steps p.tables e below (s₁.setTop (mkF m 5 #[.val (.int p0), .val (.int p1)] [(.int (((p0.toUInt32 >>> (p1 &&& 31).toUInt32).toInt32) &&& (1 : Int32)))])) t
      refine XS.ifNo X0.here hx rfl (hb hby d1_5) rfl ((if0 _ _).trans (feq hc1).1) ?_
      show Steps p.tables e below (s₁.setTop (mkF m 8 #[.val (.int p0), .val (.int p1)] [])) t
      refine X0.ldc2Long hx hown (mvT hZ (hw _ (List.mem_of_getElem? (i := 4) rfl))) (g := (mkF m 8 #[.val (.int p0), .val (.int p1)] [])) rfl (hb hby d1_8) _ ?_
      show Steps p.tables e below (s₁.setTop (mkF m 11 #[.val (.int p0), .val (.int p1)] [(.long (65535 : Int64))])) t
      refine XS.bipush X0.here hx rfl (hb hby d1_11) ?_
      show Steps p.tables e below (s₁.setTop (mkF m 13 #[.val (.int p0), .val (.int p1)] [(.int (16 : Int32)), (.long (65535 : Int64))])) t
      refine XS.iloadN X0.here hx rfl (hb hby d1_13) rfl ?_
      show Steps p.tables e below (s₁.setTop (mkF m 14 #[.val (.int p0), .val (.int p1)] [(.int p1), (.int (16 : Int32)), (.long (65535 : Int64))])) t
      refine XS.imul X0.here hx rfl (hb hby d1_14) rfl ?_
      show Steps p.tables e below (s₁.setTop (mkF m 15 #[.val (.int p0), .val (.int p1)] [(.int ((16 : Int32) * p1)), (.long (65535 : Int64))])) t
      refine XS.lshl X0.here hx rfl (hb hby d1_15) rfl ?_
      show Steps p.tables e below (s₁.setTop (mkF m 16 #[.val (.int p0), .val (.int p1)] [(.long ((65535 : Int64) <<< (((16 : Int32) * p1) &&& 0x3f).toInt64))])) t
      refine XS.goto X0.here hx rfl (pc0 := 16) (pc' := 20) rfl (hb hby d1_16) (by decide) (by decide) ?_
      exact k
    obtain ⟨fs, hr, hrun, hended, hW, hsame⟩ := X0.leave (v := some (.long ((65535 : Int64) <<< (((16 : Int32) * p1) &&& 0x3f).toInt64))) (fun h => by rw [Bd.returns] at h; cases h)
    refine Goes.mk _ _ ?_ ⟨hrun, hended, _, _, rfl, ?_, ⟨_, rfl⟩, hW, hsame.mono (by decide) (by decide)⟩
    · exact retOut X0 hx Bd.returns rfl (Or.inr (Or.inl ⟨rfl, rfl, _, rfl⟩)) (hb hby d1_20) hr
    · show Q1 Z p0 p1 h0 n0 _ s₁.heap _
      rw [e0]
      exact ⟨(by simp only [f1, if_neg hc1]), N0, rfl⟩
theorem d2_0 : decode method_4_code 0 = .ok (.lload_n 0, 1) := by decide +kernel
theorem d2_1 : decode method_4_code 1 = .ok (.bipush 16, 2) := by decide +kernel
theorem d2_3 : decode method_4_code 3 = .ok (.iload_n 2, 1) := by decide +kernel
theorem d2_4 : decode method_4_code 4 = .ok (.imul, 1) := by decide +kernel
theorem d2_5 : decode method_4_code 5 = .ok (.lushr, 1) := by decide +kernel
theorem d2_6 : decode method_4_code 6 = .ok (.ldc2_w 31, 3) := by decide +kernel
theorem d2_9 : decode method_4_code 9 = .ok (.land, 1) := by decide +kernel
theorem d2_10 : decode method_4_code 10 = .ok (.l2i, 1) := by decide +kernel
theorem d2_11 : decode method_4_code 11 = .ok (.istore_n 3, 1) := by decide +kernel
theorem d2_12 : decode method_4_code 12 = .ok (.lload_n 0, 1) := by decide +kernel
theorem d2_13 : decode method_4_code 13 = .ok (.bipush 16, 2) := by decide +kernel
theorem d2_15 : decode method_4_code 15 = .ok (.iload_n 2, 1) := by decide +kernel
theorem d2_16 : decode method_4_code 16 = .ok (.imul, 1) := by decide +kernel
theorem d2_17 : decode method_4_code 17 = .ok (.bipush 8, 2) := by decide +kernel
theorem d2_19 : decode method_4_code 19 = .ok (.iadd, 1) := by decide +kernel
theorem d2_20 : decode method_4_code 20 = .ok (.lushr, 1) := by decide +kernel
theorem d2_21 : decode method_4_code 21 = .ok (.ldc2_w 31, 3) := by decide +kernel
theorem d2_24 : decode method_4_code 24 = .ok (.land, 1) := by decide +kernel
theorem d2_25 : decode method_4_code 25 = .ok (.l2i, 1) := by decide +kernel
theorem d2_26 : decode method_4_code 26 = .ok (.istore 4, 2) := by decide +kernel
theorem d2_28 : decode method_4_code 28 = .ok (.iload_n 3, 1) := by decide +kernel
theorem d2_29 : decode method_4_code 29 = .ok (.sipush 194, 3) := by decide +kernel
theorem d2_32 : decode method_4_code 32 = .ok (.if_icmp .lt 30, 3) := by decide +kernel
theorem d2_62 : decode method_4_code 62 = .ok (.iconst 0, 1) := by decide +kernel
theorem d2_35 : decode method_4_code 35 = .ok (.iload_n 3, 1) := by decide +kernel
theorem d2_36 : decode method_4_code 36 = .ok (.sipush 223, 3) := by decide +kernel
theorem d2_39 : decode method_4_code 39 = .ok (.if_icmp .gt 23, 3) := by decide +kernel
theorem d2_42 : decode method_4_code 42 = .ok (.iload 4, 2) := by decide +kernel
theorem d2_44 : decode method_4_code 44 = .ok (.sipush 128, 3) := by decide +kernel
theorem d2_47 : decode method_4_code 47 = .ok (.if_icmp .lt 15, 3) := by decide +kernel
theorem d2_50 : decode method_4_code 50 = .ok (.iload 4, 2) := by decide +kernel
theorem d2_52 : decode method_4_code 52 = .ok (.sipush 191, 3) := by decide +kernel
theorem d2_55 : decode method_4_code 55 = .ok (.if_icmp .gt 7, 3) := by decide +kernel
theorem d2_58 : decode method_4_code 58 = .ok (.iconst 1, 1) := by decide +kernel
theorem d2_59 : decode method_4_code 59 = .ok (.goto 4, 3) := by decide +kernel
theorem d2_63 : decode method_4_code 63 = .ok (.istore 5, 2) := by decide +kernel
theorem d2_65 : decode method_4_code 65 = .ok (.iload 5, 2) := by decide +kernel
theorem d2_67 : decode method_4_code 67 = .ok (.ifCond .eq 7, 3) := by decide +kernel
theorem d2_74 : decode method_4_code 74 = .ok (.lconst 1, 1) := by decide +kernel
theorem d2_75 : decode method_4_code 75 = .ok (.bipush 16, 2) := by decide +kernel
theorem d2_77 : decode method_4_code 77 = .ok (.iload_n 2, 1) := by decide +kernel
theorem d2_78 : decode method_4_code 78 = .ok (.imul, 1) := by decide +kernel
theorem d2_79 : decode method_4_code 79 = .ok (.bipush 15, 2) := by decide +kernel
theorem d2_81 : decode method_4_code 81 = .ok (.iadd, 1) := by decide +kernel
theorem d2_82 : decode method_4_code 82 = .ok (.lshl, 1) := by decide +kernel
theorem d2_83 : decode method_4_code 83 = .ok (.lreturn, 1) := by decide +kernel
theorem d2_70 : decode method_4_code 70 = .ok (.lconst 0, 1) := by decide +kernel
theorem d2_71 : decode method_4_code 71 = .ok (.goto 12, 3) := by decide +kernel
def f2 (q0 : Int64) (p1 : Int32) : Int64 := (if (if ((((q0.toUInt64 >>> (((16 : Int32) * p1) &&& 0x3f).toInt64.toUInt64).toInt64) &&& (255 : Int64)).toInt32) < (194 : Int32) then (0 : Int32) else (if (223 : Int32) < ((((q0.toUInt64 >>> (((16 : Int32) * p1) &&& 0x3f).toInt64.toUInt64).toInt64) &&& (255 : Int64)).toInt32) then (0 : Int32) else (if ((((q0.toUInt64 >>> ((((16 : Int32) * p1) + (8 : Int32)) &&& 0x3f).toInt64.toUInt64).toInt64) &&& (255 : Int64)).toInt32) < (128 : Int32) then (0 : Int32) else (if (191 : Int32) < ((((q0.toUInt64 >>> ((((16 : Int32) * p1) + (8 : Int32)) &&& 0x3f).toInt64.toUInt64).toInt64) &&& (255 : Int64)).toInt32) then (0 : Int32) else (1 : Int32))))) = (0 : Int32) then ((1 : Int64) <<< ((((16 : Int32) * p1) + (15 : Int32)) &&& 0x3f).toInt64) else (0 : Int64))
def Q2 (Z : State) (q0 : Int64) (p1 : Int32) (h0 : Heap) (n0 : Nat) (v : Option Value) (h : Heap) (L : List Loc) : Prop := v = some (.long (f2 q0 p1)) ∧ Fr n0 L ∧ h = h0
theorem ef2 (m : MethodId) (x0 : Int64) (x1 : Int32) : entryFrame m #[(.long x0), (.int x1)] 6 = mkF m 0 #[.val (.long x0), .second, .val (.int x1), .unset, .unset, .unset] [] := by first | (simp [entryFrame, mkF, argsToLocals, Value.category]; done) | rfl
set_option maxRecDepth 65536 in
set_option maxHeartbeats 40000000 in
theorem rm2 (l : Launch) (Z : State) (az : Array Value) (hw : ∀ d ∈ tables_1, d.before az Z = true) (ws : List Jvm.Cond) (q0 : Int64) (p1 : Int32) (h0 : Heap) (n0 : Nat) (Z0 : n0 ≤ h0.size) :
    MetFree l (⟨"com/example/bare_octets/bareoctets/codec/WellFormedSequencesTwoByteFormLaneStopsPinLaw", "expectedStop", "(JI)J"⟩ : MethodName) (head1 (Jvm.Cond.code (⟨"com/example/bare_octets/bareoctets/codec/WellFormedSequencesTwoByteFormLaneStopsPinLaw", "expectedStop", "(JI)J"⟩ : MethodName) method_4_code 6 (some .long) :: ws) ({ frames := 0, cells := 0, slots := 0, locals := 0 } : Room)) (fun a U => a = #[(.long q0), (.int p1)] ∧ Z.Warmed39 U.vm ∧ U.heap = h0) (fun _ _ _ _ _ => True) (fun _ U o U' => ∃ v L, o = .returned v ∧ Q2 Z q0 p1 h0 n0 v U'.heap L ∧ FrameEnd U o U' L ({ frames := 0, cells := 0, slots := 0, locals := 0 } : Room).cells ({ frames := 0, cells := 0, slots := 0, locals := 0 } : Room).slots) := by
  refine MetFree.of_bodySF (plainFor_of_name own_pn_com_example_bare_octets_bareoctets_codec_WellFormedSequencesTwoByteFormLaneStopsPinLaw) hisR ?_
  intro p e s m args below meth c s₁ Bd hml0 hP hK
  obtain ⟨rfl, hZ, hh⟩ := hP
  have hx := Bd.exec
  have hby := Bd.bytes
  have hml : c.maxLocals = 6 := hml0
  have hown : s.vm.findClass "com/example/bare_octets/bareoctets/codec/WellFormedSequencesTwoByteFormLaneStopsPinLaw" = some m.cls := findClass_of_methodNamed Bd.named
  have hnm := (name_of_methodNamed Bd.named Bd.method).1
  have X0 : Stand p l e ({ frames := 0, cells := 0, slots := 0, locals := 0 } : Room) s m #[(.long q0), (.int p1)] below meth c s₁ [] 0 0 := Stand.of_body Bd
  have e0 : s₁.heap = h0 := by rw [← hh, Bd.state]; rfl
  have N0 := Fr.nil n0
  have Kp0 : Keep h0 h0 [] := Keep.refl _ _
  refine Goes.start ?_
  refine Goes.by (B := s₁.setTop (mkF m 0 #[.val (.long q0), .second, .val (.int p1), .unset, .unset, .unset] [])) (fun t k => castTop (ef2 m q0 p1) k) ?_
  refine Goes.by (B := s₁.setTop (mkF m 32 #[.val (.long q0), .second, .val (.int p1), .val (.int ((((q0.toUInt64 >>> (((16 : Int32) * p1) &&& 0x3f).toInt64.toUInt64).toInt64) &&& (255 : Int64)).toInt32)), .val (.int ((((q0.toUInt64 >>> ((((16 : Int32) * p1) + (8 : Int32)) &&& 0x3f).toInt64.toUInt64).toInt64) &&& (255 : Int64)).toInt32)), .unset] [(.int (194 : Int32)), (.int ((((q0.toUInt64 >>> (((16 : Int32) * p1) &&& 0x3f).toInt64.toUInt64).toInt64) &&& (255 : Int64)).toInt32))])) (fun t k => ?_) ?_
  · show Steps p.tables e below (s₁.setTop (mkF m 0 #[.val (.long q0), .second, .val (.int p1), .unset, .unset, .unset] [])) t
    refine XS.lloadN X0.here hx rfl (hb hby d2_0) rfl ?_
    show Steps p.tables e below (s₁.setTop (mkF m 1 #[.val (.long q0), .second, .val (.int p1), .unset, .unset, .unset] [(.long q0)])) t
    refine XS.bipush X0.here hx rfl (hb hby d2_1) ?_
    show Steps p.tables e below (s₁.setTop (mkF m 3 #[.val (.long q0), .second, .val (.int p1), .unset, .unset, .unset] [(.int (16 : Int32)), (.long q0)])) t
    refine XS.iloadN X0.here hx rfl (hb hby d2_3) rfl ?_
    show Steps p.tables e below (s₁.setTop (mkF m 4 #[.val (.long q0), .second, .val (.int p1), .unset, .unset, .unset] [(.int p1), (.int (16 : Int32)), (.long q0)])) t
    refine XS.imul X0.here hx rfl (hb hby d2_4) rfl ?_
    show Steps p.tables e below (s₁.setTop (mkF m 5 #[.val (.long q0), .second, .val (.int p1), .unset, .unset, .unset] [(.int ((16 : Int32) * p1)), (.long q0)])) t
    refine XS.lushr X0.here hx rfl (hb hby d2_5) rfl ?_
    show Steps p.tables e below (s₁.setTop (mkF m 6 #[.val (.long q0), .second, .val (.int p1), .unset, .unset, .unset] [(.long ((q0.toUInt64 >>> (((16 : Int32) * p1) &&& 0x3f).toInt64.toUInt64).toInt64))])) t
    refine X0.ldc2Long hx hown (mvT hZ (hw _ (List.mem_of_getElem? (i := 11) rfl))) (g := (mkF m 6 #[.val (.long q0), .second, .val (.int p1), .unset, .unset, .unset] [(.long ((q0.toUInt64 >>> (((16 : Int32) * p1) &&& 0x3f).toInt64.toUInt64).toInt64))])) rfl (hb hby d2_6) _ ?_
    show Steps p.tables e below (s₁.setTop (mkF m 9 #[.val (.long q0), .second, .val (.int p1), .unset, .unset, .unset] [(.long (255 : Int64)), (.long ((q0.toUInt64 >>> (((16 : Int32) * p1) &&& 0x3f).toInt64.toUInt64).toInt64))])) t
    refine XS.land X0.here hx rfl (hb hby d2_9) rfl ?_
    show Steps p.tables e below (s₁.setTop (mkF m 10 #[.val (.long q0), .second, .val (.int p1), .unset, .unset, .unset] [(.long (((q0.toUInt64 >>> (((16 : Int32) * p1) &&& 0x3f).toInt64.toUInt64).toInt64) &&& (255 : Int64)))])) t
    refine XS.l2i X0.here hx rfl (hb hby d2_10) rfl ?_
    show Steps p.tables e below (s₁.setTop (mkF m 11 #[.val (.long q0), .second, .val (.int p1), .unset, .unset, .unset] [(.int ((((q0.toUInt64 >>> (((16 : Int32) * p1) &&& 0x3f).toInt64.toUInt64).toInt64) &&& (255 : Int64)).toInt32))])) t
    refine XS.istoreN X0.here hx rfl (hb hby d2_11) rfl (l' := #[.val (.long q0), .second, .val (.int p1), .val (.int ((((q0.toUInt64 >>> (((16 : Int32) * p1) &&& 0x3f).toInt64.toUInt64).toInt64) &&& (255 : Int64)).toInt32)), .unset, .unset]) rfl ?_
    show Steps p.tables e below (s₁.setTop (mkF m 12 #[.val (.long q0), .second, .val (.int p1), .val (.int ((((q0.toUInt64 >>> (((16 : Int32) * p1) &&& 0x3f).toInt64.toUInt64).toInt64) &&& (255 : Int64)).toInt32)), .unset, .unset] [])) t
    refine XS.lloadN X0.here hx rfl (hb hby d2_12) rfl ?_
    show Steps p.tables e below (s₁.setTop (mkF m 13 #[.val (.long q0), .second, .val (.int p1), .val (.int ((((q0.toUInt64 >>> (((16 : Int32) * p1) &&& 0x3f).toInt64.toUInt64).toInt64) &&& (255 : Int64)).toInt32)), .unset, .unset] [(.long q0)])) t
    refine XS.bipush X0.here hx rfl (hb hby d2_13) ?_
    show Steps p.tables e below (s₁.setTop (mkF m 15 #[.val (.long q0), .second, .val (.int p1), .val (.int ((((q0.toUInt64 >>> (((16 : Int32) * p1) &&& 0x3f).toInt64.toUInt64).toInt64) &&& (255 : Int64)).toInt32)), .unset, .unset] [(.int (16 : Int32)), (.long q0)])) t
    refine XS.iloadN X0.here hx rfl (hb hby d2_15) rfl ?_
    show Steps p.tables e below (s₁.setTop (mkF m 16 #[.val (.long q0), .second, .val (.int p1), .val (.int ((((q0.toUInt64 >>> (((16 : Int32) * p1) &&& 0x3f).toInt64.toUInt64).toInt64) &&& (255 : Int64)).toInt32)), .unset, .unset] [(.int p1), (.int (16 : Int32)), (.long q0)])) t
    refine XS.imul X0.here hx rfl (hb hby d2_16) rfl ?_
    show Steps p.tables e below (s₁.setTop (mkF m 17 #[.val (.long q0), .second, .val (.int p1), .val (.int ((((q0.toUInt64 >>> (((16 : Int32) * p1) &&& 0x3f).toInt64.toUInt64).toInt64) &&& (255 : Int64)).toInt32)), .unset, .unset] [(.int ((16 : Int32) * p1)), (.long q0)])) t
    refine XS.bipush X0.here hx rfl (hb hby d2_17) ?_
    show Steps p.tables e below (s₁.setTop (mkF m 19 #[.val (.long q0), .second, .val (.int p1), .val (.int ((((q0.toUInt64 >>> (((16 : Int32) * p1) &&& 0x3f).toInt64.toUInt64).toInt64) &&& (255 : Int64)).toInt32)), .unset, .unset] [(.int (8 : Int32)), (.int ((16 : Int32) * p1)), (.long q0)])) t
    refine XS.iadd X0.here hx rfl (hb hby d2_19) rfl ?_
    show Steps p.tables e below (s₁.setTop (mkF m 20 #[.val (.long q0), .second, .val (.int p1), .val (.int ((((q0.toUInt64 >>> (((16 : Int32) * p1) &&& 0x3f).toInt64.toUInt64).toInt64) &&& (255 : Int64)).toInt32)), .unset, .unset] [(.int (((16 : Int32) * p1) + (8 : Int32))), (.long q0)])) t
    refine XS.lushr X0.here hx rfl (hb hby d2_20) rfl ?_
    show Steps p.tables e below (s₁.setTop (mkF m 21 #[.val (.long q0), .second, .val (.int p1), .val (.int ((((q0.toUInt64 >>> (((16 : Int32) * p1) &&& 0x3f).toInt64.toUInt64).toInt64) &&& (255 : Int64)).toInt32)), .unset, .unset] [(.long ((q0.toUInt64 >>> ((((16 : Int32) * p1) + (8 : Int32)) &&& 0x3f).toInt64.toUInt64).toInt64))])) t
    refine X0.ldc2Long hx hown (mvT hZ (hw _ (List.mem_of_getElem? (i := 11) rfl))) (g := (mkF m 21 #[.val (.long q0), .second, .val (.int p1), .val (.int ((((q0.toUInt64 >>> (((16 : Int32) * p1) &&& 0x3f).toInt64.toUInt64).toInt64) &&& (255 : Int64)).toInt32)), .unset, .unset] [(.long ((q0.toUInt64 >>> ((((16 : Int32) * p1) + (8 : Int32)) &&& 0x3f).toInt64.toUInt64).toInt64))])) rfl (hb hby d2_21) _ ?_
    show Steps p.tables e below (s₁.setTop (mkF m 24 #[.val (.long q0), .second, .val (.int p1), .val (.int ((((q0.toUInt64 >>> (((16 : Int32) * p1) &&& 0x3f).toInt64.toUInt64).toInt64) &&& (255 : Int64)).toInt32)), .unset, .unset] [(.long (255 : Int64)), (.long ((q0.toUInt64 >>> ((((16 : Int32) * p1) + (8 : Int32)) &&& 0x3f).toInt64.toUInt64).toInt64))])) t
    refine XS.land X0.here hx rfl (hb hby d2_24) rfl ?_
    show Steps p.tables e below (s₁.setTop (mkF m 25 #[.val (.long q0), .second, .val (.int p1), .val (.int ((((q0.toUInt64 >>> (((16 : Int32) * p1) &&& 0x3f).toInt64.toUInt64).toInt64) &&& (255 : Int64)).toInt32)), .unset, .unset] [(.long (((q0.toUInt64 >>> ((((16 : Int32) * p1) + (8 : Int32)) &&& 0x3f).toInt64.toUInt64).toInt64) &&& (255 : Int64)))])) t
    refine XS.l2i X0.here hx rfl (hb hby d2_25) rfl ?_
    show Steps p.tables e below (s₁.setTop (mkF m 26 #[.val (.long q0), .second, .val (.int p1), .val (.int ((((q0.toUInt64 >>> (((16 : Int32) * p1) &&& 0x3f).toInt64.toUInt64).toInt64) &&& (255 : Int64)).toInt32)), .unset, .unset] [(.int ((((q0.toUInt64 >>> ((((16 : Int32) * p1) + (8 : Int32)) &&& 0x3f).toInt64.toUInt64).toInt64) &&& (255 : Int64)).toInt32))])) t
    refine XS.istore X0.here hx rfl (hb hby d2_26) rfl (l' := #[.val (.long q0), .second, .val (.int p1), .val (.int ((((q0.toUInt64 >>> (((16 : Int32) * p1) &&& 0x3f).toInt64.toUInt64).toInt64) &&& (255 : Int64)).toInt32)), .val (.int ((((q0.toUInt64 >>> ((((16 : Int32) * p1) + (8 : Int32)) &&& 0x3f).toInt64.toUInt64).toInt64) &&& (255 : Int64)).toInt32)), .unset]) rfl ?_
    show Steps p.tables e below (s₁.setTop (mkF m 28 #[.val (.long q0), .second, .val (.int p1), .val (.int ((((q0.toUInt64 >>> (((16 : Int32) * p1) &&& 0x3f).toInt64.toUInt64).toInt64) &&& (255 : Int64)).toInt32)), .val (.int ((((q0.toUInt64 >>> ((((16 : Int32) * p1) + (8 : Int32)) &&& 0x3f).toInt64.toUInt64).toInt64) &&& (255 : Int64)).toInt32)), .unset] [])) t
    refine XS.iloadN X0.here hx rfl (hb hby d2_28) rfl ?_
    show Steps p.tables e below (s₁.setTop (mkF m 29 #[.val (.long q0), .second, .val (.int p1), .val (.int ((((q0.toUInt64 >>> (((16 : Int32) * p1) &&& 0x3f).toInt64.toUInt64).toInt64) &&& (255 : Int64)).toInt32)), .val (.int ((((q0.toUInt64 >>> ((((16 : Int32) * p1) + (8 : Int32)) &&& 0x3f).toInt64.toUInt64).toInt64) &&& (255 : Int64)).toInt32)), .unset] [(.int ((((q0.toUInt64 >>> (((16 : Int32) * p1) &&& 0x3f).toInt64.toUInt64).toInt64) &&& (255 : Int64)).toInt32))])) t
    refine XS.sipush X0.here hx rfl (hb hby d2_29) ?_
    exact k
  refine Goes.by (B := s₁.setTop (mkF m 63 #[.val (.long q0), .second, .val (.int p1), .val (.int ((((q0.toUInt64 >>> (((16 : Int32) * p1) &&& 0x3f).toInt64.toUInt64).toInt64) &&& (255 : Int64)).toInt32)), .val (.int ((((q0.toUInt64 >>> ((((16 : Int32) * p1) + (8 : Int32)) &&& 0x3f).toInt64.toUInt64).toInt64) &&& (255 : Int64)).toInt32)), .unset] [(.int (if ((((q0.toUInt64 >>> (((16 : Int32) * p1) &&& 0x3f).toInt64.toUInt64).toInt64) &&& (255 : Int64)).toInt32) < (194 : Int32) then (0 : Int32) else (if (223 : Int32) < ((((q0.toUInt64 >>> (((16 : Int32) * p1) &&& 0x3f).toInt64.toUInt64).toInt64) &&& (255 : Int64)).toInt32) then (0 : Int32) else (if ((((q0.toUInt64 >>> ((((16 : Int32) * p1) + (8 : Int32)) &&& 0x3f).toInt64.toUInt64).toInt64) &&& (255 : Int64)).toInt32) < (128 : Int32) then (0 : Int32) else (if (191 : Int32) < ((((q0.toUInt64 >>> ((((16 : Int32) * p1) + (8 : Int32)) &&& 0x3f).toInt64.toUInt64).toInt64) &&& (255 : Int64)).toInt32) then (0 : Int32) else (1 : Int32))))))])) (fun t k => ?_) ?_
  · by_cases hm1 : ((((q0.toUInt64 >>> (((16 : Int32) * p1) &&& 0x3f).toInt64.toUInt64).toInt64) &&& (255 : Int64)).toInt32) < (194 : Int32)
    · simp only [if_pos hm1] at k
      show Steps p.tables e below (s₁.setTop (mkF m 32 #[.val (.long q0), .second, .val (.int p1), .val (.int ((((q0.toUInt64 >>> (((16 : Int32) * p1) &&& 0x3f).toInt64.toUInt64).toInt64) &&& (255 : Int64)).toInt32)), .val (.int ((((q0.toUInt64 >>> ((((16 : Int32) * p1) + (8 : Int32)) &&& 0x3f).toInt64.toUInt64).toInt64) &&& (255 : Int64)).toInt32)), .unset] [(.int (194 : Int32)), (.int ((((q0.toUInt64 >>> (((16 : Int32) * p1) &&& 0x3f).toInt64.toUInt64).toInt64) &&& (255 : Int64)).toInt32))])) t
      refine XS.icmpYes X0.here hx rfl (pc0 := 32) (pc' := 62) rfl (hb hby d2_32) rfl (tlt hm1).1 (by decide) (by decide) ?_
      show Steps p.tables e below (s₁.setTop (mkF m 62 #[.val (.long q0), .second, .val (.int p1), .val (.int ((((q0.toUInt64 >>> (((16 : Int32) * p1) &&& 0x3f).toInt64.toUInt64).toInt64) &&& (255 : Int64)).toInt32)), .val (.int ((((q0.toUInt64 >>> ((((16 : Int32) * p1) + (8 : Int32)) &&& 0x3f).toInt64.toUInt64).toInt64) &&& (255 : Int64)).toInt32)), .unset] [])) t
      refine XS.iconst X0.here hx rfl (hb hby d2_62) ?_
      exact k
    · by_cases hm2 : (223 : Int32) < ((((q0.toUInt64 >>> (((16 : Int32) * p1) &&& 0x3f).toInt64.toUInt64).toInt64) &&& (255 : Int64)).toInt32)
      · simp only [if_neg hm1, if_pos hm2] at k
        show Steps p.tables e below (s₁.setTop (mkF m 32 #[.val (.long q0), .second, .val (.int p1), .val (.int ((((q0.toUInt64 >>> (((16 : Int32) * p1) &&& 0x3f).toInt64.toUInt64).toInt64) &&& (255 : Int64)).toInt32)), .val (.int ((((q0.toUInt64 >>> ((((16 : Int32) * p1) + (8 : Int32)) &&& 0x3f).toInt64.toUInt64).toInt64) &&& (255 : Int64)).toInt32)), .unset] [(.int (194 : Int32)), (.int ((((q0.toUInt64 >>> (((16 : Int32) * p1) &&& 0x3f).toInt64.toUInt64).toInt64) &&& (255 : Int64)).toInt32))])) t
        refine XS.icmpNo X0.here hx rfl (hb hby d2_32) rfl (flt hm1).1 ?_
        show Steps p.tables e below (s₁.setTop (mkF m 35 #[.val (.long q0), .second, .val (.int p1), .val (.int ((((q0.toUInt64 >>> (((16 : Int32) * p1) &&& 0x3f).toInt64.toUInt64).toInt64) &&& (255 : Int64)).toInt32)), .val (.int ((((q0.toUInt64 >>> ((((16 : Int32) * p1) + (8 : Int32)) &&& 0x3f).toInt64.toUInt64).toInt64) &&& (255 : Int64)).toInt32)), .unset] [])) t
        refine XS.iloadN X0.here hx rfl (hb hby d2_35) rfl ?_
        show Steps p.tables e below (s₁.setTop (mkF m 36 #[.val (.long q0), .second, .val (.int p1), .val (.int ((((q0.toUInt64 >>> (((16 : Int32) * p1) &&& 0x3f).toInt64.toUInt64).toInt64) &&& (255 : Int64)).toInt32)), .val (.int ((((q0.toUInt64 >>> ((((16 : Int32) * p1) + (8 : Int32)) &&& 0x3f).toInt64.toUInt64).toInt64) &&& (255 : Int64)).toInt32)), .unset] [(.int ((((q0.toUInt64 >>> (((16 : Int32) * p1) &&& 0x3f).toInt64.toUInt64).toInt64) &&& (255 : Int64)).toInt32))])) t
        refine XS.sipush X0.here hx rfl (hb hby d2_36) ?_
        show Steps p.tables e below (s₁.setTop (mkF m 39 #[.val (.long q0), .second, .val (.int p1), .val (.int ((((q0.toUInt64 >>> (((16 : Int32) * p1) &&& 0x3f).toInt64.toUInt64).toInt64) &&& (255 : Int64)).toInt32)), .val (.int ((((q0.toUInt64 >>> ((((16 : Int32) * p1) + (8 : Int32)) &&& 0x3f).toInt64.toUInt64).toInt64) &&& (255 : Int64)).toInt32)), .unset] [(.int (223 : Int32)), (.int ((((q0.toUInt64 >>> (((16 : Int32) * p1) &&& 0x3f).toInt64.toUInt64).toInt64) &&& (255 : Int64)).toInt32))])) t
        refine XS.icmpYes X0.here hx rfl (pc0 := 39) (pc' := 62) rfl (hb hby d2_39) rfl (tlt hm2).2.2.1 (by decide) (by decide) ?_
        show Steps p.tables e below (s₁.setTop (mkF m 62 #[.val (.long q0), .second, .val (.int p1), .val (.int ((((q0.toUInt64 >>> (((16 : Int32) * p1) &&& 0x3f).toInt64.toUInt64).toInt64) &&& (255 : Int64)).toInt32)), .val (.int ((((q0.toUInt64 >>> ((((16 : Int32) * p1) + (8 : Int32)) &&& 0x3f).toInt64.toUInt64).toInt64) &&& (255 : Int64)).toInt32)), .unset] [])) t
        refine XS.iconst X0.here hx rfl (hb hby d2_62) ?_
        exact k
      · by_cases hm3 : ((((q0.toUInt64 >>> ((((16 : Int32) * p1) + (8 : Int32)) &&& 0x3f).toInt64.toUInt64).toInt64) &&& (255 : Int64)).toInt32) < (128 : Int32)
        · simp only [if_neg hm1, if_neg hm2, if_pos hm3] at k
          show Steps p.tables e below (s₁.setTop (mkF m 32 #[.val (.long q0), .second, .val (.int p1), .val (.int ((((q0.toUInt64 >>> (((16 : Int32) * p1) &&& 0x3f).toInt64.toUInt64).toInt64) &&& (255 : Int64)).toInt32)), .val (.int ((((q0.toUInt64 >>> ((((16 : Int32) * p1) + (8 : Int32)) &&& 0x3f).toInt64.toUInt64).toInt64) &&& (255 : Int64)).toInt32)), .unset] [(.int (194 : Int32)), (.int ((((q0.toUInt64 >>> (((16 : Int32) * p1) &&& 0x3f).toInt64.toUInt64).toInt64) &&& (255 : Int64)).toInt32))])) t
          refine XS.icmpNo X0.here hx rfl (hb hby d2_32) rfl (flt hm1).1 ?_
          show Steps p.tables e below (s₁.setTop (mkF m 35 #[.val (.long q0), .second, .val (.int p1), .val (.int ((((q0.toUInt64 >>> (((16 : Int32) * p1) &&& 0x3f).toInt64.toUInt64).toInt64) &&& (255 : Int64)).toInt32)), .val (.int ((((q0.toUInt64 >>> ((((16 : Int32) * p1) + (8 : Int32)) &&& 0x3f).toInt64.toUInt64).toInt64) &&& (255 : Int64)).toInt32)), .unset] [])) t
          refine XS.iloadN X0.here hx rfl (hb hby d2_35) rfl ?_
          show Steps p.tables e below (s₁.setTop (mkF m 36 #[.val (.long q0), .second, .val (.int p1), .val (.int ((((q0.toUInt64 >>> (((16 : Int32) * p1) &&& 0x3f).toInt64.toUInt64).toInt64) &&& (255 : Int64)).toInt32)), .val (.int ((((q0.toUInt64 >>> ((((16 : Int32) * p1) + (8 : Int32)) &&& 0x3f).toInt64.toUInt64).toInt64) &&& (255 : Int64)).toInt32)), .unset] [(.int ((((q0.toUInt64 >>> (((16 : Int32) * p1) &&& 0x3f).toInt64.toUInt64).toInt64) &&& (255 : Int64)).toInt32))])) t
          refine XS.sipush X0.here hx rfl (hb hby d2_36) ?_
          show Steps p.tables e below (s₁.setTop (mkF m 39 #[.val (.long q0), .second, .val (.int p1), .val (.int ((((q0.toUInt64 >>> (((16 : Int32) * p1) &&& 0x3f).toInt64.toUInt64).toInt64) &&& (255 : Int64)).toInt32)), .val (.int ((((q0.toUInt64 >>> ((((16 : Int32) * p1) + (8 : Int32)) &&& 0x3f).toInt64.toUInt64).toInt64) &&& (255 : Int64)).toInt32)), .unset] [(.int (223 : Int32)), (.int ((((q0.toUInt64 >>> (((16 : Int32) * p1) &&& 0x3f).toInt64.toUInt64).toInt64) &&& (255 : Int64)).toInt32))])) t
          refine XS.icmpNo X0.here hx rfl (hb hby d2_39) rfl (flt hm2).2.2.1 ?_
          show Steps p.tables e below (s₁.setTop (mkF m 42 #[.val (.long q0), .second, .val (.int p1), .val (.int ((((q0.toUInt64 >>> (((16 : Int32) * p1) &&& 0x3f).toInt64.toUInt64).toInt64) &&& (255 : Int64)).toInt32)), .val (.int ((((q0.toUInt64 >>> ((((16 : Int32) * p1) + (8 : Int32)) &&& 0x3f).toInt64.toUInt64).toInt64) &&& (255 : Int64)).toInt32)), .unset] [])) t
          refine XS.iload X0.here hx rfl (hb hby d2_42) rfl ?_
          show Steps p.tables e below (s₁.setTop (mkF m 44 #[.val (.long q0), .second, .val (.int p1), .val (.int ((((q0.toUInt64 >>> (((16 : Int32) * p1) &&& 0x3f).toInt64.toUInt64).toInt64) &&& (255 : Int64)).toInt32)), .val (.int ((((q0.toUInt64 >>> ((((16 : Int32) * p1) + (8 : Int32)) &&& 0x3f).toInt64.toUInt64).toInt64) &&& (255 : Int64)).toInt32)), .unset] [(.int ((((q0.toUInt64 >>> ((((16 : Int32) * p1) + (8 : Int32)) &&& 0x3f).toInt64.toUInt64).toInt64) &&& (255 : Int64)).toInt32))])) t
          refine XS.sipush X0.here hx rfl (hb hby d2_44) ?_
          show Steps p.tables e below (s₁.setTop (mkF m 47 #[.val (.long q0), .second, .val (.int p1), .val (.int ((((q0.toUInt64 >>> (((16 : Int32) * p1) &&& 0x3f).toInt64.toUInt64).toInt64) &&& (255 : Int64)).toInt32)), .val (.int ((((q0.toUInt64 >>> ((((16 : Int32) * p1) + (8 : Int32)) &&& 0x3f).toInt64.toUInt64).toInt64) &&& (255 : Int64)).toInt32)), .unset] [(.int (128 : Int32)), (.int ((((q0.toUInt64 >>> ((((16 : Int32) * p1) + (8 : Int32)) &&& 0x3f).toInt64.toUInt64).toInt64) &&& (255 : Int64)).toInt32))])) t
          refine XS.icmpYes X0.here hx rfl (pc0 := 47) (pc' := 62) rfl (hb hby d2_47) rfl (tlt hm3).1 (by decide) (by decide) ?_
          show Steps p.tables e below (s₁.setTop (mkF m 62 #[.val (.long q0), .second, .val (.int p1), .val (.int ((((q0.toUInt64 >>> (((16 : Int32) * p1) &&& 0x3f).toInt64.toUInt64).toInt64) &&& (255 : Int64)).toInt32)), .val (.int ((((q0.toUInt64 >>> ((((16 : Int32) * p1) + (8 : Int32)) &&& 0x3f).toInt64.toUInt64).toInt64) &&& (255 : Int64)).toInt32)), .unset] [])) t
          refine XS.iconst X0.here hx rfl (hb hby d2_62) ?_
          exact k
        · by_cases hm4 : (191 : Int32) < ((((q0.toUInt64 >>> ((((16 : Int32) * p1) + (8 : Int32)) &&& 0x3f).toInt64.toUInt64).toInt64) &&& (255 : Int64)).toInt32)
          · simp only [if_neg hm1, if_neg hm2, if_neg hm3, if_pos hm4] at k
            show Steps p.tables e below (s₁.setTop (mkF m 32 #[.val (.long q0), .second, .val (.int p1), .val (.int ((((q0.toUInt64 >>> (((16 : Int32) * p1) &&& 0x3f).toInt64.toUInt64).toInt64) &&& (255 : Int64)).toInt32)), .val (.int ((((q0.toUInt64 >>> ((((16 : Int32) * p1) + (8 : Int32)) &&& 0x3f).toInt64.toUInt64).toInt64) &&& (255 : Int64)).toInt32)), .unset] [(.int (194 : Int32)), (.int ((((q0.toUInt64 >>> (((16 : Int32) * p1) &&& 0x3f).toInt64.toUInt64).toInt64) &&& (255 : Int64)).toInt32))])) t
            refine XS.icmpNo X0.here hx rfl (hb hby d2_32) rfl (flt hm1).1 ?_
            show Steps p.tables e below (s₁.setTop (mkF m 35 #[.val (.long q0), .second, .val (.int p1), .val (.int ((((q0.toUInt64 >>> (((16 : Int32) * p1) &&& 0x3f).toInt64.toUInt64).toInt64) &&& (255 : Int64)).toInt32)), .val (.int ((((q0.toUInt64 >>> ((((16 : Int32) * p1) + (8 : Int32)) &&& 0x3f).toInt64.toUInt64).toInt64) &&& (255 : Int64)).toInt32)), .unset] [])) t
            refine XS.iloadN X0.here hx rfl (hb hby d2_35) rfl ?_
            show Steps p.tables e below (s₁.setTop (mkF m 36 #[.val (.long q0), .second, .val (.int p1), .val (.int ((((q0.toUInt64 >>> (((16 : Int32) * p1) &&& 0x3f).toInt64.toUInt64).toInt64) &&& (255 : Int64)).toInt32)), .val (.int ((((q0.toUInt64 >>> ((((16 : Int32) * p1) + (8 : Int32)) &&& 0x3f).toInt64.toUInt64).toInt64) &&& (255 : Int64)).toInt32)), .unset] [(.int ((((q0.toUInt64 >>> (((16 : Int32) * p1) &&& 0x3f).toInt64.toUInt64).toInt64) &&& (255 : Int64)).toInt32))])) t
            refine XS.sipush X0.here hx rfl (hb hby d2_36) ?_
            show Steps p.tables e below (s₁.setTop (mkF m 39 #[.val (.long q0), .second, .val (.int p1), .val (.int ((((q0.toUInt64 >>> (((16 : Int32) * p1) &&& 0x3f).toInt64.toUInt64).toInt64) &&& (255 : Int64)).toInt32)), .val (.int ((((q0.toUInt64 >>> ((((16 : Int32) * p1) + (8 : Int32)) &&& 0x3f).toInt64.toUInt64).toInt64) &&& (255 : Int64)).toInt32)), .unset] [(.int (223 : Int32)), (.int ((((q0.toUInt64 >>> (((16 : Int32) * p1) &&& 0x3f).toInt64.toUInt64).toInt64) &&& (255 : Int64)).toInt32))])) t
            refine XS.icmpNo X0.here hx rfl (hb hby d2_39) rfl (flt hm2).2.2.1 ?_
            show Steps p.tables e below (s₁.setTop (mkF m 42 #[.val (.long q0), .second, .val (.int p1), .val (.int ((((q0.toUInt64 >>> (((16 : Int32) * p1) &&& 0x3f).toInt64.toUInt64).toInt64) &&& (255 : Int64)).toInt32)), .val (.int ((((q0.toUInt64 >>> ((((16 : Int32) * p1) + (8 : Int32)) &&& 0x3f).toInt64.toUInt64).toInt64) &&& (255 : Int64)).toInt32)), .unset] [])) t
            refine XS.iload X0.here hx rfl (hb hby d2_42) rfl ?_
            show Steps p.tables e below (s₁.setTop (mkF m 44 #[.val (.long q0), .second, .val (.int p1), .val (.int ((((q0.toUInt64 >>> (((16 : Int32) * p1) &&& 0x3f).toInt64.toUInt64).toInt64) &&& (255 : Int64)).toInt32)), .val (.int ((((q0.toUInt64 >>> ((((16 : Int32) * p1) + (8 : Int32)) &&& 0x3f).toInt64.toUInt64).toInt64) &&& (255 : Int64)).toInt32)), .unset] [(.int ((((q0.toUInt64 >>> ((((16 : Int32) * p1) + (8 : Int32)) &&& 0x3f).toInt64.toUInt64).toInt64) &&& (255 : Int64)).toInt32))])) t
            refine XS.sipush X0.here hx rfl (hb hby d2_44) ?_
            show Steps p.tables e below (s₁.setTop (mkF m 47 #[.val (.long q0), .second, .val (.int p1), .val (.int ((((q0.toUInt64 >>> (((16 : Int32) * p1) &&& 0x3f).toInt64.toUInt64).toInt64) &&& (255 : Int64)).toInt32)), .val (.int ((((q0.toUInt64 >>> ((((16 : Int32) * p1) + (8 : Int32)) &&& 0x3f).toInt64.toUInt64).toInt64) &&& (255 : Int64)).toInt32)), .unset] [(.int (128 : Int32)), (.int ((((q0.toUInt64 >>> ((((16 : Int32) * p1) + (8 : Int32)) &&& 0x3f).toInt64.toUInt64).toInt64) &&& (255 : Int64)).toInt32))])) t
            refine XS.icmpNo X0.here hx rfl (hb hby d2_47) rfl (flt hm3).1 ?_
            show Steps p.tables e below (s₁.setTop (mkF m 50 #[.val (.long q0), .second, .val (.int p1), .val (.int ((((q0.toUInt64 >>> (((16 : Int32) * p1) &&& 0x3f).toInt64.toUInt64).toInt64) &&& (255 : Int64)).toInt32)), .val (.int ((((q0.toUInt64 >>> ((((16 : Int32) * p1) + (8 : Int32)) &&& 0x3f).toInt64.toUInt64).toInt64) &&& (255 : Int64)).toInt32)), .unset] [])) t
            refine XS.iload X0.here hx rfl (hb hby d2_50) rfl ?_
            show Steps p.tables e below (s₁.setTop (mkF m 52 #[.val (.long q0), .second, .val (.int p1), .val (.int ((((q0.toUInt64 >>> (((16 : Int32) * p1) &&& 0x3f).toInt64.toUInt64).toInt64) &&& (255 : Int64)).toInt32)), .val (.int ((((q0.toUInt64 >>> ((((16 : Int32) * p1) + (8 : Int32)) &&& 0x3f).toInt64.toUInt64).toInt64) &&& (255 : Int64)).toInt32)), .unset] [(.int ((((q0.toUInt64 >>> ((((16 : Int32) * p1) + (8 : Int32)) &&& 0x3f).toInt64.toUInt64).toInt64) &&& (255 : Int64)).toInt32))])) t
            refine XS.sipush X0.here hx rfl (hb hby d2_52) ?_
            show Steps p.tables e below (s₁.setTop (mkF m 55 #[.val (.long q0), .second, .val (.int p1), .val (.int ((((q0.toUInt64 >>> (((16 : Int32) * p1) &&& 0x3f).toInt64.toUInt64).toInt64) &&& (255 : Int64)).toInt32)), .val (.int ((((q0.toUInt64 >>> ((((16 : Int32) * p1) + (8 : Int32)) &&& 0x3f).toInt64.toUInt64).toInt64) &&& (255 : Int64)).toInt32)), .unset] [(.int (191 : Int32)), (.int ((((q0.toUInt64 >>> ((((16 : Int32) * p1) + (8 : Int32)) &&& 0x3f).toInt64.toUInt64).toInt64) &&& (255 : Int64)).toInt32))])) t
            refine XS.icmpYes X0.here hx rfl (pc0 := 55) (pc' := 62) rfl (hb hby d2_55) rfl (tlt hm4).2.2.1 (by decide) (by decide) ?_
            show Steps p.tables e below (s₁.setTop (mkF m 62 #[.val (.long q0), .second, .val (.int p1), .val (.int ((((q0.toUInt64 >>> (((16 : Int32) * p1) &&& 0x3f).toInt64.toUInt64).toInt64) &&& (255 : Int64)).toInt32)), .val (.int ((((q0.toUInt64 >>> ((((16 : Int32) * p1) + (8 : Int32)) &&& 0x3f).toInt64.toUInt64).toInt64) &&& (255 : Int64)).toInt32)), .unset] [])) t
            refine XS.iconst X0.here hx rfl (hb hby d2_62) ?_
            exact k
          · simp only [if_neg hm1, if_neg hm2, if_neg hm3, if_neg hm4] at k
            show Steps p.tables e below (s₁.setTop (mkF m 32 #[.val (.long q0), .second, .val (.int p1), .val (.int ((((q0.toUInt64 >>> (((16 : Int32) * p1) &&& 0x3f).toInt64.toUInt64).toInt64) &&& (255 : Int64)).toInt32)), .val (.int ((((q0.toUInt64 >>> ((((16 : Int32) * p1) + (8 : Int32)) &&& 0x3f).toInt64.toUInt64).toInt64) &&& (255 : Int64)).toInt32)), .unset] [(.int (194 : Int32)), (.int ((((q0.toUInt64 >>> (((16 : Int32) * p1) &&& 0x3f).toInt64.toUInt64).toInt64) &&& (255 : Int64)).toInt32))])) t
            refine XS.icmpNo X0.here hx rfl (hb hby d2_32) rfl (flt hm1).1 ?_
            show Steps p.tables e below (s₁.setTop (mkF m 35 #[.val (.long q0), .second, .val (.int p1), .val (.int ((((q0.toUInt64 >>> (((16 : Int32) * p1) &&& 0x3f).toInt64.toUInt64).toInt64) &&& (255 : Int64)).toInt32)), .val (.int ((((q0.toUInt64 >>> ((((16 : Int32) * p1) + (8 : Int32)) &&& 0x3f).toInt64.toUInt64).toInt64) &&& (255 : Int64)).toInt32)), .unset] [])) t
            refine XS.iloadN X0.here hx rfl (hb hby d2_35) rfl ?_
            show Steps p.tables e below (s₁.setTop (mkF m 36 #[.val (.long q0), .second, .val (.int p1), .val (.int ((((q0.toUInt64 >>> (((16 : Int32) * p1) &&& 0x3f).toInt64.toUInt64).toInt64) &&& (255 : Int64)).toInt32)), .val (.int ((((q0.toUInt64 >>> ((((16 : Int32) * p1) + (8 : Int32)) &&& 0x3f).toInt64.toUInt64).toInt64) &&& (255 : Int64)).toInt32)), .unset] [(.int ((((q0.toUInt64 >>> (((16 : Int32) * p1) &&& 0x3f).toInt64.toUInt64).toInt64) &&& (255 : Int64)).toInt32))])) t
            refine XS.sipush X0.here hx rfl (hb hby d2_36) ?_
            show Steps p.tables e below (s₁.setTop (mkF m 39 #[.val (.long q0), .second, .val (.int p1), .val (.int ((((q0.toUInt64 >>> (((16 : Int32) * p1) &&& 0x3f).toInt64.toUInt64).toInt64) &&& (255 : Int64)).toInt32)), .val (.int ((((q0.toUInt64 >>> ((((16 : Int32) * p1) + (8 : Int32)) &&& 0x3f).toInt64.toUInt64).toInt64) &&& (255 : Int64)).toInt32)), .unset] [(.int (223 : Int32)), (.int ((((q0.toUInt64 >>> (((16 : Int32) * p1) &&& 0x3f).toInt64.toUInt64).toInt64) &&& (255 : Int64)).toInt32))])) t
            refine XS.icmpNo X0.here hx rfl (hb hby d2_39) rfl (flt hm2).2.2.1 ?_
            show Steps p.tables e below (s₁.setTop (mkF m 42 #[.val (.long q0), .second, .val (.int p1), .val (.int ((((q0.toUInt64 >>> (((16 : Int32) * p1) &&& 0x3f).toInt64.toUInt64).toInt64) &&& (255 : Int64)).toInt32)), .val (.int ((((q0.toUInt64 >>> ((((16 : Int32) * p1) + (8 : Int32)) &&& 0x3f).toInt64.toUInt64).toInt64) &&& (255 : Int64)).toInt32)), .unset] [])) t
            refine XS.iload X0.here hx rfl (hb hby d2_42) rfl ?_
            show Steps p.tables e below (s₁.setTop (mkF m 44 #[.val (.long q0), .second, .val (.int p1), .val (.int ((((q0.toUInt64 >>> (((16 : Int32) * p1) &&& 0x3f).toInt64.toUInt64).toInt64) &&& (255 : Int64)).toInt32)), .val (.int ((((q0.toUInt64 >>> ((((16 : Int32) * p1) + (8 : Int32)) &&& 0x3f).toInt64.toUInt64).toInt64) &&& (255 : Int64)).toInt32)), .unset] [(.int ((((q0.toUInt64 >>> ((((16 : Int32) * p1) + (8 : Int32)) &&& 0x3f).toInt64.toUInt64).toInt64) &&& (255 : Int64)).toInt32))])) t
            refine XS.sipush X0.here hx rfl (hb hby d2_44) ?_
            show Steps p.tables e below (s₁.setTop (mkF m 47 #[.val (.long q0), .second, .val (.int p1), .val (.int ((((q0.toUInt64 >>> (((16 : Int32) * p1) &&& 0x3f).toInt64.toUInt64).toInt64) &&& (255 : Int64)).toInt32)), .val (.int ((((q0.toUInt64 >>> ((((16 : Int32) * p1) + (8 : Int32)) &&& 0x3f).toInt64.toUInt64).toInt64) &&& (255 : Int64)).toInt32)), .unset] [(.int (128 : Int32)), (.int ((((q0.toUInt64 >>> ((((16 : Int32) * p1) + (8 : Int32)) &&& 0x3f).toInt64.toUInt64).toInt64) &&& (255 : Int64)).toInt32))])) t
            refine XS.icmpNo X0.here hx rfl (hb hby d2_47) rfl (flt hm3).1 ?_
            show Steps p.tables e below (s₁.setTop (mkF m 50 #[.val (.long q0), .second, .val (.int p1), .val (.int ((((q0.toUInt64 >>> (((16 : Int32) * p1) &&& 0x3f).toInt64.toUInt64).toInt64) &&& (255 : Int64)).toInt32)), .val (.int ((((q0.toUInt64 >>> ((((16 : Int32) * p1) + (8 : Int32)) &&& 0x3f).toInt64.toUInt64).toInt64) &&& (255 : Int64)).toInt32)), .unset] [])) t
            refine XS.iload X0.here hx rfl (hb hby d2_50) rfl ?_
            show Steps p.tables e below (s₁.setTop (mkF m 52 #[.val (.long q0), .second, .val (.int p1), .val (.int ((((q0.toUInt64 >>> (((16 : Int32) * p1) &&& 0x3f).toInt64.toUInt64).toInt64) &&& (255 : Int64)).toInt32)), .val (.int ((((q0.toUInt64 >>> ((((16 : Int32) * p1) + (8 : Int32)) &&& 0x3f).toInt64.toUInt64).toInt64) &&& (255 : Int64)).toInt32)), .unset] [(.int ((((q0.toUInt64 >>> ((((16 : Int32) * p1) + (8 : Int32)) &&& 0x3f).toInt64.toUInt64).toInt64) &&& (255 : Int64)).toInt32))])) t
            refine XS.sipush X0.here hx rfl (hb hby d2_52) ?_
            show Steps p.tables e below (s₁.setTop (mkF m 55 #[.val (.long q0), .second, .val (.int p1), .val (.int ((((q0.toUInt64 >>> (((16 : Int32) * p1) &&& 0x3f).toInt64.toUInt64).toInt64) &&& (255 : Int64)).toInt32)), .val (.int ((((q0.toUInt64 >>> ((((16 : Int32) * p1) + (8 : Int32)) &&& 0x3f).toInt64.toUInt64).toInt64) &&& (255 : Int64)).toInt32)), .unset] [(.int (191 : Int32)), (.int ((((q0.toUInt64 >>> ((((16 : Int32) * p1) + (8 : Int32)) &&& 0x3f).toInt64.toUInt64).toInt64) &&& (255 : Int64)).toInt32))])) t
            refine XS.icmpNo X0.here hx rfl (hb hby d2_55) rfl (flt hm4).2.2.1 ?_
            show Steps p.tables e below (s₁.setTop (mkF m 58 #[.val (.long q0), .second, .val (.int p1), .val (.int ((((q0.toUInt64 >>> (((16 : Int32) * p1) &&& 0x3f).toInt64.toUInt64).toInt64) &&& (255 : Int64)).toInt32)), .val (.int ((((q0.toUInt64 >>> ((((16 : Int32) * p1) + (8 : Int32)) &&& 0x3f).toInt64.toUInt64).toInt64) &&& (255 : Int64)).toInt32)), .unset] [])) t
            refine XS.iconst X0.here hx rfl (hb hby d2_58) ?_
            show Steps p.tables e below (s₁.setTop (mkF m 59 #[.val (.long q0), .second, .val (.int p1), .val (.int ((((q0.toUInt64 >>> (((16 : Int32) * p1) &&& 0x3f).toInt64.toUInt64).toInt64) &&& (255 : Int64)).toInt32)), .val (.int ((((q0.toUInt64 >>> ((((16 : Int32) * p1) + (8 : Int32)) &&& 0x3f).toInt64.toUInt64).toInt64) &&& (255 : Int64)).toInt32)), .unset] [(.int (1 : Int32))])) t
            refine XS.goto X0.here hx rfl (pc0 := 59) (pc' := 63) rfl (hb hby d2_59) (by decide) (by decide) ?_
            exact k
  refine Goes.by (B := s₁.setTop (mkF m 67 #[.val (.long q0), .second, .val (.int p1), .val (.int ((((q0.toUInt64 >>> (((16 : Int32) * p1) &&& 0x3f).toInt64.toUInt64).toInt64) &&& (255 : Int64)).toInt32)), .val (.int ((((q0.toUInt64 >>> ((((16 : Int32) * p1) + (8 : Int32)) &&& 0x3f).toInt64.toUInt64).toInt64) &&& (255 : Int64)).toInt32)), .val (.int (if ((((q0.toUInt64 >>> (((16 : Int32) * p1) &&& 0x3f).toInt64.toUInt64).toInt64) &&& (255 : Int64)).toInt32) < (194 : Int32) then (0 : Int32) else (if (223 : Int32) < ((((q0.toUInt64 >>> (((16 : Int32) * p1) &&& 0x3f).toInt64.toUInt64).toInt64) &&& (255 : Int64)).toInt32) then (0 : Int32) else (if ((((q0.toUInt64 >>> ((((16 : Int32) * p1) + (8 : Int32)) &&& 0x3f).toInt64.toUInt64).toInt64) &&& (255 : Int64)).toInt32) < (128 : Int32) then (0 : Int32) else (if (191 : Int32) < ((((q0.toUInt64 >>> ((((16 : Int32) * p1) + (8 : Int32)) &&& 0x3f).toInt64.toUInt64).toInt64) &&& (255 : Int64)).toInt32) then (0 : Int32) else (1 : Int32))))))] [(.int (if ((((q0.toUInt64 >>> (((16 : Int32) * p1) &&& 0x3f).toInt64.toUInt64).toInt64) &&& (255 : Int64)).toInt32) < (194 : Int32) then (0 : Int32) else (if (223 : Int32) < ((((q0.toUInt64 >>> (((16 : Int32) * p1) &&& 0x3f).toInt64.toUInt64).toInt64) &&& (255 : Int64)).toInt32) then (0 : Int32) else (if ((((q0.toUInt64 >>> ((((16 : Int32) * p1) + (8 : Int32)) &&& 0x3f).toInt64.toUInt64).toInt64) &&& (255 : Int64)).toInt32) < (128 : Int32) then (0 : Int32) else (if (191 : Int32) < ((((q0.toUInt64 >>> ((((16 : Int32) * p1) + (8 : Int32)) &&& 0x3f).toInt64.toUInt64).toInt64) &&& (255 : Int64)).toInt32) then (0 : Int32) else (1 : Int32))))))])) (fun t k => ?_) ?_
  · show Steps p.tables e below (s₁.setTop (mkF m 63 #[.val (.long q0), .second, .val (.int p1), .val (.int ((((q0.toUInt64 >>> (((16 : Int32) * p1) &&& 0x3f).toInt64.toUInt64).toInt64) &&& (255 : Int64)).toInt32)), .val (.int ((((q0.toUInt64 >>> ((((16 : Int32) * p1) + (8 : Int32)) &&& 0x3f).toInt64.toUInt64).toInt64) &&& (255 : Int64)).toInt32)), .unset] [(.int (if ((((q0.toUInt64 >>> (((16 : Int32) * p1) &&& 0x3f).toInt64.toUInt64).toInt64) &&& (255 : Int64)).toInt32) < (194 : Int32) then (0 : Int32) else (if (223 : Int32) < ((((q0.toUInt64 >>> (((16 : Int32) * p1) &&& 0x3f).toInt64.toUInt64).toInt64) &&& (255 : Int64)).toInt32) then (0 : Int32) else (if ((((q0.toUInt64 >>> ((((16 : Int32) * p1) + (8 : Int32)) &&& 0x3f).toInt64.toUInt64).toInt64) &&& (255 : Int64)).toInt32) < (128 : Int32) then (0 : Int32) else (if (191 : Int32) < ((((q0.toUInt64 >>> ((((16 : Int32) * p1) + (8 : Int32)) &&& 0x3f).toInt64.toUInt64).toInt64) &&& (255 : Int64)).toInt32) then (0 : Int32) else (1 : Int32))))))])) t
    refine XS.istore X0.here hx rfl (hb hby d2_63) rfl (l' := #[.val (.long q0), .second, .val (.int p1), .val (.int ((((q0.toUInt64 >>> (((16 : Int32) * p1) &&& 0x3f).toInt64.toUInt64).toInt64) &&& (255 : Int64)).toInt32)), .val (.int ((((q0.toUInt64 >>> ((((16 : Int32) * p1) + (8 : Int32)) &&& 0x3f).toInt64.toUInt64).toInt64) &&& (255 : Int64)).toInt32)), .val (.int (if ((((q0.toUInt64 >>> (((16 : Int32) * p1) &&& 0x3f).toInt64.toUInt64).toInt64) &&& (255 : Int64)).toInt32) < (194 : Int32) then (0 : Int32) else (if (223 : Int32) < ((((q0.toUInt64 >>> (((16 : Int32) * p1) &&& 0x3f).toInt64.toUInt64).toInt64) &&& (255 : Int64)).toInt32) then (0 : Int32) else (if ((((q0.toUInt64 >>> ((((16 : Int32) * p1) + (8 : Int32)) &&& 0x3f).toInt64.toUInt64).toInt64) &&& (255 : Int64)).toInt32) < (128 : Int32) then (0 : Int32) else (if (191 : Int32) < ((((q0.toUInt64 >>> ((((16 : Int32) * p1) + (8 : Int32)) &&& 0x3f).toInt64.toUInt64).toInt64) &&& (255 : Int64)).toInt32) then (0 : Int32) else (1 : Int32))))))]) rfl ?_
    show Steps p.tables e below (s₁.setTop (mkF m 65 #[.val (.long q0), .second, .val (.int p1), .val (.int ((((q0.toUInt64 >>> (((16 : Int32) * p1) &&& 0x3f).toInt64.toUInt64).toInt64) &&& (255 : Int64)).toInt32)), .val (.int ((((q0.toUInt64 >>> ((((16 : Int32) * p1) + (8 : Int32)) &&& 0x3f).toInt64.toUInt64).toInt64) &&& (255 : Int64)).toInt32)), .val (.int (if ((((q0.toUInt64 >>> (((16 : Int32) * p1) &&& 0x3f).toInt64.toUInt64).toInt64) &&& (255 : Int64)).toInt32) < (194 : Int32) then (0 : Int32) else (if (223 : Int32) < ((((q0.toUInt64 >>> (((16 : Int32) * p1) &&& 0x3f).toInt64.toUInt64).toInt64) &&& (255 : Int64)).toInt32) then (0 : Int32) else (if ((((q0.toUInt64 >>> ((((16 : Int32) * p1) + (8 : Int32)) &&& 0x3f).toInt64.toUInt64).toInt64) &&& (255 : Int64)).toInt32) < (128 : Int32) then (0 : Int32) else (if (191 : Int32) < ((((q0.toUInt64 >>> ((((16 : Int32) * p1) + (8 : Int32)) &&& 0x3f).toInt64.toUInt64).toInt64) &&& (255 : Int64)).toInt32) then (0 : Int32) else (1 : Int32))))))] [])) t
    refine XS.iload X0.here hx rfl (hb hby d2_65) rfl ?_
    exact k
  by_cases hc5 : (if ((((q0.toUInt64 >>> (((16 : Int32) * p1) &&& 0x3f).toInt64.toUInt64).toInt64) &&& (255 : Int64)).toInt32) < (194 : Int32) then (0 : Int32) else (if (223 : Int32) < ((((q0.toUInt64 >>> (((16 : Int32) * p1) &&& 0x3f).toInt64.toUInt64).toInt64) &&& (255 : Int64)).toInt32) then (0 : Int32) else (if ((((q0.toUInt64 >>> ((((16 : Int32) * p1) + (8 : Int32)) &&& 0x3f).toInt64.toUInt64).toInt64) &&& (255 : Int64)).toInt32) < (128 : Int32) then (0 : Int32) else (if (191 : Int32) < ((((q0.toUInt64 >>> ((((16 : Int32) * p1) + (8 : Int32)) &&& 0x3f).toInt64.toUInt64).toInt64) &&& (255 : Int64)).toInt32) then (0 : Int32) else (1 : Int32))))) = (0 : Int32)
  · refine Goes.by (B := s₁.setTop (mkF m 83 #[.val (.long q0), .second, .val (.int p1), .val (.int ((((q0.toUInt64 >>> (((16 : Int32) * p1) &&& 0x3f).toInt64.toUInt64).toInt64) &&& (255 : Int64)).toInt32)), .val (.int ((((q0.toUInt64 >>> ((((16 : Int32) * p1) + (8 : Int32)) &&& 0x3f).toInt64.toUInt64).toInt64) &&& (255 : Int64)).toInt32)), .val (.int (if ((((q0.toUInt64 >>> (((16 : Int32) * p1) &&& 0x3f).toInt64.toUInt64).toInt64) &&& (255 : Int64)).toInt32) < (194 : Int32) then (0 : Int32) else (if (223 : Int32) < ((((q0.toUInt64 >>> (((16 : Int32) * p1) &&& 0x3f).toInt64.toUInt64).toInt64) &&& (255 : Int64)).toInt32) then (0 : Int32) else (if ((((q0.toUInt64 >>> ((((16 : Int32) * p1) + (8 : Int32)) &&& 0x3f).toInt64.toUInt64).toInt64) &&& (255 : Int64)).toInt32) < (128 : Int32) then (0 : Int32) else (if (191 : Int32) < ((((q0.toUInt64 >>> ((((16 : Int32) * p1) + (8 : Int32)) &&& 0x3f).toInt64.toUInt64).toInt64) &&& (255 : Int64)).toInt32) then (0 : Int32) else (1 : Int32))))))] [(.long ((1 : Int64) <<< ((((16 : Int32) * p1) + (15 : Int32)) &&& 0x3f).toInt64))])) (fun t k => ?_) ?_
    · show Steps p.tables e below (s₁.setTop (mkF m 67 #[.val (.long q0), .second, .val (.int p1), .val (.int ((((q0.toUInt64 >>> (((16 : Int32) * p1) &&& 0x3f).toInt64.toUInt64).toInt64) &&& (255 : Int64)).toInt32)), .val (.int ((((q0.toUInt64 >>> ((((16 : Int32) * p1) + (8 : Int32)) &&& 0x3f).toInt64.toUInt64).toInt64) &&& (255 : Int64)).toInt32)), .val (.int (if ((((q0.toUInt64 >>> (((16 : Int32) * p1) &&& 0x3f).toInt64.toUInt64).toInt64) &&& (255 : Int64)).toInt32) < (194 : Int32) then (0 : Int32) else (if (223 : Int32) < ((((q0.toUInt64 >>> (((16 : Int32) * p1) &&& 0x3f).toInt64.toUInt64).toInt64) &&& (255 : Int64)).toInt32) then (0 : Int32) else (if ((((q0.toUInt64 >>> ((((16 : Int32) * p1) + (8 : Int32)) &&& 0x3f).toInt64.toUInt64).toInt64) &&& (255 : Int64)).toInt32) < (128 : Int32) then (0 : Int32) else (if (191 : Int32) < ((((q0.toUInt64 >>> ((((16 : Int32) * p1) + (8 : Int32)) &&& 0x3f).toInt64.toUInt64).toInt64) &&& (255 : Int64)).toInt32) then (0 : Int32) else (1 : Int32))))))] [(.int (if ((((q0.toUInt64 >>> (((16 : Int32) * p1) &&& 0x3f).toInt64.toUInt64).toInt64) &&& (255 : Int64)).toInt32) < (194 : Int32) then (0 : Int32) else (if (223 : Int32) < ((((q0.toUInt64 >>> (((16 : Int32) * p1) &&& 0x3f).toInt64.toUInt64).toInt64) &&& (255 : Int64)).toInt32) then (0 : Int32) else (if ((((q0.toUInt64 >>> ((((16 : Int32) * p1) + (8 : Int32)) &&& 0x3f).toInt64.toUInt64).toInt64) &&& (255 : Int64)).toInt32) < (128 : Int32) then (0 : Int32) else (if (191 : Int32) < ((((q0.toUInt64 >>> ((((16 : Int32) * p1) + (8 : Int32)) &&& 0x3f).toInt64.toUInt64).toInt64) &&& (255 : Int64)).toInt32) then (0 : Int32) else (1 : Int32))))))])) t
      refine XS.ifYes X0.here hx rfl (pc0 := 67) (pc' := 74) rfl (hb hby d2_67) rfl ((if0 _ _).trans (teq hc5).1) (by decide) (by decide) ?_
      show Steps p.tables e below (s₁.setTop (mkF m 74 #[.val (.long q0), .second, .val (.int p1), .val (.int ((((q0.toUInt64 >>> (((16 : Int32) * p1) &&& 0x3f).toInt64.toUInt64).toInt64) &&& (255 : Int64)).toInt32)), .val (.int ((((q0.toUInt64 >>> ((((16 : Int32) * p1) + (8 : Int32)) &&& 0x3f).toInt64.toUInt64).toInt64) &&& (255 : Int64)).toInt32)), .val (.int (if ((((q0.toUInt64 >>> (((16 : Int32) * p1) &&& 0x3f).toInt64.toUInt64).toInt64) &&& (255 : Int64)).toInt32) < (194 : Int32) then (0 : Int32) else (if (223 : Int32) < ((((q0.toUInt64 >>> (((16 : Int32) * p1) &&& 0x3f).toInt64.toUInt64).toInt64) &&& (255 : Int64)).toInt32) then (0 : Int32) else (if ((((q0.toUInt64 >>> ((((16 : Int32) * p1) + (8 : Int32)) &&& 0x3f).toInt64.toUInt64).toInt64) &&& (255 : Int64)).toInt32) < (128 : Int32) then (0 : Int32) else (if (191 : Int32) < ((((q0.toUInt64 >>> ((((16 : Int32) * p1) + (8 : Int32)) &&& 0x3f).toInt64.toUInt64).toInt64) &&& (255 : Int64)).toInt32) then (0 : Int32) else (1 : Int32))))))] [])) t
      refine XS.lconst X0.here hx rfl (hb hby d2_74) ?_
      show Steps p.tables e below (s₁.setTop (mkF m 75 #[.val (.long q0), .second, .val (.int p1), .val (.int ((((q0.toUInt64 >>> (((16 : Int32) * p1) &&& 0x3f).toInt64.toUInt64).toInt64) &&& (255 : Int64)).toInt32)), .val (.int ((((q0.toUInt64 >>> ((((16 : Int32) * p1) + (8 : Int32)) &&& 0x3f).toInt64.toUInt64).toInt64) &&& (255 : Int64)).toInt32)), .val (.int (if ((((q0.toUInt64 >>> (((16 : Int32) * p1) &&& 0x3f).toInt64.toUInt64).toInt64) &&& (255 : Int64)).toInt32) < (194 : Int32) then (0 : Int32) else (if (223 : Int32) < ((((q0.toUInt64 >>> (((16 : Int32) * p1) &&& 0x3f).toInt64.toUInt64).toInt64) &&& (255 : Int64)).toInt32) then (0 : Int32) else (if ((((q0.toUInt64 >>> ((((16 : Int32) * p1) + (8 : Int32)) &&& 0x3f).toInt64.toUInt64).toInt64) &&& (255 : Int64)).toInt32) < (128 : Int32) then (0 : Int32) else (if (191 : Int32) < ((((q0.toUInt64 >>> ((((16 : Int32) * p1) + (8 : Int32)) &&& 0x3f).toInt64.toUInt64).toInt64) &&& (255 : Int64)).toInt32) then (0 : Int32) else (1 : Int32))))))] [(.long (1 : Int64))])) t
      refine XS.bipush X0.here hx rfl (hb hby d2_75) ?_
      show Steps p.tables e below (s₁.setTop (mkF m 77 #[.val (.long q0), .second, .val (.int p1), .val (.int ((((q0.toUInt64 >>> (((16 : Int32) * p1) &&& 0x3f).toInt64.toUInt64).toInt64) &&& (255 : Int64)).toInt32)), .val (.int ((((q0.toUInt64 >>> ((((16 : Int32) * p1) + (8 : Int32)) &&& 0x3f).toInt64.toUInt64).toInt64) &&& (255 : Int64)).toInt32)), .val (.int (if ((((q0.toUInt64 >>> (((16 : Int32) * p1) &&& 0x3f).toInt64.toUInt64).toInt64) &&& (255 : Int64)).toInt32) < (194 : Int32) then (0 : Int32) else (if (223 : Int32) < ((((q0.toUInt64 >>> (((16 : Int32) * p1) &&& 0x3f).toInt64.toUInt64).toInt64) &&& (255 : Int64)).toInt32) then (0 : Int32) else (if ((((q0.toUInt64 >>> ((((16 : Int32) * p1) + (8 : Int32)) &&& 0x3f).toInt64.toUInt64).toInt64) &&& (255 : Int64)).toInt32) < (128 : Int32) then (0 : Int32) else (if (191 : Int32) < ((((q0.toUInt64 >>> ((((16 : Int32) * p1) + (8 : Int32)) &&& 0x3f).toInt64.toUInt64).toInt64) &&& (255 : Int64)).toInt32) then (0 : Int32) else (1 : Int32))))))] [(.int (16 : Int32)), (.long (1 : Int64))])) t
      refine XS.iloadN X0.here hx rfl (hb hby d2_77) rfl ?_
      show Steps p.tables e below (s₁.setTop (mkF m 78 #[.val (.long q0), .second, .val (.int p1), .val (.int ((((q0.toUInt64 >>> (((16 : Int32) * p1) &&& 0x3f).toInt64.toUInt64).toInt64) &&& (255 : Int64)).toInt32)), .val (.int ((((q0.toUInt64 >>> ((((16 : Int32) * p1) + (8 : Int32)) &&& 0x3f).toInt64.toUInt64).toInt64) &&& (255 : Int64)).toInt32)), .val (.int (if ((((q0.toUInt64 >>> (((16 : Int32) * p1) &&& 0x3f).toInt64.toUInt64).toInt64) &&& (255 : Int64)).toInt32) < (194 : Int32) then (0 : Int32) else (if (223 : Int32) < ((((q0.toUInt64 >>> (((16 : Int32) * p1) &&& 0x3f).toInt64.toUInt64).toInt64) &&& (255 : Int64)).toInt32) then (0 : Int32) else (if ((((q0.toUInt64 >>> ((((16 : Int32) * p1) + (8 : Int32)) &&& 0x3f).toInt64.toUInt64).toInt64) &&& (255 : Int64)).toInt32) < (128 : Int32) then (0 : Int32) else (if (191 : Int32) < ((((q0.toUInt64 >>> ((((16 : Int32) * p1) + (8 : Int32)) &&& 0x3f).toInt64.toUInt64).toInt64) &&& (255 : Int64)).toInt32) then (0 : Int32) else (1 : Int32))))))] [(.int p1), (.int (16 : Int32)), (.long (1 : Int64))])) t
      refine XS.imul X0.here hx rfl (hb hby d2_78) rfl ?_
      show Steps p.tables e below (s₁.setTop (mkF m 79 #[.val (.long q0), .second, .val (.int p1), .val (.int ((((q0.toUInt64 >>> (((16 : Int32) * p1) &&& 0x3f).toInt64.toUInt64).toInt64) &&& (255 : Int64)).toInt32)), .val (.int ((((q0.toUInt64 >>> ((((16 : Int32) * p1) + (8 : Int32)) &&& 0x3f).toInt64.toUInt64).toInt64) &&& (255 : Int64)).toInt32)), .val (.int (if ((((q0.toUInt64 >>> (((16 : Int32) * p1) &&& 0x3f).toInt64.toUInt64).toInt64) &&& (255 : Int64)).toInt32) < (194 : Int32) then (0 : Int32) else (if (223 : Int32) < ((((q0.toUInt64 >>> (((16 : Int32) * p1) &&& 0x3f).toInt64.toUInt64).toInt64) &&& (255 : Int64)).toInt32) then (0 : Int32) else (if ((((q0.toUInt64 >>> ((((16 : Int32) * p1) + (8 : Int32)) &&& 0x3f).toInt64.toUInt64).toInt64) &&& (255 : Int64)).toInt32) < (128 : Int32) then (0 : Int32) else (if (191 : Int32) < ((((q0.toUInt64 >>> ((((16 : Int32) * p1) + (8 : Int32)) &&& 0x3f).toInt64.toUInt64).toInt64) &&& (255 : Int64)).toInt32) then (0 : Int32) else (1 : Int32))))))] [(.int ((16 : Int32) * p1)), (.long (1 : Int64))])) t
      refine XS.bipush X0.here hx rfl (hb hby d2_79) ?_
      show Steps p.tables e below (s₁.setTop (mkF m 81 #[.val (.long q0), .second, .val (.int p1), .val (.int ((((q0.toUInt64 >>> (((16 : Int32) * p1) &&& 0x3f).toInt64.toUInt64).toInt64) &&& (255 : Int64)).toInt32)), .val (.int ((((q0.toUInt64 >>> ((((16 : Int32) * p1) + (8 : Int32)) &&& 0x3f).toInt64.toUInt64).toInt64) &&& (255 : Int64)).toInt32)), .val (.int (if ((((q0.toUInt64 >>> (((16 : Int32) * p1) &&& 0x3f).toInt64.toUInt64).toInt64) &&& (255 : Int64)).toInt32) < (194 : Int32) then (0 : Int32) else (if (223 : Int32) < ((((q0.toUInt64 >>> (((16 : Int32) * p1) &&& 0x3f).toInt64.toUInt64).toInt64) &&& (255 : Int64)).toInt32) then (0 : Int32) else (if ((((q0.toUInt64 >>> ((((16 : Int32) * p1) + (8 : Int32)) &&& 0x3f).toInt64.toUInt64).toInt64) &&& (255 : Int64)).toInt32) < (128 : Int32) then (0 : Int32) else (if (191 : Int32) < ((((q0.toUInt64 >>> ((((16 : Int32) * p1) + (8 : Int32)) &&& 0x3f).toInt64.toUInt64).toInt64) &&& (255 : Int64)).toInt32) then (0 : Int32) else (1 : Int32))))))] [(.int (15 : Int32)), (.int ((16 : Int32) * p1)), (.long (1 : Int64))])) t
      refine XS.iadd X0.here hx rfl (hb hby d2_81) rfl ?_
      show Steps p.tables e below (s₁.setTop (mkF m 82 #[.val (.long q0), .second, .val (.int p1), .val (.int ((((q0.toUInt64 >>> (((16 : Int32) * p1) &&& 0x3f).toInt64.toUInt64).toInt64) &&& (255 : Int64)).toInt32)), .val (.int ((((q0.toUInt64 >>> ((((16 : Int32) * p1) + (8 : Int32)) &&& 0x3f).toInt64.toUInt64).toInt64) &&& (255 : Int64)).toInt32)), .val (.int (if ((((q0.toUInt64 >>> (((16 : Int32) * p1) &&& 0x3f).toInt64.toUInt64).toInt64) &&& (255 : Int64)).toInt32) < (194 : Int32) then (0 : Int32) else (if (223 : Int32) < ((((q0.toUInt64 >>> (((16 : Int32) * p1) &&& 0x3f).toInt64.toUInt64).toInt64) &&& (255 : Int64)).toInt32) then (0 : Int32) else (if ((((q0.toUInt64 >>> ((((16 : Int32) * p1) + (8 : Int32)) &&& 0x3f).toInt64.toUInt64).toInt64) &&& (255 : Int64)).toInt32) < (128 : Int32) then (0 : Int32) else (if (191 : Int32) < ((((q0.toUInt64 >>> ((((16 : Int32) * p1) + (8 : Int32)) &&& 0x3f).toInt64.toUInt64).toInt64) &&& (255 : Int64)).toInt32) then (0 : Int32) else (1 : Int32))))))] [(.int (((16 : Int32) * p1) + (15 : Int32))), (.long (1 : Int64))])) t
      refine XS.lshl X0.here hx rfl (hb hby d2_82) rfl ?_
      exact k
    obtain ⟨fs, hr, hrun, hended, hW, hsame⟩ := X0.leave (v := some (.long ((1 : Int64) <<< ((((16 : Int32) * p1) + (15 : Int32)) &&& 0x3f).toInt64))) (fun h => by rw [Bd.returns] at h; cases h)
    refine Goes.mk _ _ ?_ ⟨hrun, hended, _, _, rfl, ?_, ⟨_, rfl⟩, hW, hsame.mono (by decide) (by decide)⟩
    · exact retOut X0 hx Bd.returns rfl (Or.inr (Or.inl ⟨rfl, rfl, _, rfl⟩)) (hb hby d2_83) hr
    · show Q2 Z q0 p1 h0 n0 _ s₁.heap _
      rw [e0]
      exact ⟨(by simp only [f2, if_pos hc5]), N0, rfl⟩
  · refine Goes.by (B := s₁.setTop (mkF m 83 #[.val (.long q0), .second, .val (.int p1), .val (.int ((((q0.toUInt64 >>> (((16 : Int32) * p1) &&& 0x3f).toInt64.toUInt64).toInt64) &&& (255 : Int64)).toInt32)), .val (.int ((((q0.toUInt64 >>> ((((16 : Int32) * p1) + (8 : Int32)) &&& 0x3f).toInt64.toUInt64).toInt64) &&& (255 : Int64)).toInt32)), .val (.int (if ((((q0.toUInt64 >>> (((16 : Int32) * p1) &&& 0x3f).toInt64.toUInt64).toInt64) &&& (255 : Int64)).toInt32) < (194 : Int32) then (0 : Int32) else (if (223 : Int32) < ((((q0.toUInt64 >>> (((16 : Int32) * p1) &&& 0x3f).toInt64.toUInt64).toInt64) &&& (255 : Int64)).toInt32) then (0 : Int32) else (if ((((q0.toUInt64 >>> ((((16 : Int32) * p1) + (8 : Int32)) &&& 0x3f).toInt64.toUInt64).toInt64) &&& (255 : Int64)).toInt32) < (128 : Int32) then (0 : Int32) else (if (191 : Int32) < ((((q0.toUInt64 >>> ((((16 : Int32) * p1) + (8 : Int32)) &&& 0x3f).toInt64.toUInt64).toInt64) &&& (255 : Int64)).toInt32) then (0 : Int32) else (1 : Int32))))))] [(.long (0 : Int64))])) (fun t k => ?_) ?_
    · show Steps p.tables e below (s₁.setTop (mkF m 67 #[.val (.long q0), .second, .val (.int p1), .val (.int ((((q0.toUInt64 >>> (((16 : Int32) * p1) &&& 0x3f).toInt64.toUInt64).toInt64) &&& (255 : Int64)).toInt32)), .val (.int ((((q0.toUInt64 >>> ((((16 : Int32) * p1) + (8 : Int32)) &&& 0x3f).toInt64.toUInt64).toInt64) &&& (255 : Int64)).toInt32)), .val (.int (if ((((q0.toUInt64 >>> (((16 : Int32) * p1) &&& 0x3f).toInt64.toUInt64).toInt64) &&& (255 : Int64)).toInt32) < (194 : Int32) then (0 : Int32) else (if (223 : Int32) < ((((q0.toUInt64 >>> (((16 : Int32) * p1) &&& 0x3f).toInt64.toUInt64).toInt64) &&& (255 : Int64)).toInt32) then (0 : Int32) else (if ((((q0.toUInt64 >>> ((((16 : Int32) * p1) + (8 : Int32)) &&& 0x3f).toInt64.toUInt64).toInt64) &&& (255 : Int64)).toInt32) < (128 : Int32) then (0 : Int32) else (if (191 : Int32) < ((((q0.toUInt64 >>> ((((16 : Int32) * p1) + (8 : Int32)) &&& 0x3f).toInt64.toUInt64).toInt64) &&& (255 : Int64)).toInt32) then (0 : Int32) else (1 : Int32))))))] [(.int (if ((((q0.toUInt64 >>> (((16 : Int32) * p1) &&& 0x3f).toInt64.toUInt64).toInt64) &&& (255 : Int64)).toInt32) < (194 : Int32) then (0 : Int32) else (if (223 : Int32) < ((((q0.toUInt64 >>> (((16 : Int32) * p1) &&& 0x3f).toInt64.toUInt64).toInt64) &&& (255 : Int64)).toInt32) then (0 : Int32) else (if ((((q0.toUInt64 >>> ((((16 : Int32) * p1) + (8 : Int32)) &&& 0x3f).toInt64.toUInt64).toInt64) &&& (255 : Int64)).toInt32) < (128 : Int32) then (0 : Int32) else (if (191 : Int32) < ((((q0.toUInt64 >>> ((((16 : Int32) * p1) + (8 : Int32)) &&& 0x3f).toInt64.toUInt64).toInt64) &&& (255 : Int64)).toInt32) then (0 : Int32) else (1 : Int32))))))])) t
      refine XS.ifNo X0.here hx rfl (hb hby d2_67) rfl ((if0 _ _).trans (feq hc5).1) ?_
      show Steps p.tables e below (s₁.setTop (mkF m 70 #[.val (.long q0), .second, .val (.int p1), .val (.int ((((q0.toUInt64 >>> (((16 : Int32) * p1) &&& 0x3f).toInt64.toUInt64).toInt64) &&& (255 : Int64)).toInt32)), .val (.int ((((q0.toUInt64 >>> ((((16 : Int32) * p1) + (8 : Int32)) &&& 0x3f).toInt64.toUInt64).toInt64) &&& (255 : Int64)).toInt32)), .val (.int (if ((((q0.toUInt64 >>> (((16 : Int32) * p1) &&& 0x3f).toInt64.toUInt64).toInt64) &&& (255 : Int64)).toInt32) < (194 : Int32) then (0 : Int32) else (if (223 : Int32) < ((((q0.toUInt64 >>> (((16 : Int32) * p1) &&& 0x3f).toInt64.toUInt64).toInt64) &&& (255 : Int64)).toInt32) then (0 : Int32) else (if ((((q0.toUInt64 >>> ((((16 : Int32) * p1) + (8 : Int32)) &&& 0x3f).toInt64.toUInt64).toInt64) &&& (255 : Int64)).toInt32) < (128 : Int32) then (0 : Int32) else (if (191 : Int32) < ((((q0.toUInt64 >>> ((((16 : Int32) * p1) + (8 : Int32)) &&& 0x3f).toInt64.toUInt64).toInt64) &&& (255 : Int64)).toInt32) then (0 : Int32) else (1 : Int32))))))] [])) t
      refine XS.lconst X0.here hx rfl (hb hby d2_70) ?_
      show Steps p.tables e below (s₁.setTop (mkF m 71 #[.val (.long q0), .second, .val (.int p1), .val (.int ((((q0.toUInt64 >>> (((16 : Int32) * p1) &&& 0x3f).toInt64.toUInt64).toInt64) &&& (255 : Int64)).toInt32)), .val (.int ((((q0.toUInt64 >>> ((((16 : Int32) * p1) + (8 : Int32)) &&& 0x3f).toInt64.toUInt64).toInt64) &&& (255 : Int64)).toInt32)), .val (.int (if ((((q0.toUInt64 >>> (((16 : Int32) * p1) &&& 0x3f).toInt64.toUInt64).toInt64) &&& (255 : Int64)).toInt32) < (194 : Int32) then (0 : Int32) else (if (223 : Int32) < ((((q0.toUInt64 >>> (((16 : Int32) * p1) &&& 0x3f).toInt64.toUInt64).toInt64) &&& (255 : Int64)).toInt32) then (0 : Int32) else (if ((((q0.toUInt64 >>> ((((16 : Int32) * p1) + (8 : Int32)) &&& 0x3f).toInt64.toUInt64).toInt64) &&& (255 : Int64)).toInt32) < (128 : Int32) then (0 : Int32) else (if (191 : Int32) < ((((q0.toUInt64 >>> ((((16 : Int32) * p1) + (8 : Int32)) &&& 0x3f).toInt64.toUInt64).toInt64) &&& (255 : Int64)).toInt32) then (0 : Int32) else (1 : Int32))))))] [(.long (0 : Int64))])) t
      refine XS.goto X0.here hx rfl (pc0 := 71) (pc' := 83) rfl (hb hby d2_71) (by decide) (by decide) ?_
      exact k
    obtain ⟨fs, hr, hrun, hended, hW, hsame⟩ := X0.leave (v := some (.long (0 : Int64))) (fun h => by rw [Bd.returns] at h; cases h)
    refine Goes.mk _ _ ?_ ⟨hrun, hended, _, _, rfl, ?_, ⟨_, rfl⟩, hW, hsame.mono (by decide) (by decide)⟩
    · exact retOut X0 hx Bd.returns rfl (Or.inr (Or.inl ⟨rfl, rfl, _, rfl⟩)) (hb hby d2_83) hr
    · show Q2 Z q0 p1 h0 n0 _ s₁.heap _
      rw [e0]
      exact ⟨(by simp only [f2, if_neg hc5]), N0, rfl⟩
theorem d3_0 : decode prog_20_method_27_code 0 = .ok (.lload_n 0, 1) := by decide +kernel
theorem d3_1 : decode prog_20_method_27_code 1 = .ok (.ldc2_w 143, 3) := by decide +kernel
theorem d3_4 : decode prog_20_method_27_code 4 = .ok (.land, 1) := by decide +kernel
theorem d3_5 : decode prog_20_method_27_code 5 = .ok (.ldc2_w 145, 3) := by decide +kernel
theorem d3_8 : decode prog_20_method_27_code 8 = .ok (.lxor, 1) := by decide +kernel
theorem d3_9 : decode prog_20_method_27_code 9 = .ok (.lstore_n 2, 1) := by decide +kernel
theorem d3_10 : decode prog_20_method_27_code 10 = .ok (.lload_n 2, 1) := by decide +kernel
theorem d3_11 : decode prog_20_method_27_code 11 = .ok (.ldc2_w 147, 3) := by decide +kernel
theorem d3_14 : decode prog_20_method_27_code 14 = .ok (.land, 1) := by decide +kernel
theorem d3_15 : decode prog_20_method_27_code 15 = .ok (.ldc2_w 147, 3) := by decide +kernel
theorem d3_18 : decode prog_20_method_27_code 18 = .ok (.ladd, 1) := by decide +kernel
theorem d3_19 : decode prog_20_method_27_code 19 = .ok (.lload_n 2, 1) := by decide +kernel
theorem d3_20 : decode prog_20_method_27_code 20 = .ok (.lor, 1) := by decide +kernel
theorem d3_21 : decode prog_20_method_27_code 21 = .ok (.lstore 4, 2) := by decide +kernel
theorem d3_23 : decode prog_20_method_27_code 23 = .ok (.lload_n 0, 1) := by decide +kernel
theorem d3_24 : decode prog_20_method_27_code 24 = .ok (.ldc2_w 149, 3) := by decide +kernel
theorem d3_27 : decode prog_20_method_27_code 27 = .ok (.land, 1) := by decide +kernel
theorem d3_28 : decode prog_20_method_27_code 28 = .ok (.ldc2_w 147, 3) := by decide +kernel
theorem d3_31 : decode prog_20_method_27_code 31 = .ok (.ladd, 1) := by decide +kernel
theorem d3_32 : decode prog_20_method_27_code 32 = .ok (.ldc2_w 133, 3) := by decide +kernel
theorem d3_35 : decode prog_20_method_27_code 35 = .ok (.lxor, 1) := by decide +kernel
theorem d3_36 : decode prog_20_method_27_code 36 = .ok (.lstore 6, 2) := by decide +kernel
theorem d3_38 : decode prog_20_method_27_code 38 = .ok (.lload 4, 2) := by decide +kernel
theorem d3_40 : decode prog_20_method_27_code 40 = .ok (.lload 6, 2) := by decide +kernel
theorem d3_42 : decode prog_20_method_27_code 42 = .ok (.lor, 1) := by decide +kernel
theorem d3_43 : decode prog_20_method_27_code 43 = .ok (.ldc2_w 151, 3) := by decide +kernel
theorem d3_46 : decode prog_20_method_27_code 46 = .ok (.land, 1) := by decide +kernel
theorem d3_47 : decode prog_20_method_27_code 47 = .ok (.lreturn, 1) := by decide +kernel
def f3 (q0 : Int64) : Int64 := (((((((q0 &&& (-4548423552103038752 : Int64)) ^^^ (-9169187277044154176 : Int64)) &&& (9223231297218904063 : Int64)) + (9223231297218904063 : Int64)) ||| ((q0 &&& (-4548423552103038752 : Int64)) ^^^ (-9169187277044154176 : Int64))) ||| (((q0 &&& (8444378152304670 : Int64)) + (9223231297218904063 : Int64)) ^^^ (-1 : Int64))) &&& (-9223231297218904064 : Int64))
def Q3 (Z : State) (q0 : Int64) (h0 : Heap) (n0 : Nat) (v : Option Value) (h : Heap) (L : List Loc) : Prop := v = some (.long (f3 q0)) ∧ Fr n0 L ∧ h = h0
theorem own_pn_com_example_bare_octets_bareoctets_codec_WellFormedSequences : plainName "com/example/bare_octets/bareoctets/codec/WellFormedSequences" = true := by first | (simp [plainName, overriddenIn]; done) | decide +kernel
theorem ef3 (m : MethodId) (x0 : Int64) : entryFrame m #[(.long x0)] 8 = mkF m 0 #[.val (.long x0), .second, .unset, .unset, .unset, .unset, .unset, .unset] [] := by first | (simp [entryFrame, mkF, argsToLocals, Value.category]; done) | rfl
set_option maxRecDepth 65536 in
set_option maxHeartbeats 40000000 in
theorem rm3 (l : Launch) (Z : State) (az : Array Value) (hw : ∀ d ∈ tables_1, d.before az Z = true) (ws : List Jvm.Cond) (q0 : Int64) (h0 : Heap) (n0 : Nat) (Z0 : n0 ≤ h0.size) :
    MetFree l (⟨"com/example/bare_octets/bareoctets/codec/WellFormedSequences", "twoByteFormLaneStops", "(J)J"⟩ : MethodName) (head1 (Jvm.Cond.code (⟨"com/example/bare_octets/bareoctets/codec/WellFormedSequences", "twoByteFormLaneStops", "(J)J"⟩ : MethodName) prog_20_method_27_code 8 (some .long) :: ws) ({ frames := 0, cells := 0, slots := 0, locals := 0 } : Room)) (fun a U => a = #[(.long q0)] ∧ Z.Warmed39 U.vm ∧ U.heap = h0) (fun _ _ _ _ _ => True) (fun _ U o U' => ∃ v L, o = .returned v ∧ Q3 Z q0 h0 n0 v U'.heap L ∧ FrameEnd U o U' L ({ frames := 0, cells := 0, slots := 0, locals := 0 } : Room).cells ({ frames := 0, cells := 0, slots := 0, locals := 0 } : Room).slots) := by
  refine MetFree.of_bodySF (plainFor_of_name own_pn_com_example_bare_octets_bareoctets_codec_WellFormedSequences) hisR ?_
  intro p e s m args below meth c s₁ Bd hml0 hP hK
  obtain ⟨rfl, hZ, hh⟩ := hP
  have hx := Bd.exec
  have hby := Bd.bytes
  have hml : c.maxLocals = 8 := hml0
  have hown : s.vm.findClass "com/example/bare_octets/bareoctets/codec/WellFormedSequences" = some m.cls := findClass_of_methodNamed Bd.named
  have hnm := (name_of_methodNamed Bd.named Bd.method).1
  have X0 : Stand p l e ({ frames := 0, cells := 0, slots := 0, locals := 0 } : Room) s m #[(.long q0)] below meth c s₁ [] 0 0 := Stand.of_body Bd
  have e0 : s₁.heap = h0 := by rw [← hh, Bd.state]; rfl
  have N0 := Fr.nil n0
  have Kp0 : Keep h0 h0 [] := Keep.refl _ _
  refine Goes.start ?_
  refine Goes.by (B := s₁.setTop (mkF m 0 #[.val (.long q0), .second, .unset, .unset, .unset, .unset, .unset, .unset] [])) (fun t k => castTop (ef3 m q0) k) ?_
  refine Goes.by (B := s₁.setTop (mkF m 47 #[.val (.long q0), .second, .val (.long ((q0 &&& (-4548423552103038752 : Int64)) ^^^ (-9169187277044154176 : Int64))), .second, .val (.long (((((q0 &&& (-4548423552103038752 : Int64)) ^^^ (-9169187277044154176 : Int64)) &&& (9223231297218904063 : Int64)) + (9223231297218904063 : Int64)) ||| ((q0 &&& (-4548423552103038752 : Int64)) ^^^ (-9169187277044154176 : Int64)))), .second, .val (.long (((q0 &&& (8444378152304670 : Int64)) + (9223231297218904063 : Int64)) ^^^ (-1 : Int64))), .second] [(.long (((((((q0 &&& (-4548423552103038752 : Int64)) ^^^ (-9169187277044154176 : Int64)) &&& (9223231297218904063 : Int64)) + (9223231297218904063 : Int64)) ||| ((q0 &&& (-4548423552103038752 : Int64)) ^^^ (-9169187277044154176 : Int64))) ||| (((q0 &&& (8444378152304670 : Int64)) + (9223231297218904063 : Int64)) ^^^ (-1 : Int64))) &&& (-9223231297218904064 : Int64)))])) (fun t k => ?_) ?_
  · show Steps p.tables e below (s₁.setTop (mkF m 0 #[.val (.long q0), .second, .unset, .unset, .unset, .unset, .unset, .unset] [])) t
    refine XS.lloadN X0.here hx rfl (hb hby d3_0) rfl ?_
    show Steps p.tables e below (s₁.setTop (mkF m 1 #[.val (.long q0), .second, .unset, .unset, .unset, .unset, .unset, .unset] [(.long q0)])) t
    refine X0.ldc2Long hx hown (mvT hZ (hw _ (List.mem_of_getElem? (i := 16) rfl))) (g := (mkF m 1 #[.val (.long q0), .second, .unset, .unset, .unset, .unset, .unset, .unset] [(.long q0)])) rfl (hb hby d3_1) _ ?_
    show Steps p.tables e below (s₁.setTop (mkF m 4 #[.val (.long q0), .second, .unset, .unset, .unset, .unset, .unset, .unset] [(.long (-4548423552103038752 : Int64)), (.long q0)])) t
    refine XS.land X0.here hx rfl (hb hby d3_4) rfl ?_
    show Steps p.tables e below (s₁.setTop (mkF m 5 #[.val (.long q0), .second, .unset, .unset, .unset, .unset, .unset, .unset] [(.long (q0 &&& (-4548423552103038752 : Int64)))])) t
    refine X0.ldc2Long hx hown (mvT hZ (hw _ (List.mem_of_getElem? (i := 17) rfl))) (g := (mkF m 5 #[.val (.long q0), .second, .unset, .unset, .unset, .unset, .unset, .unset] [(.long (q0 &&& (-4548423552103038752 : Int64)))])) rfl (hb hby d3_5) _ ?_
    show Steps p.tables e below (s₁.setTop (mkF m 8 #[.val (.long q0), .second, .unset, .unset, .unset, .unset, .unset, .unset] [(.long (-9169187277044154176 : Int64)), (.long (q0 &&& (-4548423552103038752 : Int64)))])) t
    refine XS.lxor X0.here hx rfl (hb hby d3_8) rfl ?_
    show Steps p.tables e below (s₁.setTop (mkF m 9 #[.val (.long q0), .second, .unset, .unset, .unset, .unset, .unset, .unset] [(.long ((q0 &&& (-4548423552103038752 : Int64)) ^^^ (-9169187277044154176 : Int64)))])) t
    refine XS.lstoreN X0.here hx rfl (hb hby d3_9) rfl (l' := #[.val (.long q0), .second, .val (.long ((q0 &&& (-4548423552103038752 : Int64)) ^^^ (-9169187277044154176 : Int64))), .second, .unset, .unset, .unset, .unset]) rfl ?_
    show Steps p.tables e below (s₁.setTop (mkF m 10 #[.val (.long q0), .second, .val (.long ((q0 &&& (-4548423552103038752 : Int64)) ^^^ (-9169187277044154176 : Int64))), .second, .unset, .unset, .unset, .unset] [])) t
    refine XS.lloadN X0.here hx rfl (hb hby d3_10) rfl ?_
    show Steps p.tables e below (s₁.setTop (mkF m 11 #[.val (.long q0), .second, .val (.long ((q0 &&& (-4548423552103038752 : Int64)) ^^^ (-9169187277044154176 : Int64))), .second, .unset, .unset, .unset, .unset] [(.long ((q0 &&& (-4548423552103038752 : Int64)) ^^^ (-9169187277044154176 : Int64)))])) t
    refine X0.ldc2Long hx hown (mvT hZ (hw _ (List.mem_of_getElem? (i := 18) rfl))) (g := (mkF m 11 #[.val (.long q0), .second, .val (.long ((q0 &&& (-4548423552103038752 : Int64)) ^^^ (-9169187277044154176 : Int64))), .second, .unset, .unset, .unset, .unset] [(.long ((q0 &&& (-4548423552103038752 : Int64)) ^^^ (-9169187277044154176 : Int64)))])) rfl (hb hby d3_11) _ ?_
    show Steps p.tables e below (s₁.setTop (mkF m 14 #[.val (.long q0), .second, .val (.long ((q0 &&& (-4548423552103038752 : Int64)) ^^^ (-9169187277044154176 : Int64))), .second, .unset, .unset, .unset, .unset] [(.long (9223231297218904063 : Int64)), (.long ((q0 &&& (-4548423552103038752 : Int64)) ^^^ (-9169187277044154176 : Int64)))])) t
    refine XS.land X0.here hx rfl (hb hby d3_14) rfl ?_
    show Steps p.tables e below (s₁.setTop (mkF m 15 #[.val (.long q0), .second, .val (.long ((q0 &&& (-4548423552103038752 : Int64)) ^^^ (-9169187277044154176 : Int64))), .second, .unset, .unset, .unset, .unset] [(.long (((q0 &&& (-4548423552103038752 : Int64)) ^^^ (-9169187277044154176 : Int64)) &&& (9223231297218904063 : Int64)))])) t
    refine X0.ldc2Long hx hown (mvT hZ (hw _ (List.mem_of_getElem? (i := 18) rfl))) (g := (mkF m 15 #[.val (.long q0), .second, .val (.long ((q0 &&& (-4548423552103038752 : Int64)) ^^^ (-9169187277044154176 : Int64))), .second, .unset, .unset, .unset, .unset] [(.long (((q0 &&& (-4548423552103038752 : Int64)) ^^^ (-9169187277044154176 : Int64)) &&& (9223231297218904063 : Int64)))])) rfl (hb hby d3_15) _ ?_
    show Steps p.tables e below (s₁.setTop (mkF m 18 #[.val (.long q0), .second, .val (.long ((q0 &&& (-4548423552103038752 : Int64)) ^^^ (-9169187277044154176 : Int64))), .second, .unset, .unset, .unset, .unset] [(.long (9223231297218904063 : Int64)), (.long (((q0 &&& (-4548423552103038752 : Int64)) ^^^ (-9169187277044154176 : Int64)) &&& (9223231297218904063 : Int64)))])) t
    refine XS.ladd X0.here hx rfl (hb hby d3_18) rfl ?_
    show Steps p.tables e below (s₁.setTop (mkF m 19 #[.val (.long q0), .second, .val (.long ((q0 &&& (-4548423552103038752 : Int64)) ^^^ (-9169187277044154176 : Int64))), .second, .unset, .unset, .unset, .unset] [(.long ((((q0 &&& (-4548423552103038752 : Int64)) ^^^ (-9169187277044154176 : Int64)) &&& (9223231297218904063 : Int64)) + (9223231297218904063 : Int64)))])) t
    refine XS.lloadN X0.here hx rfl (hb hby d3_19) rfl ?_
    show Steps p.tables e below (s₁.setTop (mkF m 20 #[.val (.long q0), .second, .val (.long ((q0 &&& (-4548423552103038752 : Int64)) ^^^ (-9169187277044154176 : Int64))), .second, .unset, .unset, .unset, .unset] [(.long ((q0 &&& (-4548423552103038752 : Int64)) ^^^ (-9169187277044154176 : Int64))), (.long ((((q0 &&& (-4548423552103038752 : Int64)) ^^^ (-9169187277044154176 : Int64)) &&& (9223231297218904063 : Int64)) + (9223231297218904063 : Int64)))])) t
    refine XS.lor X0.here hx rfl (hb hby d3_20) rfl ?_
    show Steps p.tables e below (s₁.setTop (mkF m 21 #[.val (.long q0), .second, .val (.long ((q0 &&& (-4548423552103038752 : Int64)) ^^^ (-9169187277044154176 : Int64))), .second, .unset, .unset, .unset, .unset] [(.long (((((q0 &&& (-4548423552103038752 : Int64)) ^^^ (-9169187277044154176 : Int64)) &&& (9223231297218904063 : Int64)) + (9223231297218904063 : Int64)) ||| ((q0 &&& (-4548423552103038752 : Int64)) ^^^ (-9169187277044154176 : Int64))))])) t
    refine XS.lstore X0.here hx rfl (hb hby d3_21) rfl (l' := #[.val (.long q0), .second, .val (.long ((q0 &&& (-4548423552103038752 : Int64)) ^^^ (-9169187277044154176 : Int64))), .second, .val (.long (((((q0 &&& (-4548423552103038752 : Int64)) ^^^ (-9169187277044154176 : Int64)) &&& (9223231297218904063 : Int64)) + (9223231297218904063 : Int64)) ||| ((q0 &&& (-4548423552103038752 : Int64)) ^^^ (-9169187277044154176 : Int64)))), .second, .unset, .unset]) rfl ?_
    show Steps p.tables e below (s₁.setTop (mkF m 23 #[.val (.long q0), .second, .val (.long ((q0 &&& (-4548423552103038752 : Int64)) ^^^ (-9169187277044154176 : Int64))), .second, .val (.long (((((q0 &&& (-4548423552103038752 : Int64)) ^^^ (-9169187277044154176 : Int64)) &&& (9223231297218904063 : Int64)) + (9223231297218904063 : Int64)) ||| ((q0 &&& (-4548423552103038752 : Int64)) ^^^ (-9169187277044154176 : Int64)))), .second, .unset, .unset] [])) t
    refine XS.lloadN X0.here hx rfl (hb hby d3_23) rfl ?_
    show Steps p.tables e below (s₁.setTop (mkF m 24 #[.val (.long q0), .second, .val (.long ((q0 &&& (-4548423552103038752 : Int64)) ^^^ (-9169187277044154176 : Int64))), .second, .val (.long (((((q0 &&& (-4548423552103038752 : Int64)) ^^^ (-9169187277044154176 : Int64)) &&& (9223231297218904063 : Int64)) + (9223231297218904063 : Int64)) ||| ((q0 &&& (-4548423552103038752 : Int64)) ^^^ (-9169187277044154176 : Int64)))), .second, .unset, .unset] [(.long q0)])) t
    refine X0.ldc2Long hx hown (mvT hZ (hw _ (List.mem_of_getElem? (i := 19) rfl))) (g := (mkF m 24 #[.val (.long q0), .second, .val (.long ((q0 &&& (-4548423552103038752 : Int64)) ^^^ (-9169187277044154176 : Int64))), .second, .val (.long (((((q0 &&& (-4548423552103038752 : Int64)) ^^^ (-9169187277044154176 : Int64)) &&& (9223231297218904063 : Int64)) + (9223231297218904063 : Int64)) ||| ((q0 &&& (-4548423552103038752 : Int64)) ^^^ (-9169187277044154176 : Int64)))), .second, .unset, .unset] [(.long q0)])) rfl (hb hby d3_24) _ ?_
    show Steps p.tables e below (s₁.setTop (mkF m 27 #[.val (.long q0), .second, .val (.long ((q0 &&& (-4548423552103038752 : Int64)) ^^^ (-9169187277044154176 : Int64))), .second, .val (.long (((((q0 &&& (-4548423552103038752 : Int64)) ^^^ (-9169187277044154176 : Int64)) &&& (9223231297218904063 : Int64)) + (9223231297218904063 : Int64)) ||| ((q0 &&& (-4548423552103038752 : Int64)) ^^^ (-9169187277044154176 : Int64)))), .second, .unset, .unset] [(.long (8444378152304670 : Int64)), (.long q0)])) t
    refine XS.land X0.here hx rfl (hb hby d3_27) rfl ?_
    show Steps p.tables e below (s₁.setTop (mkF m 28 #[.val (.long q0), .second, .val (.long ((q0 &&& (-4548423552103038752 : Int64)) ^^^ (-9169187277044154176 : Int64))), .second, .val (.long (((((q0 &&& (-4548423552103038752 : Int64)) ^^^ (-9169187277044154176 : Int64)) &&& (9223231297218904063 : Int64)) + (9223231297218904063 : Int64)) ||| ((q0 &&& (-4548423552103038752 : Int64)) ^^^ (-9169187277044154176 : Int64)))), .second, .unset, .unset] [(.long (q0 &&& (8444378152304670 : Int64)))])) t
    refine X0.ldc2Long hx hown (mvT hZ (hw _ (List.mem_of_getElem? (i := 18) rfl))) (g := (mkF m 28 #[.val (.long q0), .second, .val (.long ((q0 &&& (-4548423552103038752 : Int64)) ^^^ (-9169187277044154176 : Int64))), .second, .val (.long (((((q0 &&& (-4548423552103038752 : Int64)) ^^^ (-9169187277044154176 : Int64)) &&& (9223231297218904063 : Int64)) + (9223231297218904063 : Int64)) ||| ((q0 &&& (-4548423552103038752 : Int64)) ^^^ (-9169187277044154176 : Int64)))), .second, .unset, .unset] [(.long (q0 &&& (8444378152304670 : Int64)))])) rfl (hb hby d3_28) _ ?_
    show Steps p.tables e below (s₁.setTop (mkF m 31 #[.val (.long q0), .second, .val (.long ((q0 &&& (-4548423552103038752 : Int64)) ^^^ (-9169187277044154176 : Int64))), .second, .val (.long (((((q0 &&& (-4548423552103038752 : Int64)) ^^^ (-9169187277044154176 : Int64)) &&& (9223231297218904063 : Int64)) + (9223231297218904063 : Int64)) ||| ((q0 &&& (-4548423552103038752 : Int64)) ^^^ (-9169187277044154176 : Int64)))), .second, .unset, .unset] [(.long (9223231297218904063 : Int64)), (.long (q0 &&& (8444378152304670 : Int64)))])) t
    refine XS.ladd X0.here hx rfl (hb hby d3_31) rfl ?_
    show Steps p.tables e below (s₁.setTop (mkF m 32 #[.val (.long q0), .second, .val (.long ((q0 &&& (-4548423552103038752 : Int64)) ^^^ (-9169187277044154176 : Int64))), .second, .val (.long (((((q0 &&& (-4548423552103038752 : Int64)) ^^^ (-9169187277044154176 : Int64)) &&& (9223231297218904063 : Int64)) + (9223231297218904063 : Int64)) ||| ((q0 &&& (-4548423552103038752 : Int64)) ^^^ (-9169187277044154176 : Int64)))), .second, .unset, .unset] [(.long ((q0 &&& (8444378152304670 : Int64)) + (9223231297218904063 : Int64)))])) t
    refine X0.ldc2Long hx hown (mvT hZ (hw _ (List.mem_of_getElem? (i := 20) rfl))) (g := (mkF m 32 #[.val (.long q0), .second, .val (.long ((q0 &&& (-4548423552103038752 : Int64)) ^^^ (-9169187277044154176 : Int64))), .second, .val (.long (((((q0 &&& (-4548423552103038752 : Int64)) ^^^ (-9169187277044154176 : Int64)) &&& (9223231297218904063 : Int64)) + (9223231297218904063 : Int64)) ||| ((q0 &&& (-4548423552103038752 : Int64)) ^^^ (-9169187277044154176 : Int64)))), .second, .unset, .unset] [(.long ((q0 &&& (8444378152304670 : Int64)) + (9223231297218904063 : Int64)))])) rfl (hb hby d3_32) _ ?_
    show Steps p.tables e below (s₁.setTop (mkF m 35 #[.val (.long q0), .second, .val (.long ((q0 &&& (-4548423552103038752 : Int64)) ^^^ (-9169187277044154176 : Int64))), .second, .val (.long (((((q0 &&& (-4548423552103038752 : Int64)) ^^^ (-9169187277044154176 : Int64)) &&& (9223231297218904063 : Int64)) + (9223231297218904063 : Int64)) ||| ((q0 &&& (-4548423552103038752 : Int64)) ^^^ (-9169187277044154176 : Int64)))), .second, .unset, .unset] [(.long (-1 : Int64)), (.long ((q0 &&& (8444378152304670 : Int64)) + (9223231297218904063 : Int64)))])) t
    refine XS.lxor X0.here hx rfl (hb hby d3_35) rfl ?_
    show Steps p.tables e below (s₁.setTop (mkF m 36 #[.val (.long q0), .second, .val (.long ((q0 &&& (-4548423552103038752 : Int64)) ^^^ (-9169187277044154176 : Int64))), .second, .val (.long (((((q0 &&& (-4548423552103038752 : Int64)) ^^^ (-9169187277044154176 : Int64)) &&& (9223231297218904063 : Int64)) + (9223231297218904063 : Int64)) ||| ((q0 &&& (-4548423552103038752 : Int64)) ^^^ (-9169187277044154176 : Int64)))), .second, .unset, .unset] [(.long (((q0 &&& (8444378152304670 : Int64)) + (9223231297218904063 : Int64)) ^^^ (-1 : Int64)))])) t
    refine XS.lstore X0.here hx rfl (hb hby d3_36) rfl (l' := #[.val (.long q0), .second, .val (.long ((q0 &&& (-4548423552103038752 : Int64)) ^^^ (-9169187277044154176 : Int64))), .second, .val (.long (((((q0 &&& (-4548423552103038752 : Int64)) ^^^ (-9169187277044154176 : Int64)) &&& (9223231297218904063 : Int64)) + (9223231297218904063 : Int64)) ||| ((q0 &&& (-4548423552103038752 : Int64)) ^^^ (-9169187277044154176 : Int64)))), .second, .val (.long (((q0 &&& (8444378152304670 : Int64)) + (9223231297218904063 : Int64)) ^^^ (-1 : Int64))), .second]) rfl ?_
    show Steps p.tables e below (s₁.setTop (mkF m 38 #[.val (.long q0), .second, .val (.long ((q0 &&& (-4548423552103038752 : Int64)) ^^^ (-9169187277044154176 : Int64))), .second, .val (.long (((((q0 &&& (-4548423552103038752 : Int64)) ^^^ (-9169187277044154176 : Int64)) &&& (9223231297218904063 : Int64)) + (9223231297218904063 : Int64)) ||| ((q0 &&& (-4548423552103038752 : Int64)) ^^^ (-9169187277044154176 : Int64)))), .second, .val (.long (((q0 &&& (8444378152304670 : Int64)) + (9223231297218904063 : Int64)) ^^^ (-1 : Int64))), .second] [])) t
    refine XS.lload X0.here hx rfl (hb hby d3_38) rfl ?_
    show Steps p.tables e below (s₁.setTop (mkF m 40 #[.val (.long q0), .second, .val (.long ((q0 &&& (-4548423552103038752 : Int64)) ^^^ (-9169187277044154176 : Int64))), .second, .val (.long (((((q0 &&& (-4548423552103038752 : Int64)) ^^^ (-9169187277044154176 : Int64)) &&& (9223231297218904063 : Int64)) + (9223231297218904063 : Int64)) ||| ((q0 &&& (-4548423552103038752 : Int64)) ^^^ (-9169187277044154176 : Int64)))), .second, .val (.long (((q0 &&& (8444378152304670 : Int64)) + (9223231297218904063 : Int64)) ^^^ (-1 : Int64))), .second] [(.long (((((q0 &&& (-4548423552103038752 : Int64)) ^^^ (-9169187277044154176 : Int64)) &&& (9223231297218904063 : Int64)) + (9223231297218904063 : Int64)) ||| ((q0 &&& (-4548423552103038752 : Int64)) ^^^ (-9169187277044154176 : Int64))))])) t
    refine XS.lload X0.here hx rfl (hb hby d3_40) rfl ?_
    show Steps p.tables e below (s₁.setTop (mkF m 42 #[.val (.long q0), .second, .val (.long ((q0 &&& (-4548423552103038752 : Int64)) ^^^ (-9169187277044154176 : Int64))), .second, .val (.long (((((q0 &&& (-4548423552103038752 : Int64)) ^^^ (-9169187277044154176 : Int64)) &&& (9223231297218904063 : Int64)) + (9223231297218904063 : Int64)) ||| ((q0 &&& (-4548423552103038752 : Int64)) ^^^ (-9169187277044154176 : Int64)))), .second, .val (.long (((q0 &&& (8444378152304670 : Int64)) + (9223231297218904063 : Int64)) ^^^ (-1 : Int64))), .second] [(.long (((q0 &&& (8444378152304670 : Int64)) + (9223231297218904063 : Int64)) ^^^ (-1 : Int64))), (.long (((((q0 &&& (-4548423552103038752 : Int64)) ^^^ (-9169187277044154176 : Int64)) &&& (9223231297218904063 : Int64)) + (9223231297218904063 : Int64)) ||| ((q0 &&& (-4548423552103038752 : Int64)) ^^^ (-9169187277044154176 : Int64))))])) t
    refine XS.lor X0.here hx rfl (hb hby d3_42) rfl ?_
    show Steps p.tables e below (s₁.setTop (mkF m 43 #[.val (.long q0), .second, .val (.long ((q0 &&& (-4548423552103038752 : Int64)) ^^^ (-9169187277044154176 : Int64))), .second, .val (.long (((((q0 &&& (-4548423552103038752 : Int64)) ^^^ (-9169187277044154176 : Int64)) &&& (9223231297218904063 : Int64)) + (9223231297218904063 : Int64)) ||| ((q0 &&& (-4548423552103038752 : Int64)) ^^^ (-9169187277044154176 : Int64)))), .second, .val (.long (((q0 &&& (8444378152304670 : Int64)) + (9223231297218904063 : Int64)) ^^^ (-1 : Int64))), .second] [(.long ((((((q0 &&& (-4548423552103038752 : Int64)) ^^^ (-9169187277044154176 : Int64)) &&& (9223231297218904063 : Int64)) + (9223231297218904063 : Int64)) ||| ((q0 &&& (-4548423552103038752 : Int64)) ^^^ (-9169187277044154176 : Int64))) ||| (((q0 &&& (8444378152304670 : Int64)) + (9223231297218904063 : Int64)) ^^^ (-1 : Int64))))])) t
    refine X0.ldc2Long hx hown (mvT hZ (hw _ (List.mem_of_getElem? (i := 21) rfl))) (g := (mkF m 43 #[.val (.long q0), .second, .val (.long ((q0 &&& (-4548423552103038752 : Int64)) ^^^ (-9169187277044154176 : Int64))), .second, .val (.long (((((q0 &&& (-4548423552103038752 : Int64)) ^^^ (-9169187277044154176 : Int64)) &&& (9223231297218904063 : Int64)) + (9223231297218904063 : Int64)) ||| ((q0 &&& (-4548423552103038752 : Int64)) ^^^ (-9169187277044154176 : Int64)))), .second, .val (.long (((q0 &&& (8444378152304670 : Int64)) + (9223231297218904063 : Int64)) ^^^ (-1 : Int64))), .second] [(.long ((((((q0 &&& (-4548423552103038752 : Int64)) ^^^ (-9169187277044154176 : Int64)) &&& (9223231297218904063 : Int64)) + (9223231297218904063 : Int64)) ||| ((q0 &&& (-4548423552103038752 : Int64)) ^^^ (-9169187277044154176 : Int64))) ||| (((q0 &&& (8444378152304670 : Int64)) + (9223231297218904063 : Int64)) ^^^ (-1 : Int64))))])) rfl (hb hby d3_43) _ ?_
    show Steps p.tables e below (s₁.setTop (mkF m 46 #[.val (.long q0), .second, .val (.long ((q0 &&& (-4548423552103038752 : Int64)) ^^^ (-9169187277044154176 : Int64))), .second, .val (.long (((((q0 &&& (-4548423552103038752 : Int64)) ^^^ (-9169187277044154176 : Int64)) &&& (9223231297218904063 : Int64)) + (9223231297218904063 : Int64)) ||| ((q0 &&& (-4548423552103038752 : Int64)) ^^^ (-9169187277044154176 : Int64)))), .second, .val (.long (((q0 &&& (8444378152304670 : Int64)) + (9223231297218904063 : Int64)) ^^^ (-1 : Int64))), .second] [(.long (-9223231297218904064 : Int64)), (.long ((((((q0 &&& (-4548423552103038752 : Int64)) ^^^ (-9169187277044154176 : Int64)) &&& (9223231297218904063 : Int64)) + (9223231297218904063 : Int64)) ||| ((q0 &&& (-4548423552103038752 : Int64)) ^^^ (-9169187277044154176 : Int64))) ||| (((q0 &&& (8444378152304670 : Int64)) + (9223231297218904063 : Int64)) ^^^ (-1 : Int64))))])) t
    refine XS.land X0.here hx rfl (hb hby d3_46) rfl ?_
    exact k
  obtain ⟨fs, hr, hrun, hended, hW, hsame⟩ := X0.leave (v := some (.long (((((((q0 &&& (-4548423552103038752 : Int64)) ^^^ (-9169187277044154176 : Int64)) &&& (9223231297218904063 : Int64)) + (9223231297218904063 : Int64)) ||| ((q0 &&& (-4548423552103038752 : Int64)) ^^^ (-9169187277044154176 : Int64))) ||| (((q0 &&& (8444378152304670 : Int64)) + (9223231297218904063 : Int64)) ^^^ (-1 : Int64))) &&& (-9223231297218904064 : Int64)))) (fun h => by rw [Bd.returns] at h; cases h)
  refine Goes.mk _ _ ?_ ⟨hrun, hended, _, _, rfl, ?_, ⟨_, rfl⟩, hW, hsame.mono (by decide) (by decide)⟩
  · exact retOut X0 hx Bd.returns rfl (Or.inr (Or.inl ⟨rfl, rfl, _, rfl⟩)) (hb hby d3_47) hr
  · show Q3 Z q0 h0 n0 _ s₁.heap _
    rw [e0]
    exact ⟨rfl, N0, rfl⟩
theorem own_nat64 (x : Int64) : x.toBitVec.toNat < 18446744073709551616 ∧ ((x.toInt = x.toBitVec.toNat ∧ x.toBitVec.toNat < 9223372036854775808) ∨ (x.toInt = x.toBitVec.toNat - 18446744073709551616 ∧ 9223372036854775808 ≤ x.toBitVec.toNat)) := by
  have h := x.toBitVec.isLt
  refine ⟨h, ?_⟩
  have q : x.toInt = x.toBitVec.toInt := rfl
  rw [q, BitVec.toInt_eq_toNat_cond]
  split <;> omega
/-- four lanes of sixteen bits -/
def pk (a b c d : Nat) : Nat := a + 65536 * (b + 65536 * (c + 65536 * d))
theorem own_and2 (a b x y : Nat) (ha : a < 65536) (hx : x < 65536) : ((a + 65536 * b) &&& (x + 65536 * y)) = (a &&& x) + 65536 * (b &&& y) := by
  have h1 := Nat.and_div_two_pow (a := a + 65536 * b) (b := x + 65536 * y) (n := 16)
  have h2 := Nat.and_mod_two_pow (a := a + 65536 * b) (b := x + 65536 * y) (n := 16)
  have e : (2 : Nat) ^ 16 = 65536 := rfl
  rw [e] at h1 h2
  rw [show (a + 65536 * b) / 65536 = b by omega, show (x + 65536 * y) / 65536 = y by omega] at h1
  rw [show (a + 65536 * b) % 65536 = a by omega, show (x + 65536 * y) % 65536 = x by omega] at h2
  omega
theorem own_or2 (a b x y : Nat) (ha : a < 65536) (hx : x < 65536) : ((a + 65536 * b) ||| (x + 65536 * y)) = (a ||| x) + 65536 * (b ||| y) := by
  have h1 := Nat.or_div_two_pow (a := a + 65536 * b) (b := x + 65536 * y) (n := 16)
  have h2 := Nat.or_mod_two_pow (a := a + 65536 * b) (b := x + 65536 * y) (n := 16)
  have e : (2 : Nat) ^ 16 = 65536 := rfl
  rw [e] at h1 h2
  rw [show (a + 65536 * b) / 65536 = b by omega, show (x + 65536 * y) / 65536 = y by omega] at h1
  rw [show (a + 65536 * b) % 65536 = a by omega, show (x + 65536 * y) % 65536 = x by omega] at h2
  omega
theorem own_xor2 (a b x y : Nat) (ha : a < 65536) (hx : x < 65536) : ((a + 65536 * b) ^^^ (x + 65536 * y)) = (a ^^^ x) + 65536 * (b ^^^ y) := by
  have h1 := Nat.xor_div_two_pow (a := a + 65536 * b) (b := x + 65536 * y) (n := 16)
  have h2 := Nat.xor_mod_two_pow (a := a + 65536 * b) (b := x + 65536 * y) (n := 16)
  have e : (2 : Nat) ^ 16 = 65536 := rfl
  rw [e] at h1 h2
  rw [show (a + 65536 * b) / 65536 = b by omega, show (x + 65536 * y) / 65536 = y by omega] at h1
  rw [show (a + 65536 * b) % 65536 = a by omega, show (x + 65536 * y) % 65536 = x by omega] at h2
  omega
theorem own_pand {a b c d x y z w : Nat} (ha : a < 65536) (hb : b < 65536) (hc : c < 65536) (hx : x < 65536) (hy : y < 65536) (hz : z < 65536) : (pk a b c d &&& pk x y z w) = pk (a &&& x) (b &&& y) (c &&& z) (d &&& w) := by
  unfold pk; rw [own_and2 _ _ _ _ ha hx, own_and2 _ _ _ _ hb hy, own_and2 _ _ _ _ hc hz]
theorem own_por {a b c d x y z w : Nat} (ha : a < 65536) (hb : b < 65536) (hc : c < 65536) (hx : x < 65536) (hy : y < 65536) (hz : z < 65536) : (pk a b c d ||| pk x y z w) = pk (a ||| x) (b ||| y) (c ||| z) (d ||| w) := by
  unfold pk; rw [own_or2 _ _ _ _ ha hx, own_or2 _ _ _ _ hb hy, own_or2 _ _ _ _ hc hz]
theorem own_pxor {a b c d x y z w : Nat} (ha : a < 65536) (hb : b < 65536) (hc : c < 65536) (hx : x < 65536) (hy : y < 65536) (hz : z < 65536) : (pk a b c d ^^^ pk x y z w) = pk (a ^^^ x) (b ^^^ y) (c ^^^ z) (d ^^^ w) := by
  unfold pk; rw [own_xor2 _ _ _ _ ha hx, own_xor2 _ _ _ _ hb hy, own_xor2 _ _ _ _ hc hz]
theorem own_padd (a b c d x y z w : Nat) : pk a b c d + pk x y z w = pk (a + x) (b + y) (c + z) (d + w) := by
  unfold pk; omega
theorem own_plt {a b c d : Nat} (ha : a < 65536) (hb : b < 65536) (hc : c < 65536) (hd : d < 65536) : pk a b c d < 18446744073709551616 := by
  unfold pk; omega
/-- one lane of the word -/
def xl (l : Nat) : Nat := (l &&& 0xc0e0) ^^^ 0x80c0
def yl (l : Nat) : Nat := ((xl l &&& 0x7fff) + 0x7fff) ||| xl l
def zl (l : Nat) : Nat := ((l &&& 0x001e) + 0x7fff) ^^^ 0xffff
def tl (l : Nat) : Nat := (yl l ||| zl l) &&& 0x8000
def okl (l : Nat) : Bool := (0xc2 ≤ l % 256 && l % 256 ≤ 0xdf) && (0x80 ≤ l / 256 && l / 256 ≤ 0xbf)
theorem own_lane : ∀ s : Fin 256, ∀ a : Fin 256, tl (a.val + 256 * s.val) = (bif okl (a.val + 256 * s.val) then 0 else 0x8000) := by decide +kernel
theorem own_tl (l : Nat) (h : l < 65536) : tl l = (bif okl l then 0 else 0x8000) := by
  have q := own_lane ⟨l / 256, by omega⟩ ⟨l % 256, Nat.mod_lt _ (by decide)⟩
  have e : l % 256 + 256 * (l / 256) = l := by omega
  dsimp only at q
  rw [e] at q
  exact q
theorem own_lt_and (a b : Nat) (h : b < 65536) : (a &&& b) < 65536 := Nat.lt_of_le_of_lt Nat.and_le_right h
theorem own_lt_or {a b : Nat} (h : a < 65536) (g : b < 65536) : (a ||| b) < 65536 := Nat.or_lt_two_pow (n := 16) h g
theorem own_lt_xor {a b : Nat} (h : a < 65536) (g : b < 65536) : (a ^^^ b) < 65536 := Nat.xor_lt_two_pow (n := 16) h g
theorem own_xl (l : Nat) : xl l < 65536 := own_lt_xor (own_lt_and _ _ (by decide)) (by decide)
theorem own_s1 (l : Nat) : (xl l &&& 0x7fff) + 0x7fff < 65536 := by
  have : (xl l &&& 0x7fff) ≤ 0x7fff := Nat.and_le_right
  omega
theorem own_s2 (l : Nat) : (l &&& 0x001e) + 0x7fff < 65536 := by
  have : (l &&& 0x001e) ≤ 0x001e := Nat.and_le_right
  omega
theorem own_yl (l : Nat) : yl l < 65536 := own_lt_or (own_s1 l) (own_xl l)
theorem own_zl (l : Nat) : zl l < 65536 := own_lt_xor (own_s2 l) (by decide)
theorem own_word (a b c d : Nat) (ha : a < 65536) (hb : b < 65536) (hc : c < 65536) (hd : d < 65536) (w : Int64) (hw : w.toBitVec.toNat = pk a b c d) : (f3 w).toBitVec.toNat = pk (tl a) (tl b) (tl c) (tl d) := by
  have cA : (-4548423552103038752 : Int64).toBitVec.toNat = pk 0xc0e0 0xc0e0 0xc0e0 0xc0e0 := by decide
  have cB : (-9169187277044154176 : Int64).toBitVec.toNat = pk 0x80c0 0x80c0 0x80c0 0x80c0 := by decide
  have cC : (9223231297218904063 : Int64).toBitVec.toNat = pk 0x7fff 0x7fff 0x7fff 0x7fff := by decide
  have cD : (8444378152304670 : Int64).toBitVec.toNat = pk 0x001e 0x001e 0x001e 0x001e := by decide
  have cE : (-9223231297218904064 : Int64).toBitVec.toNat = pk 0x8000 0x8000 0x8000 0x8000 := by decide
  have cF : (-1 : Int64).toBitVec.toNat = pk 0xffff 0xffff 0xffff 0xffff := by decide
  have hx : ((w &&& (-4548423552103038752 : Int64)) ^^^ (-9169187277044154176 : Int64)).toBitVec.toNat = pk (xl a) (xl b) (xl c) (xl d) := by
    show ((w.toBitVec &&& (-4548423552103038752 : Int64).toBitVec) ^^^ (-9169187277044154176 : Int64).toBitVec).toNat = _
    rw [BitVec.toNat_xor, BitVec.toNat_and, hw, cA, cB, own_pand ha hb hc (by decide) (by decide) (by decide), own_pxor (own_lt_and _ _ (by decide)) (own_lt_and _ _ (by decide)) (own_lt_and _ _ (by decide)) (by decide) (by decide) (by decide)]
    rfl
  generalize hX : ((w &&& (-4548423552103038752 : Int64)) ^^^ (-9169187277044154176 : Int64)) = X at *
  have hy1 : ((X &&& (9223231297218904063 : Int64)) + (9223231297218904063 : Int64)).toBitVec.toNat = pk ((xl a &&& 0x7fff) + 0x7fff) ((xl b &&& 0x7fff) + 0x7fff) ((xl c &&& 0x7fff) + 0x7fff) ((xl d &&& 0x7fff) + 0x7fff) := by
    show ((X.toBitVec &&& (9223231297218904063 : Int64).toBitVec) + (9223231297218904063 : Int64).toBitVec).toNat = _
    rw [BitVec.toNat_add, BitVec.toNat_and, hx, cC, own_pand (own_xl a) (own_xl b) (own_xl c) (by decide) (by decide) (by decide), own_padd]
    have q1 := own_s1 a
    have q2 := own_s1 b
    have q3 := own_s1 c
    have q4 := own_s1 d
    exact Nat.mod_eq_of_lt (own_plt q1 q2 q3 q4)
  generalize hY1 : ((X &&& (9223231297218904063 : Int64)) + (9223231297218904063 : Int64)) = Y1 at *
  have hy : (Y1 ||| X).toBitVec.toNat = pk (yl a) (yl b) (yl c) (yl d) := by
    show (Y1.toBitVec ||| X.toBitVec).toNat = _
    rw [BitVec.toNat_or, hx, hy1, own_por (own_s1 a) (own_s1 b) (own_s1 c) (own_xl a) (own_xl b) (own_xl c)]
    rfl
  have hz : (((w &&& (8444378152304670 : Int64)) + (9223231297218904063 : Int64)) ^^^ (-1 : Int64)).toBitVec.toNat = pk (zl a) (zl b) (zl c) (zl d) := by
    show (((w.toBitVec &&& (8444378152304670 : Int64).toBitVec) + (9223231297218904063 : Int64).toBitVec) ^^^ (-1 : Int64).toBitVec).toNat = _
    have q1 := own_s2 a
    have q2 := own_s2 b
    have q3 := own_s2 c
    have q4 := own_s2 d
    have r := own_plt q1 q2 q3 q4
    rw [BitVec.toNat_xor, BitVec.toNat_add, BitVec.toNat_and, hw, cD, cC, cF, own_pand ha hb hc (by decide) (by decide) (by decide), own_padd, Nat.mod_eq_of_lt r, own_pxor q1 q2 q3 (by decide) (by decide) (by decide)]
    rfl
  generalize hZ : (((w &&& (8444378152304670 : Int64)) + (9223231297218904063 : Int64)) ^^^ (-1 : Int64)) = Zz at *
  have e : f3 w = ((Y1 ||| X) ||| Zz) &&& (-9223231297218904064 : Int64) := by
    unfold f3; rw [hX, hY1, hZ]
  rw [e]
  show (((Y1 ||| X).toBitVec ||| Zz.toBitVec) &&& (-9223231297218904064 : Int64).toBitVec).toNat = _
  rw [BitVec.toNat_and, BitVec.toNat_or, hy, hz, cE, own_por (own_yl a) (own_yl b) (own_yl c) (own_zl a) (own_zl b) (own_zl c), own_pand (own_lt_or (own_yl a) (own_zl a)) (own_lt_or (own_yl b) (own_zl b)) (own_lt_or (own_yl c) (own_zl c)) (by decide) (by decide) (by decide)]
  rfl
theorem own_byte (x : Int64) : ((x &&& (255 : Int64)).toInt32).toInt = x.toInt % 256 := by
  have m := c_maskL x (255 : Int64) 8 (by decide) (by decide)
  have e8 : ((2 ^ 8 : Nat) : Int) = 256 := rfl
  rw [e8] at m
  have l := c_l2i (x &&& (255 : Int64))
  have r := rng32 ((x &&& (255 : Int64)).toInt32)
  omega
theorem own_exp (w : Int64) (i : Int32) (v : Int64) (L : Nat) (hv : ((1 : Int64) <<< ((((16 : Int32) * i) + (15 : Int32)) &&& 0x3f).toInt64) = v)
    (h1 : ((((w.toUInt64 >>> (((16 : Int32) * i) &&& 0x3f).toInt64.toUInt64).toInt64) &&& (255 : Int64)).toInt32).toInt = ((L % 256 : Nat) : Int))
    (h2 : ((((w.toUInt64 >>> ((((16 : Int32) * i) + (8 : Int32)) &&& 0x3f).toInt64.toUInt64).toInt64) &&& (255 : Int64)).toInt32).toInt = ((L / 256 : Nat) : Int)) : f2 w i = (bif okl L then 0 else v) := by
  have hl : (194 : Int32).toInt = 194 ∧ (223 : Int32).toInt = 223 ∧ (128 : Int32).toInt = 128 ∧ (191 : Int32).toInt = 191 := by decide
  obtain ⟨l1, l2, l3, l4⟩ := hl
  unfold f2
  rw [hv]
  simp only [Int32.lt_iff_toInt_lt, h1, h2, l1, l2, l3, l4]
  have o : okl L = decide (194 ≤ L % 256 ∧ L % 256 ≤ 223 ∧ 128 ≤ L / 256 ∧ L / 256 ≤ 191) := by
    unfold okl
    by_cases c : 194 ≤ L % 256 ∧ L % 256 ≤ 223 ∧ 128 ≤ L / 256 ∧ L / 256 ≤ 191
    · obtain ⟨c1, c2, c3, c4⟩ := c
      simp [c1, c2, c3, c4]
    · rw [decide_eq_false c]
      simp only [Bool.and_eq_false_iff, decide_eq_false_iff_not]
      omega
  rw [o]
  by_cases c : 194 ≤ L % 256 ∧ L % 256 ≤ 223 ∧ 128 ≤ L / 256 ∧ L / 256 ≤ 191
  · rw [decide_eq_true c, if_neg (show ¬ ((L % 256 : Nat) : Int) < 194 by omega), if_neg (show ¬ (223 : Int) < ((L % 256 : Nat) : Int) by omega), if_neg (show ¬ ((L / 256 : Nat) : Int) < 128 by omega), if_neg (show ¬ (191 : Int) < ((L / 256 : Nat) : Int) by omega)]
    rfl
  · rw [decide_eq_false c]
    have q : (if ((L % 256 : Nat) : Int) < 194 then (0 : Int32) else (if (223 : Int) < ((L % 256 : Nat) : Int) then (0 : Int32) else (if ((L / 256 : Nat) : Int) < 128 then (0 : Int32) else (if (191 : Int) < ((L / 256 : Nat) : Int) then (0 : Int32) else (1 : Int32))))) = 0 := by
      repeat' split
      all_goals first | rfl | (exfalso; omega)
    rw [q]
    rfl
theorem own_sh0 (w : Int64) : ((w.toUInt64 >>> (((16 : Int32) * (0 : Int32)) &&& 0x3f).toInt64.toUInt64).toInt64) = w := by
  have h : (((16 : Int32) * (0 : Int32)) &&& 0x3f).toInt64.toBitVec % 64 = 0#64 := by decide
  apply Int64.toBitVec_inj.mp
  show w.toBitVec >>> ((((16 : Int32) * (0 : Int32)) &&& 0x3f).toInt64.toBitVec % 64) = _
  rw [h]
  apply BitVec.eq_of_toNat_eq
  simp
theorem own_law (w : Int64) : f3 w = (((f2 w (0 : Int32)) ||| (f2 w (1 : Int32))) ||| (f2 w (2 : Int32))) ||| (f2 w (3 : Int32)) := by
  have n := own_nat64 w
  generalize hW : w.toBitVec.toNat = W at n
  have hi : w.toInt % 18446744073709551616 = (W : Int) := by omega
  have ew := own_word (W % 65536) (W / 65536 % 65536) (W / 4294967296 % 65536) (W / 281474976710656) (by omega) (by omega) (by omega) (by omega) w (by rw [hW]; unfold pk; omega)
  rw [own_tl _ (by omega), own_tl _ (by omega), own_tl _ (by omega), own_tl _ (by omega)] at ew
  have sh : ∀ (q : Int32) (k : Nat), q.toBitVec.toNat % 64 = k → 0 < k → ((w.toUInt64 >>> (q &&& 0x3f).toInt64.toUInt64).toInt64).toInt = ((W / 2 ^ k : Nat) : Int) := fun q k h0 h1 => by
    rw [c_lushr w q k h0 h1, hi]; exact (Int.natCast_ediv _ _).symm
  have x0 := own_exp w 0 (32768 : Int64) (W % 65536) (by decide) (by rw [own_sh0, own_byte]; omega) (by rw [own_byte, sh _ 8 (by decide) (by decide)]; omega)
  have x1 := own_exp w 1 (2147483648 : Int64) (W / 65536 % 65536) (by decide) (by rw [own_byte, sh _ 16 (by decide) (by decide)]; omega) (by rw [own_byte, sh _ 24 (by decide) (by decide)]; omega)
  have x2 := own_exp w 2 (140737488355328 : Int64) (W / 4294967296 % 65536) (by decide) (by rw [own_byte, sh _ 32 (by decide) (by decide)]; omega) (by rw [own_byte, sh _ 40 (by decide) (by decide)]; omega)
  have x3 := own_exp w 3 (-9223372036854775808 : Int64) (W / 281474976710656) (by decide) (by rw [own_byte, sh _ 48 (by decide) (by decide)]; omega) (by rw [own_byte, sh _ 56 (by decide) (by decide)]; omega)
  rw [x0, x1, x2, x3]
  apply Int64.toBitVec_inj.mp
  apply BitVec.eq_of_toNat_eq
  rw [ew]
  cases okl (W % 65536) <;> cases okl (W / 65536 % 65536) <;> cases okl (W / 4294967296 % 65536) <;> cases okl (W / 281474976710656) <;> decide
theorem own_pd0 : parseMethodDescriptor "(II)J" = some ⟨[.int, .int], some .long⟩ := by decide +kernel
theorem own_pd1 : parseMethodDescriptor "(JI)J" = some ⟨[.long, .int], some .long⟩ := by decide +kernel
theorem own_pd2 : parseMethodDescriptor "(J)J" = some ⟨[.long], some .long⟩ := by decide +kernel
def Q0 (Z : State) (q0 : Int64) (p1 : Int32) (h0 : Heap) (n0 : Nat) (v : Option Value) (h : Heap) (L : List Loc) : Prop := v = some (.int 1) ∧ Fr n0 L ∧ h = h0
theorem ef0 (m : MethodId) (x0 : Int64) (x1 : Int32) : entryFrame m #[(.long x0), (.int x1)] maxLocals = mkF m 0 #[.val (.long x0), .second, .val (.int x1), .unset, .unset, .unset, .unset, .unset, .unset, .unset, .unset] [] := by first | (simp [entryFrame, mkF, argsToLocals, Value.category, maxLocals]; done) | rfl
set_option maxRecDepth 65536 in
set_option maxHeartbeats 40000000 in
theorem rm0 (l : Launch) (Z : State) (az : Array Value) (hw : ∀ d ∈ tables_1, d.before az Z = true) (ws : List Jvm.Cond) (q0 : Int64) (p1 : Int32) (h0 : Heap) (n0 : Nat) (Z0 : n0 ≤ h0.size) :
    MetFree l x (head1 (Jvm.Cond.code x code maxLocals ret :: ws) room_1) (fun a U => a = #[(.long q0), (.int p1)] ∧ Z.Warmed39 U.vm ∧ U.heap = h0) (fun _ _ _ _ _ => True) (fun _ U o U' => ∃ v L, o = .returned v ∧ Q0 Z q0 p1 h0 n0 v U'.heap L ∧ FrameEnd U o U' L 0 0) := by
  refine MetFree.of_bodySF (plainFor_of_name own_pn_com_example_bare_octets_bareoctets_codec_WellFormedSequencesTwoByteFormLaneStopsPinLaw) hisR ?_
  intro p e s m args below meth c s₁ Bd hml0 hP hK
  obtain ⟨rfl, hZ, hh⟩ := hP
  have hx := Bd.exec
  have hby := Bd.bytes
  have hml : c.maxLocals = 11 := hml0
  have hown : s.vm.findClass "com/example/bare_octets/bareoctets/codec/WellFormedSequencesTwoByteFormLaneStopsPinLaw" = some m.cls := findClass_of_methodNamed Bd.named
  have hnm := (name_of_methodNamed Bd.named Bd.method).1
  have X0 : Stand p l e room_1 s m #[(.long q0), (.int p1)] below meth c s₁ [] 0 0 := Stand.of_body Bd
  have e0 : s₁.heap = h0 := by rw [← hh, Bd.state]; rfl
  have N0 := Fr.nil n0
  have Kp0 : Keep h0 h0 [] := Keep.refl _ _
  refine Goes.start ?_
  refine Goes.by (B := s₁.setTop (mkF m 0 #[.val (.long q0), .second, .val (.int p1), .unset, .unset, .unset, .unset, .unset, .unset, .unset, .unset] [])) (fun t k => castTop (ef0 m q0 p1) k) ?_
  refine Goes.by (B := s₁.setTop (mkF m 2 #[.val (.long q0), .second, .val (.int p1), .unset, .unset, .unset, .unset, .unset, .unset, .unset, .unset] [(.int (0 : Int32)), (.int p1)])) (fun t k => ?_) ?_
  · show Steps p.tables e below (s₁.setTop (mkF m 0 #[.val (.long q0), .second, .val (.int p1), .unset, .unset, .unset, .unset, .unset, .unset, .unset, .unset] [])) t
    refine XS.iloadN X0.here hx rfl (hb hby at_0) rfl ?_
    show Steps p.tables e below (s₁.setTop (mkF m 1 #[.val (.long q0), .second, .val (.int p1), .unset, .unset, .unset, .unset, .unset, .unset, .unset, .unset] [(.int p1)])) t
    refine XS.iconst X0.here hx rfl (hb hby at_1) ?_
    exact k
  obtain ⟨_, _, ⟨T1, L1, k1, n1⟩, -, X1, ⟨Lc1, hQ1, l1, y1, z1⟩, st1⟩ := Jvm.LawKit.callS X0 hx (y := (⟨"com/example/bare_octets/bareoctets/codec/WellFormedSequencesTwoByteFormLaneStopsPinLaw", "laneMask", "(II)J"⟩ : MethodName)) hown (mvT hZ (hw _ (List.mem_of_getElem? (i := 0) rfl))) (mvT hZ (hw _ (List.mem_of_getElem? (i := 1) rfl))) (mvT hZ (hw _ (List.mem_of_getElem? (i := 2) rfl))) (mvT hZ (hw _ (List.mem_of_getElem? (i := 3) rfl))) (by decide) (backOf (W := 0) (rm1 l Z az hw [] p1 (0 : Int32) h0 n0 Z0 ) hZ (hw _ (List.mem_of_getElem? (i := 3) rfl)) (hw _ (List.mem_of_getElem? (i := 2) rfl)) (by decide) (by decide)) (g := (mkF m 2 #[.val (.long q0), .second, .val (.int p1), .unset, .unset, .unset, .unset, .unset, .unset, .unset, .unset] [(.int (0 : Int32)), (.int p1)])) rfl (by rw [hml]; rfl) (argsL := [(.int p1), (.int (0 : Int32))]) (rest := []) (lenOf own_pd0 rfl) rfl (by show 2 * 0 + _ ≤ _; exact Nat.le_of_eq rfl) (hb hby at_2) (fun _ _ => ⟨rfl, e0, (by decide : 0 + 0 ≤ _), (by decide : 0 + 0 ≤ _)⟩)
  dsimp only [Pt.U, Pt.locs, Pt.cells, Pt.slots] at X1 l1 y1 z1 st1 hQ1
  subst l1 y1 z1
  obtain ⟨rfl, N1q, e1⟩ := hQ1
  have N2 := Fr.app N0 N1q
  refine Goes.by st1 ?_
  show Goes p.tables e below _ (T1.setTop (mkF m 5 #[.val (.long q0), .second, .val (.int p1), .unset, .unset, .unset, .unset, .unset, .unset, .unset, .unset] [(.long (f1 p1 (0 : Int32)))]))
  refine Goes.by (B := T1.setTop (mkF m 7 #[.val (.long q0), .second, .val (.int p1), .unset, .unset, .unset, .unset, .unset, .unset, .unset, .unset] [(.int (1 : Int32)), (.int p1), (.long (f1 p1 (0 : Int32)))])) (fun t k => ?_) ?_
  · show Steps p.tables e below (T1.setTop (mkF m 5 #[.val (.long q0), .second, .val (.int p1), .unset, .unset, .unset, .unset, .unset, .unset, .unset, .unset] [(.long (f1 p1 (0 : Int32)))])) t
    refine XS.iloadN X1.here hx rfl (hb hby at_5) rfl ?_
    show Steps p.tables e below (T1.setTop (mkF m 6 #[.val (.long q0), .second, .val (.int p1), .unset, .unset, .unset, .unset, .unset, .unset, .unset, .unset] [(.int p1), (.long (f1 p1 (0 : Int32)))])) t
    refine XS.iconst X1.here hx rfl (hb hby at_6) ?_
    exact k
  obtain ⟨_, _, ⟨T3, L3, k3, n3⟩, -, X3, ⟨Lc3, hQ3, l3, y3, z3⟩, st3⟩ := Jvm.LawKit.callS X1 hx (y := (⟨"com/example/bare_octets/bareoctets/codec/WellFormedSequencesTwoByteFormLaneStopsPinLaw", "laneMask", "(II)J"⟩ : MethodName)) hown (mvT hZ (hw _ (List.mem_of_getElem? (i := 0) rfl))) (mvT hZ (hw _ (List.mem_of_getElem? (i := 1) rfl))) (mvT hZ (hw _ (List.mem_of_getElem? (i := 2) rfl))) (mvT hZ (hw _ (List.mem_of_getElem? (i := 3) rfl))) (by decide) (backOf (W := 2) (rm1 l Z az hw [] p1 (1 : Int32) h0 n0 Z0 ) hZ (hw _ (List.mem_of_getElem? (i := 3) rfl)) (hw _ (List.mem_of_getElem? (i := 2) rfl)) (by decide) (by decide)) (g := (mkF m 7 #[.val (.long q0), .second, .val (.int p1), .unset, .unset, .unset, .unset, .unset, .unset, .unset, .unset] [(.int (1 : Int32)), (.int p1), (.long (f1 p1 (0 : Int32)))])) rfl (by rw [hml]; rfl) (argsL := [(.int p1), (.int (1 : Int32))]) (rest := [(.long (f1 p1 (0 : Int32)))]) (lenOf own_pd0 rfl) rfl (by show 2 * 0 + _ ≤ _; exact Nat.le_of_eq rfl) (hb hby at_7) (fun _ _ => ⟨rfl, e1, (by decide : 0 + 0 ≤ _), (by decide : 0 + 0 ≤ _)⟩)
  dsimp only [Pt.U, Pt.locs, Pt.cells, Pt.slots] at X3 l3 y3 z3 st3 hQ3
  subst l3 y3 z3
  obtain ⟨rfl, N3q, e3⟩ := hQ3
  have N4 := Fr.app N2 N3q
  refine Goes.by st3 ?_
  show Goes p.tables e below _ (T3.setTop (mkF m 10 #[.val (.long q0), .second, .val (.int p1), .unset, .unset, .unset, .unset, .unset, .unset, .unset, .unset] [(.long (f1 p1 (1 : Int32))), (.long (f1 p1 (0 : Int32)))]))
  refine Goes.by (B := T3.setTop (mkF m 13 #[.val (.long q0), .second, .val (.int p1), .unset, .unset, .unset, .unset, .unset, .unset, .unset, .unset] [(.int (2 : Int32)), (.int p1), (.long ((f1 p1 (0 : Int32)) ||| (f1 p1 (1 : Int32))))])) (fun t k => ?_) ?_
  · show Steps p.tables e below (T3.setTop (mkF m 10 #[.val (.long q0), .second, .val (.int p1), .unset, .unset, .unset, .unset, .unset, .unset, .unset, .unset] [(.long (f1 p1 (1 : Int32))), (.long (f1 p1 (0 : Int32)))])) t
    refine XS.lor X3.here hx rfl (hb hby at_10) rfl ?_
    show Steps p.tables e below (T3.setTop (mkF m 11 #[.val (.long q0), .second, .val (.int p1), .unset, .unset, .unset, .unset, .unset, .unset, .unset, .unset] [(.long ((f1 p1 (0 : Int32)) ||| (f1 p1 (1 : Int32))))])) t
    refine XS.iloadN X3.here hx rfl (hb hby at_11) rfl ?_
    show Steps p.tables e below (T3.setTop (mkF m 12 #[.val (.long q0), .second, .val (.int p1), .unset, .unset, .unset, .unset, .unset, .unset, .unset, .unset] [(.int p1), (.long ((f1 p1 (0 : Int32)) ||| (f1 p1 (1 : Int32))))])) t
    refine XS.iconst X3.here hx rfl (hb hby at_12) ?_
    exact k
  obtain ⟨_, _, ⟨T5, L5, k5, n5⟩, -, X5, ⟨Lc5, hQ5, l5, y5, z5⟩, st5⟩ := Jvm.LawKit.callS X3 hx (y := (⟨"com/example/bare_octets/bareoctets/codec/WellFormedSequencesTwoByteFormLaneStopsPinLaw", "laneMask", "(II)J"⟩ : MethodName)) hown (mvT hZ (hw _ (List.mem_of_getElem? (i := 0) rfl))) (mvT hZ (hw _ (List.mem_of_getElem? (i := 1) rfl))) (mvT hZ (hw _ (List.mem_of_getElem? (i := 2) rfl))) (mvT hZ (hw _ (List.mem_of_getElem? (i := 3) rfl))) (by decide) (backOf (W := 2) (rm1 l Z az hw [] p1 (2 : Int32) h0 n0 Z0 ) hZ (hw _ (List.mem_of_getElem? (i := 3) rfl)) (hw _ (List.mem_of_getElem? (i := 2) rfl)) (by decide) (by decide)) (g := (mkF m 13 #[.val (.long q0), .second, .val (.int p1), .unset, .unset, .unset, .unset, .unset, .unset, .unset, .unset] [(.int (2 : Int32)), (.int p1), (.long ((f1 p1 (0 : Int32)) ||| (f1 p1 (1 : Int32))))])) rfl (by rw [hml]; rfl) (argsL := [(.int p1), (.int (2 : Int32))]) (rest := [(.long ((f1 p1 (0 : Int32)) ||| (f1 p1 (1 : Int32))))]) (lenOf own_pd0 rfl) rfl (by show 2 * 0 + _ ≤ _; exact Nat.le_of_eq rfl) (hb hby at_13) (fun _ _ => ⟨rfl, e3, (by decide : 0 + 0 ≤ _), (by decide : 0 + 0 ≤ _)⟩)
  dsimp only [Pt.U, Pt.locs, Pt.cells, Pt.slots] at X5 l5 y5 z5 st5 hQ5
  subst l5 y5 z5
  obtain ⟨rfl, N5q, e5⟩ := hQ5
  have N6 := Fr.app N4 N5q
  refine Goes.by st5 ?_
  show Goes p.tables e below _ (T5.setTop (mkF m 16 #[.val (.long q0), .second, .val (.int p1), .unset, .unset, .unset, .unset, .unset, .unset, .unset, .unset] [(.long (f1 p1 (2 : Int32))), (.long ((f1 p1 (0 : Int32)) ||| (f1 p1 (1 : Int32))))]))
  refine Goes.by (B := T5.setTop (mkF m 19 #[.val (.long q0), .second, .val (.int p1), .unset, .unset, .unset, .unset, .unset, .unset, .unset, .unset] [(.int (3 : Int32)), (.int p1), (.long (((f1 p1 (0 : Int32)) ||| (f1 p1 (1 : Int32))) ||| (f1 p1 (2 : Int32))))])) (fun t k => ?_) ?_
  · show Steps p.tables e below (T5.setTop (mkF m 16 #[.val (.long q0), .second, .val (.int p1), .unset, .unset, .unset, .unset, .unset, .unset, .unset, .unset] [(.long (f1 p1 (2 : Int32))), (.long ((f1 p1 (0 : Int32)) ||| (f1 p1 (1 : Int32))))])) t
    refine XS.lor X5.here hx rfl (hb hby at_16) rfl ?_
    show Steps p.tables e below (T5.setTop (mkF m 17 #[.val (.long q0), .second, .val (.int p1), .unset, .unset, .unset, .unset, .unset, .unset, .unset, .unset] [(.long (((f1 p1 (0 : Int32)) ||| (f1 p1 (1 : Int32))) ||| (f1 p1 (2 : Int32))))])) t
    refine XS.iloadN X5.here hx rfl (hb hby at_17) rfl ?_
    show Steps p.tables e below (T5.setTop (mkF m 18 #[.val (.long q0), .second, .val (.int p1), .unset, .unset, .unset, .unset, .unset, .unset, .unset, .unset] [(.int p1), (.long (((f1 p1 (0 : Int32)) ||| (f1 p1 (1 : Int32))) ||| (f1 p1 (2 : Int32))))])) t
    refine XS.iconst X5.here hx rfl (hb hby at_18) ?_
    exact k
  obtain ⟨_, _, ⟨T7, L7, k7, n7⟩, -, X7, ⟨Lc7, hQ7, l7, y7, z7⟩, st7⟩ := Jvm.LawKit.callS X5 hx (y := (⟨"com/example/bare_octets/bareoctets/codec/WellFormedSequencesTwoByteFormLaneStopsPinLaw", "laneMask", "(II)J"⟩ : MethodName)) hown (mvT hZ (hw _ (List.mem_of_getElem? (i := 0) rfl))) (mvT hZ (hw _ (List.mem_of_getElem? (i := 1) rfl))) (mvT hZ (hw _ (List.mem_of_getElem? (i := 2) rfl))) (mvT hZ (hw _ (List.mem_of_getElem? (i := 3) rfl))) (by decide) (backOf (W := 2) (rm1 l Z az hw [] p1 (3 : Int32) h0 n0 Z0 ) hZ (hw _ (List.mem_of_getElem? (i := 3) rfl)) (hw _ (List.mem_of_getElem? (i := 2) rfl)) (by decide) (by decide)) (g := (mkF m 19 #[.val (.long q0), .second, .val (.int p1), .unset, .unset, .unset, .unset, .unset, .unset, .unset, .unset] [(.int (3 : Int32)), (.int p1), (.long (((f1 p1 (0 : Int32)) ||| (f1 p1 (1 : Int32))) ||| (f1 p1 (2 : Int32))))])) rfl (by rw [hml]; rfl) (argsL := [(.int p1), (.int (3 : Int32))]) (rest := [(.long (((f1 p1 (0 : Int32)) ||| (f1 p1 (1 : Int32))) ||| (f1 p1 (2 : Int32))))]) (lenOf own_pd0 rfl) rfl (by show 2 * 0 + _ ≤ _; exact Nat.le_of_eq rfl) (hb hby at_19) (fun _ _ => ⟨rfl, e5, (by decide : 0 + 0 ≤ _), (by decide : 0 + 0 ≤ _)⟩)
  dsimp only [Pt.U, Pt.locs, Pt.cells, Pt.slots] at X7 l7 y7 z7 st7 hQ7
  subst l7 y7 z7
  obtain ⟨rfl, N7q, e7⟩ := hQ7
  have N8 := Fr.app N6 N7q
  refine Goes.by st7 ?_
  show Goes p.tables e below _ (T7.setTop (mkF m 22 #[.val (.long q0), .second, .val (.int p1), .unset, .unset, .unset, .unset, .unset, .unset, .unset, .unset] [(.long (f1 p1 (3 : Int32))), (.long (((f1 p1 (0 : Int32)) ||| (f1 p1 (1 : Int32))) ||| (f1 p1 (2 : Int32))))]))
  refine Goes.by (B := T7.setTop (mkF m 49 #[.val (.long q0), .second, .val (.int p1), .val (.long ((((f1 p1 (0 : Int32)) ||| (f1 p1 (1 : Int32))) ||| (f1 p1 (2 : Int32))) ||| (f1 p1 (3 : Int32)))), .second, .val (.long ((q0 ||| (-9169187277044154176 : Int64)) &&& (-4611756388245323777 : Int64))), .second, .val (.long ((q0 &&& (((((f1 p1 (0 : Int32)) ||| (f1 p1 (1 : Int32))) ||| (f1 p1 (2 : Int32))) ||| (f1 p1 (3 : Int32))) ^^^ (-1 : Int64))) ||| (((q0 ||| (-9169187277044154176 : Int64)) &&& (-4611756388245323777 : Int64)) &&& ((((f1 p1 (0 : Int32)) ||| (f1 p1 (1 : Int32))) ||| (f1 p1 (2 : Int32))) ||| (f1 p1 (3 : Int32)))))), .second, .unset, .unset] [])) (fun t k => ?_) ?_
  · show Steps p.tables e below (T7.setTop (mkF m 22 #[.val (.long q0), .second, .val (.int p1), .unset, .unset, .unset, .unset, .unset, .unset, .unset, .unset] [(.long (f1 p1 (3 : Int32))), (.long (((f1 p1 (0 : Int32)) ||| (f1 p1 (1 : Int32))) ||| (f1 p1 (2 : Int32))))])) t
    refine XS.lor X7.here hx rfl (hb hby at_22) rfl ?_
    show Steps p.tables e below (T7.setTop (mkF m 23 #[.val (.long q0), .second, .val (.int p1), .unset, .unset, .unset, .unset, .unset, .unset, .unset, .unset] [(.long ((((f1 p1 (0 : Int32)) ||| (f1 p1 (1 : Int32))) ||| (f1 p1 (2 : Int32))) ||| (f1 p1 (3 : Int32))))])) t
    refine XS.lstoreN X7.here hx rfl (hb hby at_23) rfl (l' := #[.val (.long q0), .second, .val (.int p1), .val (.long ((((f1 p1 (0 : Int32)) ||| (f1 p1 (1 : Int32))) ||| (f1 p1 (2 : Int32))) ||| (f1 p1 (3 : Int32)))), .second, .unset, .unset, .unset, .unset, .unset, .unset]) rfl ?_
    show Steps p.tables e below (T7.setTop (mkF m 24 #[.val (.long q0), .second, .val (.int p1), .val (.long ((((f1 p1 (0 : Int32)) ||| (f1 p1 (1 : Int32))) ||| (f1 p1 (2 : Int32))) ||| (f1 p1 (3 : Int32)))), .second, .unset, .unset, .unset, .unset, .unset, .unset] [])) t
    refine XS.lloadN X7.here hx rfl (hb hby at_24) rfl ?_
    show Steps p.tables e below (T7.setTop (mkF m 25 #[.val (.long q0), .second, .val (.int p1), .val (.long ((((f1 p1 (0 : Int32)) ||| (f1 p1 (1 : Int32))) ||| (f1 p1 (2 : Int32))) ||| (f1 p1 (3 : Int32)))), .second, .unset, .unset, .unset, .unset, .unset, .unset] [(.long q0)])) t
    refine X7.ldc2Long hx hown (mvT hZ (hw _ (List.mem_of_getElem? (i := 5) rfl))) (g := (mkF m 25 #[.val (.long q0), .second, .val (.int p1), .val (.long ((((f1 p1 (0 : Int32)) ||| (f1 p1 (1 : Int32))) ||| (f1 p1 (2 : Int32))) ||| (f1 p1 (3 : Int32)))), .second, .unset, .unset, .unset, .unset, .unset, .unset] [(.long q0)])) rfl (hb hby at_25) _ ?_
    show Steps p.tables e below (T7.setTop (mkF m 28 #[.val (.long q0), .second, .val (.int p1), .val (.long ((((f1 p1 (0 : Int32)) ||| (f1 p1 (1 : Int32))) ||| (f1 p1 (2 : Int32))) ||| (f1 p1 (3 : Int32)))), .second, .unset, .unset, .unset, .unset, .unset, .unset] [(.long (-9169187277044154176 : Int64)), (.long q0)])) t
    refine XS.lor X7.here hx rfl (hb hby at_28) rfl ?_
    show Steps p.tables e below (T7.setTop (mkF m 29 #[.val (.long q0), .second, .val (.int p1), .val (.long ((((f1 p1 (0 : Int32)) ||| (f1 p1 (1 : Int32))) ||| (f1 p1 (2 : Int32))) ||| (f1 p1 (3 : Int32)))), .second, .unset, .unset, .unset, .unset, .unset, .unset] [(.long (q0 ||| (-9169187277044154176 : Int64)))])) t
    refine X7.ldc2Long hx hown (mvT hZ (hw _ (List.mem_of_getElem? (i := 6) rfl))) (g := (mkF m 29 #[.val (.long q0), .second, .val (.int p1), .val (.long ((((f1 p1 (0 : Int32)) ||| (f1 p1 (1 : Int32))) ||| (f1 p1 (2 : Int32))) ||| (f1 p1 (3 : Int32)))), .second, .unset, .unset, .unset, .unset, .unset, .unset] [(.long (q0 ||| (-9169187277044154176 : Int64)))])) rfl (hb hby at_29) _ ?_
    show Steps p.tables e below (T7.setTop (mkF m 32 #[.val (.long q0), .second, .val (.int p1), .val (.long ((((f1 p1 (0 : Int32)) ||| (f1 p1 (1 : Int32))) ||| (f1 p1 (2 : Int32))) ||| (f1 p1 (3 : Int32)))), .second, .unset, .unset, .unset, .unset, .unset, .unset] [(.long (-4611756388245323777 : Int64)), (.long (q0 ||| (-9169187277044154176 : Int64)))])) t
    refine XS.land X7.here hx rfl (hb hby at_32) rfl ?_
    show Steps p.tables e below (T7.setTop (mkF m 33 #[.val (.long q0), .second, .val (.int p1), .val (.long ((((f1 p1 (0 : Int32)) ||| (f1 p1 (1 : Int32))) ||| (f1 p1 (2 : Int32))) ||| (f1 p1 (3 : Int32)))), .second, .unset, .unset, .unset, .unset, .unset, .unset] [(.long ((q0 ||| (-9169187277044154176 : Int64)) &&& (-4611756388245323777 : Int64)))])) t
    refine XS.lstore X7.here hx rfl (hb hby at_33) rfl (l' := #[.val (.long q0), .second, .val (.int p1), .val (.long ((((f1 p1 (0 : Int32)) ||| (f1 p1 (1 : Int32))) ||| (f1 p1 (2 : Int32))) ||| (f1 p1 (3 : Int32)))), .second, .val (.long ((q0 ||| (-9169187277044154176 : Int64)) &&& (-4611756388245323777 : Int64))), .second, .unset, .unset, .unset, .unset]) rfl ?_
    show Steps p.tables e below (T7.setTop (mkF m 35 #[.val (.long q0), .second, .val (.int p1), .val (.long ((((f1 p1 (0 : Int32)) ||| (f1 p1 (1 : Int32))) ||| (f1 p1 (2 : Int32))) ||| (f1 p1 (3 : Int32)))), .second, .val (.long ((q0 ||| (-9169187277044154176 : Int64)) &&& (-4611756388245323777 : Int64))), .second, .unset, .unset, .unset, .unset] [])) t
    refine XS.lloadN X7.here hx rfl (hb hby at_35) rfl ?_
    show Steps p.tables e below (T7.setTop (mkF m 36 #[.val (.long q0), .second, .val (.int p1), .val (.long ((((f1 p1 (0 : Int32)) ||| (f1 p1 (1 : Int32))) ||| (f1 p1 (2 : Int32))) ||| (f1 p1 (3 : Int32)))), .second, .val (.long ((q0 ||| (-9169187277044154176 : Int64)) &&& (-4611756388245323777 : Int64))), .second, .unset, .unset, .unset, .unset] [(.long q0)])) t
    refine XS.lloadN X7.here hx rfl (hb hby at_36) rfl ?_
    show Steps p.tables e below (T7.setTop (mkF m 37 #[.val (.long q0), .second, .val (.int p1), .val (.long ((((f1 p1 (0 : Int32)) ||| (f1 p1 (1 : Int32))) ||| (f1 p1 (2 : Int32))) ||| (f1 p1 (3 : Int32)))), .second, .val (.long ((q0 ||| (-9169187277044154176 : Int64)) &&& (-4611756388245323777 : Int64))), .second, .unset, .unset, .unset, .unset] [(.long ((((f1 p1 (0 : Int32)) ||| (f1 p1 (1 : Int32))) ||| (f1 p1 (2 : Int32))) ||| (f1 p1 (3 : Int32)))), (.long q0)])) t
    refine X7.ldc2Long hx hown (mvT hZ (hw _ (List.mem_of_getElem? (i := 7) rfl))) (g := (mkF m 37 #[.val (.long q0), .second, .val (.int p1), .val (.long ((((f1 p1 (0 : Int32)) ||| (f1 p1 (1 : Int32))) ||| (f1 p1 (2 : Int32))) ||| (f1 p1 (3 : Int32)))), .second, .val (.long ((q0 ||| (-9169187277044154176 : Int64)) &&& (-4611756388245323777 : Int64))), .second, .unset, .unset, .unset, .unset] [(.long ((((f1 p1 (0 : Int32)) ||| (f1 p1 (1 : Int32))) ||| (f1 p1 (2 : Int32))) ||| (f1 p1 (3 : Int32)))), (.long q0)])) rfl (hb hby at_37) _ ?_
    show Steps p.tables e below (T7.setTop (mkF m 40 #[.val (.long q0), .second, .val (.int p1), .val (.long ((((f1 p1 (0 : Int32)) ||| (f1 p1 (1 : Int32))) ||| (f1 p1 (2 : Int32))) ||| (f1 p1 (3 : Int32)))), .second, .val (.long ((q0 ||| (-9169187277044154176 : Int64)) &&& (-4611756388245323777 : Int64))), .second, .unset, .unset, .unset, .unset] [(.long (-1 : Int64)), (.long ((((f1 p1 (0 : Int32)) ||| (f1 p1 (1 : Int32))) ||| (f1 p1 (2 : Int32))) ||| (f1 p1 (3 : Int32)))), (.long q0)])) t
    refine XS.lxor X7.here hx rfl (hb hby at_40) rfl ?_
    show Steps p.tables e below (T7.setTop (mkF m 41 #[.val (.long q0), .second, .val (.int p1), .val (.long ((((f1 p1 (0 : Int32)) ||| (f1 p1 (1 : Int32))) ||| (f1 p1 (2 : Int32))) ||| (f1 p1 (3 : Int32)))), .second, .val (.long ((q0 ||| (-9169187277044154176 : Int64)) &&& (-4611756388245323777 : Int64))), .second, .unset, .unset, .unset, .unset] [(.long (((((f1 p1 (0 : Int32)) ||| (f1 p1 (1 : Int32))) ||| (f1 p1 (2 : Int32))) ||| (f1 p1 (3 : Int32))) ^^^ (-1 : Int64))), (.long q0)])) t
    refine XS.land X7.here hx rfl (hb hby at_41) rfl ?_
    show Steps p.tables e below (T7.setTop (mkF m 42 #[.val (.long q0), .second, .val (.int p1), .val (.long ((((f1 p1 (0 : Int32)) ||| (f1 p1 (1 : Int32))) ||| (f1 p1 (2 : Int32))) ||| (f1 p1 (3 : Int32)))), .second, .val (.long ((q0 ||| (-9169187277044154176 : Int64)) &&& (-4611756388245323777 : Int64))), .second, .unset, .unset, .unset, .unset] [(.long (q0 &&& (((((f1 p1 (0 : Int32)) ||| (f1 p1 (1 : Int32))) ||| (f1 p1 (2 : Int32))) ||| (f1 p1 (3 : Int32))) ^^^ (-1 : Int64))))])) t
    refine XS.lload X7.here hx rfl (hb hby at_42) rfl ?_
    show Steps p.tables e below (T7.setTop (mkF m 44 #[.val (.long q0), .second, .val (.int p1), .val (.long ((((f1 p1 (0 : Int32)) ||| (f1 p1 (1 : Int32))) ||| (f1 p1 (2 : Int32))) ||| (f1 p1 (3 : Int32)))), .second, .val (.long ((q0 ||| (-9169187277044154176 : Int64)) &&& (-4611756388245323777 : Int64))), .second, .unset, .unset, .unset, .unset] [(.long ((q0 ||| (-9169187277044154176 : Int64)) &&& (-4611756388245323777 : Int64))), (.long (q0 &&& (((((f1 p1 (0 : Int32)) ||| (f1 p1 (1 : Int32))) ||| (f1 p1 (2 : Int32))) ||| (f1 p1 (3 : Int32))) ^^^ (-1 : Int64))))])) t
    refine XS.lloadN X7.here hx rfl (hb hby at_44) rfl ?_
    show Steps p.tables e below (T7.setTop (mkF m 45 #[.val (.long q0), .second, .val (.int p1), .val (.long ((((f1 p1 (0 : Int32)) ||| (f1 p1 (1 : Int32))) ||| (f1 p1 (2 : Int32))) ||| (f1 p1 (3 : Int32)))), .second, .val (.long ((q0 ||| (-9169187277044154176 : Int64)) &&& (-4611756388245323777 : Int64))), .second, .unset, .unset, .unset, .unset] [(.long ((((f1 p1 (0 : Int32)) ||| (f1 p1 (1 : Int32))) ||| (f1 p1 (2 : Int32))) ||| (f1 p1 (3 : Int32)))), (.long ((q0 ||| (-9169187277044154176 : Int64)) &&& (-4611756388245323777 : Int64))), (.long (q0 &&& (((((f1 p1 (0 : Int32)) ||| (f1 p1 (1 : Int32))) ||| (f1 p1 (2 : Int32))) ||| (f1 p1 (3 : Int32))) ^^^ (-1 : Int64))))])) t
    refine XS.land X7.here hx rfl (hb hby at_45) rfl ?_
    show Steps p.tables e below (T7.setTop (mkF m 46 #[.val (.long q0), .second, .val (.int p1), .val (.long ((((f1 p1 (0 : Int32)) ||| (f1 p1 (1 : Int32))) ||| (f1 p1 (2 : Int32))) ||| (f1 p1 (3 : Int32)))), .second, .val (.long ((q0 ||| (-9169187277044154176 : Int64)) &&& (-4611756388245323777 : Int64))), .second, .unset, .unset, .unset, .unset] [(.long (((q0 ||| (-9169187277044154176 : Int64)) &&& (-4611756388245323777 : Int64)) &&& ((((f1 p1 (0 : Int32)) ||| (f1 p1 (1 : Int32))) ||| (f1 p1 (2 : Int32))) ||| (f1 p1 (3 : Int32))))), (.long (q0 &&& (((((f1 p1 (0 : Int32)) ||| (f1 p1 (1 : Int32))) ||| (f1 p1 (2 : Int32))) ||| (f1 p1 (3 : Int32))) ^^^ (-1 : Int64))))])) t
    refine XS.lor X7.here hx rfl (hb hby at_46) rfl ?_
    show Steps p.tables e below (T7.setTop (mkF m 47 #[.val (.long q0), .second, .val (.int p1), .val (.long ((((f1 p1 (0 : Int32)) ||| (f1 p1 (1 : Int32))) ||| (f1 p1 (2 : Int32))) ||| (f1 p1 (3 : Int32)))), .second, .val (.long ((q0 ||| (-9169187277044154176 : Int64)) &&& (-4611756388245323777 : Int64))), .second, .unset, .unset, .unset, .unset] [(.long ((q0 &&& (((((f1 p1 (0 : Int32)) ||| (f1 p1 (1 : Int32))) ||| (f1 p1 (2 : Int32))) ||| (f1 p1 (3 : Int32))) ^^^ (-1 : Int64))) ||| (((q0 ||| (-9169187277044154176 : Int64)) &&& (-4611756388245323777 : Int64)) &&& ((((f1 p1 (0 : Int32)) ||| (f1 p1 (1 : Int32))) ||| (f1 p1 (2 : Int32))) ||| (f1 p1 (3 : Int32))))))])) t
    refine XS.lstore X7.here hx rfl (hb hby at_47) rfl (l' := #[.val (.long q0), .second, .val (.int p1), .val (.long ((((f1 p1 (0 : Int32)) ||| (f1 p1 (1 : Int32))) ||| (f1 p1 (2 : Int32))) ||| (f1 p1 (3 : Int32)))), .second, .val (.long ((q0 ||| (-9169187277044154176 : Int64)) &&& (-4611756388245323777 : Int64))), .second, .val (.long ((q0 &&& (((((f1 p1 (0 : Int32)) ||| (f1 p1 (1 : Int32))) ||| (f1 p1 (2 : Int32))) ||| (f1 p1 (3 : Int32))) ^^^ (-1 : Int64))) ||| (((q0 ||| (-9169187277044154176 : Int64)) &&& (-4611756388245323777 : Int64)) &&& ((((f1 p1 (0 : Int32)) ||| (f1 p1 (1 : Int32))) ||| (f1 p1 (2 : Int32))) ||| (f1 p1 (3 : Int32)))))), .second, .unset, .unset]) rfl ?_
    exact k
  generalize hg_wd : ((q0 &&& (((((f1 p1 (0 : Int32)) ||| (f1 p1 (1 : Int32))) ||| (f1 p1 (2 : Int32))) ||| (f1 p1 (3 : Int32))) ^^^ (-1 : Int64))) ||| (((q0 ||| (-9169187277044154176 : Int64)) &&& (-4611756388245323777 : Int64)) &&& ((((f1 p1 (0 : Int32)) ||| (f1 p1 (1 : Int32))) ||| (f1 p1 (2 : Int32))) ||| (f1 p1 (3 : Int32))))) = wd
  refine Goes.by (B := T7.setTop (mkF m 52 #[.val (.long q0), .second, .val (.int p1), .val (.long ((((f1 p1 (0 : Int32)) ||| (f1 p1 (1 : Int32))) ||| (f1 p1 (2 : Int32))) ||| (f1 p1 (3 : Int32)))), .second, .val (.long ((q0 ||| (-9169187277044154176 : Int64)) &&& (-4611756388245323777 : Int64))), .second, .val (.long wd), .second, .unset, .unset] [(.int (0 : Int32)), (.long wd)])) (fun t k => ?_) ?_
  · show Steps p.tables e below (T7.setTop (mkF m 49 #[.val (.long q0), .second, .val (.int p1), .val (.long ((((f1 p1 (0 : Int32)) ||| (f1 p1 (1 : Int32))) ||| (f1 p1 (2 : Int32))) ||| (f1 p1 (3 : Int32)))), .second, .val (.long ((q0 ||| (-9169187277044154176 : Int64)) &&& (-4611756388245323777 : Int64))), .second, .val (.long wd), .second, .unset, .unset] [])) t
    refine XS.lload X7.here hx rfl (hb hby at_49) rfl ?_
    show Steps p.tables e below (T7.setTop (mkF m 51 #[.val (.long q0), .second, .val (.int p1), .val (.long ((((f1 p1 (0 : Int32)) ||| (f1 p1 (1 : Int32))) ||| (f1 p1 (2 : Int32))) ||| (f1 p1 (3 : Int32)))), .second, .val (.long ((q0 ||| (-9169187277044154176 : Int64)) &&& (-4611756388245323777 : Int64))), .second, .val (.long wd), .second, .unset, .unset] [(.long wd)])) t
    refine XS.iconst X7.here hx rfl (hb hby at_51) ?_
    exact k
  obtain ⟨_, _, ⟨T9, L9, k9, n9⟩, -, X9, ⟨Lc9, hQ9, l9, y9, z9⟩, st9⟩ := Jvm.LawKit.callS X7 hx (y := (⟨"com/example/bare_octets/bareoctets/codec/WellFormedSequencesTwoByteFormLaneStopsPinLaw", "expectedStop", "(JI)J"⟩ : MethodName)) hown (mvT hZ (hw _ (List.mem_of_getElem? (i := 8) rfl))) (mvT hZ (hw _ (List.mem_of_getElem? (i := 9) rfl))) (mvT hZ (hw _ (List.mem_of_getElem? (i := 2) rfl))) (mvT hZ (hw _ (List.mem_of_getElem? (i := 10) rfl))) (by decide) (backOf (W := 0) (rm2 l Z az hw [] wd (0 : Int32) h0 n0 Z0 ) hZ (hw _ (List.mem_of_getElem? (i := 10) rfl)) (hw _ (List.mem_of_getElem? (i := 2) rfl)) (by decide) (by decide)) (g := (mkF m 52 #[.val (.long q0), .second, .val (.int p1), .val (.long ((((f1 p1 (0 : Int32)) ||| (f1 p1 (1 : Int32))) ||| (f1 p1 (2 : Int32))) ||| (f1 p1 (3 : Int32)))), .second, .val (.long ((q0 ||| (-9169187277044154176 : Int64)) &&& (-4611756388245323777 : Int64))), .second, .val (.long wd), .second, .unset, .unset] [(.int (0 : Int32)), (.long wd)])) rfl (by rw [hml]; rfl) (argsL := [(.long wd), (.int (0 : Int32))]) (rest := []) (lenOf own_pd1 rfl) rfl (by show 2 * 0 + _ ≤ _; exact Nat.le_of_eq rfl) (hb hby at_52) (fun _ _ => ⟨rfl, e7, (by decide : 0 + 0 ≤ _), (by decide : 0 + 0 ≤ _)⟩)
  dsimp only [Pt.U, Pt.locs, Pt.cells, Pt.slots] at X9 l9 y9 z9 st9 hQ9
  subst l9 y9 z9
  obtain ⟨rfl, N9q, e9⟩ := hQ9
  have N10 := Fr.app N8 N9q
  refine Goes.by st9 ?_
  show Goes p.tables e below _ (T9.setTop (mkF m 55 #[.val (.long q0), .second, .val (.int p1), .val (.long ((((f1 p1 (0 : Int32)) ||| (f1 p1 (1 : Int32))) ||| (f1 p1 (2 : Int32))) ||| (f1 p1 (3 : Int32)))), .second, .val (.long ((q0 ||| (-9169187277044154176 : Int64)) &&& (-4611756388245323777 : Int64))), .second, .val (.long wd), .second, .unset, .unset] [(.long (f2 wd (0 : Int32)))]))
  refine Goes.by (B := T9.setTop (mkF m 58 #[.val (.long q0), .second, .val (.int p1), .val (.long ((((f1 p1 (0 : Int32)) ||| (f1 p1 (1 : Int32))) ||| (f1 p1 (2 : Int32))) ||| (f1 p1 (3 : Int32)))), .second, .val (.long ((q0 ||| (-9169187277044154176 : Int64)) &&& (-4611756388245323777 : Int64))), .second, .val (.long wd), .second, .unset, .unset] [(.int (1 : Int32)), (.long wd), (.long (f2 wd (0 : Int32)))])) (fun t k => ?_) ?_
  · show Steps p.tables e below (T9.setTop (mkF m 55 #[.val (.long q0), .second, .val (.int p1), .val (.long ((((f1 p1 (0 : Int32)) ||| (f1 p1 (1 : Int32))) ||| (f1 p1 (2 : Int32))) ||| (f1 p1 (3 : Int32)))), .second, .val (.long ((q0 ||| (-9169187277044154176 : Int64)) &&& (-4611756388245323777 : Int64))), .second, .val (.long wd), .second, .unset, .unset] [(.long (f2 wd (0 : Int32)))])) t
    refine XS.lload X9.here hx rfl (hb hby at_55) rfl ?_
    show Steps p.tables e below (T9.setTop (mkF m 57 #[.val (.long q0), .second, .val (.int p1), .val (.long ((((f1 p1 (0 : Int32)) ||| (f1 p1 (1 : Int32))) ||| (f1 p1 (2 : Int32))) ||| (f1 p1 (3 : Int32)))), .second, .val (.long ((q0 ||| (-9169187277044154176 : Int64)) &&& (-4611756388245323777 : Int64))), .second, .val (.long wd), .second, .unset, .unset] [(.long wd), (.long (f2 wd (0 : Int32)))])) t
    refine XS.iconst X9.here hx rfl (hb hby at_57) ?_
    exact k
  obtain ⟨_, _, ⟨T11, L11, k11, n11⟩, -, X11, ⟨Lc11, hQ11, l11, y11, z11⟩, st11⟩ := Jvm.LawKit.callS X9 hx (y := (⟨"com/example/bare_octets/bareoctets/codec/WellFormedSequencesTwoByteFormLaneStopsPinLaw", "expectedStop", "(JI)J"⟩ : MethodName)) hown (mvT hZ (hw _ (List.mem_of_getElem? (i := 8) rfl))) (mvT hZ (hw _ (List.mem_of_getElem? (i := 9) rfl))) (mvT hZ (hw _ (List.mem_of_getElem? (i := 2) rfl))) (mvT hZ (hw _ (List.mem_of_getElem? (i := 10) rfl))) (by decide) (backOf (W := 2) (rm2 l Z az hw [] wd (1 : Int32) h0 n0 Z0 ) hZ (hw _ (List.mem_of_getElem? (i := 10) rfl)) (hw _ (List.mem_of_getElem? (i := 2) rfl)) (by decide) (by decide)) (g := (mkF m 58 #[.val (.long q0), .second, .val (.int p1), .val (.long ((((f1 p1 (0 : Int32)) ||| (f1 p1 (1 : Int32))) ||| (f1 p1 (2 : Int32))) ||| (f1 p1 (3 : Int32)))), .second, .val (.long ((q0 ||| (-9169187277044154176 : Int64)) &&& (-4611756388245323777 : Int64))), .second, .val (.long wd), .second, .unset, .unset] [(.int (1 : Int32)), (.long wd), (.long (f2 wd (0 : Int32)))])) rfl (by rw [hml]; rfl) (argsL := [(.long wd), (.int (1 : Int32))]) (rest := [(.long (f2 wd (0 : Int32)))]) (lenOf own_pd1 rfl) rfl (by show 2 * 0 + _ ≤ _; exact Nat.le_of_eq rfl) (hb hby at_58) (fun _ _ => ⟨rfl, e9, (by decide : 0 + 0 ≤ _), (by decide : 0 + 0 ≤ _)⟩)
  dsimp only [Pt.U, Pt.locs, Pt.cells, Pt.slots] at X11 l11 y11 z11 st11 hQ11
  subst l11 y11 z11
  obtain ⟨rfl, N11q, e11⟩ := hQ11
  have N12 := Fr.app N10 N11q
  refine Goes.by st11 ?_
  show Goes p.tables e below _ (T11.setTop (mkF m 61 #[.val (.long q0), .second, .val (.int p1), .val (.long ((((f1 p1 (0 : Int32)) ||| (f1 p1 (1 : Int32))) ||| (f1 p1 (2 : Int32))) ||| (f1 p1 (3 : Int32)))), .second, .val (.long ((q0 ||| (-9169187277044154176 : Int64)) &&& (-4611756388245323777 : Int64))), .second, .val (.long wd), .second, .unset, .unset] [(.long (f2 wd (1 : Int32))), (.long (f2 wd (0 : Int32)))]))
  refine Goes.by (B := T11.setTop (mkF m 65 #[.val (.long q0), .second, .val (.int p1), .val (.long ((((f1 p1 (0 : Int32)) ||| (f1 p1 (1 : Int32))) ||| (f1 p1 (2 : Int32))) ||| (f1 p1 (3 : Int32)))), .second, .val (.long ((q0 ||| (-9169187277044154176 : Int64)) &&& (-4611756388245323777 : Int64))), .second, .val (.long wd), .second, .unset, .unset] [(.int (2 : Int32)), (.long wd), (.long ((f2 wd (0 : Int32)) ||| (f2 wd (1 : Int32))))])) (fun t k => ?_) ?_
  · show Steps p.tables e below (T11.setTop (mkF m 61 #[.val (.long q0), .second, .val (.int p1), .val (.long ((((f1 p1 (0 : Int32)) ||| (f1 p1 (1 : Int32))) ||| (f1 p1 (2 : Int32))) ||| (f1 p1 (3 : Int32)))), .second, .val (.long ((q0 ||| (-9169187277044154176 : Int64)) &&& (-4611756388245323777 : Int64))), .second, .val (.long wd), .second, .unset, .unset] [(.long (f2 wd (1 : Int32))), (.long (f2 wd (0 : Int32)))])) t
    refine XS.lor X11.here hx rfl (hb hby at_61) rfl ?_
    show Steps p.tables e below (T11.setTop (mkF m 62 #[.val (.long q0), .second, .val (.int p1), .val (.long ((((f1 p1 (0 : Int32)) ||| (f1 p1 (1 : Int32))) ||| (f1 p1 (2 : Int32))) ||| (f1 p1 (3 : Int32)))), .second, .val (.long ((q0 ||| (-9169187277044154176 : Int64)) &&& (-4611756388245323777 : Int64))), .second, .val (.long wd), .second, .unset, .unset] [(.long ((f2 wd (0 : Int32)) ||| (f2 wd (1 : Int32))))])) t
    refine XS.lload X11.here hx rfl (hb hby at_62) rfl ?_
    show Steps p.tables e below (T11.setTop (mkF m 64 #[.val (.long q0), .second, .val (.int p1), .val (.long ((((f1 p1 (0 : Int32)) ||| (f1 p1 (1 : Int32))) ||| (f1 p1 (2 : Int32))) ||| (f1 p1 (3 : Int32)))), .second, .val (.long ((q0 ||| (-9169187277044154176 : Int64)) &&& (-4611756388245323777 : Int64))), .second, .val (.long wd), .second, .unset, .unset] [(.long wd), (.long ((f2 wd (0 : Int32)) ||| (f2 wd (1 : Int32))))])) t
    refine XS.iconst X11.here hx rfl (hb hby at_64) ?_
    exact k
  obtain ⟨_, _, ⟨T13, L13, k13, n13⟩, -, X13, ⟨Lc13, hQ13, l13, y13, z13⟩, st13⟩ := Jvm.LawKit.callS X11 hx (y := (⟨"com/example/bare_octets/bareoctets/codec/WellFormedSequencesTwoByteFormLaneStopsPinLaw", "expectedStop", "(JI)J"⟩ : MethodName)) hown (mvT hZ (hw _ (List.mem_of_getElem? (i := 8) rfl))) (mvT hZ (hw _ (List.mem_of_getElem? (i := 9) rfl))) (mvT hZ (hw _ (List.mem_of_getElem? (i := 2) rfl))) (mvT hZ (hw _ (List.mem_of_getElem? (i := 10) rfl))) (by decide) (backOf (W := 2) (rm2 l Z az hw [] wd (2 : Int32) h0 n0 Z0 ) hZ (hw _ (List.mem_of_getElem? (i := 10) rfl)) (hw _ (List.mem_of_getElem? (i := 2) rfl)) (by decide) (by decide)) (g := (mkF m 65 #[.val (.long q0), .second, .val (.int p1), .val (.long ((((f1 p1 (0 : Int32)) ||| (f1 p1 (1 : Int32))) ||| (f1 p1 (2 : Int32))) ||| (f1 p1 (3 : Int32)))), .second, .val (.long ((q0 ||| (-9169187277044154176 : Int64)) &&& (-4611756388245323777 : Int64))), .second, .val (.long wd), .second, .unset, .unset] [(.int (2 : Int32)), (.long wd), (.long ((f2 wd (0 : Int32)) ||| (f2 wd (1 : Int32))))])) rfl (by rw [hml]; rfl) (argsL := [(.long wd), (.int (2 : Int32))]) (rest := [(.long ((f2 wd (0 : Int32)) ||| (f2 wd (1 : Int32))))]) (lenOf own_pd1 rfl) rfl (by show 2 * 0 + _ ≤ _; exact Nat.le_of_eq rfl) (hb hby at_65) (fun _ _ => ⟨rfl, e11, (by decide : 0 + 0 ≤ _), (by decide : 0 + 0 ≤ _)⟩)
  dsimp only [Pt.U, Pt.locs, Pt.cells, Pt.slots] at X13 l13 y13 z13 st13 hQ13
  subst l13 y13 z13
  obtain ⟨rfl, N13q, e13⟩ := hQ13
  have N14 := Fr.app N12 N13q
  refine Goes.by st13 ?_
  show Goes p.tables e below _ (T13.setTop (mkF m 68 #[.val (.long q0), .second, .val (.int p1), .val (.long ((((f1 p1 (0 : Int32)) ||| (f1 p1 (1 : Int32))) ||| (f1 p1 (2 : Int32))) ||| (f1 p1 (3 : Int32)))), .second, .val (.long ((q0 ||| (-9169187277044154176 : Int64)) &&& (-4611756388245323777 : Int64))), .second, .val (.long wd), .second, .unset, .unset] [(.long (f2 wd (2 : Int32))), (.long ((f2 wd (0 : Int32)) ||| (f2 wd (1 : Int32))))]))
  refine Goes.by (B := T13.setTop (mkF m 72 #[.val (.long q0), .second, .val (.int p1), .val (.long ((((f1 p1 (0 : Int32)) ||| (f1 p1 (1 : Int32))) ||| (f1 p1 (2 : Int32))) ||| (f1 p1 (3 : Int32)))), .second, .val (.long ((q0 ||| (-9169187277044154176 : Int64)) &&& (-4611756388245323777 : Int64))), .second, .val (.long wd), .second, .unset, .unset] [(.int (3 : Int32)), (.long wd), (.long (((f2 wd (0 : Int32)) ||| (f2 wd (1 : Int32))) ||| (f2 wd (2 : Int32))))])) (fun t k => ?_) ?_
  · show Steps p.tables e below (T13.setTop (mkF m 68 #[.val (.long q0), .second, .val (.int p1), .val (.long ((((f1 p1 (0 : Int32)) ||| (f1 p1 (1 : Int32))) ||| (f1 p1 (2 : Int32))) ||| (f1 p1 (3 : Int32)))), .second, .val (.long ((q0 ||| (-9169187277044154176 : Int64)) &&& (-4611756388245323777 : Int64))), .second, .val (.long wd), .second, .unset, .unset] [(.long (f2 wd (2 : Int32))), (.long ((f2 wd (0 : Int32)) ||| (f2 wd (1 : Int32))))])) t
    refine XS.lor X13.here hx rfl (hb hby at_68) rfl ?_
    show Steps p.tables e below (T13.setTop (mkF m 69 #[.val (.long q0), .second, .val (.int p1), .val (.long ((((f1 p1 (0 : Int32)) ||| (f1 p1 (1 : Int32))) ||| (f1 p1 (2 : Int32))) ||| (f1 p1 (3 : Int32)))), .second, .val (.long ((q0 ||| (-9169187277044154176 : Int64)) &&& (-4611756388245323777 : Int64))), .second, .val (.long wd), .second, .unset, .unset] [(.long (((f2 wd (0 : Int32)) ||| (f2 wd (1 : Int32))) ||| (f2 wd (2 : Int32))))])) t
    refine XS.lload X13.here hx rfl (hb hby at_69) rfl ?_
    show Steps p.tables e below (T13.setTop (mkF m 71 #[.val (.long q0), .second, .val (.int p1), .val (.long ((((f1 p1 (0 : Int32)) ||| (f1 p1 (1 : Int32))) ||| (f1 p1 (2 : Int32))) ||| (f1 p1 (3 : Int32)))), .second, .val (.long ((q0 ||| (-9169187277044154176 : Int64)) &&& (-4611756388245323777 : Int64))), .second, .val (.long wd), .second, .unset, .unset] [(.long wd), (.long (((f2 wd (0 : Int32)) ||| (f2 wd (1 : Int32))) ||| (f2 wd (2 : Int32))))])) t
    refine XS.iconst X13.here hx rfl (hb hby at_71) ?_
    exact k
  obtain ⟨_, _, ⟨T15, L15, k15, n15⟩, -, X15, ⟨Lc15, hQ15, l15, y15, z15⟩, st15⟩ := Jvm.LawKit.callS X13 hx (y := (⟨"com/example/bare_octets/bareoctets/codec/WellFormedSequencesTwoByteFormLaneStopsPinLaw", "expectedStop", "(JI)J"⟩ : MethodName)) hown (mvT hZ (hw _ (List.mem_of_getElem? (i := 8) rfl))) (mvT hZ (hw _ (List.mem_of_getElem? (i := 9) rfl))) (mvT hZ (hw _ (List.mem_of_getElem? (i := 2) rfl))) (mvT hZ (hw _ (List.mem_of_getElem? (i := 10) rfl))) (by decide) (backOf (W := 2) (rm2 l Z az hw [] wd (3 : Int32) h0 n0 Z0 ) hZ (hw _ (List.mem_of_getElem? (i := 10) rfl)) (hw _ (List.mem_of_getElem? (i := 2) rfl)) (by decide) (by decide)) (g := (mkF m 72 #[.val (.long q0), .second, .val (.int p1), .val (.long ((((f1 p1 (0 : Int32)) ||| (f1 p1 (1 : Int32))) ||| (f1 p1 (2 : Int32))) ||| (f1 p1 (3 : Int32)))), .second, .val (.long ((q0 ||| (-9169187277044154176 : Int64)) &&& (-4611756388245323777 : Int64))), .second, .val (.long wd), .second, .unset, .unset] [(.int (3 : Int32)), (.long wd), (.long (((f2 wd (0 : Int32)) ||| (f2 wd (1 : Int32))) ||| (f2 wd (2 : Int32))))])) rfl (by rw [hml]; rfl) (argsL := [(.long wd), (.int (3 : Int32))]) (rest := [(.long (((f2 wd (0 : Int32)) ||| (f2 wd (1 : Int32))) ||| (f2 wd (2 : Int32))))]) (lenOf own_pd1 rfl) rfl (by show 2 * 0 + _ ≤ _; exact Nat.le_of_eq rfl) (hb hby at_72) (fun _ _ => ⟨rfl, e13, (by decide : 0 + 0 ≤ _), (by decide : 0 + 0 ≤ _)⟩)
  dsimp only [Pt.U, Pt.locs, Pt.cells, Pt.slots] at X15 l15 y15 z15 st15 hQ15
  subst l15 y15 z15
  obtain ⟨rfl, N15q, e15⟩ := hQ15
  have N16 := Fr.app N14 N15q
  refine Goes.by st15 ?_
  show Goes p.tables e below _ (T15.setTop (mkF m 75 #[.val (.long q0), .second, .val (.int p1), .val (.long ((((f1 p1 (0 : Int32)) ||| (f1 p1 (1 : Int32))) ||| (f1 p1 (2 : Int32))) ||| (f1 p1 (3 : Int32)))), .second, .val (.long ((q0 ||| (-9169187277044154176 : Int64)) &&& (-4611756388245323777 : Int64))), .second, .val (.long wd), .second, .unset, .unset] [(.long (f2 wd (3 : Int32))), (.long (((f2 wd (0 : Int32)) ||| (f2 wd (1 : Int32))) ||| (f2 wd (2 : Int32))))]))
  refine Goes.by (B := T15.setTop (mkF m 80 #[.val (.long q0), .second, .val (.int p1), .val (.long ((((f1 p1 (0 : Int32)) ||| (f1 p1 (1 : Int32))) ||| (f1 p1 (2 : Int32))) ||| (f1 p1 (3 : Int32)))), .second, .val (.long ((q0 ||| (-9169187277044154176 : Int64)) &&& (-4611756388245323777 : Int64))), .second, .val (.long wd), .second, .val (.long ((((f2 wd (0 : Int32)) ||| (f2 wd (1 : Int32))) ||| (f2 wd (2 : Int32))) ||| (f2 wd (3 : Int32)))), .second] [(.long wd)])) (fun t k => ?_) ?_
  · show Steps p.tables e below (T15.setTop (mkF m 75 #[.val (.long q0), .second, .val (.int p1), .val (.long ((((f1 p1 (0 : Int32)) ||| (f1 p1 (1 : Int32))) ||| (f1 p1 (2 : Int32))) ||| (f1 p1 (3 : Int32)))), .second, .val (.long ((q0 ||| (-9169187277044154176 : Int64)) &&& (-4611756388245323777 : Int64))), .second, .val (.long wd), .second, .unset, .unset] [(.long (f2 wd (3 : Int32))), (.long (((f2 wd (0 : Int32)) ||| (f2 wd (1 : Int32))) ||| (f2 wd (2 : Int32))))])) t
    refine XS.lor X15.here hx rfl (hb hby at_75) rfl ?_
    show Steps p.tables e below (T15.setTop (mkF m 76 #[.val (.long q0), .second, .val (.int p1), .val (.long ((((f1 p1 (0 : Int32)) ||| (f1 p1 (1 : Int32))) ||| (f1 p1 (2 : Int32))) ||| (f1 p1 (3 : Int32)))), .second, .val (.long ((q0 ||| (-9169187277044154176 : Int64)) &&& (-4611756388245323777 : Int64))), .second, .val (.long wd), .second, .unset, .unset] [(.long ((((f2 wd (0 : Int32)) ||| (f2 wd (1 : Int32))) ||| (f2 wd (2 : Int32))) ||| (f2 wd (3 : Int32))))])) t
    refine XS.lstore X15.here hx rfl (hb hby at_76) rfl (l' := #[.val (.long q0), .second, .val (.int p1), .val (.long ((((f1 p1 (0 : Int32)) ||| (f1 p1 (1 : Int32))) ||| (f1 p1 (2 : Int32))) ||| (f1 p1 (3 : Int32)))), .second, .val (.long ((q0 ||| (-9169187277044154176 : Int64)) &&& (-4611756388245323777 : Int64))), .second, .val (.long wd), .second, .val (.long ((((f2 wd (0 : Int32)) ||| (f2 wd (1 : Int32))) ||| (f2 wd (2 : Int32))) ||| (f2 wd (3 : Int32)))), .second]) rfl ?_
    show Steps p.tables e below (T15.setTop (mkF m 78 #[.val (.long q0), .second, .val (.int p1), .val (.long ((((f1 p1 (0 : Int32)) ||| (f1 p1 (1 : Int32))) ||| (f1 p1 (2 : Int32))) ||| (f1 p1 (3 : Int32)))), .second, .val (.long ((q0 ||| (-9169187277044154176 : Int64)) &&& (-4611756388245323777 : Int64))), .second, .val (.long wd), .second, .val (.long ((((f2 wd (0 : Int32)) ||| (f2 wd (1 : Int32))) ||| (f2 wd (2 : Int32))) ||| (f2 wd (3 : Int32)))), .second] [])) t
    refine XS.lload X15.here hx rfl (hb hby at_78) rfl ?_
    exact k
  obtain ⟨_, _, ⟨T17, L17, k17, n17⟩, -, X17, ⟨Lc17, hQ17, l17, y17, z17⟩, st17⟩ := Jvm.LawKit.callS X15 hx (y := (⟨"com/example/bare_octets/bareoctets/codec/WellFormedSequences", "twoByteFormLaneStops", "(J)J"⟩ : MethodName)) hown (mvT hZ (hw _ (List.mem_of_getElem? (i := 12) rfl))) (mvT hZ (hw _ (List.mem_of_getElem? (i := 13) rfl))) (mvT hZ (hw _ (List.mem_of_getElem? (i := 14) rfl))) (mvT hZ (hw _ (List.mem_of_getElem? (i := 15) rfl))) (by decide) (backOf (W := 0) (rm3 l Z az hw [] wd h0 n0 Z0 ) hZ (hw _ (List.mem_of_getElem? (i := 15) rfl)) (hw _ (List.mem_of_getElem? (i := 14) rfl)) (by decide) (by decide)) (g := (mkF m 80 #[.val (.long q0), .second, .val (.int p1), .val (.long ((((f1 p1 (0 : Int32)) ||| (f1 p1 (1 : Int32))) ||| (f1 p1 (2 : Int32))) ||| (f1 p1 (3 : Int32)))), .second, .val (.long ((q0 ||| (-9169187277044154176 : Int64)) &&& (-4611756388245323777 : Int64))), .second, .val (.long wd), .second, .val (.long ((((f2 wd (0 : Int32)) ||| (f2 wd (1 : Int32))) ||| (f2 wd (2 : Int32))) ||| (f2 wd (3 : Int32)))), .second] [(.long wd)])) rfl (by rw [hml]; rfl) (argsL := [(.long wd)]) (rest := []) (lenOf own_pd2 rfl) rfl (by show 2 * 0 + _ ≤ _; exact Nat.le_of_eq rfl) (hb hby at_80) (fun _ _ => ⟨rfl, e15, (by decide : 0 + 0 ≤ _), (by decide : 0 + 0 ≤ _)⟩)
  dsimp only [Pt.U, Pt.locs, Pt.cells, Pt.slots] at X17 l17 y17 z17 st17 hQ17
  subst l17 y17 z17
  obtain ⟨rfl, N17q, e17⟩ := hQ17
  have N18 := Fr.app N16 N17q
  refine Goes.by st17 ?_
  show Goes p.tables e below _ (T17.setTop (mkF m 83 #[.val (.long q0), .second, .val (.int p1), .val (.long ((((f1 p1 (0 : Int32)) ||| (f1 p1 (1 : Int32))) ||| (f1 p1 (2 : Int32))) ||| (f1 p1 (3 : Int32)))), .second, .val (.long ((q0 ||| (-9169187277044154176 : Int64)) &&& (-4611756388245323777 : Int64))), .second, .val (.long wd), .second, .val (.long ((((f2 wd (0 : Int32)) ||| (f2 wd (1 : Int32))) ||| (f2 wd (2 : Int32))) ||| (f2 wd (3 : Int32)))), .second] [(.long (f3 wd))]))
  refine Goes.by (B := T17.setTop (mkF m 94 #[.val (.long q0), .second, .val (.int p1), .val (.long ((((f1 p1 (0 : Int32)) ||| (f1 p1 (1 : Int32))) ||| (f1 p1 (2 : Int32))) ||| (f1 p1 (3 : Int32)))), .second, .val (.long ((q0 ||| (-9169187277044154176 : Int64)) &&& (-4611756388245323777 : Int64))), .second, .val (.long wd), .second, .val (.long ((((f2 wd (0 : Int32)) ||| (f2 wd (1 : Int32))) ||| (f2 wd (2 : Int32))) ||| (f2 wd (3 : Int32)))), .second] [(.int (1 : Int32))])) (fun t k => ?_) ?_
  · show Steps p.tables e below (T17.setTop (mkF m 83 #[.val (.long q0), .second, .val (.int p1), .val (.long ((((f1 p1 (0 : Int32)) ||| (f1 p1 (1 : Int32))) ||| (f1 p1 (2 : Int32))) ||| (f1 p1 (3 : Int32)))), .second, .val (.long ((q0 ||| (-9169187277044154176 : Int64)) &&& (-4611756388245323777 : Int64))), .second, .val (.long wd), .second, .val (.long ((((f2 wd (0 : Int32)) ||| (f2 wd (1 : Int32))) ||| (f2 wd (2 : Int32))) ||| (f2 wd (3 : Int32)))), .second] [(.long (f3 wd))])) t
    refine XS.lload X17.here hx rfl (hb hby at_83) rfl ?_
    show Steps p.tables e below (T17.setTop (mkF m 85 #[.val (.long q0), .second, .val (.int p1), .val (.long ((((f1 p1 (0 : Int32)) ||| (f1 p1 (1 : Int32))) ||| (f1 p1 (2 : Int32))) ||| (f1 p1 (3 : Int32)))), .second, .val (.long ((q0 ||| (-9169187277044154176 : Int64)) &&& (-4611756388245323777 : Int64))), .second, .val (.long wd), .second, .val (.long ((((f2 wd (0 : Int32)) ||| (f2 wd (1 : Int32))) ||| (f2 wd (2 : Int32))) ||| (f2 wd (3 : Int32)))), .second] [(.long ((((f2 wd (0 : Int32)) ||| (f2 wd (1 : Int32))) ||| (f2 wd (2 : Int32))) ||| (f2 wd (3 : Int32)))), (.long (f3 wd))])) t
    refine XS.lcmp X17.here hx rfl (hb hby at_85) rfl ?_
    show Steps p.tables e below (T17.setTop (mkF m 86 #[.val (.long q0), .second, .val (.int p1), .val (.long ((((f1 p1 (0 : Int32)) ||| (f1 p1 (1 : Int32))) ||| (f1 p1 (2 : Int32))) ||| (f1 p1 (3 : Int32)))), .second, .val (.long ((q0 ||| (-9169187277044154176 : Int64)) &&& (-4611756388245323777 : Int64))), .second, .val (.long wd), .second, .val (.long ((((f2 wd (0 : Int32)) ||| (f2 wd (1 : Int32))) ||| (f2 wd (2 : Int32))) ||| (f2 wd (3 : Int32)))), .second] [(.int (lcmpW (f3 wd) ((((f2 wd (0 : Int32)) ||| (f2 wd (1 : Int32))) ||| (f2 wd (2 : Int32))) ||| (f2 wd (3 : Int32)))))])) t
    refine XS.ifNo X17.here hx rfl (hb hby at_86) rfl ((if0 _ _).trans (teq ((lw_eq (f3 wd) ((((f2 wd (0 : Int32)) ||| (f2 wd (1 : Int32))) ||| (f2 wd (2 : Int32))) ||| (f2 wd (3 : Int32)))).mpr (own_law wd))).2) ?_
    show Steps p.tables e below (T17.setTop (mkF m 89 #[.val (.long q0), .second, .val (.int p1), .val (.long ((((f1 p1 (0 : Int32)) ||| (f1 p1 (1 : Int32))) ||| (f1 p1 (2 : Int32))) ||| (f1 p1 (3 : Int32)))), .second, .val (.long ((q0 ||| (-9169187277044154176 : Int64)) &&& (-4611756388245323777 : Int64))), .second, .val (.long wd), .second, .val (.long ((((f2 wd (0 : Int32)) ||| (f2 wd (1 : Int32))) ||| (f2 wd (2 : Int32))) ||| (f2 wd (3 : Int32)))), .second] [])) t
    refine XS.iconst X17.here hx rfl (hb hby at_89) ?_
    show Steps p.tables e below (T17.setTop (mkF m 90 #[.val (.long q0), .second, .val (.int p1), .val (.long ((((f1 p1 (0 : Int32)) ||| (f1 p1 (1 : Int32))) ||| (f1 p1 (2 : Int32))) ||| (f1 p1 (3 : Int32)))), .second, .val (.long ((q0 ||| (-9169187277044154176 : Int64)) &&& (-4611756388245323777 : Int64))), .second, .val (.long wd), .second, .val (.long ((((f2 wd (0 : Int32)) ||| (f2 wd (1 : Int32))) ||| (f2 wd (2 : Int32))) ||| (f2 wd (3 : Int32)))), .second] [(.int (1 : Int32))])) t
    refine XS.goto X17.here hx rfl (pc0 := 90) (pc' := 94) rfl (hb hby at_90) (by decide) (by decide) ?_
    exact k
  obtain ⟨fs, hr, hrun, hended, hW, hsame⟩ := X17.leave (v := some (.int (1 : Int32))) (fun h => by rw [Bd.returns] at h; cases h)
  refine Goes.mk _ _ ?_ ⟨hrun, hended, _, _, rfl, ?_, ⟨_, rfl⟩, hW, hsame.mono (by decide) (by decide)⟩
  · exact retN X17 hx (t := .boolean) Bd.returns (by simp) (hb hby at_94) hr
  · show Q0 Z q0 p1 h0 n0 _ T17.heap _
    rw [e17]
    exact ⟨rfl, N18, rfl⟩
set_option maxRecDepth 65536 in
set_option maxHeartbeats 40000000 in
theorem comes_1 {Post : Tables → Env → Array Value → State → Outcome → State → Prop} (hpost : ∀ tb e args s v u, (limb_1_1.after args s (.returned v) u = true ∧ limb_1_2.after args s (.returned v) u = true ∧ True) → FrameEnd s (.returned v) u (Jvm.fieldLocs frame_1_writes args s ++ Jvm.arrayLocs frame_1_arrays args s ++ Jvm.staticLocs frame_1_statics s) 0 0 → Post tb e args s (.returned v) u) :
    ArmFor flags0 classFile x code maxLocals ret World_1 tables_1 room_1 Calls_1 rest_1 Pre_1 Post := by
  intro l hfl _ _ p e ha hc hk s m args below hf hA hF happ hP
  obtain ⟨hcalls, hrest, hpre⟩ := hP
  obtain ⟨-, -, -, hnamed, -, -, -, hat⟩ := (Spec.applies_iff hf).mp happ
  obtain ⟨hg, hn⟩ := and_e (Cond.before_iff.mp (show (Jvm.Cond.and given_1 narrow_1).before args s = true from hpre))
  obtain ⟨gg1, gg2⟩ := and_e hg
  obtain ⟨gg3, gg4⟩ := and_e gg2
  obtain ⟨w0, w1, rfl⟩ : ∃ w0 w1 : Value, args = #[w0, w1] := by
    have hs : args.size = 2 := by simpa [Cond.value, given_1] using gg1
    obtain ⟨L⟩ := args
    match L, hs with
    | [w0, w1], _ => exact ⟨w0, w1, rfl⟩
  have hw := fun d (hd : d ∈ tables_1) => atoms_spec (ws := Jvm.Cond.code x code maxLocals ret :: tables_1) hat d (List.mem_cons_of_mem _ hd)
  have hfit : Fit s := fun {y c} hc i hi => by
    obtain ⟨ha, rfl⟩ := Array.getElem?_eq_some_iff.mp hc
    have q := List.all_eq_true.mp ((Array.all_eq_true_iff_forall_mem.mp hF) _ (Array.getElem_mem ha)) i (List.mem_range.mpr hi)
    simpa [Array.getElem?_eq_getElem hi] using q
  obtain ⟨i0, ei0⟩ := isL_v gg3
  obtain rfl : w0 = (.long i0) := Option.some.inj ei0
  obtain ⟨i1, ei1⟩ := is_v gg4
  obtain rfl : w1 = (.int i1) := Option.some.inj ei1
  obtain ⟨n, o, h1, h2, h3, _, L, rfl, ⟨rfl, N, -⟩, hq⟩ := rm0 l s _ hw tables_1 i0 i1 s.heap s.heap.size (Nat.le_refl _)  p e ha hc hk s m _ below hf ((Spec.applies_iff_loose hf).mp happ).1 ⟨rfl, State.Warmed39.refl s, rfl⟩ trivial
  refine ⟨n, _, h1, h2, h3, hpost _ _ _ _ _ _ ⟨Cond.after_iff.mpr rfl, Cond.after_iff.mpr (eq_i res_at (Term.int_eval (1)) rfl), trivial⟩ ⟨hq.1, hq.2.1, (hq.2.2.sift fun y hy => Or.inr (N y hy)).mono (by decide) (by decide)⟩⟩
theorem main_1_1 : Claimed_1_1 := comes_1 fun _ _ _ _ _ _ h hF => ⟨h.1, hF⟩
theorem main_1_2 : Claimed_1_2 := comes_1 fun _ _ _ _ _ _ h hF => ⟨h.2.1, hF⟩
end Jvm.Pilot.@@N@@
namespace Jvm.Pilot.@@N@@
open Jvm Jvm.ClassFile Sem Op Lib Jvm.Free Jvm.Stand Jvm.Pilot.@@N@@.Jvm.D
/-! MADE BY PROGRAM (witnessworld.py) out of the Statement's table words and the real class files: 9 classes; the members and pool entries that the words name. The judged class is class 1, her method 1. -/
namespace start1
open Jvm.ClassFile
def u (s : String) : CpInfo := .utf8 (stringToUtf16 s)
/-- a pool by its gaps: so many unusable entries, then the entry; so many at the end -/
def gap : Nat → List CpInfo → List CpInfo
  | 0, r => r
  | n + 1, r => .unusable :: gap n r
def poolList (es : List (Nat × CpInfo)) (last : Nat) : List CpInfo := es.foldr (fun e r => gap e.1 (e.2 :: r)) (gap last [])
def pool (es : List (Nat × CpInfo)) (last : Nat) : Array CpInfo := ⟨poolList es last⟩
def fileOf (pool : Array CpInfo) (this : Nat) (attrs : Array Attribute := #[]) (ms : Array MethodInfo := #[]) (fl : Nat := 33) (sup : Nat := 0) (ifs : Array Nat := #[]) (fds : Array FieldInfo := #[]) : ClassFile where
  minorVersion := 0
  majorVersion := 65
  constantPool := pool
  accessFlags := fl
  thisClass := this
  superClass := sup
  interfaces := ifs
  fields := fds
  methods := ms
  attributes := attrs
def plain (name : String) (sup : Option ClassId) : Class where
  name := name
  kind := .ordinary
  loader := none
  accessFlags := 33
  super := sup
  interfaces := #[]
  cf := none
  fields := #[]
  methods := #[]
  instanceTypes := #[]
  staticTypes := #[]
  resolved := #[]
  callSites := []
  init := .initialized
  statics := none
  mirror := none

def pool0 : Array CpInfo := pool [(5, u "<init>"), (0, u "()V"), (1, .class_ 10), (1, u "java/lang/Object")] 113

def k0m0 : Method := { name := "<init>", desc := "()V", sig := { parameters := [], returnType := none }, accessFlags := 1, code := none }
/-- java/lang/Object -/
def k0 : Class := { plain "java/lang/Object" none with
  accessFlags := 33
  interfaces := #[]
  cf := some (fileOf pool0 8 #[] #[{ accessFlags := 1, nameIndex := 5, descriptorIndex := 6, attributes := #[] }] 33 0 #[] #[])
  fields := #[]
  methods := #[k0m0]
  instanceTypes := #[]
  staticTypes := #[]
  resolved := Array.replicate 124 none
  statics := none }

def pool1 : Array CpInfo := pool [(2, .class_ 4), (1, u "java/lang/Object"), (0, u "<init>"), (0, u "()V"), (0, .methodref 8 9), (0, .class_ 10), (0, .nameAndType 11 12), (0, u "com/example/bare_octets/bareoctets/codec/WellFormedSequencesTwoByteFormLaneStopsPinLaw"), (0, u "laneMask"), (0, u "(II)J"), (0, .long 9277556796665397440), (1, .long 13834987685464227839), (1, .long 18446744073709551615), (1, .methodref 8 20), (0, .nameAndType 21 22), (0, u "expectedStop"), (0, u "(JI)J"), (0, .methodref 24 25), (0, .class_ 26), (0, .nameAndType 27 28), (0, u "com/example/bare_octets/bareoctets/codec/WellFormedSequences"), (0, u "twoByteFormLaneStops"), (0, u "(J)J"), (0, .long 65535), (1, .long 255), (3, u "law"), (0, u "(JI)Z")] 3

def k1m0 : Method := { name := "<init>", desc := "()V", sig := { parameters := [], returnType := none }, accessFlags := 1, code := none }
def k1c1 : Code := { maxStack := 6, maxLocals := 11, code := code, exceptionTable := #[], attributes := #[] }
def k1m1 : Method := { name := "law", desc := "(JI)Z", sig := { parameters := [.long, .int], returnType := some .boolean }, accessFlags := 9, code := some k1c1 }
def k1c2 : Code := { maxStack := 4, maxLocals := 2, code := method_3_code, exceptionTable := #[], attributes := #[] }
def k1m2 : Method := { name := "laneMask", desc := "(II)J", sig := { parameters := [.int, .int], returnType := some .long }, accessFlags := 10, code := some k1c2 }
def k1c3 : Code := { maxStack := 4, maxLocals := 6, code := method_4_code, exceptionTable := #[], attributes := #[] }
def k1m3 : Method := { name := "expectedStop", desc := "(JI)J", sig := { parameters := [.long, .int], returnType := some .long }, accessFlags := 10, code := some k1c3 }
/-- com/example/bare_octets/bareoctets/codec/WellFormedSequencesTwoByteFormLaneStopsPinLaw -/
def k1 : Class := { plain "com/example/bare_octets/bareoctets/codec/WellFormedSequencesTwoByteFormLaneStopsPinLaw" (some 0) with
  accessFlags := 49
  interfaces := #[]
  cf := some (fileOf pool1 8 #[] #[{ accessFlags := 1, nameIndex := 5, descriptorIndex := 6, attributes := #[] }, { accessFlags := 9, nameIndex := 35, descriptorIndex := 36, attributes := #[] }, { accessFlags := 10, nameIndex := 11, descriptorIndex := 12, attributes := #[] }, { accessFlags := 10, nameIndex := 21, descriptorIndex := 22, attributes := #[] }] 49 2 #[] #[])
  fields := #[]
  methods := #[k1m0, k1m1, k1m2, k1m3]
  instanceTypes := #[]
  staticTypes := #[]
  resolved := Array.replicate 40 none
  statics := none }

def pool2 : Array CpInfo := pool [(2, .class_ 4), (1, u "java/lang/Object"), (3, .class_ 10), (1, u "com/example/bare_octets/bareoctets/codec/WellFormedSequences"), (0, u "surrogateForms"), (0, u "Z"), (2, u "nulInTwoBytes"), (2, u "surrogatesPair"), (66, u "(J)J"), (47, .long 18446744073709551615), (9, .long 13898320521606512864), (1, .long 9277556796665397440), (1, .long 9223231297218904063), (1, .long 8444378152304670), (1, .long 9223512776490647552), (12, u "LITTLE_ENDIAN_LONGS"), (0, u "Ljava/lang/invoke/VarHandle;"), (7, u "BIG_ENDIAN_INTS"), (4, u "BIG_ENDIAN_CHARS"), (42, u "LONGEST"), (0, u "I"), (2, u "SURROGATE_LEAD"), (0, u "B"), (1, u "FIRST_SURROGATE_SECOND"), (1, u "FIRST_LOW_SURROGATE_SECOND"), (1, u "HIGH_BITS"), (0, u "J"), (0, u "LANE_HIGH_BITS"), (5, u "twoByteFormLaneStops")] 6

def k2c0 : Code := { maxStack := 4, maxLocals := 8, code := prog_20_method_27_code, exceptionTable := #[], attributes := #[] }
def k2m0 : Method := { name := "twoByteFormLaneStops", desc := "(J)J", sig := { parameters := [.long], returnType := some .long }, accessFlags := 8, code := some k2c0 }
/-- com/example/bare_octets/bareoctets/codec/WellFormedSequences -/
def k2 : Class := { plain "com/example/bare_octets/bareoctets/codec/WellFormedSequences" (some 0) with
  accessFlags := 49
  interfaces := #[]
  cf := some (fileOf pool2 8 #[] #[{ accessFlags := 8, nameIndex := 240, descriptorIndex := 85, attributes := #[] }] 49 2 #[] #[{ accessFlags := 25, nameIndex := 221, descriptorIndex := 222, attributes := #[] }, { accessFlags := 26, nameIndex := 225, descriptorIndex := 226, attributes := #[] }, { accessFlags := 26, nameIndex := 228, descriptorIndex := 222, attributes := #[] }, { accessFlags := 26, nameIndex := 230, descriptorIndex := 222, attributes := #[] }, { accessFlags := 26, nameIndex := 164, descriptorIndex := 165, attributes := #[] }, { accessFlags := 26, nameIndex := 173, descriptorIndex := 165, attributes := #[] }, { accessFlags := 26, nameIndex := 178, descriptorIndex := 165, attributes := #[] }, { accessFlags := 26, nameIndex := 232, descriptorIndex := 233, attributes := #[] }, { accessFlags := 26, nameIndex := 234, descriptorIndex := 233, attributes := #[] }, { accessFlags := 18, nameIndex := 11, descriptorIndex := 12, attributes := #[] }, { accessFlags := 18, nameIndex := 15, descriptorIndex := 12, attributes := #[] }, { accessFlags := 18, nameIndex := 18, descriptorIndex := 12, attributes := #[] }])
  fields := #[{ name := "LONGEST", type := .int, accessFlags := 25, slot := 0, constantValue := 0 }, { name := "SURROGATE_LEAD", type := .byte, accessFlags := 26, slot := 1, constantValue := 0 }, { name := "FIRST_SURROGATE_SECOND", type := .int, accessFlags := 26, slot := 2, constantValue := 0 }, { name := "FIRST_LOW_SURROGATE_SECOND", type := .int, accessFlags := 26, slot := 3, constantValue := 0 }, { name := "LITTLE_ENDIAN_LONGS", type := (.object "java/lang/invoke/VarHandle"), accessFlags := 26, slot := 4, constantValue := 0 }, { name := "BIG_ENDIAN_INTS", type := (.object "java/lang/invoke/VarHandle"), accessFlags := 26, slot := 5, constantValue := 0 }, { name := "BIG_ENDIAN_CHARS", type := (.object "java/lang/invoke/VarHandle"), accessFlags := 26, slot := 6, constantValue := 0 }, { name := "HIGH_BITS", type := .long, accessFlags := 26, slot := 7, constantValue := 0 }, { name := "LANE_HIGH_BITS", type := .long, accessFlags := 26, slot := 8, constantValue := 0 }, { name := "surrogateForms", type := .boolean, accessFlags := 18, slot := 0, constantValue := 0 }, { name := "nulInTwoBytes", type := .boolean, accessFlags := 18, slot := 1, constantValue := 0 }, { name := "surrogatesPair", type := .boolean, accessFlags := 18, slot := 2, constantValue := 0 }]
  methods := #[k2m0]
  instanceTypes := #[.boolean, .boolean, .boolean]
  staticTypes := #[.int, .byte, .int, .int, (.object "java/lang/invoke/VarHandle"), (.object "java/lang/invoke/VarHandle"), (.object "java/lang/invoke/VarHandle"), .long, .long]
  resolved := Array.replicate 247 none
  statics := none }

def pool3 : Array CpInfo := pool [(1, u "java/lang/Cloneable"), (0, .class_ 1), (0, u "java/lang/Object"), (0, .class_ 3)] 3

/-- java/lang/Cloneable -/
def k3 : Class := { plain "java/lang/Cloneable" (some 0) with
  accessFlags := 1537
  interfaces := #[]
  cf := some (fileOf pool3 2 #[] #[] 1537 4 #[] #[])
  fields := #[]
  methods := #[]
  instanceTypes := #[]
  staticTypes := #[]
  resolved := Array.replicate 8 none
  statics := none }

def pool4 : Array CpInfo := pool [(1, u "java/io/Serializable"), (0, .class_ 1), (0, u "java/lang/Object"), (0, .class_ 3)] 3

/-- java/io/Serializable -/
def k4 : Class := { plain "java/io/Serializable" (some 0) with
  accessFlags := 1537
  interfaces := #[]
  cf := some (fileOf pool4 2 #[] #[] 1537 4 #[] #[])
  fields := #[]
  methods := #[]
  instanceTypes := #[]
  staticTypes := #[]
  resolved := Array.replicate 8 none
  statics := none }

/-- the primitive byte -/
def k5 : Class := { plain "byte" none with kind := .primitive 'B', accessFlags := 0x411 }
/-- [B -/
def k6 : Class := { plain "[B" (some 0) with kind := .array 5 .byte, interfaces := #[3, 4], accessFlags := 1041 }

/-- the primitive int -/
def k7 : Class := { plain "int" none with kind := .primitive 'I', accessFlags := 0x411 }
/-- [I -/
def k8 : Class := { plain "[I" (some 0) with kind := .array 7 .int, interfaces := #[3, 4], accessFlags := 1041 }

def heap : Heap := #[]
def classes : Array Class := #[k0, k1, k2, k3, k4, k5, k6, k7, k8]
def interned : List (Array UInt16 × Addr) := []
def slotsUsed : Nat := 0
def theMethod : MethodId := ⟨1, 1⟩
def args0 : Array Value := #[.long 5, .int 7]
def aboutOver (below : List Frame) : State where
  vm := { classes := classes, interned := interned.toArray }
  heap := heap
  slotsUsed := slotsUsed
  threads := #[{ frames := .invoking theMethod args0 :: below }]
def below0 : List Frame := [.native { method := ⟨0, 0⟩, args := #[] }]
def about1 : State := aboutOver below0
def p0 : Program := .bare "" "" ""
def e0 : Env := launch0.env 0 0 0
theorem w_frames : about1.frames = Frame.invoking theMethod args0 :: below0 := rfl
set_option maxRecDepth 65536 in
theorem w_args : argsFit about1.vm theMethod args0 = true := by decide +kernel
set_option maxRecDepth 65536 in
theorem w_heap : heapFits about1 = true := by decide +kernel
set_option maxRecDepth 65536 in
theorem w_runnable : about1.curStatus? = some .runnable := by decide +kernel
set_option maxRecDepth 65536 in
theorem w_alone : about1.alone = true := by decide +kernel
set_option maxRecDepth 65536 in
theorem w_named : about1.methodNamed? x = some theMethod := by decide +kernel
set_option maxRecDepth 65536 in
theorem w_hears : about1.hears theMethod below0 = true := by decide +kernel
set_option maxRecDepth 65536 in
theorem w_ripe : about1.ripe theMethod args0 below0 = true := by decide +kernel
theorem w_running : about1.status = .running := rfl
set_option maxRecDepth 65536 in
theorem w_room : about1.hasRoom e0.platform room_1 = true :=
  launch0.hasRoom_least _ room_1 (by decide +kernel) (by decide +kernel) (by decide +kernel) (by decide +kernel) (by decide +kernel) (by decide +kernel)
theorem allAtoms_all (ts : List Jvm.Cond) (a : Array Jvm.Value) (st : Jvm.State) : (allAtoms ts).before a st = ts.all (fun c => c.before a st) := by
  induction ts with
  | nil => rfl
  | cons c t ih =>
    show (Jvm.Cond.and c (allAtoms t)).before a st = _
    rw [Jvm.Cond.before_and, ih, List.all_cons]
def words1 : List Jvm.Cond := Jvm.Cond.code x code maxLocals ret :: tables_1
/-- a 'code' word, met by the world's own term for the bytes: nothing is compared byte by byte -/
theorem code_word {y : MethodName} {bytes : ByteArray} {mx : Nat} {rt : Option FieldType} {a : Array Value} {s : State} {m : MethodId} {meth : Method} {c : Code} (h1 : s.methodNamed? y = some m) (h2 : s.vm.method? m = some meth) (h3 : meth.code = some c) (h4 : c.code = bytes)
    (h5 : (c.maxLocals == mx && c.exceptionTable.isEmpty && decide (c.maxStack ≤ mostOperands) && decide (meth.sig.returnType = rt) && !meth.locks && decide (parseMethodDescriptor y.desc = some meth.sig)) = true) : (Jvm.Cond.code y bytes mx rt).before a s = true := by
  simp only [Bool.and_eq_true, beq_iff_eq, Bool.not_eq_true', decide_eq_true_eq] at h5
  obtain ⟨⟨⟨⟨⟨g1, g2⟩, g3⟩, g4⟩, g5⟩, g6⟩ := h5
  simp [Cond.before, Cond.holds, Cond.value, h1, h2, h3, h4, g1, g2, g3, g4, g5, g6]
def isCode : Jvm.Cond → Bool
  | .code _ _ _ _ => true
  | _ => false
theorem all_split {L : List Jvm.Cond} {P : Jvm.Cond → Bool} (h1 : L.all (fun c => isCode c || P c) = true) (h2 : ∀ c ∈ L.filter isCode, P c = true) : L.all P = true := by
  refine List.all_eq_true.mpr fun c hc => ?_
  have h := List.all_eq_true.mp h1 c hc
  rcases Bool.eq_false_or_eq_true (isCode c) with hi | hi
  · exact h2 c (List.mem_filter.mpr ⟨hc, hi⟩)
  · simpa [hi] using h
set_option maxRecDepth 65536 in
theorem w_c0 : (Jvm.Cond.code x code maxLocals ret).before args0 about1 = true := code_word (m := ⟨1, 1⟩) (meth := k1m1) (c := k1c1) (by decide +kernel) rfl rfl rfl (by decide +kernel)
set_option maxRecDepth 65536 in
theorem w_c1 : (Jvm.Cond.code ({ cls := "com/example/bare_octets/bareoctets/codec/WellFormedSequencesTwoByteFormLaneStopsPinLaw", name := "laneMask", desc := "(II)J" } : Jvm.MethodName) method_3_code (2 : Nat) (Option.some Jvm.ClassFile.FieldType.long)).before args0 about1 = true := code_word (m := ⟨1, 2⟩) (meth := k1m2) (c := k1c2) (by decide +kernel) rfl rfl rfl (by decide +kernel)
set_option maxRecDepth 65536 in
theorem w_c2 : (Jvm.Cond.code ({ cls := "com/example/bare_octets/bareoctets/codec/WellFormedSequencesTwoByteFormLaneStopsPinLaw", name := "expectedStop", desc := "(JI)J" } : Jvm.MethodName) method_4_code (6 : Nat) (Option.some Jvm.ClassFile.FieldType.long)).before args0 about1 = true := code_word (m := ⟨1, 3⟩) (meth := k1m3) (c := k1c3) (by decide +kernel) rfl rfl rfl (by decide +kernel)
set_option maxRecDepth 65536 in
theorem w_c3 : (Jvm.Cond.code ({ cls := "com/example/bare_octets/bareoctets/codec/WellFormedSequences", name := "twoByteFormLaneStops", desc := "(J)J" } : Jvm.MethodName) prog_20_method_27_code (8 : Nat) (Option.some Jvm.ClassFile.FieldType.long)).before args0 about1 = true := code_word (m := ⟨2, 0⟩) (meth := k2m0) (c := k2c0) (by decide +kernel) rfl rfl rfl (by decide +kernel)
def codes1 : List Jvm.Cond := [Jvm.Cond.code x code maxLocals ret, Jvm.Cond.code ({ cls := "com/example/bare_octets/bareoctets/codec/WellFormedSequencesTwoByteFormLaneStopsPinLaw", name := "laneMask", desc := "(II)J" } : Jvm.MethodName) method_3_code (2 : Nat) (Option.some Jvm.ClassFile.FieldType.long), Jvm.Cond.code ({ cls := "com/example/bare_octets/bareoctets/codec/WellFormedSequencesTwoByteFormLaneStopsPinLaw", name := "expectedStop", desc := "(JI)J" } : Jvm.MethodName) method_4_code (6 : Nat) (Option.some Jvm.ClassFile.FieldType.long), Jvm.Cond.code ({ cls := "com/example/bare_octets/bareoctets/codec/WellFormedSequences", name := "twoByteFormLaneStops", desc := "(J)J" } : Jvm.MethodName) prog_20_method_27_code (8 : Nat) (Option.some Jvm.ClassFile.FieldType.long)]
set_option maxRecDepth 65536 in
theorem codes_eq : words1.filter isCode = codes1 := rfl
theorem w_codes : ∀ c ∈ words1.filter isCode, c.before args0 about1 = true := by
  rw [codes_eq]
  intro c hc
  simp only [codes1, List.mem_cons, List.not_mem_nil, or_false] at hc
  rcases hc with rfl | rfl | rfl | rfl
  · exact w_c0
  · exact w_c1
  · exact w_c2
  · exact w_c3
set_option maxRecDepth 65536 in
theorem w_t1 : words1.all (fun c => isCode c || c.before args0 about1) = true := by decide +kernel
theorem w_tables : (allAtoms (Jvm.Cond.code x code maxLocals ret :: tables_1)).before args0 about1 = true := by
  rw [allAtoms_all]
  show words1.all (fun c => c.before args0 about1) = true
  refine all_split ?_ w_codes
  rw [w_t1]
set_option maxRecDepth 65536 in
theorem w_case : (Jvm.Cond.and given_1 narrow_1).before args0 about1 = true := by decide +kernel
theorem w_applies : (headSpec (Jvm.Cond.code x code maxLocals ret :: tables_1) room_1).applies x e0.platform about1 = true :=
  (Spec.applies_iff w_frames).mpr ⟨w_running, w_runnable, w_alone, w_named, w_hears, w_ripe, w_room, w_tables⟩
theorem atStart : AtStart classFile x code maxLocals ret World_1 tables_1 room_1 Calls_1 rest_1 Pre_1 launch0 p0 e0 about1 theMethod args0 below0 :=
  ⟨lists_1, trivial, launch0.admits_env _ _ _, launch0.least_env, fairChoices_fair.cas, fairChoices_fair.clock, w_frames, w_args, w_heap, w_applies, trivial, trivial, w_case⟩
end start1
theorem witness_1 : WitnessClaimed_1 := ⟨start1.p0, start1.e0, start1.about1, start1.theMethod, start1.args0, start1.below0, start1.atStart⟩
end Jvm.Pilot.@@N@@
