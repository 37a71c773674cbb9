import JvmDerived
import JvmDerived.Pilot.@@N@@Statement
import JvmDerived.Pilot.@@N@@Code
set_option linter.unusedVariables false
set_option linter.unusedSimpArgs false
namespace Jvm.RoadKit
open Sem ClassFile Op Lib Jvm.Stand Jvm.Free Jvm.LawKit
section New
variable {p : Program} {l : Launch} {e : Env} {R : Room} {s : State} {m : MethodId} {args : Array Value} {below : List Frame} {meth : Method} {c : Code} {T : State} {locs : List Loc} {cells slots : Nat}
theorem retI (X : Stand p l e R s m args below meth c T locs cells slots) (hx : p.tables.exec = Jvm.exec) {pc : Nat} {Ls : Array Slot} {z : Int32} {rest : List Value} (hret : meth.sig.returnType = some .int) (hd : decode c.code pc = .ok (.ireturn, 1)) {fs : List Frame}
    (hl : ∀ (f : JFrame) (acts : List Action), f.method = m → f.locked = none → f.entered = [] → (doReturn e (T.setTop f) acts (some (.int z))).1 = T.setFrames fs) : Steps p.tables e below (T.setTop (mkF m pc Ls (.int z :: rest))) (T.setFrames fs) :=
  retOut X hx hret rfl (Or.inl ⟨rfl, Or.inl rfl, _, rfl⟩) hd hl
def Elt (Z : State) (h : Heap) (a : Addr) (ty : FieldType) (j : Int32) (v : Value) : Prop := ∃ cl : Cell, Arr Z h a cl ty ∧ ¬ (j < 0 ∨ cl.slots.size ≤ j.toNatClampNeg) ∧ cl.slots[j.toNatClampNeg]? = some v
theorem Elt.of {Z : State} {h : Heap} {a : Addr} {k : ClassId} {ty : FieldType} {n j : Int32} {vs : List Value} {d v : Value} (F : Arv Z h a k ty n vs d) (q : ¬ j < 0 ∧ j < n) (u : vs.getD j.toNatClampNeg d = v) : Elt Z h a ty j v := by
  obtain ⟨c, A, _, S, _, H, _⟩ := F
  exact ⟨c, A, inb_of S q, H.at (inb_of S q) u⟩
def Goes (tb : Tables) (e : Env) (below : List Frame) (P : State → Outcome → Prop) (A : State) : Prop := ∃ s₂ o, Steps tb e below A s₂ ∧ P s₂ o
theorem Goes.start {tb : Tables} {e : Env} {below : List Frame} {P : State → Outcome → Prop} {A : State} (h : Goes tb e below P A) : ∃ s₂ o, Steps tb e below A s₂ ∧ P s₂ o := h
theorem Goes.by {tb : Tables} {e : Env} {below : List Frame} {P : State → Outcome → Prop} {A B : State} (h : ∀ t, Steps tb e below B t → Steps tb e below A t) (g : Goes tb e below P B) : Goes tb e below P A := by
  obtain ⟨s₂, o, h1, h2⟩ := g
  exact ⟨s₂, o, h _ h1, h2⟩
theorem Goes.mk {tb : Tables} {e : Env} {below : List Frame} {P : State → Outcome → Prop} {A : State} (s₂ : State) (o : Outcome) (h : Steps tb e below A s₂) (hp : P s₂ o) : Goes tb e below P A := ⟨s₂, o, h, hp⟩
end New
end Jvm.RoadKit
namespace Jvm.Pilot.@@N@@
open Jvm Jvm.ClassFile Sem Op Lib Jvm.Free Jvm.Stand Jvm.LawKit Jvm.RoadKit Bundle Jvm.Pilot.@@N@@.Jvm.D
theorem d2_0 : decode jdk_30_method_1_code 0 = .ok (.aload_n 0, 1) := by decide +kernel
theorem d2_1 : decode jdk_30_method_1_code 1 = .ok (.invokespecial 1, 3) := by decide +kernel
theorem d2_4 : decode jdk_30_method_1_code 4 = .ok (.return_, 1) := by decide +kernel
def Q2 (Z : State) (a0 : Addr) (h0 : Heap) (n0 : Nat) (v : Option Value) (h : Heap) (L : List Loc) : Prop := v = none ∧ Fr n0 L ∧ h = h0
theorem own_pn_java_lang_Record : plainName "java/lang/Record" = true := by first | (simp [plainName, overriddenIn]; done) | decide +kernel
theorem ef2 (m : MethodId) (x0 : Addr) : entryFrame m #[(.ref x0)] 1 = mkF m 0 #[.val (.ref x0)] [] := by first | (simp [entryFrame, mkF, argsToLocals, Value.category]; done) | rfl
set_option maxRecDepth 65536 in
set_option maxHeartbeats 40000000 in
theorem rm2 (l : Launch) (Z : State) (az : Array Value) (hw : ∀ d ∈ tables_1, d.before az Z = true) (ws : List Jvm.Cond) (a0 : Addr) (h0 : Heap) (n0 : Nat) (Z0 : n0 ≤ h0.size) :
    MetFree l (⟨"java/lang/Record", "<init>", "()V"⟩ : MethodName) (head1 (Jvm.Cond.code (⟨"java/lang/Record", "<init>", "()V"⟩ : MethodName) jdk_30_method_1_code 1 none :: ws) ({ frames := 1, cells := 0, slots := 0, locals := 12 } : Room)) (fun a U => a = #[(.ref a0)] ∧ Z.Warmed39 U.vm ∧ U.heap = h0) (fun _ _ _ _ _ => True) (fun _ U o U' => ∃ v L, o = .returned v ∧ Q2 Z a0 h0 n0 v U'.heap L ∧ FrameEnd U o U' L ({ frames := 1, cells := 0, slots := 0, locals := 12 } : Room).cells ({ frames := 1, cells := 0, slots := 0, locals := 12 } : Room).slots) := by
  refine MetFree.of_bodySF (plainFor_of_name own_pn_java_lang_Record) hisR ?_
  intro p e s m args below meth c s₁ Bd hml0 hP hK
  obtain ⟨rfl, hZ, hh⟩ := hP
  have hx := Bd.exec
  have hby := Bd.bytes
  have hml : c.maxLocals = 1 := hml0
  have hown : s.vm.findClass "java/lang/Record" = some m.cls := findClass_of_methodNamed Bd.named
  have hnm := (name_of_methodNamed Bd.named Bd.method).1
  have X0 : Stand p l e ({ frames := 1, cells := 0, slots := 0, locals := 12 } : Room) s m #[(.ref a0)] below meth c s₁ [] 0 0 := Stand.of_body Bd
  have e0 : s₁.heap = h0 := by rw [← hh, Bd.state]; rfl
  have N0 := Fr.nil n0
  have Kp0 : Keep h0 h0 [] := Keep.refl _ _
  refine Goes.start ?_
  refine Goes.by (B := s₁.setTop (mkF m 0 #[.val (.ref a0)] [])) (fun t k => castTop (ef2 m a0) k) ?_
  refine Goes.by (B := s₁.setTop (mkF m 1 #[.val (.ref a0)] [(.ref a0)])) (fun t k => ?_) ?_
  · show Steps p.tables e below (s₁.setTop (mkF m 0 #[.val (.ref a0)] [])) t
    refine XS.aloadN X0.here hx rfl (hb hby d2_0) rfl rfl ?_
    exact k
  obtain ⟨T1, X1, e1, st1⟩ := initO X0 hx hZ hown (hw _ (List.mem_of_getElem? (i := 14) rfl)) (hw _ (List.mem_of_getElem? (i := 15) rfl)) (hw _ (List.mem_of_getElem? (i := 16) rfl)) e0 (g := (mkF m 1 #[.val (.ref a0)] [(.ref a0)])) rfl (by rw [hml]; rfl) rfl (hb hby d2_1) (by decide) (W := 0) (by show 2 * 0 + _ ≤ _; exact Nat.le_of_eq rfl) (by decide)
  refine Goes.by st1 ?_
  show Goes p.tables e below _ (T1.setTop (mkF m 4 #[.val (.ref a0)] []))
  obtain ⟨fs, hr, hrun, hended, hW, hsame⟩ := X1.leave (v := none) (fun _ => rfl)
  refine Goes.mk _ _ ?_ ⟨hrun, hended, _, _, rfl, ?_, ⟨_, rfl⟩, hW, hsame.mono (by decide) (by decide)⟩
  · exact X1.returnOut hx Bd.returns (hb hby d2_4) hr
  · show Q2 Z a0 h0 n0 _ T1.heap _
    rw [e1]
    exact ⟨rfl, N0, rfl⟩
theorem d4_0 : decode prog_11_method_9_code 0 = .ok (.lconst 1, 1) := by decide +kernel
theorem d4_1 : decode prog_11_method_9_code 1 = .ok (.bipush 32, 2) := by decide +kernel
theorem d4_3 : decode prog_11_method_9_code 3 = .ok (.iload_n 0, 1) := by decide +kernel
theorem d4_4 : decode prog_11_method_9_code 4 = .ok (.isub, 1) := by decide +kernel
theorem d4_5 : decode prog_11_method_9_code 5 = .ok (.lshl, 1) := by decide +kernel
theorem d4_6 : decode prog_11_method_9_code 6 = .ok (.lconst 1, 1) := by decide +kernel
theorem d4_7 : decode prog_11_method_9_code 7 = .ok (.lsub, 1) := by decide +kernel
theorem d4_8 : decode prog_11_method_9_code 8 = .ok (.lreturn, 1) := by decide +kernel
def fHm (p0 : Int32) : Int64 := (((1 : Int64) <<< (((32 : Int32) - p0) &&& 0x3f).toInt64) - (1 : Int64))
def QHm (Z : State) (p0 : Int32) (h0 : Heap) (n0 : Nat) (v : Option Value) (h : Heap) (L : List Loc) : Prop := v = some (.long (fHm p0)) ∧ Fr n0 L ∧ h = h0
theorem own_pn_com_example_allocat_allocat_core_Ipv4Subnet : plainName "com/example/allocat/allocat/core/Ipv4Subnet" = true := by first | (simp [plainName, overriddenIn]; done) | decide +kernel
theorem efHm (m : MethodId) (x0 : Int32) : entryFrame m #[(.int x0)] 1 = mkF m 0 #[.val (.int x0)] [] := by first | (simp [entryFrame, mkF, argsToLocals, Value.category]; done) | rfl
set_option maxRecDepth 65536 in
set_option maxHeartbeats 40000000 in
theorem rmHm (l : Launch) (Z : State) (az : Array Value) (hw : ∀ d ∈ tables_1, d.before az Z = true) (ws : List Jvm.Cond) (p0 : Int32) (h0 : Heap) (n0 : Nat) (Z0 : n0 ≤ h0.size) :
    MetFree l (⟨"com/example/allocat/allocat/core/Ipv4Subnet", "hostMask", "(I)J"⟩ : MethodName) (head1 (Jvm.Cond.code (⟨"com/example/allocat/allocat/core/Ipv4Subnet", "hostMask", "(I)J"⟩ : MethodName) prog_11_method_9_code 1 (some .long) :: ws) ({ frames := 0, cells := 0, slots := 0, locals := 0 } : Room)) (fun a U => a = #[(.int p0)] ∧ Z.Warmed39 U.vm ∧ U.heap = h0) (fun _ _ _ _ _ => True) (fun _ U o U' => ∃ v L, o = .returned v ∧ QHm Z p0 h0 n0 v U'.heap L ∧ FrameEnd U o U' L ({ frames := 0, cells := 0, slots := 0, locals := 0 } : Room).cells ({ frames := 0, cells := 0, slots := 0, locals := 0 } : Room).slots) := by
  refine MetFree.of_bodySF (plainFor_of_name own_pn_com_example_allocat_allocat_core_Ipv4Subnet) hisR ?_
  intro p e s m args below meth c s₁ Bd hml0 hP hK
  obtain ⟨rfl, hZ, hh⟩ := hP
  have hx := Bd.exec
  have hby := Bd.bytes
  have hml : c.maxLocals = 1 := hml0
  have hown : s.vm.findClass "com/example/allocat/allocat/core/Ipv4Subnet" = some m.cls := findClass_of_methodNamed Bd.named
  have hnm := (name_of_methodNamed Bd.named Bd.method).1
  have X0 : Stand p l e ({ frames := 0, cells := 0, slots := 0, locals := 0 } : Room) s m #[(.int p0)] below meth c s₁ [] 0 0 := Stand.of_body Bd
  have e0 : s₁.heap = h0 := by rw [← hh, Bd.state]; rfl
  have N0 := Fr.nil n0
  have Kp0 : Keep h0 h0 [] := Keep.refl _ _
  refine Goes.start ?_
  refine Goes.by (B := s₁.setTop (mkF m 0 #[.val (.int p0)] [])) (fun t k => castTop (efHm m p0) k) ?_
  refine Goes.by (B := s₁.setTop (mkF m 8 #[.val (.int p0)] [(.long (((1 : Int64) <<< (((32 : Int32) - p0) &&& 0x3f).toInt64) - (1 : Int64)))])) (fun t k => ?_) ?_
  · show Steps p.tables e below (s₁.setTop (mkF m 0 #[.val (.int p0)] [])) t
    refine XS.lconst X0.here hx rfl (hb hby d4_0) ?_
    show Steps p.tables e below (s₁.setTop (mkF m 1 #[.val (.int p0)] [(.long (1 : Int64))])) t
    refine XS.bipush X0.here hx rfl (hb hby d4_1) ?_
    show Steps p.tables e below (s₁.setTop (mkF m 3 #[.val (.int p0)] [(.int (32 : Int32)), (.long (1 : Int64))])) t
    refine XS.iloadN X0.here hx rfl (hb hby d4_3) rfl ?_
    show Steps p.tables e below (s₁.setTop (mkF m 4 #[.val (.int p0)] [(.int p0), (.int (32 : Int32)), (.long (1 : Int64))])) t
    refine XS.isub X0.here hx rfl (hb hby d4_4) rfl ?_
    show Steps p.tables e below (s₁.setTop (mkF m 5 #[.val (.int p0)] [(.int ((32 : Int32) - p0)), (.long (1 : Int64))])) t
    refine XS.lshl X0.here hx rfl (hb hby d4_5) rfl ?_
    show Steps p.tables e below (s₁.setTop (mkF m 6 #[.val (.int p0)] [(.long ((1 : Int64) <<< (((32 : Int32) - p0) &&& 0x3f).toInt64))])) t
    refine XS.lconst X0.here hx rfl (hb hby d4_6) ?_
    show Steps p.tables e below (s₁.setTop (mkF m 7 #[.val (.int p0)] [(.long (1 : Int64)), (.long ((1 : Int64) <<< (((32 : Int32) - p0) &&& 0x3f).toInt64))])) t
    refine XS.lsub X0.here hx rfl (hb hby d4_7) rfl ?_
    exact k
  obtain ⟨fs, hr, hrun, hended, hW, hsame⟩ := X0.leave (v := some (.long (((1 : Int64) <<< (((32 : Int32) - p0) &&& 0x3f).toInt64) - (1 : Int64)))) (fun h => by rw [Bd.returns] at h; cases h)
  refine Goes.mk _ _ ?_ ⟨hrun, hended, _, _, rfl, ?_, ⟨_, rfl⟩, hW, hsame.mono (by decide) (by decide)⟩
  · exact retOut X0 hx Bd.returns rfl (Or.inr (Or.inl ⟨rfl, rfl, _, rfl⟩)) (hb hby d4_8) hr
  · show QHm Z p0 h0 n0 _ s₁.heap _
    rw [e0]
    exact ⟨rfl, N0, rfl⟩
theorem d1_0 : decode prog_11_method_1_code 0 = .ok (.aload_n 0, 1) := by decide +kernel
theorem d1_1 : decode prog_11_method_1_code 1 = .ok (.invokespecial 1, 3) := by decide +kernel
theorem own_pd0 : parseMethodDescriptor "()V" = some ⟨[], none⟩ := by decide +kernel
theorem d1_4 : decode prog_11_method_1_code 4 = .ok (.iload_n 3, 1) := by decide +kernel
theorem d1_5 : decode prog_11_method_1_code 5 = .ok (.bipush 8, 2) := by decide +kernel
theorem d1_7 : decode prog_11_method_1_code 7 = .ok (.if_icmp .lt 9, 3) := by decide +kernel
theorem d1_10 : decode prog_11_method_1_code 10 = .ok (.iload_n 3, 1) := by decide +kernel
theorem d1_11 : decode prog_11_method_1_code 11 = .ok (.bipush 30, 2) := by decide +kernel
theorem d1_13 : decode prog_11_method_1_code 13 = .ok (.if_icmp .le 13, 3) := by decide +kernel
theorem d1_26 : decode prog_11_method_1_code 26 = .ok (.lload_n 1, 1) := by decide +kernel
theorem d1_27 : decode prog_11_method_1_code 27 = .ok (.iload_n 3, 1) := by decide +kernel
theorem d1_28 : decode prog_11_method_1_code 28 = .ok (.invokestatic 16, 3) := by decide +kernel
theorem own_pd1 : parseMethodDescriptor "(I)J" = some ⟨[.int], some .long⟩ := by decide +kernel
theorem d1_31 : decode prog_11_method_1_code 31 = .ok (.land, 1) := by decide +kernel
theorem d1_32 : decode prog_11_method_1_code 32 = .ok (.lconst 0, 1) := by decide +kernel
theorem d1_33 : decode prog_11_method_1_code 33 = .ok (.lcmp, 1) := by decide +kernel
theorem d1_34 : decode prog_11_method_1_code 34 = .ok (.ifCond .eq 30, 3) := by decide +kernel
theorem d1_64 : decode prog_11_method_1_code 64 = .ok (.aload_n 0, 1) := by decide +kernel
theorem d1_65 : decode prog_11_method_1_code 65 = .ok (.lload_n 1, 1) := by decide +kernel
theorem d1_66 : decode prog_11_method_1_code 66 = .ok (.putfield 32, 3) := by decide +kernel
theorem d1_69 : decode prog_11_method_1_code 69 = .ok (.aload_n 0, 1) := by decide +kernel
theorem d1_70 : decode prog_11_method_1_code 70 = .ok (.iload_n 3, 1) := by decide +kernel
theorem d1_71 : decode prog_11_method_1_code 71 = .ok (.putfield 36, 3) := by decide +kernel
theorem d1_74 : decode prog_11_method_1_code 74 = .ok (.return_, 1) := by decide +kernel
def QIni (Z : State) (a0 : Addr) (q1 : Int64) (p3 : Int32) (h0 : Heap) (n0 : Nat) (v : Option Value) (h : Heap) (L : List Loc) : Prop := v = none ∧ Fr n0 L ∧ Keep h0 h [a0] ∧ Exa Z h a0 "com/example/allocat/allocat/core/Ipv4Subnet" ∧ Fld Z h a0 "com/example/allocat/allocat/core/Ipv4Subnet" "address" "J" (.long q1) ∧ Fld Z h a0 "com/example/allocat/allocat/core/Ipv4Subnet" "prefix" "I" (.int p3)
theorem efIni (m : MethodId) (x0 : Addr) (x1 : Int64) (x2 : Int32) : entryFrame m #[(.ref x0), (.long x1), (.int x2)] 4 = mkF m 0 #[.val (.ref x0), .val (.long x1), .second, .val (.int x2)] [] := by first | (simp [entryFrame, mkF, argsToLocals, Value.category]; done) | rfl
set_option maxRecDepth 65536 in
set_option maxHeartbeats 40000000 in
theorem rmIni (l : Launch) (Z : State) (az : Array Value) (hw : ∀ d ∈ tables_1, d.before az Z = true) (ws : List Jvm.Cond) (a0 : Addr) (q1 : Int64) (p3 : Int32) (h0 : Heap) (n0 : Nat) (Z0 : n0 ≤ h0.size) (F0 : Exa Z h0 a0 "com/example/allocat/allocat/core/Ipv4Subnet") (F1 : Fld Z h0 a0 "com/example/allocat/allocat/core/Ipv4Subnet" "address" "J" (.long (0 : Int64))) (F2 : Fld Z h0 a0 "com/example/allocat/allocat/core/Ipv4Subnet" "prefix" "I" (.int (0 : Int32))) (Ge0 : n0 ≤ a0) (H1 : ¬ (p3 < (8 : Int32))) (H2 : ¬ ((30 : Int32) < p3)) (H3 : (q1 &&& (fHm p3)) = (0 : Int64)) :
    MetFree l (⟨"com/example/allocat/allocat/core/Ipv4Subnet", "<init>", "(JI)V"⟩ : MethodName) (head1 (Jvm.Cond.code (⟨"com/example/allocat/allocat/core/Ipv4Subnet", "<init>", "(JI)V"⟩ : MethodName) prog_11_method_1_code 4 none :: ws) ({ frames := 2, cells := 0, slots := 0, locals := 24 } : Room)) (fun a U => a = #[(.ref a0), (.long q1), (.int p3)] ∧ Z.Warmed39 U.vm ∧ U.heap = h0) (fun _ _ _ _ _ => True) (fun _ U o U' => ∃ v L, o = .returned v ∧ QIni Z a0 q1 p3 h0 n0 v U'.heap L ∧ FrameEnd U o U' L ({ frames := 2, cells := 0, slots := 0, locals := 24 } : Room).cells ({ frames := 2, cells := 0, slots := 0, locals := 24 } : Room).slots) := by
  refine MetFree.of_bodySF (plainFor_of_name own_pn_com_example_allocat_allocat_core_Ipv4Subnet) hisR ?_
  intro p e s m args below meth c s₁ Bd hml0 hP hK
  obtain ⟨rfl, hZ, hh⟩ := hP
  have hx := Bd.exec
  have hby := Bd.bytes
  have hml : c.maxLocals = 4 := hml0
  have hown : s.vm.findClass "com/example/allocat/allocat/core/Ipv4Subnet" = some m.cls := findClass_of_methodNamed Bd.named
  have hnm := (name_of_methodNamed Bd.named Bd.method).1
  have X0 : Stand p l e ({ frames := 2, cells := 0, slots := 0, locals := 24 } : Room) s m #[(.ref a0), (.long q1), (.int p3)] below meth c s₁ [] 0 0 := Stand.of_body Bd
  have e0 : s₁.heap = h0 := by rw [← hh, Bd.state]; rfl
  have N0 := Fr.nil n0
  have Kp0 : Keep h0 h0 [a0] := Keep.refl _ _
  refine Goes.start ?_
  refine Goes.by (B := s₁.setTop (mkF m 0 #[.val (.ref a0), .val (.long q1), .second, .val (.int p3)] [])) (fun t k => castTop (efIni m a0 q1 p3) k) ?_
  refine Goes.by (B := s₁.setTop (mkF m 1 #[.val (.ref a0), .val (.long q1), .second, .val (.int p3)] [(.ref a0)])) (fun t k => ?_) ?_
  · show Steps p.tables e below (s₁.setTop (mkF m 0 #[.val (.ref a0), .val (.long q1), .second, .val (.int p3)] [])) t
    refine XS.aloadN X0.here hx rfl (hb hby d1_0) rfl rfl ?_
    exact k
  obtain ⟨_, _, ⟨T1, L1, k1, n1⟩, -, X1, ⟨Lc1, hQ1, l1, y1, z1⟩, st1⟩ := X0.specialBack hx (y := (⟨"java/lang/Record", "<init>", "()V"⟩ : MethodName)) rfl hown (mvT hZ (hw _ (List.mem_of_getElem? (i := 9) rfl))) (mvT hZ (hw _ (List.mem_of_getElem? (i := 10) rfl))) (mvT hZ (hw _ (List.mem_of_getElem? (i := 13) rfl))) (by decide) (backOf (W := 0) (rm2 l Z az hw [] a0 h0 n0 Z0 ) hZ (hw _ (List.mem_of_getElem? (i := 13) rfl)) (hw _ (List.mem_of_getElem? (i := 12) rfl)) (by decide) (by decide)) (g := (mkF m 1 #[.val (.ref a0), .val (.long q1), .second, .val (.int p3)] [(.ref a0)])) rfl (by rw [hml]; rfl) (Steps.refl _) (a := a0) (argsL := []) (rest := []) (lenOf own_pd0 rfl) rfl (by show 2 * 0 + _ ≤ _; exact Nat.le_of_eq rfl) (hb hby d1_1) (fun _ _ => ⟨rfl, e0, (by decide : 0 + 0 ≤ _), (by decide : 0 + 0 ≤ _)⟩)
  dsimp only [Pt.U, Pt.locs, Pt.cells, Pt.slots] at X1 l1 y1 z1 st1 hQ1
  subst l1 y1 z1
  obtain ⟨rfl, N1q, e1⟩ := hQ1
  have N2 := Fr.app N0 N1q
  refine Goes.by (fun _ k => st1.trans k) ?_
  show Goes p.tables e below _ (T1.setTop (mkF m 4 #[.val (.ref a0), .val (.long q1), .second, .val (.int p3)] []))
  refine Goes.by (B := T1.setTop (mkF m 28 #[.val (.ref a0), .val (.long q1), .second, .val (.int p3)] [(.int p3), (.long q1)])) (fun t k => ?_) ?_
  · show Steps p.tables e below (T1.setTop (mkF m 4 #[.val (.ref a0), .val (.long q1), .second, .val (.int p3)] [])) t
    refine XS.iloadN X1.here hx rfl (hb hby d1_4) rfl ?_
    show Steps p.tables e below (T1.setTop (mkF m 5 #[.val (.ref a0), .val (.long q1), .second, .val (.int p3)] [(.int p3)])) t
    refine XS.bipush X1.here hx rfl (hb hby d1_5) ?_
    show Steps p.tables e below (T1.setTop (mkF m 7 #[.val (.ref a0), .val (.long q1), .second, .val (.int p3)] [(.int (8 : Int32)), (.int p3)])) t
    refine XS.icmpNo X1.here hx rfl (hb hby d1_7) rfl (flt H1).1 ?_
    show Steps p.tables e below (T1.setTop (mkF m 10 #[.val (.ref a0), .val (.long q1), .second, .val (.int p3)] [])) t
    refine XS.iloadN X1.here hx rfl (hb hby d1_10) rfl ?_
    show Steps p.tables e below (T1.setTop (mkF m 11 #[.val (.ref a0), .val (.long q1), .second, .val (.int p3)] [(.int p3)])) t
    refine XS.bipush X1.here hx rfl (hb hby d1_11) ?_
    show Steps p.tables e below (T1.setTop (mkF m 13 #[.val (.ref a0), .val (.long q1), .second, .val (.int p3)] [(.int (30 : Int32)), (.int p3)])) t
    refine XS.icmpYes X1.here hx rfl (pc0 := 13) (pc' := 26) rfl (hb hby d1_13) rfl (flt H2).2.2.2 (by decide) (by decide) ?_
    show Steps p.tables e below (T1.setTop (mkF m 26 #[.val (.ref a0), .val (.long q1), .second, .val (.int p3)] [])) t
    refine XS.lloadN X1.here hx rfl (hb hby d1_26) rfl ?_
    show Steps p.tables e below (T1.setTop (mkF m 27 #[.val (.ref a0), .val (.long q1), .second, .val (.int p3)] [(.long q1)])) t
    refine XS.iloadN X1.here hx rfl (hb hby d1_27) rfl ?_
    exact k
  obtain ⟨_, _, ⟨T3, L3, k3, n3⟩, -, X3, ⟨Lc3, hQ3, l3, y3, z3⟩, st3⟩ := Jvm.LawKit.callS X1 hx (y := (⟨"com/example/allocat/allocat/core/Ipv4Subnet", "hostMask", "(I)J"⟩ : MethodName)) hown (mvT hZ (hw _ (List.mem_of_getElem? (i := 17) rfl))) (mvT hZ (hw _ (List.mem_of_getElem? (i := 18) rfl))) (mvT hZ (hw _ (List.mem_of_getElem? (i := 5) rfl))) (mvT hZ (hw _ (List.mem_of_getElem? (i := 19) rfl))) (by decide) (backOf (W := 2) (rmHm l Z az hw [] p3 h0 n0 Z0 ) hZ (hw _ (List.mem_of_getElem? (i := 19) rfl)) (hw _ (List.mem_of_getElem? (i := 5) rfl)) (by decide) (by decide)) (g := (mkF m 28 #[.val (.ref a0), .val (.long q1), .second, .val (.int p3)] [(.int p3), (.long q1)])) rfl (by rw [hml]; rfl) (argsL := [(.int p3)]) (rest := [(.long q1)]) (lenOf own_pd1 rfl) rfl (by show 2 * 0 + _ ≤ _; exact Nat.le_of_eq rfl) (hb hby d1_28) (fun _ _ => ⟨rfl, e1, (by decide : 0 + 0 ≤ _), (by decide : 0 + 0 ≤ _)⟩)
  dsimp only [Pt.U, Pt.locs, Pt.cells, Pt.slots] at X3 l3 y3 z3 st3 hQ3
  subst l3 y3 z3
  obtain ⟨rfl, N3q, e3⟩ := hQ3
  have N4 := Fr.app N2 N3q
  refine Goes.by st3 ?_
  show Goes p.tables e below _ (T3.setTop (mkF m 31 #[.val (.ref a0), .val (.long q1), .second, .val (.int p3)] [(.long (fHm p3)), (.long q1)]))
  refine Goes.by (B := T3.setTop (mkF m 66 #[.val (.ref a0), .val (.long q1), .second, .val (.int p3)] [(.long q1), (.ref a0)])) (fun t k => ?_) ?_
  · show Steps p.tables e below (T3.setTop (mkF m 31 #[.val (.ref a0), .val (.long q1), .second, .val (.int p3)] [(.long (fHm p3)), (.long q1)])) t
    refine XS.land X3.here hx rfl (hb hby d1_31) rfl ?_
    show Steps p.tables e below (T3.setTop (mkF m 32 #[.val (.ref a0), .val (.long q1), .second, .val (.int p3)] [(.long (q1 &&& (fHm p3)))])) t
    refine XS.lconst X3.here hx rfl (hb hby d1_32) ?_
    show Steps p.tables e below (T3.setTop (mkF m 33 #[.val (.ref a0), .val (.long q1), .second, .val (.int p3)] [(.long (0 : Int64)), (.long (q1 &&& (fHm p3)))])) t
    refine XS.lcmp X3.here hx rfl (hb hby d1_33) rfl ?_
    show Steps p.tables e below (T3.setTop (mkF m 34 #[.val (.ref a0), .val (.long q1), .second, .val (.int p3)] [(.int (lcmpW (q1 &&& (fHm p3)) (0 : Int64)))])) t
    refine XS.ifYes X3.here hx rfl (pc0 := 34) (pc' := 64) rfl (hb hby d1_34) rfl ((if0 _ _).trans (teq ((lw_eq (q1 &&& (fHm p3)) (0 : Int64)).mpr H3)).1) (by decide) (by decide) ?_
    show Steps p.tables e below (T3.setTop (mkF m 64 #[.val (.ref a0), .val (.long q1), .second, .val (.int p3)] [])) t
    refine XS.aloadN X3.here hx rfl (hb hby d1_64) rfl rfl ?_
    show Steps p.tables e below (T3.setTop (mkF m 65 #[.val (.ref a0), .val (.long q1), .second, .val (.int p3)] [(.ref a0)])) t
    refine XS.lloadN X3.here hx rfl (hb hby d1_65) rfl ?_
    exact k
  obtain ⟨T5, h5, X5, e5, W5, st5⟩ := putF X3 hx hZ hown (host := "") (Or.inl (hw _ (List.mem_of_getElem? (i := 20) rfl))) Via.refl e3 F1 F0 (Or.inr ⟨(hw _ (List.mem_of_getElem? (i := 21) rfl)), rfl, hnm⟩) (hw _ (List.mem_of_getElem? (i := 4) rfl)) (ty := .long) (by decide) rfl rfl (g := (mkF m 66 #[.val (.ref a0), .val (.long q1), .second, .val (.int p3)] [(.long q1), (.ref a0)])) rfl rfl (hb hby d1_66)
  have f6 : Exa Z h5 a0 "com/example/allocat/allocat/core/Ipv4Subnet" := F0.wr W5
  have f7 : Fld Z h5 a0 "com/example/allocat/allocat/core/Ipv4Subnet" "prefix" "I" (.int (0 : Int32)) := F2.other W5 (Or.inr (slot_ne (Or.inr (hw _ (List.mem_of_getElem? (i := 23) rfl))) (Or.inr (hw _ (List.mem_of_getElem? (i := 21) rfl))) (by decide) (t := .int) (t' := .long) (by decide) (by decide)))
  have f8 : Fld Z h5 a0 "com/example/allocat/allocat/core/Ipv4Subnet" "address" "J" (.long q1) := F1.same W5
  have Kp5 : Keep h0 h5 [a0] := Kp0.wr W5 (Or.inl (List.mem_of_getElem? (i := 0) rfl))
  have Z9 : n0 ≤ h5.size := Nat.le_trans Z0 (Nat.le_of_eq W5.size.symm)
  have N10 := Fr.snoc X5 N4 Ge0
  refine Goes.by st5 ?_
  show Goes p.tables e below _ (T5.setTop (mkF m 69 #[.val (.ref a0), .val (.long q1), .second, .val (.int p3)] []))
  refine Goes.by (B := T5.setTop (mkF m 71 #[.val (.ref a0), .val (.long q1), .second, .val (.int p3)] [(.int p3), (.ref a0)])) (fun t k => ?_) ?_
  · show Steps p.tables e below (T5.setTop (mkF m 69 #[.val (.ref a0), .val (.long q1), .second, .val (.int p3)] [])) t
    refine XS.aloadN X5.here hx rfl (hb hby d1_69) rfl rfl ?_
    show Steps p.tables e below (T5.setTop (mkF m 70 #[.val (.ref a0), .val (.long q1), .second, .val (.int p3)] [(.ref a0)])) t
    refine XS.iloadN X5.here hx rfl (hb hby d1_70) rfl ?_
    exact k
  obtain ⟨T11, h11, X11, e11, W11, st11⟩ := putF X5 hx hZ hown (host := "") (Or.inl (hw _ (List.mem_of_getElem? (i := 22) rfl))) Via.refl e5 f7 f6 (Or.inr ⟨(hw _ (List.mem_of_getElem? (i := 23) rfl)), rfl, hnm⟩) (hw _ (List.mem_of_getElem? (i := 4) rfl)) (ty := .int) (by decide) rfl rfl (g := (mkF m 71 #[.val (.ref a0), .val (.long q1), .second, .val (.int p3)] [(.int p3), (.ref a0)])) rfl rfl (hb hby d1_71)
  have f12 : Exa Z h11 a0 "com/example/allocat/allocat/core/Ipv4Subnet" := f6.wr W11
  have f13 : Fld Z h11 a0 "com/example/allocat/allocat/core/Ipv4Subnet" "address" "J" (.long q1) := f8.other W11 (Or.inr (slot_ne (Or.inr (hw _ (List.mem_of_getElem? (i := 21) rfl))) (Or.inr (hw _ (List.mem_of_getElem? (i := 23) rfl))) (by decide) (t := .long) (t' := .int) (by decide) (by decide)))
  have f14 : Fld Z h11 a0 "com/example/allocat/allocat/core/Ipv4Subnet" "prefix" "I" (.int p3) := f7.same W11
  have Kp11 : Keep h0 h11 [a0] := Kp5.wr W11 (Or.inl (List.mem_of_getElem? (i := 0) rfl))
  have Z15 : n0 ≤ h11.size := Nat.le_trans Z9 (Nat.le_of_eq W11.size.symm)
  have N16 := Fr.snoc X11 N10 Ge0
  refine Goes.by st11 ?_
  show Goes p.tables e below _ (T11.setTop (mkF m 74 #[.val (.ref a0), .val (.long q1), .second, .val (.int p3)] []))
  obtain ⟨fs, hr, hrun, hended, hW, hsame⟩ := X11.leave (v := none) (fun _ => rfl)
  refine Goes.mk _ _ ?_ ⟨hrun, hended, _, _, rfl, ?_, ⟨_, rfl⟩, hW, hsame.mono (by decide) (by decide)⟩
  · exact X11.returnOut hx Bd.returns (hb hby d1_74) hr
  · show QIni Z a0 q1 p3 h0 n0 _ T11.heap _
    rw [e11]
    exact ⟨rfl, N16, Kp11, f12, f13, f14⟩
theorem d5_0 : decode prog_11_method_3_code 0 = .ok (.aload_n 0, 1) := by decide +kernel
theorem d5_1 : decode prog_11_method_3_code 1 = .ok (.getfield 32, 3) := by decide +kernel
theorem d5_4 : decode prog_11_method_3_code 4 = .ok (.aload_n 0, 1) := by decide +kernel
theorem d5_5 : decode prog_11_method_3_code 5 = .ok (.getfield 36, 3) := by decide +kernel
theorem d5_8 : decode prog_11_method_3_code 8 = .ok (.invokestatic 16, 3) := by decide +kernel
theorem d5_11 : decode prog_11_method_3_code 11 = .ok (.lor, 1) := by decide +kernel
theorem d5_12 : decode prog_11_method_3_code 12 = .ok (.lreturn, 1) := by decide +kernel
def QLast (Z : State) (a0 : Addr) (u : Int64) (w : Int32) (h0 : Heap) (n0 : Nat) (v : Option Value) (h : Heap) (L : List Loc) : Prop := v = some (.long (u ||| (fHm w))) ∧ Fr n0 L ∧ h = h0
theorem efLast (m : MethodId) (x0 : Addr) : entryFrame m #[(.ref x0)] 1 = mkF m 0 #[.val (.ref x0)] [] := by first | (simp [entryFrame, mkF, argsToLocals, Value.category]; done) | rfl
set_option maxRecDepth 65536 in
set_option maxHeartbeats 40000000 in
theorem rmLast (l : Launch) (Z : State) (az : Array Value) (hw : ∀ d ∈ tables_1, d.before az Z = true) (ws : List Jvm.Cond) (a0 : Addr) (u : Int64) (w : Int32) (h0 : Heap) (n0 : Nat) (Z0 : n0 ≤ h0.size) (F0 : Fld Z h0 a0 "com/example/allocat/allocat/core/Ipv4Subnet" "address" "J" (.long u)) (F1 : Fld Z h0 a0 "com/example/allocat/allocat/core/Ipv4Subnet" "prefix" "I" (.int w)) :
    MetFree l (⟨"com/example/allocat/allocat/core/Ipv4Subnet", "last", "()J"⟩ : MethodName) (head1 (Jvm.Cond.code (⟨"com/example/allocat/allocat/core/Ipv4Subnet", "last", "()J"⟩ : MethodName) prog_11_method_3_code 1 (some .long) :: ws) ({ frames := 1, cells := 0, slots := 0, locals := 14 } : Room)) (fun a U => a = #[(.ref a0)] ∧ Z.Warmed39 U.vm ∧ U.heap = h0) (fun _ _ _ _ _ => True) (fun _ U o U' => ∃ v L, o = .returned v ∧ QLast Z a0 u w h0 n0 v U'.heap L ∧ FrameEnd U o U' L ({ frames := 1, cells := 0, slots := 0, locals := 14 } : Room).cells ({ frames := 1, cells := 0, slots := 0, locals := 14 } : Room).slots) := by
  refine MetFree.of_bodySF (plainFor_of_name own_pn_com_example_allocat_allocat_core_Ipv4Subnet) hisR ?_
  intro p e s m args below meth c s₁ Bd hml0 hP hK
  obtain ⟨rfl, hZ, hh⟩ := hP
  have hx := Bd.exec
  have hby := Bd.bytes
  have hml : c.maxLocals = 1 := hml0
  have hown : s.vm.findClass "com/example/allocat/allocat/core/Ipv4Subnet" = some m.cls := findClass_of_methodNamed Bd.named
  have hnm := (name_of_methodNamed Bd.named Bd.method).1
  have X0 : Stand p l e ({ frames := 1, cells := 0, slots := 0, locals := 14 } : Room) s m #[(.ref a0)] below meth c s₁ [] 0 0 := Stand.of_body Bd
  have e0 : s₁.heap = h0 := by rw [← hh, Bd.state]; rfl
  have N0 := Fr.nil n0
  have Kp0 : Keep h0 h0 [] := Keep.refl _ _
  refine Goes.start ?_
  refine Goes.by (B := s₁.setTop (mkF m 0 #[.val (.ref a0)] [])) (fun t k => castTop (efLast m a0) k) ?_
  refine Goes.by (B := s₁.setTop (mkF m 1 #[.val (.ref a0)] [(.ref a0)])) (fun t k => ?_) ?_
  · show Steps p.tables e below (s₁.setTop (mkF m 0 #[.val (.ref a0)] [])) t
    refine XS.aloadN X0.here hx rfl (hb hby d5_0) rfl rfl ?_
    exact k
  obtain ⟨T1, X1, e1, st1⟩ := getF X0 hx hZ hown (host := "") (Or.inl (hw _ (List.mem_of_getElem? (i := 20) rfl))) Via.refl e0 F0 (g := (mkF m 1 #[.val (.ref a0)] [(.ref a0)])) rfl rfl (hb hby d5_1)
  refine Goes.by st1 ?_
  show Goes p.tables e below _ (T1.setTop (mkF m 4 #[.val (.ref a0)] [(.long u)]))
  refine Goes.by (B := T1.setTop (mkF m 5 #[.val (.ref a0)] [(.ref a0), (.long u)])) (fun t k => ?_) ?_
  · show Steps p.tables e below (T1.setTop (mkF m 4 #[.val (.ref a0)] [(.long u)])) t
    refine XS.aloadN X1.here hx rfl (hb hby d5_4) rfl rfl ?_
    exact k
  obtain ⟨T2, X2, e2, st2⟩ := getF X1 hx hZ hown (host := "") (Or.inl (hw _ (List.mem_of_getElem? (i := 22) rfl))) Via.refl e1 F1 (g := (mkF m 5 #[.val (.ref a0)] [(.ref a0), (.long u)])) rfl rfl (hb hby d5_5)
  refine Goes.by st2 ?_
  show Goes p.tables e below _ (T2.setTop (mkF m 8 #[.val (.ref a0)] [(.int w), (.long u)]))
  obtain ⟨_, _, ⟨T3, L3, k3, n3⟩, -, X3, ⟨Lc3, hQ3, l3, y3, z3⟩, st3⟩ := Jvm.LawKit.callS X2 hx (y := (⟨"com/example/allocat/allocat/core/Ipv4Subnet", "hostMask", "(I)J"⟩ : MethodName)) hown (mvT hZ (hw _ (List.mem_of_getElem? (i := 17) rfl))) (mvT hZ (hw _ (List.mem_of_getElem? (i := 18) rfl))) (mvT hZ (hw _ (List.mem_of_getElem? (i := 5) rfl))) (mvT hZ (hw _ (List.mem_of_getElem? (i := 19) rfl))) (by decide) (backOf (W := 2) (rmHm l Z az hw [] w h0 n0 Z0 ) hZ (hw _ (List.mem_of_getElem? (i := 19) rfl)) (hw _ (List.mem_of_getElem? (i := 5) rfl)) (by decide) (by decide)) (g := (mkF m 8 #[.val (.ref a0)] [(.int w), (.long u)])) rfl (by rw [hml]; rfl) (argsL := [(.int w)]) (rest := [(.long u)]) (lenOf own_pd1 rfl) rfl (by show 2 * 0 + _ ≤ _; exact Nat.le_of_eq rfl) (hb hby d5_8) (fun _ _ => ⟨rfl, e2, (by decide : 0 + 0 ≤ _), (by decide : 0 + 0 ≤ _)⟩)
  dsimp only [Pt.U, Pt.locs, Pt.cells, Pt.slots] at X3 l3 y3 z3 st3 hQ3
  subst l3 y3 z3
  obtain ⟨rfl, N3q, e3⟩ := hQ3
  have N4 := Fr.app N0 N3q
  refine Goes.by st3 ?_
  show Goes p.tables e below _ (T3.setTop (mkF m 11 #[.val (.ref a0)] [(.long (fHm w)), (.long u)]))
  refine Goes.by (B := T3.setTop (mkF m 12 #[.val (.ref a0)] [(.long (u ||| (fHm w)))])) (fun t k => ?_) ?_
  · show Steps p.tables e below (T3.setTop (mkF m 11 #[.val (.ref a0)] [(.long (fHm w)), (.long u)])) t
    refine XS.lor X3.here hx rfl (hb hby d5_11) rfl ?_
    exact k
  obtain ⟨fs, hr, hrun, hended, hW, hsame⟩ := X3.leave (v := some (.long (u ||| (fHm w)))) (fun h => by rw [Bd.returns] at h; cases h)
  refine Goes.mk _ _ ?_ ⟨hrun, hended, _, _, rfl, ?_, ⟨_, rfl⟩, hW, hsame.mono (by decide) (by decide)⟩
  · exact retOut X3 hx Bd.returns rfl (Or.inr (Or.inl ⟨rfl, rfl, _, rfl⟩)) (hb hby d5_12) hr
  · show QLast Z a0 u w h0 n0 _ T3.heap _
    rw [e3]
    exact ⟨rfl, N4, rfl⟩
theorem own_nat64 (x : Int64) : x.toBitVec.toNat < 18446744073709551616 ∧ ((x.toInt = x.toBitVec.toNat ∧ x.toBitVec.toNat < 9223372036854775808) ∨ (x.toInt = x.toBitVec.toNat - 18446744073709551616 ∧ 9223372036854775808 ≤ x.toBitVec.toNat)) := by
  have h := x.toBitVec.isLt
  refine ⟨h, ?_⟩
  have q : x.toInt = x.toBitVec.toInt := rfl
  rw [q, BitVec.toInt_eq_toNat_cond]
  split <;> omega
theorem own_pf (p : Int32) : ¬ (((8 : Int32) + ((p &&& (2147483647 : Int32)) % (23 : Int32))) < (8 : Int32)) ∧ ¬ ((30 : Int32) < ((8 : Int32) + ((p &&& (2147483647 : Int32)) % (23 : Int32)))) := by
  have m := c_mask p (2147483647 : Int32) 31 (by decide) (by decide)
  have r := c_irem (p &&& (2147483647 : Int32)) (23 : Int32) 23 (by decide)
  have a := c_iadd (8 : Int32) ((p &&& (2147483647 : Int32)) % (23 : Int32))
  have g := rng32 ((8 : Int32) + ((p &&& (2147483647 : Int32)) % (23 : Int32)))
  have e : ((2 ^ 31 : Nat) : Int) = 2147483648 := rfl
  have l8 : (8 : Int32).toInt = 8 := by decide
  have l30 : (30 : Int32).toInt = 30 := by decide
  rw [e] at m
  rw [l8] at a
  rw [Int32.lt_iff_toInt_lt, Int32.lt_iff_toInt_lt, l8, l30]
  have r1 := r.1 (by omega)
  constructor <;> omega
theorem own_case (pf : Int32) (h1 : ¬ (pf < (8 : Int32))) (h2 : ¬ ((30 : Int32) < pf)) : ∃ k : Fin 31, 8 ≤ k.val ∧ pf = Int32.ofInt (k.val : Int) := by
  have l8 : (8 : Int32).toInt = 8 := by decide
  have l30 : (30 : Int32).toInt = 30 := by decide
  rw [Int32.lt_iff_toInt_lt, l8] at h1
  rw [Int32.lt_iff_toInt_lt, l30] at h2
  refine ⟨⟨pf.toInt.toNat, by omega⟩, ?_, ?_⟩
  · show 8 ≤ pf.toInt.toNat
    omega
  · show pf = Int32.ofInt ((pf.toInt.toNat : Nat) : Int)
    have e : ((pf.toInt.toNat : Nat) : Int) = pf.toInt := by omega
    rw [e, Int32.ofInt_toInt]
theorem own_tab : ∀ k : Fin 31, 8 ≤ k.val → fHm (Int32.ofInt (k.val : Int)) = (((4294967295 : Int64).toUInt64 >>> ((Int32.ofInt (k.val : Int)) &&& 0x3f).toInt64.toUInt64).toInt64) ∧ (fHm (Int32.ofInt (k.val : Int)) &&& (4294967295 : Int64)) = fHm (Int32.ofInt (k.val : Int)) ∧ -((1 : Int64) <<< (((32 : Int32) - (Int32.ofInt (k.val : Int))) &&& 0x3f).toInt64) = (fHm (Int32.ofInt (k.val : Int)) ^^^ (-1 : Int64)) ∧ ((32 : Int32) - (Int32.ofInt (k.val : Int))).toBitVec.toNat % 64 = 32 - k.val ∧ (fHm (Int32.ofInt (k.val : Int))).toBitVec.toNat = 2 ^ (32 - k.val) - 1 := by decide +kernel
theorem own_dis (a b : Int64) : ((a &&& (b ^^^ (-1 : Int64))) &&& b) = (0 : Int64) := by
  apply Int64.toBitVec_inj.mp
  show ((a.toBitVec &&& (b.toBitVec ^^^ (-1 : Int64).toBitVec)) &&& b.toBitVec) = (0 : Int64).toBitVec
  have e1 : (-1 : Int64).toBitVec = BitVec.allOnes 64 := by decide
  have e0 : (0 : Int64).toBitVec = 0#64 := by decide
  rw [e1, e0]
  apply BitVec.eq_of_getLsbD_eq
  intro i hi
  simp only [BitVec.getLsbD_and, BitVec.getLsbD_xor, BitVec.getLsbD_allOnes, BitVec.getLsbD_zero, hi, decide_true]
  cases a.toBitVec.getLsbD i <;> cases b.toBitVec.getLsbD i <;> rfl
theorem own_sum (a b : Int64) (h : (a &&& b) = (0 : Int64)) : (a ||| b) = a + b := by
  apply Int64.toBitVec_inj.mp
  show a.toBitVec ||| b.toBitVec = a.toBitVec + b.toBitVec
  refine (BitVec.add_eq_or_of_and_eq_zero _ _ ?_).symm
  have := congrArg Int64.toBitVec h
  exact this
theorem own_lo (a : Int64) (b : Int64) : ((a &&& (4294967295 : Int64)) &&& b) &&& (4294967295 : Int64) = ((a &&& (4294967295 : Int64)) &&& b) := by
  apply Int64.toBitVec_inj.mp
  show ((a.toBitVec &&& (4294967295 : Int64).toBitVec) &&& b.toBitVec) &&& (4294967295 : Int64).toBitVec = (a.toBitVec &&& (4294967295 : Int64).toBitVec) &&& b.toBitVec
  apply BitVec.eq_of_getLsbD_eq
  intro i hi
  simp only [BitVec.getLsbD_and]
  cases a.toBitVec.getLsbD i <;> cases b.toBitVec.getLsbD i <;> cases (4294967295 : Int64).toBitVec.getLsbD i <;> rfl
theorem own_rng (a : Int64) (h : (a &&& (4294967295 : Int64)) = a) : 0 ≤ a.toInt ∧ a.toInt ≤ 4294967295 := by
  have m := c_maskL a (4294967295 : Int64) 32 (by decide) (by decide)
  have e : ((2 ^ 32 : Nat) : Int) = 4294967296 := rfl
  rw [h, e] at m
  omega
theorem own_m2 (p1 pf : Int32) (q0 hb ad : Int64) (h1 : ((8 : Int32) + ((p1 &&& (2147483647 : Int32)) % (23 : Int32))) = pf) (h2 : (((4294967295 : Int64).toUInt64 >>> (pf &&& 0x3f).toInt64.toUInt64).toInt64) = hb) (h3 : ((q0 &&& (4294967295 : Int64)) &&& (hb ^^^ (-1 : Int64))) = ad) :
    ¬ (pf < (8 : Int32)) ∧ ¬ ((30 : Int32) < pf) ∧ (ad &&& (fHm pf)) = (0 : Int64) ∧ (ad ||| (fHm pf)) = (ad + hb) ∧ ¬ ((4294967295 : Int64) < (ad ||| (fHm pf))) ∧ ¬ ((ad ||| (fHm pf)) < ad) := by
  obtain ⟨r1, r2⟩ := own_pf p1
  rw [h1] at r1 r2
  obtain ⟨k, hk, e⟩ := own_case pf r1 r2
  obtain ⟨t1, t2, -, -, -⟩ := own_tab k hk
  rw [← e] at t1 t2
  rw [h2] at t1
  rw [t1] at t2 ⊢
  have z : (ad &&& hb) = (0 : Int64) := by rw [← h3]; exact own_dis _ _
  have s := own_sum ad hb z
  have ra := own_rng ad (by rw [← h3]; exact own_lo _ _)
  have rb := own_rng hb t2
  have a := c_ladd ad hb
  have g := rng64 (ad + hb)
  have l : (4294967295 : Int64).toInt = 4294967295 := by decide
  have q : ((ad ||| hb) &&& (4294967295 : Int64)) = (ad ||| hb) := by
    have qa : (ad &&& (4294967295 : Int64)) = ad := by rw [← h3]; exact own_lo _ _
    apply Int64.toBitVec_inj.mp
    have ea := congrArg Int64.toBitVec qa
    have eb := congrArg Int64.toBitVec t2
    change (ad.toBitVec &&& (4294967295 : Int64).toBitVec) = ad.toBitVec at ea
    change (hb.toBitVec &&& (4294967295 : Int64).toBitVec) = hb.toBitVec at eb
    show ((ad.toBitVec ||| hb.toBitVec) &&& (4294967295 : Int64).toBitVec) = (ad.toBitVec ||| hb.toBitVec)
    apply BitVec.eq_of_getLsbD_eq
    intro i hi
    have xa := congrArg (fun v => BitVec.getLsbD v i) ea
    have xb := congrArg (fun v => BitVec.getLsbD v i) eb
    simp only [BitVec.getLsbD_and, BitVec.getLsbD_or] at xa xb ⊢
    revert xa xb
    cases ad.toBitVec.getLsbD i <;> cases hb.toBitVec.getLsbD i <;> cases (4294967295 : Int64).toBitVec.getLsbD i <;> decide
  have rq := own_rng _ q
  refine ⟨r1, r2, z, s, ?_, ?_⟩
  · rw [Int64.lt_iff_toInt_lt, l]; omega
  · rw [s] at rq ⊢
    rw [Int64.lt_iff_toInt_lt]; omega
theorem own_pd2 : parseMethodDescriptor "(JI)V" = some ⟨[.long, .int], none⟩ := by decide +kernel
theorem own_pd3 : parseMethodDescriptor "()J" = some ⟨[], some .long⟩ := by decide +kernel
def Q0 (Z : State) (q0 : Int64) (p1 : Int32) (h0 : Heap) (n0 : Nat) (v : Option Value) (h : Heap) (L : List Loc) : Prop := v = some (.int 1) ∧ Fr n0 L
theorem own_pn_com_example_allocat_allocat_core_Ipv4SubnetLastPinLaw : plainName "com/example/allocat/allocat/core/Ipv4SubnetLastPinLaw" = true := by first | (simp [plainName, overriddenIn]; done) | decide +kernel
theorem ef0 (m : MethodId) (x0 : Int64) (x1 : Int32) : entryFrame m #[(.long x0), (.int x1)] maxLocals = mkF m 0 #[.val (.long x0), .second, .val (.int x1), .unset, .unset, .unset, .unset, .unset, .unset, .unset, .unset] [] := by first | (simp [entryFrame, mkF, argsToLocals, Value.category, maxLocals]; done) | rfl
set_option maxRecDepth 65536 in
set_option maxHeartbeats 40000000 in
theorem rm0 (l : Launch) (Z : State) (az : Array Value) (hw : ∀ d ∈ tables_1, d.before az Z = true) (ws : List Jvm.Cond) (q0 : Int64) (p1 : Int32) (h0 : Heap) (n0 : Nat) (Z0 : n0 ≤ h0.size) :
    MetFree l x (head1 (Jvm.Cond.code x code maxLocals ret :: ws) room_1) (fun a U => a = #[(.long q0), (.int p1)] ∧ Z.Warmed39 U.vm ∧ U.heap = h0) (fun _ _ _ _ _ => True) (fun _ U o U' => ∃ v L, o = .returned v ∧ Q0 Z q0 p1 h0 n0 v U'.heap L ∧ FrameEnd U o U' L 1 2) := by
  refine MetFree.of_bodySF (plainFor_of_name own_pn_com_example_allocat_allocat_core_Ipv4SubnetLastPinLaw) hisR ?_
  intro p e s m args below meth c s₁ Bd hml0 hP hK
  obtain ⟨rfl, hZ, hh⟩ := hP
  have hx := Bd.exec
  have hby := Bd.bytes
  have hml : c.maxLocals = 11 := hml0
  have hown : s.vm.findClass "com/example/allocat/allocat/core/Ipv4SubnetLastPinLaw" = some m.cls := findClass_of_methodNamed Bd.named
  have hnm := (name_of_methodNamed Bd.named Bd.method).1
  have X0 : Stand p l e room_1 s m #[(.long q0), (.int p1)] below meth c s₁ [] 0 0 := Stand.of_body Bd
  have e0 : s₁.heap = h0 := by rw [← hh, Bd.state]; rfl
  have N0 := Fr.nil n0
  have Kp0 : Keep h0 h0 [] := Keep.refl _ _
  refine Goes.start ?_
  refine Goes.by (B := s₁.setTop (mkF m 0 #[.val (.long q0), .second, .val (.int p1), .unset, .unset, .unset, .unset, .unset, .unset, .unset, .unset] [])) (fun t k => castTop (ef0 m q0 p1) k) ?_
  refine Goes.by (B := s₁.setTop (mkF m 11 #[.val (.long q0), .second, .val (.int p1), .val (.int ((8 : Int32) + ((p1 &&& (2147483647 : Int32)) % (23 : Int32)))), .unset, .unset, .unset, .unset, .unset, .unset, .unset] [])) (fun t k => ?_) ?_
  · show Steps p.tables e below (s₁.setTop (mkF m 0 #[.val (.long q0), .second, .val (.int p1), .unset, .unset, .unset, .unset, .unset, .unset, .unset, .unset] [])) t
    refine XS.bipush X0.here hx rfl (hb hby at_0) ?_
    show Steps p.tables e below (s₁.setTop (mkF m 2 #[.val (.long q0), .second, .val (.int p1), .unset, .unset, .unset, .unset, .unset, .unset, .unset, .unset] [(.int (8 : Int32))])) t
    refine XS.iloadN X0.here hx rfl (hb hby at_2) rfl ?_
    show Steps p.tables e below (s₁.setTop (mkF m 3 #[.val (.long q0), .second, .val (.int p1), .unset, .unset, .unset, .unset, .unset, .unset, .unset, .unset] [(.int p1), (.int (8 : Int32))])) t
    refine X0.ldcInt hx hown (mvT hZ (hw _ (List.mem_of_getElem? (i := 0) rfl))) (g := (mkF m 3 #[.val (.long q0), .second, .val (.int p1), .unset, .unset, .unset, .unset, .unset, .unset, .unset, .unset] [(.int p1), (.int (8 : Int32))])) rfl (hb hby at_3) _ ?_
    show Steps p.tables e below (s₁.setTop (mkF m 5 #[.val (.long q0), .second, .val (.int p1), .unset, .unset, .unset, .unset, .unset, .unset, .unset, .unset] [(.int (2147483647 : Int32)), (.int p1), (.int (8 : Int32))])) t
    refine XS.iand X0.here hx rfl (hb hby at_5) rfl ?_
    show Steps p.tables e below (s₁.setTop (mkF m 6 #[.val (.long q0), .second, .val (.int p1), .unset, .unset, .unset, .unset, .unset, .unset, .unset, .unset] [(.int (p1 &&& (2147483647 : Int32))), (.int (8 : Int32))])) t
    refine XS.bipush X0.here hx rfl (hb hby at_6) ?_
    show Steps p.tables e below (s₁.setTop (mkF m 8 #[.val (.long q0), .second, .val (.int p1), .unset, .unset, .unset, .unset, .unset, .unset, .unset, .unset] [(.int (23 : Int32)), (.int (p1 &&& (2147483647 : Int32))), (.int (8 : Int32))])) t
    refine iremM X0 hx rfl (hb hby at_8) rfl (by decide) ?_
    show Steps p.tables e below (s₁.setTop (mkF m 9 #[.val (.long q0), .second, .val (.int p1), .unset, .unset, .unset, .unset, .unset, .unset, .unset, .unset] [(.int ((p1 &&& (2147483647 : Int32)) % (23 : Int32))), (.int (8 : Int32))])) t
    refine XS.iadd X0.here hx rfl (hb hby at_9) rfl ?_
    show Steps p.tables e below (s₁.setTop (mkF m 10 #[.val (.long q0), .second, .val (.int p1), .unset, .unset, .unset, .unset, .unset, .unset, .unset, .unset] [(.int ((8 : Int32) + ((p1 &&& (2147483647 : Int32)) % (23 : Int32))))])) t
    refine XS.istoreN X0.here hx rfl (hb hby at_10) rfl (l' := #[.val (.long q0), .second, .val (.int p1), .val (.int ((8 : Int32) + ((p1 &&& (2147483647 : Int32)) % (23 : Int32)))), .unset, .unset, .unset, .unset, .unset, .unset, .unset]) rfl ?_
    exact k
  generalize hg_pf : ((8 : Int32) + ((p1 &&& (2147483647 : Int32)) % (23 : Int32))) = pf
  refine Goes.by (B := s₁.setTop (mkF m 18 #[.val (.long q0), .second, .val (.int p1), .val (.int pf), .val (.long (((4294967295 : Int64).toUInt64 >>> (pf &&& 0x3f).toInt64.toUInt64).toInt64)), .second, .unset, .unset, .unset, .unset, .unset] [])) (fun t k => ?_) ?_
  · show Steps p.tables e below (s₁.setTop (mkF m 11 #[.val (.long q0), .second, .val (.int p1), .val (.int pf), .unset, .unset, .unset, .unset, .unset, .unset, .unset] [])) t
    refine X0.ldc2Long hx hown (mvT hZ (hw _ (List.mem_of_getElem? (i := 1) rfl))) (g := (mkF m 11 #[.val (.long q0), .second, .val (.int p1), .val (.int pf), .unset, .unset, .unset, .unset, .unset, .unset, .unset] [])) rfl (hb hby at_11) _ ?_
    show Steps p.tables e below (s₁.setTop (mkF m 14 #[.val (.long q0), .second, .val (.int p1), .val (.int pf), .unset, .unset, .unset, .unset, .unset, .unset, .unset] [(.long (4294967295 : Int64))])) t
    refine XS.iloadN X0.here hx rfl (hb hby at_14) rfl ?_
    show Steps p.tables e below (s₁.setTop (mkF m 15 #[.val (.long q0), .second, .val (.int p1), .val (.int pf), .unset, .unset, .unset, .unset, .unset, .unset, .unset] [(.int pf), (.long (4294967295 : Int64))])) t
    refine XS.lushr X0.here hx rfl (hb hby at_15) rfl ?_
    show Steps p.tables e below (s₁.setTop (mkF m 16 #[.val (.long q0), .second, .val (.int p1), .val (.int pf), .unset, .unset, .unset, .unset, .unset, .unset, .unset] [(.long (((4294967295 : Int64).toUInt64 >>> (pf &&& 0x3f).toInt64.toUInt64).toInt64))])) t
    refine XS.lstore X0.here hx rfl (hb hby at_16) rfl (l' := #[.val (.long q0), .second, .val (.int p1), .val (.int pf), .val (.long (((4294967295 : Int64).toUInt64 >>> (pf &&& 0x3f).toInt64.toUInt64).toInt64)), .second, .unset, .unset, .unset, .unset, .unset]) rfl ?_
    exact k
  generalize hg_hv : (((4294967295 : Int64).toUInt64 >>> (pf &&& 0x3f).toInt64.toUInt64).toInt64) = hv
  refine Goes.by (B := s₁.setTop (mkF m 32 #[.val (.long q0), .second, .val (.int p1), .val (.int pf), .val (.long hv), .second, .val (.long ((q0 &&& (4294967295 : Int64)) &&& (hv ^^^ (-1 : Int64)))), .second, .unset, .unset, .unset] [])) (fun t k => ?_) ?_
  · show Steps p.tables e below (s₁.setTop (mkF m 18 #[.val (.long q0), .second, .val (.int p1), .val (.int pf), .val (.long hv), .second, .unset, .unset, .unset, .unset, .unset] [])) t
    refine XS.lloadN X0.here hx rfl (hb hby at_18) rfl ?_
    show Steps p.tables e below (s₁.setTop (mkF m 19 #[.val (.long q0), .second, .val (.int p1), .val (.int pf), .val (.long hv), .second, .unset, .unset, .unset, .unset, .unset] [(.long q0)])) t
    refine X0.ldc2Long hx hown (mvT hZ (hw _ (List.mem_of_getElem? (i := 1) rfl))) (g := (mkF m 19 #[.val (.long q0), .second, .val (.int p1), .val (.int pf), .val (.long hv), .second, .unset, .unset, .unset, .unset, .unset] [(.long q0)])) rfl (hb hby at_19) _ ?_
    show Steps p.tables e below (s₁.setTop (mkF m 22 #[.val (.long q0), .second, .val (.int p1), .val (.int pf), .val (.long hv), .second, .unset, .unset, .unset, .unset, .unset] [(.long (4294967295 : Int64)), (.long q0)])) t
    refine XS.land X0.here hx rfl (hb hby at_22) rfl ?_
    show Steps p.tables e below (s₁.setTop (mkF m 23 #[.val (.long q0), .second, .val (.int p1), .val (.int pf), .val (.long hv), .second, .unset, .unset, .unset, .unset, .unset] [(.long (q0 &&& (4294967295 : Int64)))])) t
    refine XS.lload X0.here hx rfl (hb hby at_23) rfl ?_
    show Steps p.tables e below (s₁.setTop (mkF m 25 #[.val (.long q0), .second, .val (.int p1), .val (.int pf), .val (.long hv), .second, .unset, .unset, .unset, .unset, .unset] [(.long hv), (.long (q0 &&& (4294967295 : Int64)))])) t
    refine X0.ldc2Long hx hown (mvT hZ (hw _ (List.mem_of_getElem? (i := 2) rfl))) (g := (mkF m 25 #[.val (.long q0), .second, .val (.int p1), .val (.int pf), .val (.long hv), .second, .unset, .unset, .unset, .unset, .unset] [(.long hv), (.long (q0 &&& (4294967295 : Int64)))])) rfl (hb hby at_25) _ ?_
    show Steps p.tables e below (s₁.setTop (mkF m 28 #[.val (.long q0), .second, .val (.int p1), .val (.int pf), .val (.long hv), .second, .unset, .unset, .unset, .unset, .unset] [(.long (-1 : Int64)), (.long hv), (.long (q0 &&& (4294967295 : Int64)))])) t
    refine XS.lxor X0.here hx rfl (hb hby at_28) rfl ?_
    show Steps p.tables e below (s₁.setTop (mkF m 29 #[.val (.long q0), .second, .val (.int p1), .val (.int pf), .val (.long hv), .second, .unset, .unset, .unset, .unset, .unset] [(.long (hv ^^^ (-1 : Int64))), (.long (q0 &&& (4294967295 : Int64)))])) t
    refine XS.land X0.here hx rfl (hb hby at_29) rfl ?_
    show Steps p.tables e below (s₁.setTop (mkF m 30 #[.val (.long q0), .second, .val (.int p1), .val (.int pf), .val (.long hv), .second, .unset, .unset, .unset, .unset, .unset] [(.long ((q0 &&& (4294967295 : Int64)) &&& (hv ^^^ (-1 : Int64))))])) t
    refine XS.lstore X0.here hx rfl (hb hby at_30) rfl (l' := #[.val (.long q0), .second, .val (.int p1), .val (.int pf), .val (.long hv), .second, .val (.long ((q0 &&& (4294967295 : Int64)) &&& (hv ^^^ (-1 : Int64)))), .second, .unset, .unset, .unset]) rfl ?_
    exact k
  generalize hg_ad : ((q0 &&& (4294967295 : Int64)) &&& (hv ^^^ (-1 : Int64))) = ad
  obtain ⟨M1, M2, M3, M4, M5, M6⟩ := own_m2 p1 pf q0 hv ad hg_pf hg_hv hg_ad
  obtain ⟨T1, h1, X1, e1, E1, A1, D1, -, st1⟩ := newO X0 hx hZ hown (hw _ (List.mem_of_getElem? (i := 3) rfl)) (hw _ (List.mem_of_getElem? (i := 4) rfl)) (hw _ (List.mem_of_getElem? (i := 5) rfl)) e0 (g := (mkF m 32 #[.val (.long q0), .second, .val (.int p1), .val (.int pf), .val (.long hv), .second, .val (.long ad), .second, .unset, .unset, .unset] [])) rfl (hb hby at_32) (by decide) (by decide)
  obtain ⟨b2, g1⟩ : ∃ z, z = h0.size := ⟨_, rfl⟩
  rw [← g1] at A1 D1 st1
  have ge3 : n0 ≤ b2 := Nat.le_trans Z0 (Nat.le_of_eq g1.symm)
  have sz4 : h0.size ≤ b2 := Nat.le_trans Kp0.1 (Nat.le_of_eq g1.symm)
  have f5 : Fld Z h1 b2 "com/example/allocat/allocat/core/Ipv4Subnet" "address" "J" (.long (0 : Int64)) := D1 (Or.inr (hw _ (List.mem_of_getElem? (i := 21) rfl))) (ty := .long) (by decide)
  have f6 : Fld Z h1 b2 "com/example/allocat/allocat/core/Ipv4Subnet" "prefix" "I" (.int (0 : Int32)) := D1 (Or.inr (hw _ (List.mem_of_getElem? (i := 23) rfl))) (ty := .int) (by decide)
  have Kp1 : Keep h0 h1 [] := Kp0.ext E1
  have Z7 : n0 ≤ h1.size := Nat.le_trans Z0 E1.1
  refine Goes.by st1 ?_
  show Goes p.tables e below _ (T1.setTop (mkF m 35 #[.val (.long q0), .second, .val (.int p1), .val (.int pf), .val (.long hv), .second, .val (.long ad), .second, .unset, .unset, .unset] [(.ref b2)]))
  refine Goes.by (B := T1.setTop (mkF m 39 #[.val (.long q0), .second, .val (.int p1), .val (.int pf), .val (.long hv), .second, .val (.long ad), .second, .unset, .unset, .unset] [(.int pf), (.long ad), (.ref b2), (.ref b2)])) (fun t k => ?_) ?_
  · show Steps p.tables e below (T1.setTop (mkF m 35 #[.val (.long q0), .second, .val (.int p1), .val (.int pf), .val (.long hv), .second, .val (.long ad), .second, .unset, .unset, .unset] [(.ref b2)])) t
    refine XS.dup X1.here hx rfl (hb hby at_35) rfl rfl ?_
    show Steps p.tables e below (T1.setTop (mkF m 36 #[.val (.long q0), .second, .val (.int p1), .val (.int pf), .val (.long hv), .second, .val (.long ad), .second, .unset, .unset, .unset] [(.ref b2), (.ref b2)])) t
    refine XS.lload X1.here hx rfl (hb hby at_36) rfl ?_
    show Steps p.tables e below (T1.setTop (mkF m 38 #[.val (.long q0), .second, .val (.int p1), .val (.int pf), .val (.long hv), .second, .val (.long ad), .second, .unset, .unset, .unset] [(.long ad), (.ref b2), (.ref b2)])) t
    refine XS.iloadN X1.here hx rfl (hb hby at_38) rfl ?_
    exact k
  obtain ⟨_, _, ⟨T8, L8, k8, n8⟩, -, X8, ⟨Lc8, hQ8, l8, y8, z8⟩, st8⟩ := X1.specialBack hx (y := (⟨"com/example/allocat/allocat/core/Ipv4Subnet", "<init>", "(JI)V"⟩ : MethodName)) rfl hown (mvT hZ (hw _ (List.mem_of_getElem? (i := 6) rfl))) (mvT hZ (hw _ (List.mem_of_getElem? (i := 7) rfl))) (mvT hZ (hw _ (List.mem_of_getElem? (i := 8) rfl))) (by decide) (backOf (W := 1) (rmIni l Z az hw [] b2 ad pf h1 n0 Z7 A1 f5 f6 ge3 M1 M2 M3) hZ (hw _ (List.mem_of_getElem? (i := 8) rfl)) (hw _ (List.mem_of_getElem? (i := 5) rfl)) (by decide) (by decide)) (g := (mkF m 39 #[.val (.long q0), .second, .val (.int p1), .val (.int pf), .val (.long hv), .second, .val (.long ad), .second, .unset, .unset, .unset] [(.int pf), (.long ad), (.ref b2), (.ref b2)])) rfl (by rw [hml]; rfl) (Steps.refl _) (a := b2) (argsL := [(.long ad), (.int pf)]) (rest := [(.ref b2)]) (lenOf own_pd2 rfl) rfl (by show 2 * 0 + _ ≤ _; exact Nat.le_of_eq rfl) (hb hby at_39) (fun _ _ => ⟨rfl, e1, (by decide : 1 + 0 ≤ _), (by decide : 2 + 0 ≤ _)⟩)
  dsimp only [Pt.U, Pt.locs, Pt.cells, Pt.slots] at X8 l8 y8 z8 st8 hQ8
  subst l8 y8 z8
  obtain ⟨rfl, N8q, K8, f9, f10, f11⟩ := hQ8
  have f12 : Exa Z T8.heap b2 "com/example/allocat/allocat/core/Ipv4Subnet" := A1.keep K8
  have Kp8 : Keep h0 T8.heap [] := Kp1.trans K8 (allS (Or.inr sz4) all0)
  have Z13 : n0 ≤ T8.heap.size := Nat.le_trans Z7 K8.1
  have N14 := Fr.app N0 N8q
  refine Goes.by (fun _ k => st8.trans k) ?_
  show Goes p.tables e below _ (T8.setTop (mkF m 42 #[.val (.long q0), .second, .val (.int p1), .val (.int pf), .val (.long hv), .second, .val (.long ad), .second, .unset, .unset, .unset] [(.ref b2)]))
  refine Goes.by (B := T8.setTop (mkF m 46 #[.val (.long q0), .second, .val (.int p1), .val (.int pf), .val (.long hv), .second, .val (.long ad), .second, .val (.ref b2), .unset, .unset] [(.ref b2)])) (fun t k => ?_) ?_
  · show Steps p.tables e below (T8.setTop (mkF m 42 #[.val (.long q0), .second, .val (.int p1), .val (.int pf), .val (.long hv), .second, .val (.long ad), .second, .unset, .unset, .unset] [(.ref b2)])) t
    refine XS.astore X8.here hx rfl (hb hby at_42) rfl rfl (l' := #[.val (.long q0), .second, .val (.int p1), .val (.int pf), .val (.long hv), .second, .val (.long ad), .second, .val (.ref b2), .unset, .unset]) rfl ?_
    show Steps p.tables e below (T8.setTop (mkF m 44 #[.val (.long q0), .second, .val (.int p1), .val (.int pf), .val (.long hv), .second, .val (.long ad), .second, .val (.ref b2), .unset, .unset] [])) t
    refine XS.aload X8.here hx rfl (hb hby at_44) rfl rfl ?_
    exact k
  obtain ⟨cq15, kq15, q15a, q15b, q15c⟩ := isOf hZ rfl f9
  obtain ⟨_, _, ⟨T15, L15, k15, n15⟩, -, X15, ⟨Lc15, hQ15, l15, y15, z15⟩, st15⟩ := X8.virtualBack hx (y := (⟨"com/example/allocat/allocat/core/Ipv4Subnet", "last", "()J"⟩ : MethodName)) (z := (⟨"com/example/allocat/allocat/core/Ipv4Subnet", "last", "()J"⟩ : MethodName)) hown (mvT hZ (hw _ (List.mem_of_getElem? (i := 24) rfl))) (mvT hZ (hw _ (List.mem_of_getElem? (i := 25) rfl))) (notFace_of_selects (args := #[]) (mvT hZ (hw _ (List.mem_of_getElem? (i := 27) rfl)))) (mvT hZ (hw _ (List.mem_of_getElem? (i := 27) rfl))) (mvT hZ (hw _ (List.mem_of_getElem? (i := 26) rfl))) (by decide) (backOf (W := 0) (rmLast l Z az hw [] b2 ad pf T8.heap n0 Z13 f10 f11) hZ (hw _ (List.mem_of_getElem? (i := 28) rfl)) (hw _ (List.mem_of_getElem? (i := 5) rfl)) (by decide) (by decide)) q15a q15c (g := (mkF m 46 #[.val (.long q0), .second, .val (.int p1), .val (.int pf), .val (.long hv), .second, .val (.long ad), .second, .val (.ref b2), .unset, .unset] [(.ref b2)])) rfl (by rw [hml]; rfl) (Steps.refl _) (argsL := []) (rest := []) (lenOf own_pd3 rfl) rfl (by show 2 * 0 + _ ≤ _; exact Nat.le_of_eq rfl) (hb hby at_46) (fun _ _ => ⟨rfl, rfl, (by decide : 1 + 0 ≤ _), (by decide : 2 + 0 ≤ _)⟩)
  dsimp only [Pt.U, Pt.locs, Pt.cells, Pt.slots] at X15 l15 y15 z15 st15 hQ15
  subst l15 y15 z15
  obtain ⟨rfl, N15q, e15⟩ := hQ15
  have N16 := Fr.app N14 N15q
  refine Goes.by (fun _ k => st15.trans k) ?_
  show Goes p.tables e below _ (T15.setTop (mkF m 49 #[.val (.long q0), .second, .val (.int p1), .val (.int pf), .val (.long hv), .second, .val (.long ad), .second, .val (.ref b2), .unset, .unset] [(.long (ad ||| (fHm pf)))]))
  refine Goes.by (B := T15.setTop (mkF m 84 #[.val (.long q0), .second, .val (.int p1), .val (.int pf), .val (.long hv), .second, .val (.long ad), .second, .val (.ref b2), .val (.long (ad ||| (fHm pf))), .second] [(.int (1 : Int32))])) (fun t k => ?_) ?_
  · show Steps p.tables e below (T15.setTop (mkF m 49 #[.val (.long q0), .second, .val (.int p1), .val (.int pf), .val (.long hv), .second, .val (.long ad), .second, .val (.ref b2), .unset, .unset] [(.long (ad ||| (fHm pf)))])) t
    refine XS.lstore X15.here hx rfl (hb hby at_49) rfl (l' := #[.val (.long q0), .second, .val (.int p1), .val (.int pf), .val (.long hv), .second, .val (.long ad), .second, .val (.ref b2), .val (.long (ad ||| (fHm pf))), .second]) rfl ?_
    show Steps p.tables e below (T15.setTop (mkF m 51 #[.val (.long q0), .second, .val (.int p1), .val (.int pf), .val (.long hv), .second, .val (.long ad), .second, .val (.ref b2), .val (.long (ad ||| (fHm pf))), .second] [])) t
    refine XS.lload X15.here hx rfl (hb hby at_51) rfl ?_
    show Steps p.tables e below (T15.setTop (mkF m 53 #[.val (.long q0), .second, .val (.int p1), .val (.int pf), .val (.long hv), .second, .val (.long ad), .second, .val (.ref b2), .val (.long (ad ||| (fHm pf))), .second] [(.long (ad ||| (fHm pf)))])) t
    refine XS.lload X15.here hx rfl (hb hby at_53) rfl ?_
    show Steps p.tables e below (T15.setTop (mkF m 55 #[.val (.long q0), .second, .val (.int p1), .val (.int pf), .val (.long hv), .second, .val (.long ad), .second, .val (.ref b2), .val (.long (ad ||| (fHm pf))), .second] [(.long ad), (.long (ad ||| (fHm pf)))])) t
    refine XS.lload X15.here hx rfl (hb hby at_55) rfl ?_
    show Steps p.tables e below (T15.setTop (mkF m 57 #[.val (.long q0), .second, .val (.int p1), .val (.int pf), .val (.long hv), .second, .val (.long ad), .second, .val (.ref b2), .val (.long (ad ||| (fHm pf))), .second] [(.long hv), (.long ad), (.long (ad ||| (fHm pf)))])) t
    refine XS.ladd X15.here hx rfl (hb hby at_57) rfl ?_
    show Steps p.tables e below (T15.setTop (mkF m 58 #[.val (.long q0), .second, .val (.int p1), .val (.int pf), .val (.long hv), .second, .val (.long ad), .second, .val (.ref b2), .val (.long (ad ||| (fHm pf))), .second] [(.long (ad + hv)), (.long (ad ||| (fHm pf)))])) t
    refine XS.lcmp X15.here hx rfl (hb hby at_58) rfl ?_
    show Steps p.tables e below (T15.setTop (mkF m 59 #[.val (.long q0), .second, .val (.int p1), .val (.int pf), .val (.long hv), .second, .val (.long ad), .second, .val (.ref b2), .val (.long (ad ||| (fHm pf))), .second] [(.int (lcmpW (ad ||| (fHm pf)) (ad + hv)))])) t
    refine XS.ifNo X15.here hx rfl (hb hby at_59) rfl ((if0 _ _).trans (teq ((lw_eq (ad ||| (fHm pf)) (ad + hv)).mpr M4)).2) ?_
    show Steps p.tables e below (T15.setTop (mkF m 62 #[.val (.long q0), .second, .val (.int p1), .val (.int pf), .val (.long hv), .second, .val (.long ad), .second, .val (.ref b2), .val (.long (ad ||| (fHm pf))), .second] [])) t
    refine XS.lload X15.here hx rfl (hb hby at_62) rfl ?_
    show Steps p.tables e below (T15.setTop (mkF m 64 #[.val (.long q0), .second, .val (.int p1), .val (.int pf), .val (.long hv), .second, .val (.long ad), .second, .val (.ref b2), .val (.long (ad ||| (fHm pf))), .second] [(.long (ad ||| (fHm pf)))])) t
    refine X15.ldc2Long hx hown (mvT hZ (hw _ (List.mem_of_getElem? (i := 1) rfl))) (g := (mkF m 64 #[.val (.long q0), .second, .val (.int p1), .val (.int pf), .val (.long hv), .second, .val (.long ad), .second, .val (.ref b2), .val (.long (ad ||| (fHm pf))), .second] [(.long (ad ||| (fHm pf)))])) rfl (hb hby at_64) _ ?_
    show Steps p.tables e below (T15.setTop (mkF m 67 #[.val (.long q0), .second, .val (.int p1), .val (.int pf), .val (.long hv), .second, .val (.long ad), .second, .val (.ref b2), .val (.long (ad ||| (fHm pf))), .second] [(.long (4294967295 : Int64)), (.long (ad ||| (fHm pf)))])) t
    refine XS.lcmp X15.here hx rfl (hb hby at_67) rfl ?_
    show Steps p.tables e below (T15.setTop (mkF m 68 #[.val (.long q0), .second, .val (.int p1), .val (.int pf), .val (.long hv), .second, .val (.long ad), .second, .val (.ref b2), .val (.long (ad ||| (fHm pf))), .second] [(.int (lcmpW (ad ||| (fHm pf)) (4294967295 : Int64)))])) t
    refine XS.ifNo X15.here hx rfl (hb hby at_68) rfl ((if0 _ _).trans (flt (fun z => M5 ((lw_gt (ad ||| (fHm pf)) (4294967295 : Int64)).mp z))).2.2.1) ?_
    show Steps p.tables e below (T15.setTop (mkF m 71 #[.val (.long q0), .second, .val (.int p1), .val (.int pf), .val (.long hv), .second, .val (.long ad), .second, .val (.ref b2), .val (.long (ad ||| (fHm pf))), .second] [])) t
    refine XS.lload X15.here hx rfl (hb hby at_71) rfl ?_
    show Steps p.tables e below (T15.setTop (mkF m 73 #[.val (.long q0), .second, .val (.int p1), .val (.int pf), .val (.long hv), .second, .val (.long ad), .second, .val (.ref b2), .val (.long (ad ||| (fHm pf))), .second] [(.long (ad ||| (fHm pf)))])) t
    refine XS.lload X15.here hx rfl (hb hby at_73) rfl ?_
    show Steps p.tables e below (T15.setTop (mkF m 75 #[.val (.long q0), .second, .val (.int p1), .val (.int pf), .val (.long hv), .second, .val (.long ad), .second, .val (.ref b2), .val (.long (ad ||| (fHm pf))), .second] [(.long ad), (.long (ad ||| (fHm pf)))])) t
    refine XS.lcmp X15.here hx rfl (hb hby at_75) rfl ?_
    show Steps p.tables e below (T15.setTop (mkF m 76 #[.val (.long q0), .second, .val (.int p1), .val (.int pf), .val (.long hv), .second, .val (.long ad), .second, .val (.ref b2), .val (.long (ad ||| (fHm pf))), .second] [(.int (lcmpW (ad ||| (fHm pf)) ad))])) t
    refine XS.ifNo X15.here hx rfl (hb hby at_76) rfl ((if0 _ _).trans (flt (fun z => M6 ((lw_lt (ad ||| (fHm pf)) ad).mp z))).1) ?_
    show Steps p.tables e below (T15.setTop (mkF m 79 #[.val (.long q0), .second, .val (.int p1), .val (.int pf), .val (.long hv), .second, .val (.long ad), .second, .val (.ref b2), .val (.long (ad ||| (fHm pf))), .second] [])) t
    refine XS.iconst X15.here hx rfl (hb hby at_79) ?_
    show Steps p.tables e below (T15.setTop (mkF m 80 #[.val (.long q0), .second, .val (.int p1), .val (.int pf), .val (.long hv), .second, .val (.long ad), .second, .val (.ref b2), .val (.long (ad ||| (fHm pf))), .second] [(.int (1 : Int32))])) t
    refine XS.goto X15.here hx rfl (pc0 := 80) (pc' := 84) rfl (hb hby at_80) (by decide) (by decide) ?_
    exact k
  obtain ⟨fs, hr, hrun, hended, hW, hsame⟩ := X15.leave (v := some (.int (1 : Int32))) (fun h => by rw [Bd.returns] at h; cases h)
  refine Goes.mk _ _ ?_ ⟨hrun, hended, _, _, rfl, ?_, ⟨_, rfl⟩, hW, hsame.mono (by decide) (by decide)⟩
  · exact retN X15 hx (t := .boolean) Bd.returns (by simp) (hb hby at_84) hr
  · show Q0 Z q0 p1 h0 n0 _ T15.heap _
    rw [e15]
    exact ⟨rfl, N16⟩
set_option maxRecDepth 65536 in
set_option maxHeartbeats 40000000 in
theorem comes_1 {Post : Tables → Env → Array Value → State → Outcome → State → Prop} (hpost : ∀ tb e args s v u, (limb_1_1.after args s (.returned v) u = true ∧ limb_1_2.after args s (.returned v) u = true ∧ True) → FrameEnd s (.returned v) u (Jvm.fieldLocs frame_1_writes args s ++ Jvm.arrayLocs frame_1_arrays args s ++ Jvm.staticLocs frame_1_statics s) 16 128 → Post tb e args s (.returned v) u) :
    ArmFor flags0 classFile x code maxLocals ret World_1 tables_1 room_1 Calls_1 rest_1 Pre_1 Post := by
  intro l hfl _ _ p e ha hc hk s m args below hf hA hF happ hP
  obtain ⟨hcalls, hrest, hpre⟩ := hP
  obtain ⟨-, -, -, hnamed, -, -, -, hat⟩ := (Spec.applies_iff hf).mp happ
  obtain ⟨hg, hn⟩ := and_e (Cond.before_iff.mp (show (Jvm.Cond.and given_1 narrow_1).before args s = true from hpre))
  obtain ⟨gg1, gg2⟩ := and_e hg
  obtain ⟨gg3, gg4⟩ := and_e gg2
  obtain ⟨w0, w1, rfl⟩ : ∃ w0 w1 : Value, args = #[w0, w1] := by
    have hs : args.size = 2 := by simpa [Cond.value, given_1] using gg1
    obtain ⟨L⟩ := args
    match L, hs with
    | [w0, w1], _ => exact ⟨w0, w1, rfl⟩
  have hw := fun d (hd : d ∈ tables_1) => atoms_spec (ws := Jvm.Cond.code x code maxLocals ret :: tables_1) hat d (List.mem_cons_of_mem _ hd)
  have hfit : Fit s := fun {y c} hc i hi => by
    obtain ⟨ha, rfl⟩ := Array.getElem?_eq_some_iff.mp hc
    have q := List.all_eq_true.mp ((Array.all_eq_true_iff_forall_mem.mp hF) _ (Array.getElem_mem ha)) i (List.mem_range.mpr hi)
    simpa [Array.getElem?_eq_getElem hi] using q
  obtain ⟨i0, ei0⟩ := isL_v gg3
  obtain rfl : w0 = (.long i0) := Option.some.inj ei0
  obtain ⟨i1, ei1⟩ := is_v gg4
  obtain rfl : w1 = (.int i1) := Option.some.inj ei1
  obtain ⟨n, o, h1, h2, h3, _, L, rfl, ⟨rfl, N⟩, hq⟩ := rm0 l s _ hw tables_1 i0 i1 s.heap s.heap.size (Nat.le_refl _)  p e ha hc hk s m _ below hf ((Spec.applies_iff_loose hf).mp happ).1 ⟨rfl, State.Warmed39.refl s, rfl⟩ trivial
  refine ⟨n, _, h1, h2, h3, hpost _ _ _ _ _ _ ⟨Cond.after_iff.mpr rfl, Cond.after_iff.mpr (eq_i res_at (Term.int_eval (1)) rfl), trivial⟩ ⟨hq.1, hq.2.1, (hq.2.2.sift fun y hy => Or.inr (N y hy)).mono (by decide) (by decide)⟩⟩
theorem main_1_1 : Claimed_1_1 := comes_1 fun _ _ _ _ _ _ h hF => ⟨h.1, hF⟩
theorem main_1_2 : Claimed_1_2 := comes_1 fun _ _ _ _ _ _ h hF => ⟨h.2.1, hF⟩
end Jvm.Pilot.@@N@@
namespace Jvm.Pilot.@@N@@
open Jvm Jvm.ClassFile Sem Op Lib Jvm.Free Jvm.Stand Jvm.Pilot.@@N@@.Jvm.D
/-! MADE BY PROGRAM (witnessworld.py) out of the Statement's table words and the real class files: 10 classes; the members and pool entries that the words name. The judged class is class 1, her method 1. -/
namespace start1
open Jvm.ClassFile
def u (s : String) : CpInfo := .utf8 (stringToUtf16 s)
/-- a pool by its gaps: so many unusable entries, then the entry; so many at the end -/
def gap : Nat → List CpInfo → List CpInfo
  | 0, r => r
  | n + 1, r => .unusable :: gap n r
def poolList (es : List (Nat × CpInfo)) (last : Nat) : List CpInfo := es.foldr (fun e r => gap e.1 (e.2 :: r)) (gap last [])
def pool (es : List (Nat × CpInfo)) (last : Nat) : Array CpInfo := ⟨poolList es last⟩
def fileOf (pool : Array CpInfo) (this : Nat) (attrs : Array Attribute := #[]) (ms : Array MethodInfo := #[]) (fl : Nat := 33) (sup : Nat := 0) (ifs : Array Nat := #[]) (fds : Array FieldInfo := #[]) : ClassFile where
  minorVersion := 0
  majorVersion := 65
  constantPool := pool
  accessFlags := fl
  thisClass := this
  superClass := sup
  interfaces := ifs
  fields := fds
  methods := ms
  attributes := attrs
def plain (name : String) (sup : Option ClassId) : Class where
  name := name
  kind := .ordinary
  loader := none
  accessFlags := 33
  super := sup
  interfaces := #[]
  cf := none
  fields := #[]
  methods := #[]
  instanceTypes := #[]
  staticTypes := #[]
  resolved := #[]
  callSites := []
  init := .initialized
  statics := none
  mirror := none

def pool0 : Array CpInfo := pool [(5, u "<init>"), (0, u "()V"), (1, .class_ 10), (1, u "java/lang/Object")] 113

def k0c0 : Code := { maxStack := 0, maxLocals := 1, code := object_method_1_code, exceptionTable := #[], attributes := #[] }
def k0m0 : Method := { name := "<init>", desc := "()V", sig := { parameters := [], returnType := none }, accessFlags := 1, code := some k0c0 }
/-- java/lang/Object -/
def k0 : Class := { plain "java/lang/Object" none with
  accessFlags := 33
  interfaces := #[]
  cf := some (fileOf pool0 8 #[] #[{ accessFlags := 1, nameIndex := 5, descriptorIndex := 6, attributes := #[] }] 33 0 #[] #[])
  fields := #[]
  methods := #[k0m0]
  instanceTypes := #[]
  staticTypes := #[]
  resolved := Array.replicate 124 none
  statics := none }

def pool1 : Array CpInfo := pool [(2, .class_ 4), (1, u "java/lang/Object"), (0, u "<init>"), (0, u "()V"), (0, .class_ 8), (0, u "com/example/allocat/allocat/core/Ipv4Subnet"), (0, .integer 2147483647), (0, .long 4294967295), (1, .long 18446744073709551615), (1, .methodref 7 15), (0, .nameAndType 5 16), (0, u "(JI)V"), (0, .methodref 7 18), (0, .nameAndType 19 20), (0, u "last"), (0, u "()J"), (0, .class_ 22), (0, u "com/example/allocat/allocat/core/Ipv4SubnetLastPinLaw"), (2, u "law"), (0, u "(JI)Z")] 3

def k1m0 : Method := { name := "<init>", desc := "()V", sig := { parameters := [], returnType := none }, accessFlags := 1, code := none }
def k1c1 : Code := { maxStack := 6, maxLocals := 11, code := code, exceptionTable := #[], attributes := #[] }
def k1m1 : Method := { name := "law", desc := "(JI)Z", sig := { parameters := [.long, .int], returnType := some .boolean }, accessFlags := 9, code := some k1c1 }
/-- com/example/allocat/allocat/core/Ipv4SubnetLastPinLaw -/
def k1 : Class := { plain "com/example/allocat/allocat/core/Ipv4SubnetLastPinLaw" (some 0) with
  accessFlags := 49
  interfaces := #[]
  cf := some (fileOf pool1 21 #[] #[{ accessFlags := 1, nameIndex := 5, descriptorIndex := 6, attributes := #[] }, { accessFlags := 9, nameIndex := 25, descriptorIndex := 26, attributes := #[] }] 49 2 #[] #[])
  fields := #[]
  methods := #[k1m0, k1m1]
  instanceTypes := #[]
  staticTypes := #[]
  resolved := Array.replicate 30 none
  statics := none }

def pool2 : Array CpInfo := pool [(1, .methodref 2 3), (0, .class_ 4), (0, .nameAndType 5 6), (0, u "java/lang/Object"), (0, u "<init>"), (0, u "()V"), (0, .class_ 8), (0, u "java/lang/Record")] 13

def k2c0 : Code := { maxStack := 1, maxLocals := 1, code := jdk_30_method_1_code, exceptionTable := #[], attributes := #[] }
def k2m0 : Method := { name := "<init>", desc := "()V", sig := { parameters := [], returnType := none }, accessFlags := 4, code := some k2c0 }
/-- java/lang/Record -/
def k2 : Class := { plain "java/lang/Record" (some 0) with
  accessFlags := 1057
  interfaces := #[]
  cf := some (fileOf pool2 7 #[] #[{ accessFlags := 4, nameIndex := 5, descriptorIndex := 6, attributes := #[] }] 1057 2 #[] #[])
  fields := #[]
  methods := #[k2m0]
  instanceTypes := #[]
  staticTypes := #[]
  resolved := Array.replicate 22 none
  statics := none }

def pool3 : Array CpInfo := pool [(1, .methodref 2 3), (0, .class_ 4), (0, .nameAndType 5 6), (0, u "java/lang/Record"), (0, u "<init>"), (0, u "()V"), (0, .class_ 8), (0, u "com/example/allocat/allocat/core/Ipv4Subnet"), (7, .methodref 7 17), (0, .nameAndType 18 19), (0, u "hostMask"), (0, u "(I)J"), (12, .fieldref 7 33), (0, .nameAndType 34 35), (0, u "address"), (0, u "J"), (0, .fieldref 7 37), (0, .nameAndType 38 39), (0, u "prefix"), (0, u "I"), (38, u "(JI)V"), (2, u "last"), (0, u "()J"), (18, u "MIN_PREFIX"), (2, u "MAX_PREFIX")] 48

def k3c0 : Code := { maxStack := 8, maxLocals := 4, code := prog_11_method_1_code, exceptionTable := #[], attributes := #[] }
def k3m0 : Method := { name := "<init>", desc := "(JI)V", sig := { parameters := [.long, .int], returnType := none }, accessFlags := 1, code := some k3c0 }
def k3c1 : Code := { maxStack := 4, maxLocals := 1, code := prog_11_method_3_code, exceptionTable := #[], attributes := #[] }
def k3m1 : Method := { name := "last", desc := "()J", sig := { parameters := [], returnType := some .long }, accessFlags := 1, code := some k3c1 }
def k3c2 : Code := { maxStack := 4, maxLocals := 1, code := prog_11_method_9_code, exceptionTable := #[], attributes := #[] }
def k3m2 : Method := { name := "hostMask", desc := "(I)J", sig := { parameters := [.int], returnType := some .long }, accessFlags := 10, code := some k3c2 }
/-- com/example/allocat/allocat/core/Ipv4Subnet -/
def k3 : Class := { plain "com/example/allocat/allocat/core/Ipv4Subnet" (some 2) with
  accessFlags := 49
  interfaces := #[]
  cf := some (fileOf pool3 7 #[] #[{ accessFlags := 1, nameIndex := 5, descriptorIndex := 78, attributes := #[] }, { accessFlags := 1, nameIndex := 81, descriptorIndex := 82, attributes := #[] }, { accessFlags := 10, nameIndex := 18, descriptorIndex := 19, attributes := #[] }] 49 2 #[] #[{ accessFlags := 18, nameIndex := 34, descriptorIndex := 35, attributes := #[] }, { accessFlags := 18, nameIndex := 38, descriptorIndex := 39, attributes := #[] }, { accessFlags := 25, nameIndex := 101, descriptorIndex := 39, attributes := #[] }, { accessFlags := 25, nameIndex := 104, descriptorIndex := 39, attributes := #[] }])
  fields := #[{ name := "address", type := .long, accessFlags := 18, slot := 0, constantValue := 0 }, { name := "prefix", type := .int, accessFlags := 18, slot := 1, constantValue := 0 }, { name := "MIN_PREFIX", type := .int, accessFlags := 25, slot := 0, constantValue := 0 }, { name := "MAX_PREFIX", type := .int, accessFlags := 25, slot := 1, constantValue := 0 }]
  methods := #[k3m0, k3m1, k3m2]
  instanceTypes := #[.long, .int]
  staticTypes := #[.int, .int]
  resolved := Array.replicate 153 none
  statics := none }

def pool4 : Array CpInfo := pool [(1, u "java/lang/Cloneable"), (0, .class_ 1), (0, u "java/lang/Object"), (0, .class_ 3)] 3

/-- java/lang/Cloneable -/
def k4 : Class := { plain "java/lang/Cloneable" (some 0) with
  accessFlags := 1537
  interfaces := #[]
  cf := some (fileOf pool4 2 #[] #[] 1537 4 #[] #[])
  fields := #[]
  methods := #[]
  instanceTypes := #[]
  staticTypes := #[]
  resolved := Array.replicate 8 none
  statics := none }

def pool5 : Array CpInfo := pool [(1, u "java/io/Serializable"), (0, .class_ 1), (0, u "java/lang/Object"), (0, .class_ 3)] 3

/-- java/io/Serializable -/
def k5 : Class := { plain "java/io/Serializable" (some 0) with
  accessFlags := 1537
  interfaces := #[]
  cf := some (fileOf pool5 2 #[] #[] 1537 4 #[] #[])
  fields := #[]
  methods := #[]
  instanceTypes := #[]
  staticTypes := #[]
  resolved := Array.replicate 8 none
  statics := none }

/-- the primitive byte -/
def k6 : Class := { plain "byte" none with kind := .primitive 'B', accessFlags := 0x411 }
/-- [B -/
def k7 : Class := { plain "[B" (some 0) with kind := .array 6 .byte, interfaces := #[4, 5], accessFlags := 1041 }

/-- the primitive int -/
def k8 : Class := { plain "int" none with kind := .primitive 'I', accessFlags := 0x411 }
/-- [I -/
def k9 : Class := { plain "[I" (some 0) with kind := .array 8 .int, interfaces := #[4, 5], accessFlags := 1041 }

def heap : Heap := #[]
def classes : Array Class := #[k0, k1, k2, k3, k4, k5, k6, k7, k8, k9]
def interned : List (Array UInt16 × Addr) := []
def slotsUsed : Nat := 0
def theMethod : MethodId := ⟨1, 1⟩
def args0 : Array Value := #[.long 5, .int 7]
def aboutOver (below : List Frame) : State where
  vm := { classes := classes, interned := interned.toArray }
  heap := heap
  slotsUsed := slotsUsed
  threads := #[{ frames := .invoking theMethod args0 :: below }]
def below0 : List Frame := [.native { method := ⟨0, 0⟩, args := #[] }]
def about1 : State := aboutOver below0
def p0 : Program := .bare "" "" ""
def e0 : Env := launch0.env 0 0 0
theorem w_frames : about1.frames = Frame.invoking theMethod args0 :: below0 := rfl
set_option maxRecDepth 65536 in
theorem w_args : argsFit about1.vm theMethod args0 = true := by decide +kernel
set_option maxRecDepth 65536 in
theorem w_heap : heapFits about1 = true := by decide +kernel
set_option maxRecDepth 65536 in
theorem w_runnable : about1.curStatus? = some .runnable := by decide +kernel
set_option maxRecDepth 65536 in
theorem w_alone : about1.alone = true := by decide +kernel
set_option maxRecDepth 65536 in
theorem w_named : about1.methodNamed? x = some theMethod := by decide +kernel
set_option maxRecDepth 65536 in
theorem w_hears : about1.hears theMethod below0 = true := by decide +kernel
set_option maxRecDepth 65536 in
theorem w_ripe : about1.ripe theMethod args0 below0 = true := by decide +kernel
theorem w_running : about1.status = .running := rfl
set_option maxRecDepth 65536 in
theorem w_room : about1.hasRoom e0.platform room_1 = true :=
  launch0.hasRoom_least _ room_1 (by decide +kernel) (by decide +kernel) (by decide +kernel) (by decide +kernel) (by decide +kernel) (by decide +kernel)
theorem allAtoms_all (ts : List Jvm.Cond) (a : Array Jvm.Value) (st : Jvm.State) : (allAtoms ts).before a st = ts.all (fun c => c.before a st) := by
  induction ts with
  | nil => rfl
  | cons c t ih =>
    show (Jvm.Cond.and c (allAtoms t)).before a st = _
    rw [Jvm.Cond.before_and, ih, List.all_cons]
def words1 : List Jvm.Cond := Jvm.Cond.code x code maxLocals ret :: tables_1
/-- a 'code' word, met by the world's own term for the bytes: nothing is compared byte by byte -/
theorem code_word {y : MethodName} {bytes : ByteArray} {mx : Nat} {rt : Option FieldType} {a : Array Value} {s : State} {m : MethodId} {meth : Method} {c : Code} (h1 : s.methodNamed? y = some m) (h2 : s.vm.method? m = some meth) (h3 : meth.code = some c) (h4 : c.code = bytes)
    (h5 : (c.maxLocals == mx && c.exceptionTable.isEmpty && decide (c.maxStack ≤ mostOperands) && decide (meth.sig.returnType = rt) && !meth.locks && decide (parseMethodDescriptor y.desc = some meth.sig)) = true) : (Jvm.Cond.code y bytes mx rt).before a s = true := by
  simp only [Bool.and_eq_true, beq_iff_eq, Bool.not_eq_true', decide_eq_true_eq] at h5
  obtain ⟨⟨⟨⟨⟨g1, g2⟩, g3⟩, g4⟩, g5⟩, g6⟩ := h5
  simp [Cond.before, Cond.holds, Cond.value, h1, h2, h3, h4, g1, g2, g3, g4, g5, g6]
def isCode : Jvm.Cond → Bool
  | .code _ _ _ _ => true
  | _ => false
theorem all_split {L : List Jvm.Cond} {P : Jvm.Cond → Bool} (h1 : L.all (fun c => isCode c || P c) = true) (h2 : ∀ c ∈ L.filter isCode, P c = true) : L.all P = true := by
  refine List.all_eq_true.mpr fun c hc => ?_
  have h := List.all_eq_true.mp h1 c hc
  rcases Bool.eq_false_or_eq_true (isCode c) with hi | hi
  · exact h2 c (List.mem_filter.mpr ⟨hc, hi⟩)
  · simpa [hi] using h
set_option maxRecDepth 65536 in
theorem w_c0 : (Jvm.Cond.code x code maxLocals ret).before args0 about1 = true := code_word (m := ⟨1, 1⟩) (meth := k1m1) (c := k1c1) (by decide +kernel) rfl rfl rfl (by decide +kernel)
set_option maxRecDepth 65536 in
theorem w_c1 : (Jvm.Cond.code ({ cls := "com/example/allocat/allocat/core/Ipv4Subnet", name := "<init>", desc := "(JI)V" } : Jvm.MethodName) prog_11_method_1_code (4 : Nat) (Option.none : Option Jvm.ClassFile.FieldType)).before args0 about1 = true := code_word (m := ⟨3, 0⟩) (meth := k3m0) (c := k3c0) (by decide +kernel) rfl rfl rfl (by decide +kernel)
set_option maxRecDepth 65536 in
theorem w_c2 : (Jvm.Cond.code ({ cls := "java/lang/Record", name := "<init>", desc := "()V" } : Jvm.MethodName) jdk_30_method_1_code (1 : Nat) (Option.none : Option Jvm.ClassFile.FieldType)).before args0 about1 = true := code_word (m := ⟨2, 0⟩) (meth := k2m0) (c := k2c0) (by decide +kernel) rfl rfl rfl (by decide +kernel)
set_option maxRecDepth 65536 in
theorem w_c3 : (Jvm.Cond.code ({ cls := "java/lang/Object", name := "<init>", desc := "()V" } : Jvm.MethodName) object_method_1_code (1 : Nat) (Option.none : Option Jvm.ClassFile.FieldType)).before args0 about1 = true := code_word (m := ⟨0, 0⟩) (meth := k0m0) (c := k0c0) (by decide +kernel) rfl rfl rfl (by decide +kernel)
set_option maxRecDepth 65536 in
theorem w_c4 : (Jvm.Cond.code ({ cls := "com/example/allocat/allocat/core/Ipv4Subnet", name := "hostMask", desc := "(I)J" } : Jvm.MethodName) prog_11_method_9_code (1 : Nat) (Option.some Jvm.ClassFile.FieldType.long)).before args0 about1 = true := code_word (m := ⟨3, 2⟩) (meth := k3m2) (c := k3c2) (by decide +kernel) rfl rfl rfl (by decide +kernel)
set_option maxRecDepth 65536 in
theorem w_c5 : (Jvm.Cond.code ({ cls := "com/example/allocat/allocat/core/Ipv4Subnet", name := "last", desc := "()J" } : Jvm.MethodName) prog_11_method_3_code (1 : Nat) (Option.some Jvm.ClassFile.FieldType.long)).before args0 about1 = true := code_word (m := ⟨3, 1⟩) (meth := k3m1) (c := k3c1) (by decide +kernel) rfl rfl rfl (by decide +kernel)
def codes1 : List Jvm.Cond := [Jvm.Cond.code x code maxLocals ret, Jvm.Cond.code ({ cls := "com/example/allocat/allocat/core/Ipv4Subnet", name := "<init>", desc := "(JI)V" } : Jvm.MethodName) prog_11_method_1_code (4 : Nat) (Option.none : Option Jvm.ClassFile.FieldType), Jvm.Cond.code ({ cls := "java/lang/Record", name := "<init>", desc := "()V" } : Jvm.MethodName) jdk_30_method_1_code (1 : Nat) (Option.none : Option Jvm.ClassFile.FieldType), Jvm.Cond.code ({ cls := "java/lang/Object", name := "<init>", desc := "()V" } : Jvm.MethodName) object_method_1_code (1 : Nat) (Option.none : Option Jvm.ClassFile.FieldType), Jvm.Cond.code ({ cls := "com/example/allocat/allocat/core/Ipv4Subnet", name := "hostMask", desc := "(I)J" } : Jvm.MethodName) prog_11_method_9_code (1 : Nat) (Option.some Jvm.ClassFile.FieldType.long), Jvm.Cond.code ({ cls := "com/example/allocat/allocat/core/Ipv4Subnet", name := "last", desc := "()J" } : Jvm.MethodName) prog_11_method_3_code (1 : Nat) (Option.some Jvm.ClassFile.FieldType.long)]
set_option maxRecDepth 65536 in
theorem codes_eq : words1.filter isCode = codes1 := rfl
theorem w_codes : ∀ c ∈ words1.filter isCode, c.before args0 about1 = true := by
  rw [codes_eq]
  intro c hc
  simp only [codes1, List.mem_cons, List.not_mem_nil, or_false] at hc
  rcases hc with rfl | rfl | rfl | rfl | rfl | rfl
  · exact w_c0
  · exact w_c1
  · exact w_c2
  · exact w_c3
  · exact w_c4
  · exact w_c5
set_option maxRecDepth 65536 in
theorem w_t1 : (words1.take 24).all (fun c => isCode c || c.before args0 about1) = true := by decide +kernel
set_option maxRecDepth 65536 in
theorem w_t2 : (words1.drop 24).all (fun c => isCode c || c.before args0 about1) = true := by decide +kernel
theorem w_tables : (allAtoms (Jvm.Cond.code x code maxLocals ret :: tables_1)).before args0 about1 = true := by
  rw [allAtoms_all]
  show words1.all (fun c => c.before args0 about1) = true
  refine all_split ?_ w_codes
  rw [← List.take_append_drop 24 words1, List.all_append, w_t1, w_t2]
  rfl
set_option maxRecDepth 65536 in
theorem w_case : (Jvm.Cond.and given_1 narrow_1).before args0 about1 = true := by decide +kernel
theorem w_applies : (headSpec (Jvm.Cond.code x code maxLocals ret :: tables_1) room_1).applies x e0.platform about1 = true :=
  (Spec.applies_iff w_frames).mpr ⟨w_running, w_runnable, w_alone, w_named, w_hears, w_ripe, w_room, w_tables⟩
theorem atStart : AtStart classFile x code maxLocals ret World_1 tables_1 room_1 Calls_1 rest_1 Pre_1 launch0 p0 e0 about1 theMethod args0 below0 :=
  ⟨lists_1, trivial, launch0.admits_env _ _ _, launch0.least_env, fairChoices_fair.cas, fairChoices_fair.clock, w_frames, w_args, w_heap, w_applies, trivial, trivial, w_case⟩
end start1
theorem witness_1 : WitnessClaimed_1 := ⟨start1.p0, start1.e0, start1.about1, start1.theMethod, start1.args0, start1.below0, start1.atStart⟩
end Jvm.Pilot.@@N@@
