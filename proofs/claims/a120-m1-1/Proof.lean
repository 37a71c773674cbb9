import JvmDerived
import JvmDerived.Pilot.@@N@@Statement
import JvmDerived.Pilot.@@N@@Code
set_option linter.unusedVariables false
set_option linter.unusedSimpArgs false
namespace Jvm.RoadKit
open Sem ClassFile Op Lib Jvm.Stand Jvm.Free Jvm.LawKit
section New
variable {p : Program} {l : Launch} {e : Env} {R : Room} {s : State} {m : MethodId} {args : Array Value} {below : List Frame} {meth : Method} {c : Code} {T : State} {locs : List Loc} {cells slots : Nat}
theorem retI (X : Stand p l e R s m args below meth c T locs cells slots) (hx : p.tables.exec = Jvm.exec) {pc : Nat} {Ls : Array Slot} {z : Int32} {rest : List Value} (hret : meth.sig.returnType = some .int) (hd : decode c.code pc = .ok (.ireturn, 1)) {fs : List Frame}
    (hl : ∀ (f : JFrame) (acts : List Action), f.method = m → f.locked = none → f.entered = [] → (doReturn e (T.setTop f) acts (some (.int z))).1 = T.setFrames fs) : Steps p.tables e below (T.setTop (mkF m pc Ls (.int z :: rest))) (T.setFrames fs) :=
  retOut X hx hret rfl (Or.inl ⟨rfl, Or.inl rfl, _, rfl⟩) hd hl
def Elt (Z : State) (h : Heap) (a : Addr) (ty : FieldType) (j : Int32) (v : Value) : Prop := ∃ cl : Cell, Arr Z h a cl ty ∧ ¬ (j < 0 ∨ cl.slots.size ≤ j.toNatClampNeg) ∧ cl.slots[j.toNatClampNeg]? = some v
theorem Elt.of {Z : State} {h : Heap} {a : Addr} {k : ClassId} {ty : FieldType} {n j : Int32} {vs : List Value} {d v : Value} (F : Arv Z h a k ty n vs d) (q : ¬ j < 0 ∧ j < n) (u : vs.getD j.toNatClampNeg d = v) : Elt Z h a ty j v := by
  obtain ⟨c, A, _, S, _, H, _⟩ := F
  exact ⟨c, A, inb_of S q, H.at (inb_of S q) u⟩
def Goes (tb : Tables) (e : Env) (below : List Frame) (P : State → Outcome → Prop) (A : State) : Prop := ∃ s₂ o, Steps tb e below A s₂ ∧ P s₂ o
theorem Goes.start {tb : Tables} {e : Env} {below : List Frame} {P : State → Outcome → Prop} {A : State} (h : Goes tb e below P A) : ∃ s₂ o, Steps tb e below A s₂ ∧ P s₂ o := h
theorem Goes.by {tb : Tables} {e : Env} {below : List Frame} {P : State → Outcome → Prop} {A B : State} (h : ∀ t, Steps tb e below B t → Steps tb e below A t) (g : Goes tb e below P B) : Goes tb e below P A := by
  obtain ⟨s₂, o, h1, h2⟩ := g
  exact ⟨s₂, o, h _ h1, h2⟩
theorem Goes.mk {tb : Tables} {e : Env} {below : List Frame} {P : State → Outcome → Prop} {A : State} (s₂ : State) (o : Outcome) (h : Steps tb e below A s₂) (hp : P s₂ o) : Goes tb e below P A := ⟨s₂, o, h, hp⟩
end New
end Jvm.RoadKit
namespace Jvm.Pilot.@@N@@
open Jvm Jvm.ClassFile Sem Op Lib Jvm.Free Jvm.Stand Jvm.LawKit Jvm.RoadKit Bundle Jvm.Pilot.@@N@@.Jvm.D
theorem d1_0 : decode prog_1_method_3_code 0 = .ok (.aload_n 0, 1) := by decide +kernel
theorem d1_1 : decode prog_1_method_3_code 1 = .ok (.iload_n 1, 1) := by decide +kernel
theorem d1_2 : decode prog_1_method_3_code 2 = .ok (.baload, 1) := by decide +kernel
theorem d1_3 : decode prog_1_method_3_code 3 = .ok (.bipush 24, 2) := by decide +kernel
theorem d1_5 : decode prog_1_method_3_code 5 = .ok (.ishl, 1) := by decide +kernel
theorem d1_6 : decode prog_1_method_3_code 6 = .ok (.aload_n 0, 1) := by decide +kernel
theorem d1_7 : decode prog_1_method_3_code 7 = .ok (.iload_n 1, 1) := by decide +kernel
theorem d1_8 : decode prog_1_method_3_code 8 = .ok (.iconst 1, 1) := by decide +kernel
theorem d1_9 : decode prog_1_method_3_code 9 = .ok (.iadd, 1) := by decide +kernel
theorem d1_10 : decode prog_1_method_3_code 10 = .ok (.baload, 1) := by decide +kernel
theorem d1_11 : decode prog_1_method_3_code 11 = .ok (.sipush 255, 3) := by decide +kernel
theorem d1_14 : decode prog_1_method_3_code 14 = .ok (.iand, 1) := by decide +kernel
theorem d1_15 : decode prog_1_method_3_code 15 = .ok (.bipush 16, 2) := by decide +kernel
theorem d1_17 : decode prog_1_method_3_code 17 = .ok (.ishl, 1) := by decide +kernel
theorem d1_18 : decode prog_1_method_3_code 18 = .ok (.ior, 1) := by decide +kernel
theorem d1_19 : decode prog_1_method_3_code 19 = .ok (.aload_n 0, 1) := by decide +kernel
theorem d1_20 : decode prog_1_method_3_code 20 = .ok (.iload_n 1, 1) := by decide +kernel
theorem d1_21 : decode prog_1_method_3_code 21 = .ok (.iconst 2, 1) := by decide +kernel
theorem d1_22 : decode prog_1_method_3_code 22 = .ok (.iadd, 1) := by decide +kernel
theorem d1_23 : decode prog_1_method_3_code 23 = .ok (.baload, 1) := by decide +kernel
theorem d1_24 : decode prog_1_method_3_code 24 = .ok (.sipush 255, 3) := by decide +kernel
theorem d1_27 : decode prog_1_method_3_code 27 = .ok (.iand, 1) := by decide +kernel
theorem d1_28 : decode prog_1_method_3_code 28 = .ok (.bipush 8, 2) := by decide +kernel
theorem d1_30 : decode prog_1_method_3_code 30 = .ok (.ishl, 1) := by decide +kernel
theorem d1_31 : decode prog_1_method_3_code 31 = .ok (.ior, 1) := by decide +kernel
theorem d1_32 : decode prog_1_method_3_code 32 = .ok (.aload_n 0, 1) := by decide +kernel
theorem d1_33 : decode prog_1_method_3_code 33 = .ok (.iload_n 1, 1) := by decide +kernel
theorem d1_34 : decode prog_1_method_3_code 34 = .ok (.iconst 3, 1) := by decide +kernel
theorem d1_35 : decode prog_1_method_3_code 35 = .ok (.iadd, 1) := by decide +kernel
theorem d1_36 : decode prog_1_method_3_code 36 = .ok (.baload, 1) := by decide +kernel
theorem d1_37 : decode prog_1_method_3_code 37 = .ok (.sipush 255, 3) := by decide +kernel
theorem d1_40 : decode prog_1_method_3_code 40 = .ok (.iand, 1) := by decide +kernel
theorem d1_41 : decode prog_1_method_3_code 41 = .ok (.ior, 1) := by decide +kernel
theorem d1_42 : decode prog_1_method_3_code 42 = .ok (.ireturn, 1) := by decide +kernel
def fGet (x0 : Int32) (x1 : Int32) (x2 : Int32) (x3 : Int32) : Int32 := ((((x0 <<< ((24 : Int32) &&& 31)) ||| ((x1 &&& (255 : Int32)) <<< ((16 : Int32) &&& 31))) ||| ((x2 &&& (255 : Int32)) <<< ((8 : Int32) &&& 31))) ||| (x3 &&& (255 : Int32)))
def QGet (Z : State) (a0 : Addr) (p1 : Int32) (x0 : Int32) (x1 : Int32) (x2 : Int32) (x3 : Int32) (h0 : Heap) (n0 : Nat) (v : Option Value) (h : Heap) (L : List Loc) : Prop := v = some (.int (fGet x0 x1 x2 x3)) ∧ Fr n0 L ∧ h = h0
theorem own_pn_com_example_moraine_moraine_BigEndian : plainName "com/example/moraine/moraine/BigEndian" = true := by first | (simp [plainName, overriddenIn]; done) | decide +kernel
theorem efGet (m : MethodId) (x0 : Addr) (x1 : Int32) : entryFrame m #[(.ref x0), (.int x1)] 2 = mkF m 0 #[.val (.ref x0), .val (.int x1)] [] := by first | (simp [entryFrame, mkF, argsToLocals, Value.category]; done) | rfl
set_option maxRecDepth 65536 in
set_option maxHeartbeats 40000000 in
theorem rmGet (l : Launch) (Z : State) (az : Array Value) (hw : ∀ d ∈ tables_1, d.before az Z = true) (ws : List Jvm.Cond) (a0 : Addr) (p1 : Int32) (x0 : Int32) (x1 : Int32) (x2 : Int32) (x3 : Int32) (h0 : Heap) (n0 : Nat) (Z0 : n0 ≤ h0.size) (F0 : Elt Z h0 a0 .byte p1 (.int x0)) (F1 : Elt Z h0 a0 .byte (p1 + (1 : Int32)) (.int x1)) (F2 : Elt Z h0 a0 .byte (p1 + (2 : Int32)) (.int x2)) (F3 : Elt Z h0 a0 .byte (p1 + (3 : Int32)) (.int x3)) :
    MetFree l (⟨"com/example/moraine/moraine/BigEndian", "getInt", "([BI)I"⟩ : MethodName) (head1 (Jvm.Cond.code (⟨"com/example/moraine/moraine/BigEndian", "getInt", "([BI)I"⟩ : MethodName) prog_1_method_3_code 2 (some .int) :: ws) ({ frames := 0, cells := 0, slots := 0, locals := 0 } : Room)) (fun a U => a = #[(.ref a0), (.int p1)] ∧ Z.Warmed39 U.vm ∧ U.heap = h0) (fun _ _ _ _ _ => True) (fun _ U o U' => ∃ v L, o = .returned v ∧ QGet Z a0 p1 x0 x1 x2 x3 h0 n0 v U'.heap L ∧ FrameEnd U o U' L ({ frames := 0, cells := 0, slots := 0, locals := 0 } : Room).cells ({ frames := 0, cells := 0, slots := 0, locals := 0 } : Room).slots) := by
  refine MetFree.of_bodySF (plainFor_of_name own_pn_com_example_moraine_moraine_BigEndian) hisR ?_
  intro p e s m args below meth c s₁ Bd hml0 hP hK
  obtain ⟨rfl, hZ, hh⟩ := hP
  have hx := Bd.exec
  have hby := Bd.bytes
  have hml : c.maxLocals = 2 := hml0
  have hown : s.vm.findClass "com/example/moraine/moraine/BigEndian" = some m.cls := findClass_of_methodNamed Bd.named
  have hnm := (name_of_methodNamed Bd.named Bd.method).1
  have X0 : Stand p l e ({ frames := 0, cells := 0, slots := 0, locals := 0 } : Room) s m #[(.ref a0), (.int p1)] below meth c s₁ [] 0 0 := Stand.of_body Bd
  have e0 : s₁.heap = h0 := by rw [← hh, Bd.state]; rfl
  have N0 := Fr.nil n0
  have Kp0 : Keep h0 h0 [] := Keep.refl _ _
  refine Goes.start ?_
  refine Goes.by (B := s₁.setTop (mkF m 0 #[.val (.ref a0), .val (.int p1)] [])) (fun t k => castTop (efGet m a0 p1) k) ?_
  refine Goes.by (B := s₁.setTop (mkF m 2 #[.val (.ref a0), .val (.int p1)] [(.int p1), (.ref a0)])) (fun t k => ?_) ?_
  · show Steps p.tables e below (s₁.setTop (mkF m 0 #[.val (.ref a0), .val (.int p1)] [])) t
    refine XS.aloadN X0.here hx rfl (hb hby d1_0) rfl rfl ?_
    show Steps p.tables e below (s₁.setTop (mkF m 1 #[.val (.ref a0), .val (.int p1)] [(.ref a0)])) t
    refine XS.iloadN X0.here hx rfl (hb hby d1_1) rfl ?_
    exact k
  obtain ⟨cl1, cl1A, cl1I, cl1T⟩ := F0
  refine Goes.by (B := s₁.setTop (mkF m 10 #[.val (.ref a0), .val (.int p1)] [(.int (p1 + (1 : Int32))), (.ref a0), (.int (x0 <<< ((24 : Int32) &&& 31)))])) (fun t k => ?_) ?_
  · show Steps p.tables e below (s₁.setTop (mkF m 2 #[.val (.ref a0), .val (.int p1)] [(.int p1), (.ref a0)])) t
    refine X0.baloadBytes hx (j := p1) (v := (.int x0)) (by rw [e0]; exact cl1A.1) (State.isArrayOf_alike hZ.alike cl1A.2.1) cl1A.2.2 cl1I cl1T (g := (mkF m 2 #[.val (.ref a0), .val (.int p1)] [(.int p1), (.ref a0)])) rfl rfl (hb hby d1_2) _ ?_
    show Steps p.tables e below (s₁.setTop (mkF m 3 #[.val (.ref a0), .val (.int p1)] [(.int x0)])) t
    refine XS.bipush X0.here hx rfl (hb hby d1_3) ?_
    show Steps p.tables e below (s₁.setTop (mkF m 5 #[.val (.ref a0), .val (.int p1)] [(.int (24 : Int32)), (.int x0)])) t
    refine XS.ishl X0.here hx rfl (hb hby d1_5) rfl ?_
    show Steps p.tables e below (s₁.setTop (mkF m 6 #[.val (.ref a0), .val (.int p1)] [(.int (x0 <<< ((24 : Int32) &&& 31)))])) t
    refine XS.aloadN X0.here hx rfl (hb hby d1_6) rfl rfl ?_
    show Steps p.tables e below (s₁.setTop (mkF m 7 #[.val (.ref a0), .val (.int p1)] [(.ref a0), (.int (x0 <<< ((24 : Int32) &&& 31)))])) t
    refine XS.iloadN X0.here hx rfl (hb hby d1_7) rfl ?_
    show Steps p.tables e below (s₁.setTop (mkF m 8 #[.val (.ref a0), .val (.int p1)] [(.int p1), (.ref a0), (.int (x0 <<< ((24 : Int32) &&& 31)))])) t
    refine XS.iconst X0.here hx rfl (hb hby d1_8) ?_
    show Steps p.tables e below (s₁.setTop (mkF m 9 #[.val (.ref a0), .val (.int p1)] [(.int (1 : Int32)), (.int p1), (.ref a0), (.int (x0 <<< ((24 : Int32) &&& 31)))])) t
    refine XS.iadd X0.here hx rfl (hb hby d1_9) rfl ?_
    exact k
  obtain ⟨cl2, cl2A, cl2I, cl2T⟩ := F1
  refine Goes.by (B := s₁.setTop (mkF m 23 #[.val (.ref a0), .val (.int p1)] [(.int (p1 + (2 : Int32))), (.ref a0), (.int ((x0 <<< ((24 : Int32) &&& 31)) ||| ((x1 &&& (255 : Int32)) <<< ((16 : Int32) &&& 31))))])) (fun t k => ?_) ?_
  · show Steps p.tables e below (s₁.setTop (mkF m 10 #[.val (.ref a0), .val (.int p1)] [(.int (p1 + (1 : Int32))), (.ref a0), (.int (x0 <<< ((24 : Int32) &&& 31)))])) t
    refine X0.baloadBytes hx (j := (p1 + (1 : Int32))) (v := (.int x1)) (by rw [e0]; exact cl2A.1) (State.isArrayOf_alike hZ.alike cl2A.2.1) cl2A.2.2 cl2I cl2T (g := (mkF m 10 #[.val (.ref a0), .val (.int p1)] [(.int (p1 + (1 : Int32))), (.ref a0), (.int (x0 <<< ((24 : Int32) &&& 31)))])) rfl rfl (hb hby d1_10) _ ?_
    show Steps p.tables e below (s₁.setTop (mkF m 11 #[.val (.ref a0), .val (.int p1)] [(.int x1), (.int (x0 <<< ((24 : Int32) &&& 31)))])) t
    refine XS.sipush X0.here hx rfl (hb hby d1_11) ?_
    show Steps p.tables e below (s₁.setTop (mkF m 14 #[.val (.ref a0), .val (.int p1)] [(.int (255 : Int32)), (.int x1), (.int (x0 <<< ((24 : Int32) &&& 31)))])) t
    refine XS.iand X0.here hx rfl (hb hby d1_14) rfl ?_
    show Steps p.tables e below (s₁.setTop (mkF m 15 #[.val (.ref a0), .val (.int p1)] [(.int (x1 &&& (255 : Int32))), (.int (x0 <<< ((24 : Int32) &&& 31)))])) t
    refine XS.bipush X0.here hx rfl (hb hby d1_15) ?_
    show Steps p.tables e below (s₁.setTop (mkF m 17 #[.val (.ref a0), .val (.int p1)] [(.int (16 : Int32)), (.int (x1 &&& (255 : Int32))), (.int (x0 <<< ((24 : Int32) &&& 31)))])) t
    refine XS.ishl X0.here hx rfl (hb hby d1_17) rfl ?_
    show Steps p.tables e below (s₁.setTop (mkF m 18 #[.val (.ref a0), .val (.int p1)] [(.int ((x1 &&& (255 : Int32)) <<< ((16 : Int32) &&& 31))), (.int (x0 <<< ((24 : Int32) &&& 31)))])) t
    refine XS.ior X0.here hx rfl (hb hby d1_18) rfl ?_
    show Steps p.tables e below (s₁.setTop (mkF m 19 #[.val (.ref a0), .val (.int p1)] [(.int ((x0 <<< ((24 : Int32) &&& 31)) ||| ((x1 &&& (255 : Int32)) <<< ((16 : Int32) &&& 31))))])) t
    refine XS.aloadN X0.here hx rfl (hb hby d1_19) rfl rfl ?_
    show Steps p.tables e below (s₁.setTop (mkF m 20 #[.val (.ref a0), .val (.int p1)] [(.ref a0), (.int ((x0 <<< ((24 : Int32) &&& 31)) ||| ((x1 &&& (255 : Int32)) <<< ((16 : Int32) &&& 31))))])) t
    refine XS.iloadN X0.here hx rfl (hb hby d1_20) rfl ?_
    show Steps p.tables e below (s₁.setTop (mkF m 21 #[.val (.ref a0), .val (.int p1)] [(.int p1), (.ref a0), (.int ((x0 <<< ((24 : Int32) &&& 31)) ||| ((x1 &&& (255 : Int32)) <<< ((16 : Int32) &&& 31))))])) t
    refine XS.iconst X0.here hx rfl (hb hby d1_21) ?_
    show Steps p.tables e below (s₁.setTop (mkF m 22 #[.val (.ref a0), .val (.int p1)] [(.int (2 : Int32)), (.int p1), (.ref a0), (.int ((x0 <<< ((24 : Int32) &&& 31)) ||| ((x1 &&& (255 : Int32)) <<< ((16 : Int32) &&& 31))))])) t
    refine XS.iadd X0.here hx rfl (hb hby d1_22) rfl ?_
    exact k
  obtain ⟨cl3, cl3A, cl3I, cl3T⟩ := F2
  refine Goes.by (B := s₁.setTop (mkF m 36 #[.val (.ref a0), .val (.int p1)] [(.int (p1 + (3 : Int32))), (.ref a0), (.int (((x0 <<< ((24 : Int32) &&& 31)) ||| ((x1 &&& (255 : Int32)) <<< ((16 : Int32) &&& 31))) ||| ((x2 &&& (255 : Int32)) <<< ((8 : Int32) &&& 31))))])) (fun t k => ?_) ?_
  · show Steps p.tables e below (s₁.setTop (mkF m 23 #[.val (.ref a0), .val (.int p1)] [(.int (p1 + (2 : Int32))), (.ref a0), (.int ((x0 <<< ((24 : Int32) &&& 31)) ||| ((x1 &&& (255 : Int32)) <<< ((16 : Int32) &&& 31))))])) t
    refine X0.baloadBytes hx (j := (p1 + (2 : Int32))) (v := (.int x2)) (by rw [e0]; exact cl3A.1) (State.isArrayOf_alike hZ.alike cl3A.2.1) cl3A.2.2 cl3I cl3T (g := (mkF m 23 #[.val (.ref a0), .val (.int p1)] [(.int (p1 + (2 : Int32))), (.ref a0), (.int ((x0 <<< ((24 : Int32) &&& 31)) ||| ((x1 &&& (255 : Int32)) <<< ((16 : Int32) &&& 31))))])) rfl rfl (hb hby d1_23) _ ?_
    show Steps p.tables e below (s₁.setTop (mkF m 24 #[.val (.ref a0), .val (.int p1)] [(.int x2), (.int ((x0 <<< ((24 : Int32) &&& 31)) ||| ((x1 &&& (255 : Int32)) <<< ((16 : Int32) &&& 31))))])) t
    refine XS.sipush X0.here hx rfl (hb hby d1_24) ?_
    show Steps p.tables e below (s₁.setTop (mkF m 27 #[.val (.ref a0), .val (.int p1)] [(.int (255 : Int32)), (.int x2), (.int ((x0 <<< ((24 : Int32) &&& 31)) ||| ((x1 &&& (255 : Int32)) <<< ((16 : Int32) &&& 31))))])) t
    refine XS.iand X0.here hx rfl (hb hby d1_27) rfl ?_
    show Steps p.tables e below (s₁.setTop (mkF m 28 #[.val (.ref a0), .val (.int p1)] [(.int (x2 &&& (255 : Int32))), (.int ((x0 <<< ((24 : Int32) &&& 31)) ||| ((x1 &&& (255 : Int32)) <<< ((16 : Int32) &&& 31))))])) t
    refine XS.bipush X0.here hx rfl (hb hby d1_28) ?_
    show Steps p.tables e below (s₁.setTop (mkF m 30 #[.val (.ref a0), .val (.int p1)] [(.int (8 : Int32)), (.int (x2 &&& (255 : Int32))), (.int ((x0 <<< ((24 : Int32) &&& 31)) ||| ((x1 &&& (255 : Int32)) <<< ((16 : Int32) &&& 31))))])) t
    refine XS.ishl X0.here hx rfl (hb hby d1_30) rfl ?_
    show Steps p.tables e below (s₁.setTop (mkF m 31 #[.val (.ref a0), .val (.int p1)] [(.int ((x2 &&& (255 : Int32)) <<< ((8 : Int32) &&& 31))), (.int ((x0 <<< ((24 : Int32) &&& 31)) ||| ((x1 &&& (255 : Int32)) <<< ((16 : Int32) &&& 31))))])) t
    refine XS.ior X0.here hx rfl (hb hby d1_31) rfl ?_
    show Steps p.tables e below (s₁.setTop (mkF m 32 #[.val (.ref a0), .val (.int p1)] [(.int (((x0 <<< ((24 : Int32) &&& 31)) ||| ((x1 &&& (255 : Int32)) <<< ((16 : Int32) &&& 31))) ||| ((x2 &&& (255 : Int32)) <<< ((8 : Int32) &&& 31))))])) t
    refine XS.aloadN X0.here hx rfl (hb hby d1_32) rfl rfl ?_
    show Steps p.tables e below (s₁.setTop (mkF m 33 #[.val (.ref a0), .val (.int p1)] [(.ref a0), (.int (((x0 <<< ((24 : Int32) &&& 31)) ||| ((x1 &&& (255 : Int32)) <<< ((16 : Int32) &&& 31))) ||| ((x2 &&& (255 : Int32)) <<< ((8 : Int32) &&& 31))))])) t
    refine XS.iloadN X0.here hx rfl (hb hby d1_33) rfl ?_
    show Steps p.tables e below (s₁.setTop (mkF m 34 #[.val (.ref a0), .val (.int p1)] [(.int p1), (.ref a0), (.int (((x0 <<< ((24 : Int32) &&& 31)) ||| ((x1 &&& (255 : Int32)) <<< ((16 : Int32) &&& 31))) ||| ((x2 &&& (255 : Int32)) <<< ((8 : Int32) &&& 31))))])) t
    refine XS.iconst X0.here hx rfl (hb hby d1_34) ?_
    show Steps p.tables e below (s₁.setTop (mkF m 35 #[.val (.ref a0), .val (.int p1)] [(.int (3 : Int32)), (.int p1), (.ref a0), (.int (((x0 <<< ((24 : Int32) &&& 31)) ||| ((x1 &&& (255 : Int32)) <<< ((16 : Int32) &&& 31))) ||| ((x2 &&& (255 : Int32)) <<< ((8 : Int32) &&& 31))))])) t
    refine XS.iadd X0.here hx rfl (hb hby d1_35) rfl ?_
    exact k
  obtain ⟨cl4, cl4A, cl4I, cl4T⟩ := F3
  refine Goes.by (B := s₁.setTop (mkF m 42 #[.val (.ref a0), .val (.int p1)] [(.int ((((x0 <<< ((24 : Int32) &&& 31)) ||| ((x1 &&& (255 : Int32)) <<< ((16 : Int32) &&& 31))) ||| ((x2 &&& (255 : Int32)) <<< ((8 : Int32) &&& 31))) ||| (x3 &&& (255 : Int32))))])) (fun t k => ?_) ?_
  · show Steps p.tables e below (s₁.setTop (mkF m 36 #[.val (.ref a0), .val (.int p1)] [(.int (p1 + (3 : Int32))), (.ref a0), (.int (((x0 <<< ((24 : Int32) &&& 31)) ||| ((x1 &&& (255 : Int32)) <<< ((16 : Int32) &&& 31))) ||| ((x2 &&& (255 : Int32)) <<< ((8 : Int32) &&& 31))))])) t
    refine X0.baloadBytes hx (j := (p1 + (3 : Int32))) (v := (.int x3)) (by rw [e0]; exact cl4A.1) (State.isArrayOf_alike hZ.alike cl4A.2.1) cl4A.2.2 cl4I cl4T (g := (mkF m 36 #[.val (.ref a0), .val (.int p1)] [(.int (p1 + (3 : Int32))), (.ref a0), (.int (((x0 <<< ((24 : Int32) &&& 31)) ||| ((x1 &&& (255 : Int32)) <<< ((16 : Int32) &&& 31))) ||| ((x2 &&& (255 : Int32)) <<< ((8 : Int32) &&& 31))))])) rfl rfl (hb hby d1_36) _ ?_
    show Steps p.tables e below (s₁.setTop (mkF m 37 #[.val (.ref a0), .val (.int p1)] [(.int x3), (.int (((x0 <<< ((24 : Int32) &&& 31)) ||| ((x1 &&& (255 : Int32)) <<< ((16 : Int32) &&& 31))) ||| ((x2 &&& (255 : Int32)) <<< ((8 : Int32) &&& 31))))])) t
    refine XS.sipush X0.here hx rfl (hb hby d1_37) ?_
    show Steps p.tables e below (s₁.setTop (mkF m 40 #[.val (.ref a0), .val (.int p1)] [(.int (255 : Int32)), (.int x3), (.int (((x0 <<< ((24 : Int32) &&& 31)) ||| ((x1 &&& (255 : Int32)) <<< ((16 : Int32) &&& 31))) ||| ((x2 &&& (255 : Int32)) <<< ((8 : Int32) &&& 31))))])) t
    refine XS.iand X0.here hx rfl (hb hby d1_40) rfl ?_
    show Steps p.tables e below (s₁.setTop (mkF m 41 #[.val (.ref a0), .val (.int p1)] [(.int (x3 &&& (255 : Int32))), (.int (((x0 <<< ((24 : Int32) &&& 31)) ||| ((x1 &&& (255 : Int32)) <<< ((16 : Int32) &&& 31))) ||| ((x2 &&& (255 : Int32)) <<< ((8 : Int32) &&& 31))))])) t
    refine XS.ior X0.here hx rfl (hb hby d1_41) rfl ?_
    exact k
  obtain ⟨fs, hr, hrun, hended, hW, hsame⟩ := X0.leave (v := some (.int ((((x0 <<< ((24 : Int32) &&& 31)) ||| ((x1 &&& (255 : Int32)) <<< ((16 : Int32) &&& 31))) ||| ((x2 &&& (255 : Int32)) <<< ((8 : Int32) &&& 31))) ||| (x3 &&& (255 : Int32))))) (fun h => by rw [Bd.returns] at h; cases h)
  refine Goes.mk _ _ ?_ ⟨hrun, hended, _, _, rfl, ?_, ⟨_, rfl⟩, hW, hsame.mono (by decide) (by decide)⟩
  · exact retI X0 hx Bd.returns (hb hby d1_42) hr
  · show QGet Z a0 p1 x0 x1 x2 x3 h0 n0 _ s₁.heap _
    rw [e0]
    exact ⟨rfl, N0, rfl⟩
theorem own_ext32 {x y : Int32} (h : (x.toInt - y.toInt) % 4294967296 = 0) : x = y := by
  have h1 := rng32 x
  have h2 := rng32 y
  exact Int32.toInt_inj.mp (by omega)
theorem own_ext64 {x y : Int64} (h : (x.toInt - y.toInt) % 18446744073709551616 = 0) : x = y := by
  have h1 := rng64 x
  have h2 := rng64 y
  exact Int64.toInt_inj.mp (by omega)
theorem own_nat32 (x : Int32) : x.toBitVec.toNat < 4294967296 ∧ ((x.toInt = x.toBitVec.toNat ∧ x.toBitVec.toNat < 2147483648) ∨ (x.toInt = x.toBitVec.toNat - 4294967296 ∧ 2147483648 ≤ x.toBitVec.toNat)) := by
  have h := x.toBitVec.isLt
  refine ⟨h, ?_⟩
  have q : x.toInt = x.toBitVec.toInt := rfl
  rw [q, BitVec.toInt_eq_toNat_cond]
  split <;> omega
theorem own_bb (x : Int32) : x.toInt8.toInt32.toInt8.toInt32 = x.toInt8.toInt32 := by
  have h1 := c_i2b x
  have h2 := c_i2b x.toInt8.toInt32
  exact Int32.toInt_inj.mp (by omega)
theorem own_o (p o : Int32) (h : ((p &&& (2147483647 : Int32)) % (4 : Int32)) = o) : o = 0 ∨ o = 1 ∨ o = 2 ∨ o = 3 := by
  have m := c_mask p (2147483647 : Int32) 31 (by decide) (by decide)
  have r := c_irem (p &&& (2147483647 : Int32)) (4 : Int32) 4 (by decide)
  have e : ((2 ^ 31 : Nat) : Int) = 2147483648 := rfl
  rw [e] at m
  have r1 := r.1 (by omega)
  rw [h] at r1
  have c : o.toInt = 0 ∨ o.toInt = 1 ∨ o.toInt = 2 ∨ o.toInt = 3 := by omega
  rcases c with c | c | c | c
  · exact Or.inl (Int32.toInt_inj.mp c)
  · exact Or.inr (Or.inl (Int32.toInt_inj.mp c))
  · exact Or.inr (Or.inr (Or.inl (Int32.toInt_inj.mp c)))
  · exact Or.inr (Or.inr (Or.inr (Int32.toInt_inj.mp c)))
theorem own_get (b0 b1 b2 b3 : Int32) : fGet b0 b1 b2 b3 = ((((b0 * (16777216 : Int32)) + ((b1 &&& (255 : Int32)) * (65536 : Int32))) + ((b2 &&& (255 : Int32)) * (256 : Int32))) + (b3 &&& (255 : Int32))) := by
  unfold fGet
  have m1 := c_mask b1 (255 : Int32) 8 (by decide) (by decide)
  have m2 := c_mask b2 (255 : Int32) 8 (by decide) (by decide)
  have m3 := c_mask b3 (255 : Int32) 8 (by decide) (by decide)
  have e8 : ((2 ^ 8 : Nat) : Int) = 256 := rfl
  have e16 : ((2 ^ 16 : Nat) : Int) = 65536 := rfl
  have e24 : ((2 ^ 24 : Nat) : Int) = 16777216 := rfl
  rw [e8] at m1 m2 m3
  generalize b1 &&& (255 : Int32) = y1 at *
  generalize b2 &&& (255 : Int32) = y2 at *
  generalize b3 &&& (255 : Int32) = y3 at *
  have s0 := c_ishl b0 (24 : Int32) 24 (by decide)
  have s1 := c_ishl y1 (16 : Int32) 16 (by decide)
  have s2 := c_ishl y2 (8 : Int32) 8 (by decide)
  rw [e24] at s0
  rw [e16] at s1
  rw [e8] at s2
  generalize b0 <<< ((24 : Int32) &&& 31) = z0 at *
  generalize y1 <<< ((16 : Int32) &&& 31) = z1 at *
  generalize y2 <<< ((8 : Int32) &&& 31) = z2 at *
  have g1 := rng32 z1
  have g2 := rng32 z2
  have o1 := c_or z0 z1 24 (by decide) 16777216 e24.symm (by omega) (by omega) (by omega)
  generalize z0 ||| z1 = w1 at *
  have o2 := c_or w1 z2 16 (by decide) 65536 e16.symm (by omega) (by omega) (by omega)
  generalize w1 ||| z2 = w2 at *
  have o3 := c_or w2 y3 8 (by decide) 256 e8.symm (by omega) (by omega) (by omega)
  generalize w2 ||| y3 = w3 at *
  have l1 : (16777216 : Int32).toInt = 16777216 := by decide
  have l2 : (65536 : Int32).toInt = 65536 := by decide
  have l3 : (256 : Int32).toInt = 256 := by decide
  have q0 := c_imul b0 (16777216 : Int32)
  have q1 := c_imul y1 (65536 : Int32)
  have q2 := c_imul y2 (256 : Int32)
  rw [l1] at q0
  rw [l2] at q1
  rw [l3] at q2
  generalize b0 * (16777216 : Int32) = v0 at *
  generalize y1 * (65536 : Int32) = v1 at *
  generalize y2 * (256 : Int32) = v2 at *
  have a1 := c_iadd v0 v1
  generalize v0 + v1 = t1 at *
  have a2 := c_iadd t1 v2
  generalize t1 + v2 = t2 at *
  have a3 := c_iadd t2 y3
  exact own_ext32 (by omega)
theorem own_pd0 : parseMethodDescriptor "([BI)I" = some ⟨[(.array .byte), .int], some .int⟩ := by decide +kernel
theorem own_law (p0 p1 p2 p3 : Int32) : (fGet ((p0.toInt8.toInt32).toInt8.toInt32) ((p1.toInt8.toInt32).toInt8.toInt32) ((p2.toInt8.toInt32).toInt8.toInt32) ((p3.toInt8.toInt32).toInt8.toInt32)) = (((((p0.toInt8.toInt32) * (16777216 : Int32)) + (((p1.toInt8.toInt32) &&& (255 : Int32)) * (65536 : Int32))) + (((p2.toInt8.toInt32) &&& (255 : Int32)) * (256 : Int32))) + ((p3.toInt8.toInt32) &&& (255 : Int32))) := by
  rw [own_bb, own_bb, own_bb, own_bb]
  exact own_get _ _ _ _
def Q0 (Z : State) (p0 : Int32) (p1 : Int32) (p2 : Int32) (p3 : Int32) (p4 : Int32) (p5 : Int32) (h0 : Heap) (n0 : Nat) (v : Option Value) (h : Heap) (L : List Loc) : Prop := v = some (.int 1) ∧ Fr n0 L
theorem own_pn_com_example_moraine_moraine_BigEndianGetIntPinLaw : plainName "com/example/moraine/moraine/BigEndianGetIntPinLaw" = true := by first | (simp [plainName, overriddenIn]; done) | decide +kernel
theorem ef0 (m : MethodId) (x0 : Int32) (x1 : Int32) (x2 : Int32) (x3 : Int32) (x4 : Int32) (x5 : Int32) : entryFrame m #[(.int x0), (.int x1), (.int x2), (.int x3), (.int x4), (.int x5)] maxLocals = mkF m 0 #[.val (.int x0), .val (.int x1), .val (.int x2), .val (.int x3), .val (.int x4), .val (.int x5), .unset, .unset, .unset, .unset, .unset, .unset, .unset, .unset, .unset] [] := by first | (simp [entryFrame, mkF, argsToLocals, Value.category, maxLocals]; done) | rfl
set_option maxRecDepth 65536 in
set_option maxHeartbeats 40000000 in
theorem rm0 (l : Launch) (Z : State) (az : Array Value) (hw : ∀ d ∈ tables_1, d.before az Z = true) (ws : List Jvm.Cond) (p0 : Int32) (p1 : Int32) (p2 : Int32) (p3 : Int32) (p4 : Int32) (p5 : Int32) (h0 : Heap) (n0 : Nat) (Z0 : n0 ≤ h0.size) :
    MetFree l x (head1 (Jvm.Cond.code x code maxLocals ret :: ws) room_1) (fun a U => a = #[(.int p0), (.int p1), (.int p2), (.int p3), (.int p4), (.int p5)] ∧ Z.Warmed39 U.vm ∧ U.heap = h0) (fun _ _ _ _ _ => True) (fun _ U o U' => ∃ v L, o = .returned v ∧ Q0 Z p0 p1 p2 p3 p4 p5 h0 n0 v U'.heap L ∧ FrameEnd U o U' L 1 7) := by
  refine MetFree.of_bodySF (plainFor_of_name own_pn_com_example_moraine_moraine_BigEndianGetIntPinLaw) hisR ?_
  intro p e s m args below meth c s₁ Bd hml0 hP hK
  obtain ⟨rfl, hZ, hh⟩ := hP
  have hx := Bd.exec
  have hby := Bd.bytes
  have hml : c.maxLocals = 15 := hml0
  have hown : s.vm.findClass "com/example/moraine/moraine/BigEndianGetIntPinLaw" = some m.cls := findClass_of_methodNamed Bd.named
  have hnm := (name_of_methodNamed Bd.named Bd.method).1
  have X0 : Stand p l e room_1 s m #[(.int p0), (.int p1), (.int p2), (.int p3), (.int p4), (.int p5)] below meth c s₁ [] 0 0 := Stand.of_body Bd
  have e0 : s₁.heap = h0 := by rw [← hh, Bd.state]; rfl
  have N0 := Fr.nil n0
  have Kp0 : Keep h0 h0 [] := Keep.refl _ _
  refine Goes.start ?_
  refine Goes.by (B := s₁.setTop (mkF m 0 #[.val (.int p0), .val (.int p1), .val (.int p2), .val (.int p3), .val (.int p4), .val (.int p5), .unset, .unset, .unset, .unset, .unset, .unset, .unset, .unset, .unset] [])) (fun t k => castTop (ef0 m p0 p1 p2 p3 p4 p5) k) ?_
  refine Goes.by (B := s₁.setTop (mkF m 30 #[.val (.int p0), .val (.int p1), .val (.int p2), .val (.int p3), .val (.int p4), .val (.int p5), .val (.int (p0.toInt8.toInt32)), .val (.int (p1.toInt8.toInt32)), .val (.int (p2.toInt8.toInt32)), .val (.int (p3.toInt8.toInt32)), .val (.int (p5.toInt8.toInt32)), .val (.int ((p4 &&& (2147483647 : Int32)) % (4 : Int32))), .unset, .unset, .unset] [])) (fun t k => ?_) ?_
  · show Steps p.tables e below (s₁.setTop (mkF m 0 #[.val (.int p0), .val (.int p1), .val (.int p2), .val (.int p3), .val (.int p4), .val (.int p5), .unset, .unset, .unset, .unset, .unset, .unset, .unset, .unset, .unset] [])) t
    refine XS.iloadN X0.here hx rfl (hb hby at_0) rfl ?_
    show Steps p.tables e below (s₁.setTop (mkF m 1 #[.val (.int p0), .val (.int p1), .val (.int p2), .val (.int p3), .val (.int p4), .val (.int p5), .unset, .unset, .unset, .unset, .unset, .unset, .unset, .unset, .unset] [(.int p0)])) t
    refine XS.i2b X0.here hx rfl (hb hby at_1) rfl ?_
    show Steps p.tables e below (s₁.setTop (mkF m 2 #[.val (.int p0), .val (.int p1), .val (.int p2), .val (.int p3), .val (.int p4), .val (.int p5), .unset, .unset, .unset, .unset, .unset, .unset, .unset, .unset, .unset] [(.int (p0.toInt8.toInt32))])) t
    refine XS.istore X0.here hx rfl (hb hby at_2) rfl (l' := #[.val (.int p0), .val (.int p1), .val (.int p2), .val (.int p3), .val (.int p4), .val (.int p5), .val (.int (p0.toInt8.toInt32)), .unset, .unset, .unset, .unset, .unset, .unset, .unset, .unset]) rfl ?_
    show Steps p.tables e below (s₁.setTop (mkF m 4 #[.val (.int p0), .val (.int p1), .val (.int p2), .val (.int p3), .val (.int p4), .val (.int p5), .val (.int (p0.toInt8.toInt32)), .unset, .unset, .unset, .unset, .unset, .unset, .unset, .unset] [])) t
    refine XS.iloadN X0.here hx rfl (hb hby at_4) rfl ?_
    show Steps p.tables e below (s₁.setTop (mkF m 5 #[.val (.int p0), .val (.int p1), .val (.int p2), .val (.int p3), .val (.int p4), .val (.int p5), .val (.int (p0.toInt8.toInt32)), .unset, .unset, .unset, .unset, .unset, .unset, .unset, .unset] [(.int p1)])) t
    refine XS.i2b X0.here hx rfl (hb hby at_5) rfl ?_
    show Steps p.tables e below (s₁.setTop (mkF m 6 #[.val (.int p0), .val (.int p1), .val (.int p2), .val (.int p3), .val (.int p4), .val (.int p5), .val (.int (p0.toInt8.toInt32)), .unset, .unset, .unset, .unset, .unset, .unset, .unset, .unset] [(.int (p1.toInt8.toInt32))])) t
    refine XS.istore X0.here hx rfl (hb hby at_6) rfl (l' := #[.val (.int p0), .val (.int p1), .val (.int p2), .val (.int p3), .val (.int p4), .val (.int p5), .val (.int (p0.toInt8.toInt32)), .val (.int (p1.toInt8.toInt32)), .unset, .unset, .unset, .unset, .unset, .unset, .unset]) rfl ?_
    show Steps p.tables e below (s₁.setTop (mkF m 8 #[.val (.int p0), .val (.int p1), .val (.int p2), .val (.int p3), .val (.int p4), .val (.int p5), .val (.int (p0.toInt8.toInt32)), .val (.int (p1.toInt8.toInt32)), .unset, .unset, .unset, .unset, .unset, .unset, .unset] [])) t
    refine XS.iloadN X0.here hx rfl (hb hby at_8) rfl ?_
    show Steps p.tables e below (s₁.setTop (mkF m 9 #[.val (.int p0), .val (.int p1), .val (.int p2), .val (.int p3), .val (.int p4), .val (.int p5), .val (.int (p0.toInt8.toInt32)), .val (.int (p1.toInt8.toInt32)), .unset, .unset, .unset, .unset, .unset, .unset, .unset] [(.int p2)])) t
    refine XS.i2b X0.here hx rfl (hb hby at_9) rfl ?_
    show Steps p.tables e below (s₁.setTop (mkF m 10 #[.val (.int p0), .val (.int p1), .val (.int p2), .val (.int p3), .val (.int p4), .val (.int p5), .val (.int (p0.toInt8.toInt32)), .val (.int (p1.toInt8.toInt32)), .unset, .unset, .unset, .unset, .unset, .unset, .unset] [(.int (p2.toInt8.toInt32))])) t
    refine XS.istore X0.here hx rfl (hb hby at_10) rfl (l' := #[.val (.int p0), .val (.int p1), .val (.int p2), .val (.int p3), .val (.int p4), .val (.int p5), .val (.int (p0.toInt8.toInt32)), .val (.int (p1.toInt8.toInt32)), .val (.int (p2.toInt8.toInt32)), .unset, .unset, .unset, .unset, .unset, .unset]) rfl ?_
    show Steps p.tables e below (s₁.setTop (mkF m 12 #[.val (.int p0), .val (.int p1), .val (.int p2), .val (.int p3), .val (.int p4), .val (.int p5), .val (.int (p0.toInt8.toInt32)), .val (.int (p1.toInt8.toInt32)), .val (.int (p2.toInt8.toInt32)), .unset, .unset, .unset, .unset, .unset, .unset] [])) t
    refine XS.iloadN X0.here hx rfl (hb hby at_12) rfl ?_
    show Steps p.tables e below (s₁.setTop (mkF m 13 #[.val (.int p0), .val (.int p1), .val (.int p2), .val (.int p3), .val (.int p4), .val (.int p5), .val (.int (p0.toInt8.toInt32)), .val (.int (p1.toInt8.toInt32)), .val (.int (p2.toInt8.toInt32)), .unset, .unset, .unset, .unset, .unset, .unset] [(.int p3)])) t
    refine XS.i2b X0.here hx rfl (hb hby at_13) rfl ?_
    show Steps p.tables e below (s₁.setTop (mkF m 14 #[.val (.int p0), .val (.int p1), .val (.int p2), .val (.int p3), .val (.int p4), .val (.int p5), .val (.int (p0.toInt8.toInt32)), .val (.int (p1.toInt8.toInt32)), .val (.int (p2.toInt8.toInt32)), .unset, .unset, .unset, .unset, .unset, .unset] [(.int (p3.toInt8.toInt32))])) t
    refine XS.istore X0.here hx rfl (hb hby at_14) rfl (l' := #[.val (.int p0), .val (.int p1), .val (.int p2), .val (.int p3), .val (.int p4), .val (.int p5), .val (.int (p0.toInt8.toInt32)), .val (.int (p1.toInt8.toInt32)), .val (.int (p2.toInt8.toInt32)), .val (.int (p3.toInt8.toInt32)), .unset, .unset, .unset, .unset, .unset]) rfl ?_
    show Steps p.tables e below (s₁.setTop (mkF m 16 #[.val (.int p0), .val (.int p1), .val (.int p2), .val (.int p3), .val (.int p4), .val (.int p5), .val (.int (p0.toInt8.toInt32)), .val (.int (p1.toInt8.toInt32)), .val (.int (p2.toInt8.toInt32)), .val (.int (p3.toInt8.toInt32)), .unset, .unset, .unset, .unset, .unset] [])) t
    refine XS.iload X0.here hx rfl (hb hby at_16) rfl ?_
    show Steps p.tables e below (s₁.setTop (mkF m 18 #[.val (.int p0), .val (.int p1), .val (.int p2), .val (.int p3), .val (.int p4), .val (.int p5), .val (.int (p0.toInt8.toInt32)), .val (.int (p1.toInt8.toInt32)), .val (.int (p2.toInt8.toInt32)), .val (.int (p3.toInt8.toInt32)), .unset, .unset, .unset, .unset, .unset] [(.int p5)])) t
    refine XS.i2b X0.here hx rfl (hb hby at_18) rfl ?_
    show Steps p.tables e below (s₁.setTop (mkF m 19 #[.val (.int p0), .val (.int p1), .val (.int p2), .val (.int p3), .val (.int p4), .val (.int p5), .val (.int (p0.toInt8.toInt32)), .val (.int (p1.toInt8.toInt32)), .val (.int (p2.toInt8.toInt32)), .val (.int (p3.toInt8.toInt32)), .unset, .unset, .unset, .unset, .unset] [(.int (p5.toInt8.toInt32))])) t
    refine XS.istore X0.here hx rfl (hb hby at_19) rfl (l' := #[.val (.int p0), .val (.int p1), .val (.int p2), .val (.int p3), .val (.int p4), .val (.int p5), .val (.int (p0.toInt8.toInt32)), .val (.int (p1.toInt8.toInt32)), .val (.int (p2.toInt8.toInt32)), .val (.int (p3.toInt8.toInt32)), .val (.int (p5.toInt8.toInt32)), .unset, .unset, .unset, .unset]) rfl ?_
    show Steps p.tables e below (s₁.setTop (mkF m 21 #[.val (.int p0), .val (.int p1), .val (.int p2), .val (.int p3), .val (.int p4), .val (.int p5), .val (.int (p0.toInt8.toInt32)), .val (.int (p1.toInt8.toInt32)), .val (.int (p2.toInt8.toInt32)), .val (.int (p3.toInt8.toInt32)), .val (.int (p5.toInt8.toInt32)), .unset, .unset, .unset, .unset] [])) t
    refine XS.iload X0.here hx rfl (hb hby at_21) rfl ?_
    show Steps p.tables e below (s₁.setTop (mkF m 23 #[.val (.int p0), .val (.int p1), .val (.int p2), .val (.int p3), .val (.int p4), .val (.int p5), .val (.int (p0.toInt8.toInt32)), .val (.int (p1.toInt8.toInt32)), .val (.int (p2.toInt8.toInt32)), .val (.int (p3.toInt8.toInt32)), .val (.int (p5.toInt8.toInt32)), .unset, .unset, .unset, .unset] [(.int p4)])) t
    refine X0.ldcInt hx hown (mvT hZ (hw _ (List.mem_of_getElem? (i := 0) rfl))) (g := (mkF m 23 #[.val (.int p0), .val (.int p1), .val (.int p2), .val (.int p3), .val (.int p4), .val (.int p5), .val (.int (p0.toInt8.toInt32)), .val (.int (p1.toInt8.toInt32)), .val (.int (p2.toInt8.toInt32)), .val (.int (p3.toInt8.toInt32)), .val (.int (p5.toInt8.toInt32)), .unset, .unset, .unset, .unset] [(.int p4)])) rfl (hb hby at_23) _ ?_
    show Steps p.tables e below (s₁.setTop (mkF m 25 #[.val (.int p0), .val (.int p1), .val (.int p2), .val (.int p3), .val (.int p4), .val (.int p5), .val (.int (p0.toInt8.toInt32)), .val (.int (p1.toInt8.toInt32)), .val (.int (p2.toInt8.toInt32)), .val (.int (p3.toInt8.toInt32)), .val (.int (p5.toInt8.toInt32)), .unset, .unset, .unset, .unset] [(.int (2147483647 : Int32)), (.int p4)])) t
    refine XS.iand X0.here hx rfl (hb hby at_25) rfl ?_
    show Steps p.tables e below (s₁.setTop (mkF m 26 #[.val (.int p0), .val (.int p1), .val (.int p2), .val (.int p3), .val (.int p4), .val (.int p5), .val (.int (p0.toInt8.toInt32)), .val (.int (p1.toInt8.toInt32)), .val (.int (p2.toInt8.toInt32)), .val (.int (p3.toInt8.toInt32)), .val (.int (p5.toInt8.toInt32)), .unset, .unset, .unset, .unset] [(.int (p4 &&& (2147483647 : Int32)))])) t
    refine XS.iconst X0.here hx rfl (hb hby at_26) ?_
    show Steps p.tables e below (s₁.setTop (mkF m 27 #[.val (.int p0), .val (.int p1), .val (.int p2), .val (.int p3), .val (.int p4), .val (.int p5), .val (.int (p0.toInt8.toInt32)), .val (.int (p1.toInt8.toInt32)), .val (.int (p2.toInt8.toInt32)), .val (.int (p3.toInt8.toInt32)), .val (.int (p5.toInt8.toInt32)), .unset, .unset, .unset, .unset] [(.int (4 : Int32)), (.int (p4 &&& (2147483647 : Int32)))])) t
    refine iremM X0 hx rfl (hb hby at_27) rfl (by decide) ?_
    show Steps p.tables e below (s₁.setTop (mkF m 28 #[.val (.int p0), .val (.int p1), .val (.int p2), .val (.int p3), .val (.int p4), .val (.int p5), .val (.int (p0.toInt8.toInt32)), .val (.int (p1.toInt8.toInt32)), .val (.int (p2.toInt8.toInt32)), .val (.int (p3.toInt8.toInt32)), .val (.int (p5.toInt8.toInt32)), .unset, .unset, .unset, .unset] [(.int ((p4 &&& (2147483647 : Int32)) % (4 : Int32)))])) t
    refine XS.istore X0.here hx rfl (hb hby at_28) rfl (l' := #[.val (.int p0), .val (.int p1), .val (.int p2), .val (.int p3), .val (.int p4), .val (.int p5), .val (.int (p0.toInt8.toInt32)), .val (.int (p1.toInt8.toInt32)), .val (.int (p2.toInt8.toInt32)), .val (.int (p3.toInt8.toInt32)), .val (.int (p5.toInt8.toInt32)), .val (.int ((p4 &&& (2147483647 : Int32)) % (4 : Int32))), .unset, .unset, .unset]) rfl ?_
    exact k
  generalize hg_o : ((p4 &&& (2147483647 : Int32)) % (4 : Int32)) = o
  refine Goes.by (B := s₁.setTop (mkF m 32 #[.val (.int p0), .val (.int p1), .val (.int p2), .val (.int p3), .val (.int p4), .val (.int p5), .val (.int (p0.toInt8.toInt32)), .val (.int (p1.toInt8.toInt32)), .val (.int (p2.toInt8.toInt32)), .val (.int (p3.toInt8.toInt32)), .val (.int (p5.toInt8.toInt32)), .val (.int o), .unset, .unset, .unset] [(.int (7 : Int32))])) (fun t k => ?_) ?_
  · show Steps p.tables e below (s₁.setTop (mkF m 30 #[.val (.int p0), .val (.int p1), .val (.int p2), .val (.int p3), .val (.int p4), .val (.int p5), .val (.int (p0.toInt8.toInt32)), .val (.int (p1.toInt8.toInt32)), .val (.int (p2.toInt8.toInt32)), .val (.int (p3.toInt8.toInt32)), .val (.int (p5.toInt8.toInt32)), .val (.int o), .unset, .unset, .unset] [])) t
    refine XS.bipush X0.here hx rfl (hb hby at_30) ?_
    exact k
  obtain ⟨T1, h1, k1, X1, e1, E1, A1, st1⟩ := newP X0 hx hZ (hw _ (List.mem_of_getElem? (i := 1) rfl)) e0 (g := (mkF m 32 #[.val (.int p0), .val (.int p1), .val (.int p2), .val (.int p3), .val (.int p4), .val (.int p5), .val (.int (p0.toInt8.toInt32)), .val (.int (p1.toInt8.toInt32)), .val (.int (p2.toInt8.toInt32)), .val (.int (p3.toInt8.toInt32)), .val (.int (p5.toInt8.toInt32)), .val (.int o), .unset, .unset, .unset] [(.int (7 : Int32))])) rfl (hb hby at_32) rfl (by decide) (cap := 7) (by decide) (by decide) (by decide) (by decide)
  obtain ⟨b2, g1⟩ : ∃ z, z = h0.size := ⟨_, rfl⟩
  rw [← g1] at A1 st1
  have ge3 : n0 ≤ b2 := Nat.le_trans Z0 (Nat.le_of_eq g1.symm)
  have sz4 : h0.size ≤ b2 := Nat.le_trans Kp0.1 (Nat.le_of_eq g1.symm)
  have f5 : Arv Z h1 b2 k1 .byte (7 : Int32) [(.int (0 : Int32)), (.int (0 : Int32)), (.int (0 : Int32)), (.int (0 : Int32)), (.int (0 : Int32)), (.int (0 : Int32)), (.int (0 : Int32))] (.int (0 : Int32)) := (Arv.new A1 (by decide)).pad (pad_rep [] (.int (0 : Int32)) 7)
  have Kp1 : Keep h0 h1 [] := Kp0.ext E1
  have Z6 : n0 ≤ h1.size := Nat.le_trans Z0 E1.1
  refine Goes.by st1 ?_
  show Goes p.tables e below _ (T1.setTop (mkF m 34 #[.val (.int p0), .val (.int p1), .val (.int p2), .val (.int p3), .val (.int p4), .val (.int p5), .val (.int (p0.toInt8.toInt32)), .val (.int (p1.toInt8.toInt32)), .val (.int (p2.toInt8.toInt32)), .val (.int (p3.toInt8.toInt32)), .val (.int (p5.toInt8.toInt32)), .val (.int o), .unset, .unset, .unset] [(.ref b2)]))
  refine Goes.by (B := T1.setTop (mkF m 41 #[.val (.int p0), .val (.int p1), .val (.int p2), .val (.int p3), .val (.int p4), .val (.int p5), .val (.int (p0.toInt8.toInt32)), .val (.int (p1.toInt8.toInt32)), .val (.int (p2.toInt8.toInt32)), .val (.int (p3.toInt8.toInt32)), .val (.int (p5.toInt8.toInt32)), .val (.int o), .val (.ref b2), .unset, .unset] [(.int (p5.toInt8.toInt32)), (.int (0 : Int32)), (.ref b2)])) (fun t k => ?_) ?_
  · show Steps p.tables e below (T1.setTop (mkF m 34 #[.val (.int p0), .val (.int p1), .val (.int p2), .val (.int p3), .val (.int p4), .val (.int p5), .val (.int (p0.toInt8.toInt32)), .val (.int (p1.toInt8.toInt32)), .val (.int (p2.toInt8.toInt32)), .val (.int (p3.toInt8.toInt32)), .val (.int (p5.toInt8.toInt32)), .val (.int o), .unset, .unset, .unset] [(.ref b2)])) t
    refine XS.astore X1.here hx rfl (hb hby at_34) rfl rfl (l' := #[.val (.int p0), .val (.int p1), .val (.int p2), .val (.int p3), .val (.int p4), .val (.int p5), .val (.int (p0.toInt8.toInt32)), .val (.int (p1.toInt8.toInt32)), .val (.int (p2.toInt8.toInt32)), .val (.int (p3.toInt8.toInt32)), .val (.int (p5.toInt8.toInt32)), .val (.int o), .val (.ref b2), .unset, .unset]) rfl ?_
    show Steps p.tables e below (T1.setTop (mkF m 36 #[.val (.int p0), .val (.int p1), .val (.int p2), .val (.int p3), .val (.int p4), .val (.int p5), .val (.int (p0.toInt8.toInt32)), .val (.int (p1.toInt8.toInt32)), .val (.int (p2.toInt8.toInt32)), .val (.int (p3.toInt8.toInt32)), .val (.int (p5.toInt8.toInt32)), .val (.int o), .val (.ref b2), .unset, .unset] [])) t
    refine XS.aload X1.here hx rfl (hb hby at_36) rfl rfl ?_
    show Steps p.tables e below (T1.setTop (mkF m 38 #[.val (.int p0), .val (.int p1), .val (.int p2), .val (.int p3), .val (.int p4), .val (.int p5), .val (.int (p0.toInt8.toInt32)), .val (.int (p1.toInt8.toInt32)), .val (.int (p2.toInt8.toInt32)), .val (.int (p3.toInt8.toInt32)), .val (.int (p5.toInt8.toInt32)), .val (.int o), .val (.ref b2), .unset, .unset] [(.ref b2)])) t
    refine XS.iconst X1.here hx rfl (hb hby at_38) ?_
    show Steps p.tables e below (T1.setTop (mkF m 39 #[.val (.int p0), .val (.int p1), .val (.int p2), .val (.int p3), .val (.int p4), .val (.int p5), .val (.int (p0.toInt8.toInt32)), .val (.int (p1.toInt8.toInt32)), .val (.int (p2.toInt8.toInt32)), .val (.int (p3.toInt8.toInt32)), .val (.int (p5.toInt8.toInt32)), .val (.int o), .val (.ref b2), .unset, .unset] [(.int (0 : Int32)), (.ref b2)])) t
    refine XS.iload X1.here hx rfl (hb hby at_39) rfl ?_
    exact k
  obtain ⟨cl7, cl7A, cl7q, cl7S, cl7N, cl7H, cl7G⟩ := f5
  have cl7I : ¬ ((0 : Int32) < 0 ∨ cl7.slots.size ≤ ((0 : Int32)).toNatClampNeg) := inb_of cl7S ⟨by decide, by decide⟩
  obtain ⟨T7, h7, X7, e7, W7, st7⟩ := stB X1 hx hZ e1 cl7A (j := (0 : Int32)) cl7I (g := (mkF m 41 #[.val (.int p0), .val (.int p1), .val (.int p2), .val (.int p3), .val (.int p4), .val (.int p5), .val (.int (p0.toInt8.toInt32)), .val (.int (p1.toInt8.toInt32)), .val (.int (p2.toInt8.toInt32)), .val (.int (p3.toInt8.toInt32)), .val (.int (p5.toInt8.toInt32)), .val (.int o), .val (.ref b2), .unset, .unset] [(.int (p5.toInt8.toInt32)), (.int (0 : Int32)), (.ref b2)])) rfl rfl (hb hby at_41)
  have f8 : Arv Z h7 b2 k1 .byte (7 : Int32) [(.int ((p5.toInt8.toInt32).toInt8.toInt32)), (.int (0 : Int32)), (.int (0 : Int32)), (.int (0 : Int32)), (.int (0 : Int32)), (.int (0 : Int32)), (.int (0 : Int32))] (.int (0 : Int32)) := Arv.set cl7A cl7q cl7S cl7N cl7H cl7G (fits_nar_byte _) W7 0 rfl (Nat.le_of_ble_eq_true rfl)
  have Kp7 : Keep h0 h7 [] := Kp1.wr W7 (Or.inr sz4)
  have Z9 : n0 ≤ h7.size := Nat.le_trans Z6 (Nat.le_of_eq W7.size.symm)
  have N10 := Fr.snoc X7 N0 ge3
  refine Goes.by st7 ?_
  show Goes p.tables e below _ (T7.setTop (mkF m 42 #[.val (.int p0), .val (.int p1), .val (.int p2), .val (.int p3), .val (.int p4), .val (.int p5), .val (.int (p0.toInt8.toInt32)), .val (.int (p1.toInt8.toInt32)), .val (.int (p2.toInt8.toInt32)), .val (.int (p3.toInt8.toInt32)), .val (.int (p5.toInt8.toInt32)), .val (.int o), .val (.ref b2), .unset, .unset] []))
  refine Goes.by (B := T7.setTop (mkF m 47 #[.val (.int p0), .val (.int p1), .val (.int p2), .val (.int p3), .val (.int p4), .val (.int p5), .val (.int (p0.toInt8.toInt32)), .val (.int (p1.toInt8.toInt32)), .val (.int (p2.toInt8.toInt32)), .val (.int (p3.toInt8.toInt32)), .val (.int (p5.toInt8.toInt32)), .val (.int o), .val (.ref b2), .unset, .unset] [(.int (p5.toInt8.toInt32)), (.int (1 : Int32)), (.ref b2)])) (fun t k => ?_) ?_
  · show Steps p.tables e below (T7.setTop (mkF m 42 #[.val (.int p0), .val (.int p1), .val (.int p2), .val (.int p3), .val (.int p4), .val (.int p5), .val (.int (p0.toInt8.toInt32)), .val (.int (p1.toInt8.toInt32)), .val (.int (p2.toInt8.toInt32)), .val (.int (p3.toInt8.toInt32)), .val (.int (p5.toInt8.toInt32)), .val (.int o), .val (.ref b2), .unset, .unset] [])) t
    refine XS.aload X7.here hx rfl (hb hby at_42) rfl rfl ?_
    show Steps p.tables e below (T7.setTop (mkF m 44 #[.val (.int p0), .val (.int p1), .val (.int p2), .val (.int p3), .val (.int p4), .val (.int p5), .val (.int (p0.toInt8.toInt32)), .val (.int (p1.toInt8.toInt32)), .val (.int (p2.toInt8.toInt32)), .val (.int (p3.toInt8.toInt32)), .val (.int (p5.toInt8.toInt32)), .val (.int o), .val (.ref b2), .unset, .unset] [(.ref b2)])) t
    refine XS.iconst X7.here hx rfl (hb hby at_44) ?_
    show Steps p.tables e below (T7.setTop (mkF m 45 #[.val (.int p0), .val (.int p1), .val (.int p2), .val (.int p3), .val (.int p4), .val (.int p5), .val (.int (p0.toInt8.toInt32)), .val (.int (p1.toInt8.toInt32)), .val (.int (p2.toInt8.toInt32)), .val (.int (p3.toInt8.toInt32)), .val (.int (p5.toInt8.toInt32)), .val (.int o), .val (.ref b2), .unset, .unset] [(.int (1 : Int32)), (.ref b2)])) t
    refine XS.iload X7.here hx rfl (hb hby at_45) rfl ?_
    exact k
  obtain ⟨cl11, cl11A, cl11q, cl11S, cl11N, cl11H, cl11G⟩ := f8
  have cl11I : ¬ ((1 : Int32) < 0 ∨ cl11.slots.size ≤ ((1 : Int32)).toNatClampNeg) := inb_of cl11S ⟨by decide, by decide⟩
  obtain ⟨T11, h11, X11, e11, W11, st11⟩ := stB X7 hx hZ e7 cl11A (j := (1 : Int32)) cl11I (g := (mkF m 47 #[.val (.int p0), .val (.int p1), .val (.int p2), .val (.int p3), .val (.int p4), .val (.int p5), .val (.int (p0.toInt8.toInt32)), .val (.int (p1.toInt8.toInt32)), .val (.int (p2.toInt8.toInt32)), .val (.int (p3.toInt8.toInt32)), .val (.int (p5.toInt8.toInt32)), .val (.int o), .val (.ref b2), .unset, .unset] [(.int (p5.toInt8.toInt32)), (.int (1 : Int32)), (.ref b2)])) rfl rfl (hb hby at_47)
  have f12 : Arv Z h11 b2 k1 .byte (7 : Int32) [(.int ((p5.toInt8.toInt32).toInt8.toInt32)), (.int ((p5.toInt8.toInt32).toInt8.toInt32)), (.int (0 : Int32)), (.int (0 : Int32)), (.int (0 : Int32)), (.int (0 : Int32)), (.int (0 : Int32))] (.int (0 : Int32)) := Arv.set cl11A cl11q cl11S cl11N cl11H cl11G (fits_nar_byte _) W11 1 rfl (Nat.le_of_ble_eq_true rfl)
  have Kp11 : Keep h0 h11 [] := Kp7.wr W11 (Or.inr sz4)
  have Z13 : n0 ≤ h11.size := Nat.le_trans Z9 (Nat.le_of_eq W11.size.symm)
  have N14 := Fr.snoc X11 N10 ge3
  refine Goes.by st11 ?_
  show Goes p.tables e below _ (T11.setTop (mkF m 48 #[.val (.int p0), .val (.int p1), .val (.int p2), .val (.int p3), .val (.int p4), .val (.int p5), .val (.int (p0.toInt8.toInt32)), .val (.int (p1.toInt8.toInt32)), .val (.int (p2.toInt8.toInt32)), .val (.int (p3.toInt8.toInt32)), .val (.int (p5.toInt8.toInt32)), .val (.int o), .val (.ref b2), .unset, .unset] []))
  refine Goes.by (B := T11.setTop (mkF m 53 #[.val (.int p0), .val (.int p1), .val (.int p2), .val (.int p3), .val (.int p4), .val (.int p5), .val (.int (p0.toInt8.toInt32)), .val (.int (p1.toInt8.toInt32)), .val (.int (p2.toInt8.toInt32)), .val (.int (p3.toInt8.toInt32)), .val (.int (p5.toInt8.toInt32)), .val (.int o), .val (.ref b2), .unset, .unset] [(.int (p5.toInt8.toInt32)), (.int (2 : Int32)), (.ref b2)])) (fun t k => ?_) ?_
  · show Steps p.tables e below (T11.setTop (mkF m 48 #[.val (.int p0), .val (.int p1), .val (.int p2), .val (.int p3), .val (.int p4), .val (.int p5), .val (.int (p0.toInt8.toInt32)), .val (.int (p1.toInt8.toInt32)), .val (.int (p2.toInt8.toInt32)), .val (.int (p3.toInt8.toInt32)), .val (.int (p5.toInt8.toInt32)), .val (.int o), .val (.ref b2), .unset, .unset] [])) t
    refine XS.aload X11.here hx rfl (hb hby at_48) rfl rfl ?_
    show Steps p.tables e below (T11.setTop (mkF m 50 #[.val (.int p0), .val (.int p1), .val (.int p2), .val (.int p3), .val (.int p4), .val (.int p5), .val (.int (p0.toInt8.toInt32)), .val (.int (p1.toInt8.toInt32)), .val (.int (p2.toInt8.toInt32)), .val (.int (p3.toInt8.toInt32)), .val (.int (p5.toInt8.toInt32)), .val (.int o), .val (.ref b2), .unset, .unset] [(.ref b2)])) t
    refine XS.iconst X11.here hx rfl (hb hby at_50) ?_
    show Steps p.tables e below (T11.setTop (mkF m 51 #[.val (.int p0), .val (.int p1), .val (.int p2), .val (.int p3), .val (.int p4), .val (.int p5), .val (.int (p0.toInt8.toInt32)), .val (.int (p1.toInt8.toInt32)), .val (.int (p2.toInt8.toInt32)), .val (.int (p3.toInt8.toInt32)), .val (.int (p5.toInt8.toInt32)), .val (.int o), .val (.ref b2), .unset, .unset] [(.int (2 : Int32)), (.ref b2)])) t
    refine XS.iload X11.here hx rfl (hb hby at_51) rfl ?_
    exact k
  obtain ⟨cl15, cl15A, cl15q, cl15S, cl15N, cl15H, cl15G⟩ := f12
  have cl15I : ¬ ((2 : Int32) < 0 ∨ cl15.slots.size ≤ ((2 : Int32)).toNatClampNeg) := inb_of cl15S ⟨by decide, by decide⟩
  obtain ⟨T15, h15, X15, e15, W15, st15⟩ := stB X11 hx hZ e11 cl15A (j := (2 : Int32)) cl15I (g := (mkF m 53 #[.val (.int p0), .val (.int p1), .val (.int p2), .val (.int p3), .val (.int p4), .val (.int p5), .val (.int (p0.toInt8.toInt32)), .val (.int (p1.toInt8.toInt32)), .val (.int (p2.toInt8.toInt32)), .val (.int (p3.toInt8.toInt32)), .val (.int (p5.toInt8.toInt32)), .val (.int o), .val (.ref b2), .unset, .unset] [(.int (p5.toInt8.toInt32)), (.int (2 : Int32)), (.ref b2)])) rfl rfl (hb hby at_53)
  have f16 : Arv Z h15 b2 k1 .byte (7 : Int32) [(.int ((p5.toInt8.toInt32).toInt8.toInt32)), (.int ((p5.toInt8.toInt32).toInt8.toInt32)), (.int ((p5.toInt8.toInt32).toInt8.toInt32)), (.int (0 : Int32)), (.int (0 : Int32)), (.int (0 : Int32)), (.int (0 : Int32))] (.int (0 : Int32)) := Arv.set cl15A cl15q cl15S cl15N cl15H cl15G (fits_nar_byte _) W15 2 rfl (Nat.le_of_ble_eq_true rfl)
  have Kp15 : Keep h0 h15 [] := Kp11.wr W15 (Or.inr sz4)
  have Z17 : n0 ≤ h15.size := Nat.le_trans Z13 (Nat.le_of_eq W15.size.symm)
  have N18 := Fr.snoc X15 N14 ge3
  refine Goes.by st15 ?_
  show Goes p.tables e below _ (T15.setTop (mkF m 54 #[.val (.int p0), .val (.int p1), .val (.int p2), .val (.int p3), .val (.int p4), .val (.int p5), .val (.int (p0.toInt8.toInt32)), .val (.int (p1.toInt8.toInt32)), .val (.int (p2.toInt8.toInt32)), .val (.int (p3.toInt8.toInt32)), .val (.int (p5.toInt8.toInt32)), .val (.int o), .val (.ref b2), .unset, .unset] []))
  refine Goes.by (B := T15.setTop (mkF m 59 #[.val (.int p0), .val (.int p1), .val (.int p2), .val (.int p3), .val (.int p4), .val (.int p5), .val (.int (p0.toInt8.toInt32)), .val (.int (p1.toInt8.toInt32)), .val (.int (p2.toInt8.toInt32)), .val (.int (p3.toInt8.toInt32)), .val (.int (p5.toInt8.toInt32)), .val (.int o), .val (.ref b2), .unset, .unset] [(.int (p5.toInt8.toInt32)), (.int (3 : Int32)), (.ref b2)])) (fun t k => ?_) ?_
  · show Steps p.tables e below (T15.setTop (mkF m 54 #[.val (.int p0), .val (.int p1), .val (.int p2), .val (.int p3), .val (.int p4), .val (.int p5), .val (.int (p0.toInt8.toInt32)), .val (.int (p1.toInt8.toInt32)), .val (.int (p2.toInt8.toInt32)), .val (.int (p3.toInt8.toInt32)), .val (.int (p5.toInt8.toInt32)), .val (.int o), .val (.ref b2), .unset, .unset] [])) t
    refine XS.aload X15.here hx rfl (hb hby at_54) rfl rfl ?_
    show Steps p.tables e below (T15.setTop (mkF m 56 #[.val (.int p0), .val (.int p1), .val (.int p2), .val (.int p3), .val (.int p4), .val (.int p5), .val (.int (p0.toInt8.toInt32)), .val (.int (p1.toInt8.toInt32)), .val (.int (p2.toInt8.toInt32)), .val (.int (p3.toInt8.toInt32)), .val (.int (p5.toInt8.toInt32)), .val (.int o), .val (.ref b2), .unset, .unset] [(.ref b2)])) t
    refine XS.iconst X15.here hx rfl (hb hby at_56) ?_
    show Steps p.tables e below (T15.setTop (mkF m 57 #[.val (.int p0), .val (.int p1), .val (.int p2), .val (.int p3), .val (.int p4), .val (.int p5), .val (.int (p0.toInt8.toInt32)), .val (.int (p1.toInt8.toInt32)), .val (.int (p2.toInt8.toInt32)), .val (.int (p3.toInt8.toInt32)), .val (.int (p5.toInt8.toInt32)), .val (.int o), .val (.ref b2), .unset, .unset] [(.int (3 : Int32)), (.ref b2)])) t
    refine XS.iload X15.here hx rfl (hb hby at_57) rfl ?_
    exact k
  obtain ⟨cl19, cl19A, cl19q, cl19S, cl19N, cl19H, cl19G⟩ := f16
  have cl19I : ¬ ((3 : Int32) < 0 ∨ cl19.slots.size ≤ ((3 : Int32)).toNatClampNeg) := inb_of cl19S ⟨by decide, by decide⟩
  obtain ⟨T19, h19, X19, e19, W19, st19⟩ := stB X15 hx hZ e15 cl19A (j := (3 : Int32)) cl19I (g := (mkF m 59 #[.val (.int p0), .val (.int p1), .val (.int p2), .val (.int p3), .val (.int p4), .val (.int p5), .val (.int (p0.toInt8.toInt32)), .val (.int (p1.toInt8.toInt32)), .val (.int (p2.toInt8.toInt32)), .val (.int (p3.toInt8.toInt32)), .val (.int (p5.toInt8.toInt32)), .val (.int o), .val (.ref b2), .unset, .unset] [(.int (p5.toInt8.toInt32)), (.int (3 : Int32)), (.ref b2)])) rfl rfl (hb hby at_59)
  have f20 : Arv Z h19 b2 k1 .byte (7 : Int32) [(.int ((p5.toInt8.toInt32).toInt8.toInt32)), (.int ((p5.toInt8.toInt32).toInt8.toInt32)), (.int ((p5.toInt8.toInt32).toInt8.toInt32)), (.int ((p5.toInt8.toInt32).toInt8.toInt32)), (.int (0 : Int32)), (.int (0 : Int32)), (.int (0 : Int32))] (.int (0 : Int32)) := Arv.set cl19A cl19q cl19S cl19N cl19H cl19G (fits_nar_byte _) W19 3 rfl (Nat.le_of_ble_eq_true rfl)
  have Kp19 : Keep h0 h19 [] := Kp15.wr W19 (Or.inr sz4)
  have Z21 : n0 ≤ h19.size := Nat.le_trans Z17 (Nat.le_of_eq W19.size.symm)
  have N22 := Fr.snoc X19 N18 ge3
  refine Goes.by st19 ?_
  show Goes p.tables e below _ (T19.setTop (mkF m 60 #[.val (.int p0), .val (.int p1), .val (.int p2), .val (.int p3), .val (.int p4), .val (.int p5), .val (.int (p0.toInt8.toInt32)), .val (.int (p1.toInt8.toInt32)), .val (.int (p2.toInt8.toInt32)), .val (.int (p3.toInt8.toInt32)), .val (.int (p5.toInt8.toInt32)), .val (.int o), .val (.ref b2), .unset, .unset] []))
  refine Goes.by (B := T19.setTop (mkF m 65 #[.val (.int p0), .val (.int p1), .val (.int p2), .val (.int p3), .val (.int p4), .val (.int p5), .val (.int (p0.toInt8.toInt32)), .val (.int (p1.toInt8.toInt32)), .val (.int (p2.toInt8.toInt32)), .val (.int (p3.toInt8.toInt32)), .val (.int (p5.toInt8.toInt32)), .val (.int o), .val (.ref b2), .unset, .unset] [(.int (p5.toInt8.toInt32)), (.int (4 : Int32)), (.ref b2)])) (fun t k => ?_) ?_
  · show Steps p.tables e below (T19.setTop (mkF m 60 #[.val (.int p0), .val (.int p1), .val (.int p2), .val (.int p3), .val (.int p4), .val (.int p5), .val (.int (p0.toInt8.toInt32)), .val (.int (p1.toInt8.toInt32)), .val (.int (p2.toInt8.toInt32)), .val (.int (p3.toInt8.toInt32)), .val (.int (p5.toInt8.toInt32)), .val (.int o), .val (.ref b2), .unset, .unset] [])) t
    refine XS.aload X19.here hx rfl (hb hby at_60) rfl rfl ?_
    show Steps p.tables e below (T19.setTop (mkF m 62 #[.val (.int p0), .val (.int p1), .val (.int p2), .val (.int p3), .val (.int p4), .val (.int p5), .val (.int (p0.toInt8.toInt32)), .val (.int (p1.toInt8.toInt32)), .val (.int (p2.toInt8.toInt32)), .val (.int (p3.toInt8.toInt32)), .val (.int (p5.toInt8.toInt32)), .val (.int o), .val (.ref b2), .unset, .unset] [(.ref b2)])) t
    refine XS.iconst X19.here hx rfl (hb hby at_62) ?_
    show Steps p.tables e below (T19.setTop (mkF m 63 #[.val (.int p0), .val (.int p1), .val (.int p2), .val (.int p3), .val (.int p4), .val (.int p5), .val (.int (p0.toInt8.toInt32)), .val (.int (p1.toInt8.toInt32)), .val (.int (p2.toInt8.toInt32)), .val (.int (p3.toInt8.toInt32)), .val (.int (p5.toInt8.toInt32)), .val (.int o), .val (.ref b2), .unset, .unset] [(.int (4 : Int32)), (.ref b2)])) t
    refine XS.iload X19.here hx rfl (hb hby at_63) rfl ?_
    exact k
  obtain ⟨cl23, cl23A, cl23q, cl23S, cl23N, cl23H, cl23G⟩ := f20
  have cl23I : ¬ ((4 : Int32) < 0 ∨ cl23.slots.size ≤ ((4 : Int32)).toNatClampNeg) := inb_of cl23S ⟨by decide, by decide⟩
  obtain ⟨T23, h23, X23, e23, W23, st23⟩ := stB X19 hx hZ e19 cl23A (j := (4 : Int32)) cl23I (g := (mkF m 65 #[.val (.int p0), .val (.int p1), .val (.int p2), .val (.int p3), .val (.int p4), .val (.int p5), .val (.int (p0.toInt8.toInt32)), .val (.int (p1.toInt8.toInt32)), .val (.int (p2.toInt8.toInt32)), .val (.int (p3.toInt8.toInt32)), .val (.int (p5.toInt8.toInt32)), .val (.int o), .val (.ref b2), .unset, .unset] [(.int (p5.toInt8.toInt32)), (.int (4 : Int32)), (.ref b2)])) rfl rfl (hb hby at_65)
  have f24 : Arv Z h23 b2 k1 .byte (7 : Int32) [(.int ((p5.toInt8.toInt32).toInt8.toInt32)), (.int ((p5.toInt8.toInt32).toInt8.toInt32)), (.int ((p5.toInt8.toInt32).toInt8.toInt32)), (.int ((p5.toInt8.toInt32).toInt8.toInt32)), (.int ((p5.toInt8.toInt32).toInt8.toInt32)), (.int (0 : Int32)), (.int (0 : Int32))] (.int (0 : Int32)) := Arv.set cl23A cl23q cl23S cl23N cl23H cl23G (fits_nar_byte _) W23 4 rfl (Nat.le_of_ble_eq_true rfl)
  have Kp23 : Keep h0 h23 [] := Kp19.wr W23 (Or.inr sz4)
  have Z25 : n0 ≤ h23.size := Nat.le_trans Z21 (Nat.le_of_eq W23.size.symm)
  have N26 := Fr.snoc X23 N22 ge3
  refine Goes.by st23 ?_
  show Goes p.tables e below _ (T23.setTop (mkF m 66 #[.val (.int p0), .val (.int p1), .val (.int p2), .val (.int p3), .val (.int p4), .val (.int p5), .val (.int (p0.toInt8.toInt32)), .val (.int (p1.toInt8.toInt32)), .val (.int (p2.toInt8.toInt32)), .val (.int (p3.toInt8.toInt32)), .val (.int (p5.toInt8.toInt32)), .val (.int o), .val (.ref b2), .unset, .unset] []))
  refine Goes.by (B := T23.setTop (mkF m 71 #[.val (.int p0), .val (.int p1), .val (.int p2), .val (.int p3), .val (.int p4), .val (.int p5), .val (.int (p0.toInt8.toInt32)), .val (.int (p1.toInt8.toInt32)), .val (.int (p2.toInt8.toInt32)), .val (.int (p3.toInt8.toInt32)), .val (.int (p5.toInt8.toInt32)), .val (.int o), .val (.ref b2), .unset, .unset] [(.int (p5.toInt8.toInt32)), (.int (5 : Int32)), (.ref b2)])) (fun t k => ?_) ?_
  · show Steps p.tables e below (T23.setTop (mkF m 66 #[.val (.int p0), .val (.int p1), .val (.int p2), .val (.int p3), .val (.int p4), .val (.int p5), .val (.int (p0.toInt8.toInt32)), .val (.int (p1.toInt8.toInt32)), .val (.int (p2.toInt8.toInt32)), .val (.int (p3.toInt8.toInt32)), .val (.int (p5.toInt8.toInt32)), .val (.int o), .val (.ref b2), .unset, .unset] [])) t
    refine XS.aload X23.here hx rfl (hb hby at_66) rfl rfl ?_
    show Steps p.tables e below (T23.setTop (mkF m 68 #[.val (.int p0), .val (.int p1), .val (.int p2), .val (.int p3), .val (.int p4), .val (.int p5), .val (.int (p0.toInt8.toInt32)), .val (.int (p1.toInt8.toInt32)), .val (.int (p2.toInt8.toInt32)), .val (.int (p3.toInt8.toInt32)), .val (.int (p5.toInt8.toInt32)), .val (.int o), .val (.ref b2), .unset, .unset] [(.ref b2)])) t
    refine XS.iconst X23.here hx rfl (hb hby at_68) ?_
    show Steps p.tables e below (T23.setTop (mkF m 69 #[.val (.int p0), .val (.int p1), .val (.int p2), .val (.int p3), .val (.int p4), .val (.int p5), .val (.int (p0.toInt8.toInt32)), .val (.int (p1.toInt8.toInt32)), .val (.int (p2.toInt8.toInt32)), .val (.int (p3.toInt8.toInt32)), .val (.int (p5.toInt8.toInt32)), .val (.int o), .val (.ref b2), .unset, .unset] [(.int (5 : Int32)), (.ref b2)])) t
    refine XS.iload X23.here hx rfl (hb hby at_69) rfl ?_
    exact k
  obtain ⟨cl27, cl27A, cl27q, cl27S, cl27N, cl27H, cl27G⟩ := f24
  have cl27I : ¬ ((5 : Int32) < 0 ∨ cl27.slots.size ≤ ((5 : Int32)).toNatClampNeg) := inb_of cl27S ⟨by decide, by decide⟩
  obtain ⟨T27, h27, X27, e27, W27, st27⟩ := stB X23 hx hZ e23 cl27A (j := (5 : Int32)) cl27I (g := (mkF m 71 #[.val (.int p0), .val (.int p1), .val (.int p2), .val (.int p3), .val (.int p4), .val (.int p5), .val (.int (p0.toInt8.toInt32)), .val (.int (p1.toInt8.toInt32)), .val (.int (p2.toInt8.toInt32)), .val (.int (p3.toInt8.toInt32)), .val (.int (p5.toInt8.toInt32)), .val (.int o), .val (.ref b2), .unset, .unset] [(.int (p5.toInt8.toInt32)), (.int (5 : Int32)), (.ref b2)])) rfl rfl (hb hby at_71)
  have f28 : Arv Z h27 b2 k1 .byte (7 : Int32) [(.int ((p5.toInt8.toInt32).toInt8.toInt32)), (.int ((p5.toInt8.toInt32).toInt8.toInt32)), (.int ((p5.toInt8.toInt32).toInt8.toInt32)), (.int ((p5.toInt8.toInt32).toInt8.toInt32)), (.int ((p5.toInt8.toInt32).toInt8.toInt32)), (.int ((p5.toInt8.toInt32).toInt8.toInt32)), (.int (0 : Int32))] (.int (0 : Int32)) := Arv.set cl27A cl27q cl27S cl27N cl27H cl27G (fits_nar_byte _) W27 5 rfl (Nat.le_of_ble_eq_true rfl)
  have Kp27 : Keep h0 h27 [] := Kp23.wr W27 (Or.inr sz4)
  have Z29 : n0 ≤ h27.size := Nat.le_trans Z25 (Nat.le_of_eq W27.size.symm)
  have N30 := Fr.snoc X27 N26 ge3
  refine Goes.by st27 ?_
  show Goes p.tables e below _ (T27.setTop (mkF m 72 #[.val (.int p0), .val (.int p1), .val (.int p2), .val (.int p3), .val (.int p4), .val (.int p5), .val (.int (p0.toInt8.toInt32)), .val (.int (p1.toInt8.toInt32)), .val (.int (p2.toInt8.toInt32)), .val (.int (p3.toInt8.toInt32)), .val (.int (p5.toInt8.toInt32)), .val (.int o), .val (.ref b2), .unset, .unset] []))
  refine Goes.by (B := T27.setTop (mkF m 78 #[.val (.int p0), .val (.int p1), .val (.int p2), .val (.int p3), .val (.int p4), .val (.int p5), .val (.int (p0.toInt8.toInt32)), .val (.int (p1.toInt8.toInt32)), .val (.int (p2.toInt8.toInt32)), .val (.int (p3.toInt8.toInt32)), .val (.int (p5.toInt8.toInt32)), .val (.int o), .val (.ref b2), .unset, .unset] [(.int (p5.toInt8.toInt32)), (.int (6 : Int32)), (.ref b2)])) (fun t k => ?_) ?_
  · show Steps p.tables e below (T27.setTop (mkF m 72 #[.val (.int p0), .val (.int p1), .val (.int p2), .val (.int p3), .val (.int p4), .val (.int p5), .val (.int (p0.toInt8.toInt32)), .val (.int (p1.toInt8.toInt32)), .val (.int (p2.toInt8.toInt32)), .val (.int (p3.toInt8.toInt32)), .val (.int (p5.toInt8.toInt32)), .val (.int o), .val (.ref b2), .unset, .unset] [])) t
    refine XS.aload X27.here hx rfl (hb hby at_72) rfl rfl ?_
    show Steps p.tables e below (T27.setTop (mkF m 74 #[.val (.int p0), .val (.int p1), .val (.int p2), .val (.int p3), .val (.int p4), .val (.int p5), .val (.int (p0.toInt8.toInt32)), .val (.int (p1.toInt8.toInt32)), .val (.int (p2.toInt8.toInt32)), .val (.int (p3.toInt8.toInt32)), .val (.int (p5.toInt8.toInt32)), .val (.int o), .val (.ref b2), .unset, .unset] [(.ref b2)])) t
    refine XS.bipush X27.here hx rfl (hb hby at_74) ?_
    show Steps p.tables e below (T27.setTop (mkF m 76 #[.val (.int p0), .val (.int p1), .val (.int p2), .val (.int p3), .val (.int p4), .val (.int p5), .val (.int (p0.toInt8.toInt32)), .val (.int (p1.toInt8.toInt32)), .val (.int (p2.toInt8.toInt32)), .val (.int (p3.toInt8.toInt32)), .val (.int (p5.toInt8.toInt32)), .val (.int o), .val (.ref b2), .unset, .unset] [(.int (6 : Int32)), (.ref b2)])) t
    refine XS.iload X27.here hx rfl (hb hby at_76) rfl ?_
    exact k
  obtain ⟨cl31, cl31A, cl31q, cl31S, cl31N, cl31H, cl31G⟩ := f28
  have cl31I : ¬ ((6 : Int32) < 0 ∨ cl31.slots.size ≤ ((6 : Int32)).toNatClampNeg) := inb_of cl31S ⟨by decide, by decide⟩
  obtain ⟨T31, h31, X31, e31, W31, st31⟩ := stB X27 hx hZ e27 cl31A (j := (6 : Int32)) cl31I (g := (mkF m 78 #[.val (.int p0), .val (.int p1), .val (.int p2), .val (.int p3), .val (.int p4), .val (.int p5), .val (.int (p0.toInt8.toInt32)), .val (.int (p1.toInt8.toInt32)), .val (.int (p2.toInt8.toInt32)), .val (.int (p3.toInt8.toInt32)), .val (.int (p5.toInt8.toInt32)), .val (.int o), .val (.ref b2), .unset, .unset] [(.int (p5.toInt8.toInt32)), (.int (6 : Int32)), (.ref b2)])) rfl rfl (hb hby at_78)
  have f32 : Arv Z h31 b2 k1 .byte (7 : Int32) [(.int ((p5.toInt8.toInt32).toInt8.toInt32)), (.int ((p5.toInt8.toInt32).toInt8.toInt32)), (.int ((p5.toInt8.toInt32).toInt8.toInt32)), (.int ((p5.toInt8.toInt32).toInt8.toInt32)), (.int ((p5.toInt8.toInt32).toInt8.toInt32)), (.int ((p5.toInt8.toInt32).toInt8.toInt32)), (.int ((p5.toInt8.toInt32).toInt8.toInt32))] (.int (0 : Int32)) := Arv.set cl31A cl31q cl31S cl31N cl31H cl31G (fits_nar_byte _) W31 6 rfl (Nat.le_of_ble_eq_true rfl)
  have Kp31 : Keep h0 h31 [] := Kp27.wr W31 (Or.inr sz4)
  have Z33 : n0 ≤ h31.size := Nat.le_trans Z29 (Nat.le_of_eq W31.size.symm)
  have N34 := Fr.snoc X31 N30 ge3
  refine Goes.by st31 ?_
  show Goes p.tables e below _ (T31.setTop (mkF m 79 #[.val (.int p0), .val (.int p1), .val (.int p2), .val (.int p3), .val (.int p4), .val (.int p5), .val (.int (p0.toInt8.toInt32)), .val (.int (p1.toInt8.toInt32)), .val (.int (p2.toInt8.toInt32)), .val (.int (p3.toInt8.toInt32)), .val (.int (p5.toInt8.toInt32)), .val (.int o), .val (.ref b2), .unset, .unset] []))
  rcases own_o p4 o hg_o with rfl | rfl | rfl | rfl
  · refine Goes.by (B := T31.setTop (mkF m 85 #[.val (.int p0), .val (.int p1), .val (.int p2), .val (.int p3), .val (.int p4), .val (.int p5), .val (.int (p0.toInt8.toInt32)), .val (.int (p1.toInt8.toInt32)), .val (.int (p2.toInt8.toInt32)), .val (.int (p3.toInt8.toInt32)), .val (.int (p5.toInt8.toInt32)), .val (.int (0 : Int32)), .val (.ref b2), .unset, .unset] [(.int (p0.toInt8.toInt32)), (.int (0 : Int32)), (.ref b2)])) (fun t k => ?_) ?_
    · show Steps p.tables e below (T31.setTop (mkF m 79 #[.val (.int p0), .val (.int p1), .val (.int p2), .val (.int p3), .val (.int p4), .val (.int p5), .val (.int (p0.toInt8.toInt32)), .val (.int (p1.toInt8.toInt32)), .val (.int (p2.toInt8.toInt32)), .val (.int (p3.toInt8.toInt32)), .val (.int (p5.toInt8.toInt32)), .val (.int (0 : Int32)), .val (.ref b2), .unset, .unset] [])) t
      refine XS.aload X31.here hx rfl (hb hby at_79) rfl rfl ?_
      show Steps p.tables e below (T31.setTop (mkF m 81 #[.val (.int p0), .val (.int p1), .val (.int p2), .val (.int p3), .val (.int p4), .val (.int p5), .val (.int (p0.toInt8.toInt32)), .val (.int (p1.toInt8.toInt32)), .val (.int (p2.toInt8.toInt32)), .val (.int (p3.toInt8.toInt32)), .val (.int (p5.toInt8.toInt32)), .val (.int (0 : Int32)), .val (.ref b2), .unset, .unset] [(.ref b2)])) t
      refine XS.iload X31.here hx rfl (hb hby at_81) rfl ?_
      show Steps p.tables e below (T31.setTop (mkF m 83 #[.val (.int p0), .val (.int p1), .val (.int p2), .val (.int p3), .val (.int p4), .val (.int p5), .val (.int (p0.toInt8.toInt32)), .val (.int (p1.toInt8.toInt32)), .val (.int (p2.toInt8.toInt32)), .val (.int (p3.toInt8.toInt32)), .val (.int (p5.toInt8.toInt32)), .val (.int (0 : Int32)), .val (.ref b2), .unset, .unset] [(.int (0 : Int32)), (.ref b2)])) t
      refine XS.iload X31.here hx rfl (hb hby at_83) rfl ?_
      exact k
    obtain ⟨cl35, cl35A, cl35q, cl35S, cl35N, cl35H, cl35G⟩ := f32
    have cl35I : ¬ ((0 : Int32) < 0 ∨ cl35.slots.size ≤ ((0 : Int32)).toNatClampNeg) := inb_of cl35S ⟨by decide, by decide⟩
    obtain ⟨T35, h35, X35, e35, W35, st35⟩ := stB X31 hx hZ e31 cl35A (j := (0 : Int32)) cl35I (g := (mkF m 85 #[.val (.int p0), .val (.int p1), .val (.int p2), .val (.int p3), .val (.int p4), .val (.int p5), .val (.int (p0.toInt8.toInt32)), .val (.int (p1.toInt8.toInt32)), .val (.int (p2.toInt8.toInt32)), .val (.int (p3.toInt8.toInt32)), .val (.int (p5.toInt8.toInt32)), .val (.int (0 : Int32)), .val (.ref b2), .unset, .unset] [(.int (p0.toInt8.toInt32)), (.int (0 : Int32)), (.ref b2)])) rfl rfl (hb hby at_85)
    have f36 : Arv Z h35 b2 k1 .byte (7 : Int32) [(.int ((p0.toInt8.toInt32).toInt8.toInt32)), (.int ((p5.toInt8.toInt32).toInt8.toInt32)), (.int ((p5.toInt8.toInt32).toInt8.toInt32)), (.int ((p5.toInt8.toInt32).toInt8.toInt32)), (.int ((p5.toInt8.toInt32).toInt8.toInt32)), (.int ((p5.toInt8.toInt32).toInt8.toInt32)), (.int ((p5.toInt8.toInt32).toInt8.toInt32))] (.int (0 : Int32)) := Arv.set cl35A cl35q cl35S cl35N cl35H cl35G (fits_nar_byte _) W35 0 rfl (Nat.le_of_ble_eq_true rfl)
    have Kp35 : Keep h0 h35 [] := Kp31.wr W35 (Or.inr sz4)
    have Z37 : n0 ≤ h35.size := Nat.le_trans Z33 (Nat.le_of_eq W35.size.symm)
    have N38 := Fr.snoc X35 N34 ge3
    refine Goes.by st35 ?_
    show Goes p.tables e below _ (T35.setTop (mkF m 86 #[.val (.int p0), .val (.int p1), .val (.int p2), .val (.int p3), .val (.int p4), .val (.int p5), .val (.int (p0.toInt8.toInt32)), .val (.int (p1.toInt8.toInt32)), .val (.int (p2.toInt8.toInt32)), .val (.int (p3.toInt8.toInt32)), .val (.int (p5.toInt8.toInt32)), .val (.int (0 : Int32)), .val (.ref b2), .unset, .unset] []))
    refine Goes.by (B := T35.setTop (mkF m 94 #[.val (.int p0), .val (.int p1), .val (.int p2), .val (.int p3), .val (.int p4), .val (.int p5), .val (.int (p0.toInt8.toInt32)), .val (.int (p1.toInt8.toInt32)), .val (.int (p2.toInt8.toInt32)), .val (.int (p3.toInt8.toInt32)), .val (.int (p5.toInt8.toInt32)), .val (.int (0 : Int32)), .val (.ref b2), .unset, .unset] [(.int (p1.toInt8.toInt32)), (.int (1 : Int32)), (.ref b2)])) (fun t k => ?_) ?_
    · show Steps p.tables e below (T35.setTop (mkF m 86 #[.val (.int p0), .val (.int p1), .val (.int p2), .val (.int p3), .val (.int p4), .val (.int p5), .val (.int (p0.toInt8.toInt32)), .val (.int (p1.toInt8.toInt32)), .val (.int (p2.toInt8.toInt32)), .val (.int (p3.toInt8.toInt32)), .val (.int (p5.toInt8.toInt32)), .val (.int (0 : Int32)), .val (.ref b2), .unset, .unset] [])) t
      refine XS.aload X35.here hx rfl (hb hby at_86) rfl rfl ?_
      show Steps p.tables e below (T35.setTop (mkF m 88 #[.val (.int p0), .val (.int p1), .val (.int p2), .val (.int p3), .val (.int p4), .val (.int p5), .val (.int (p0.toInt8.toInt32)), .val (.int (p1.toInt8.toInt32)), .val (.int (p2.toInt8.toInt32)), .val (.int (p3.toInt8.toInt32)), .val (.int (p5.toInt8.toInt32)), .val (.int (0 : Int32)), .val (.ref b2), .unset, .unset] [(.ref b2)])) t
      refine XS.iload X35.here hx rfl (hb hby at_88) rfl ?_
      show Steps p.tables e below (T35.setTop (mkF m 90 #[.val (.int p0), .val (.int p1), .val (.int p2), .val (.int p3), .val (.int p4), .val (.int p5), .val (.int (p0.toInt8.toInt32)), .val (.int (p1.toInt8.toInt32)), .val (.int (p2.toInt8.toInt32)), .val (.int (p3.toInt8.toInt32)), .val (.int (p5.toInt8.toInt32)), .val (.int (0 : Int32)), .val (.ref b2), .unset, .unset] [(.int (0 : Int32)), (.ref b2)])) t
      refine XS.iconst X35.here hx rfl (hb hby at_90) ?_
      show Steps p.tables e below (T35.setTop (mkF m 91 #[.val (.int p0), .val (.int p1), .val (.int p2), .val (.int p3), .val (.int p4), .val (.int p5), .val (.int (p0.toInt8.toInt32)), .val (.int (p1.toInt8.toInt32)), .val (.int (p2.toInt8.toInt32)), .val (.int (p3.toInt8.toInt32)), .val (.int (p5.toInt8.toInt32)), .val (.int (0 : Int32)), .val (.ref b2), .unset, .unset] [(.int (1 : Int32)), (.int (0 : Int32)), (.ref b2)])) t
      refine XS.iadd X35.here hx rfl (hb hby at_91) rfl ?_
      show Steps p.tables e below (T35.setTop (mkF m 92 #[.val (.int p0), .val (.int p1), .val (.int p2), .val (.int p3), .val (.int p4), .val (.int p5), .val (.int (p0.toInt8.toInt32)), .val (.int (p1.toInt8.toInt32)), .val (.int (p2.toInt8.toInt32)), .val (.int (p3.toInt8.toInt32)), .val (.int (p5.toInt8.toInt32)), .val (.int (0 : Int32)), .val (.ref b2), .unset, .unset] [(.int (1 : Int32)), (.ref b2)])) t
      refine XS.iload X35.here hx rfl (hb hby at_92) rfl ?_
      exact k
    obtain ⟨cl39, cl39A, cl39q, cl39S, cl39N, cl39H, cl39G⟩ := f36
    have cl39I : ¬ ((1 : Int32) < 0 ∨ cl39.slots.size ≤ ((1 : Int32)).toNatClampNeg) := inb_of cl39S ⟨by decide, by decide⟩
    obtain ⟨T39, h39, X39, e39, W39, st39⟩ := stB X35 hx hZ e35 cl39A (j := (1 : Int32)) cl39I (g := (mkF m 94 #[.val (.int p0), .val (.int p1), .val (.int p2), .val (.int p3), .val (.int p4), .val (.int p5), .val (.int (p0.toInt8.toInt32)), .val (.int (p1.toInt8.toInt32)), .val (.int (p2.toInt8.toInt32)), .val (.int (p3.toInt8.toInt32)), .val (.int (p5.toInt8.toInt32)), .val (.int (0 : Int32)), .val (.ref b2), .unset, .unset] [(.int (p1.toInt8.toInt32)), (.int (1 : Int32)), (.ref b2)])) rfl rfl (hb hby at_94)
    have f40 : Arv Z h39 b2 k1 .byte (7 : Int32) [(.int ((p0.toInt8.toInt32).toInt8.toInt32)), (.int ((p1.toInt8.toInt32).toInt8.toInt32)), (.int ((p5.toInt8.toInt32).toInt8.toInt32)), (.int ((p5.toInt8.toInt32).toInt8.toInt32)), (.int ((p5.toInt8.toInt32).toInt8.toInt32)), (.int ((p5.toInt8.toInt32).toInt8.toInt32)), (.int ((p5.toInt8.toInt32).toInt8.toInt32))] (.int (0 : Int32)) := Arv.set cl39A cl39q cl39S cl39N cl39H cl39G (fits_nar_byte _) W39 1 rfl (Nat.le_of_ble_eq_true rfl)
    have Kp39 : Keep h0 h39 [] := Kp35.wr W39 (Or.inr sz4)
    have Z41 : n0 ≤ h39.size := Nat.le_trans Z37 (Nat.le_of_eq W39.size.symm)
    have N42 := Fr.snoc X39 N38 ge3
    refine Goes.by st39 ?_
    show Goes p.tables e below _ (T39.setTop (mkF m 95 #[.val (.int p0), .val (.int p1), .val (.int p2), .val (.int p3), .val (.int p4), .val (.int p5), .val (.int (p0.toInt8.toInt32)), .val (.int (p1.toInt8.toInt32)), .val (.int (p2.toInt8.toInt32)), .val (.int (p3.toInt8.toInt32)), .val (.int (p5.toInt8.toInt32)), .val (.int (0 : Int32)), .val (.ref b2), .unset, .unset] []))
    refine Goes.by (B := T39.setTop (mkF m 103 #[.val (.int p0), .val (.int p1), .val (.int p2), .val (.int p3), .val (.int p4), .val (.int p5), .val (.int (p0.toInt8.toInt32)), .val (.int (p1.toInt8.toInt32)), .val (.int (p2.toInt8.toInt32)), .val (.int (p3.toInt8.toInt32)), .val (.int (p5.toInt8.toInt32)), .val (.int (0 : Int32)), .val (.ref b2), .unset, .unset] [(.int (p2.toInt8.toInt32)), (.int (2 : Int32)), (.ref b2)])) (fun t k => ?_) ?_
    · show Steps p.tables e below (T39.setTop (mkF m 95 #[.val (.int p0), .val (.int p1), .val (.int p2), .val (.int p3), .val (.int p4), .val (.int p5), .val (.int (p0.toInt8.toInt32)), .val (.int (p1.toInt8.toInt32)), .val (.int (p2.toInt8.toInt32)), .val (.int (p3.toInt8.toInt32)), .val (.int (p5.toInt8.toInt32)), .val (.int (0 : Int32)), .val (.ref b2), .unset, .unset] [])) t
      refine XS.aload X39.here hx rfl (hb hby at_95) rfl rfl ?_
      show Steps p.tables e below (T39.setTop (mkF m 97 #[.val (.int p0), .val (.int p1), .val (.int p2), .val (.int p3), .val (.int p4), .val (.int p5), .val (.int (p0.toInt8.toInt32)), .val (.int (p1.toInt8.toInt32)), .val (.int (p2.toInt8.toInt32)), .val (.int (p3.toInt8.toInt32)), .val (.int (p5.toInt8.toInt32)), .val (.int (0 : Int32)), .val (.ref b2), .unset, .unset] [(.ref b2)])) t
      refine XS.iload X39.here hx rfl (hb hby at_97) rfl ?_
      show Steps p.tables e below (T39.setTop (mkF m 99 #[.val (.int p0), .val (.int p1), .val (.int p2), .val (.int p3), .val (.int p4), .val (.int p5), .val (.int (p0.toInt8.toInt32)), .val (.int (p1.toInt8.toInt32)), .val (.int (p2.toInt8.toInt32)), .val (.int (p3.toInt8.toInt32)), .val (.int (p5.toInt8.toInt32)), .val (.int (0 : Int32)), .val (.ref b2), .unset, .unset] [(.int (0 : Int32)), (.ref b2)])) t
      refine XS.iconst X39.here hx rfl (hb hby at_99) ?_
      show Steps p.tables e below (T39.setTop (mkF m 100 #[.val (.int p0), .val (.int p1), .val (.int p2), .val (.int p3), .val (.int p4), .val (.int p5), .val (.int (p0.toInt8.toInt32)), .val (.int (p1.toInt8.toInt32)), .val (.int (p2.toInt8.toInt32)), .val (.int (p3.toInt8.toInt32)), .val (.int (p5.toInt8.toInt32)), .val (.int (0 : Int32)), .val (.ref b2), .unset, .unset] [(.int (2 : Int32)), (.int (0 : Int32)), (.ref b2)])) t
      refine XS.iadd X39.here hx rfl (hb hby at_100) rfl ?_
      show Steps p.tables e below (T39.setTop (mkF m 101 #[.val (.int p0), .val (.int p1), .val (.int p2), .val (.int p3), .val (.int p4), .val (.int p5), .val (.int (p0.toInt8.toInt32)), .val (.int (p1.toInt8.toInt32)), .val (.int (p2.toInt8.toInt32)), .val (.int (p3.toInt8.toInt32)), .val (.int (p5.toInt8.toInt32)), .val (.int (0 : Int32)), .val (.ref b2), .unset, .unset] [(.int (2 : Int32)), (.ref b2)])) t
      refine XS.iload X39.here hx rfl (hb hby at_101) rfl ?_
      exact k
    obtain ⟨cl43, cl43A, cl43q, cl43S, cl43N, cl43H, cl43G⟩ := f40
    have cl43I : ¬ ((2 : Int32) < 0 ∨ cl43.slots.size ≤ ((2 : Int32)).toNatClampNeg) := inb_of cl43S ⟨by decide, by decide⟩
    obtain ⟨T43, h43, X43, e43, W43, st43⟩ := stB X39 hx hZ e39 cl43A (j := (2 : Int32)) cl43I (g := (mkF m 103 #[.val (.int p0), .val (.int p1), .val (.int p2), .val (.int p3), .val (.int p4), .val (.int p5), .val (.int (p0.toInt8.toInt32)), .val (.int (p1.toInt8.toInt32)), .val (.int (p2.toInt8.toInt32)), .val (.int (p3.toInt8.toInt32)), .val (.int (p5.toInt8.toInt32)), .val (.int (0 : Int32)), .val (.ref b2), .unset, .unset] [(.int (p2.toInt8.toInt32)), (.int (2 : Int32)), (.ref b2)])) rfl rfl (hb hby at_103)
    have f44 : Arv Z h43 b2 k1 .byte (7 : Int32) [(.int ((p0.toInt8.toInt32).toInt8.toInt32)), (.int ((p1.toInt8.toInt32).toInt8.toInt32)), (.int ((p2.toInt8.toInt32).toInt8.toInt32)), (.int ((p5.toInt8.toInt32).toInt8.toInt32)), (.int ((p5.toInt8.toInt32).toInt8.toInt32)), (.int ((p5.toInt8.toInt32).toInt8.toInt32)), (.int ((p5.toInt8.toInt32).toInt8.toInt32))] (.int (0 : Int32)) := Arv.set cl43A cl43q cl43S cl43N cl43H cl43G (fits_nar_byte _) W43 2 rfl (Nat.le_of_ble_eq_true rfl)
    have Kp43 : Keep h0 h43 [] := Kp39.wr W43 (Or.inr sz4)
    have Z45 : n0 ≤ h43.size := Nat.le_trans Z41 (Nat.le_of_eq W43.size.symm)
    have N46 := Fr.snoc X43 N42 ge3
    refine Goes.by st43 ?_
    show Goes p.tables e below _ (T43.setTop (mkF m 104 #[.val (.int p0), .val (.int p1), .val (.int p2), .val (.int p3), .val (.int p4), .val (.int p5), .val (.int (p0.toInt8.toInt32)), .val (.int (p1.toInt8.toInt32)), .val (.int (p2.toInt8.toInt32)), .val (.int (p3.toInt8.toInt32)), .val (.int (p5.toInt8.toInt32)), .val (.int (0 : Int32)), .val (.ref b2), .unset, .unset] []))
    refine Goes.by (B := T43.setTop (mkF m 112 #[.val (.int p0), .val (.int p1), .val (.int p2), .val (.int p3), .val (.int p4), .val (.int p5), .val (.int (p0.toInt8.toInt32)), .val (.int (p1.toInt8.toInt32)), .val (.int (p2.toInt8.toInt32)), .val (.int (p3.toInt8.toInt32)), .val (.int (p5.toInt8.toInt32)), .val (.int (0 : Int32)), .val (.ref b2), .unset, .unset] [(.int (p3.toInt8.toInt32)), (.int (3 : Int32)), (.ref b2)])) (fun t k => ?_) ?_
    · show Steps p.tables e below (T43.setTop (mkF m 104 #[.val (.int p0), .val (.int p1), .val (.int p2), .val (.int p3), .val (.int p4), .val (.int p5), .val (.int (p0.toInt8.toInt32)), .val (.int (p1.toInt8.toInt32)), .val (.int (p2.toInt8.toInt32)), .val (.int (p3.toInt8.toInt32)), .val (.int (p5.toInt8.toInt32)), .val (.int (0 : Int32)), .val (.ref b2), .unset, .unset] [])) t
      refine XS.aload X43.here hx rfl (hb hby at_104) rfl rfl ?_
      show Steps p.tables e below (T43.setTop (mkF m 106 #[.val (.int p0), .val (.int p1), .val (.int p2), .val (.int p3), .val (.int p4), .val (.int p5), .val (.int (p0.toInt8.toInt32)), .val (.int (p1.toInt8.toInt32)), .val (.int (p2.toInt8.toInt32)), .val (.int (p3.toInt8.toInt32)), .val (.int (p5.toInt8.toInt32)), .val (.int (0 : Int32)), .val (.ref b2), .unset, .unset] [(.ref b2)])) t
      refine XS.iload X43.here hx rfl (hb hby at_106) rfl ?_
      show Steps p.tables e below (T43.setTop (mkF m 108 #[.val (.int p0), .val (.int p1), .val (.int p2), .val (.int p3), .val (.int p4), .val (.int p5), .val (.int (p0.toInt8.toInt32)), .val (.int (p1.toInt8.toInt32)), .val (.int (p2.toInt8.toInt32)), .val (.int (p3.toInt8.toInt32)), .val (.int (p5.toInt8.toInt32)), .val (.int (0 : Int32)), .val (.ref b2), .unset, .unset] [(.int (0 : Int32)), (.ref b2)])) t
      refine XS.iconst X43.here hx rfl (hb hby at_108) ?_
      show Steps p.tables e below (T43.setTop (mkF m 109 #[.val (.int p0), .val (.int p1), .val (.int p2), .val (.int p3), .val (.int p4), .val (.int p5), .val (.int (p0.toInt8.toInt32)), .val (.int (p1.toInt8.toInt32)), .val (.int (p2.toInt8.toInt32)), .val (.int (p3.toInt8.toInt32)), .val (.int (p5.toInt8.toInt32)), .val (.int (0 : Int32)), .val (.ref b2), .unset, .unset] [(.int (3 : Int32)), (.int (0 : Int32)), (.ref b2)])) t
      refine XS.iadd X43.here hx rfl (hb hby at_109) rfl ?_
      show Steps p.tables e below (T43.setTop (mkF m 110 #[.val (.int p0), .val (.int p1), .val (.int p2), .val (.int p3), .val (.int p4), .val (.int p5), .val (.int (p0.toInt8.toInt32)), .val (.int (p1.toInt8.toInt32)), .val (.int (p2.toInt8.toInt32)), .val (.int (p3.toInt8.toInt32)), .val (.int (p5.toInt8.toInt32)), .val (.int (0 : Int32)), .val (.ref b2), .unset, .unset] [(.int (3 : Int32)), (.ref b2)])) t
      refine XS.iload X43.here hx rfl (hb hby at_110) rfl ?_
      exact k
    obtain ⟨cl47, cl47A, cl47q, cl47S, cl47N, cl47H, cl47G⟩ := f44
    have cl47I : ¬ ((3 : Int32) < 0 ∨ cl47.slots.size ≤ ((3 : Int32)).toNatClampNeg) := inb_of cl47S ⟨by decide, by decide⟩
    obtain ⟨T47, h47, X47, e47, W47, st47⟩ := stB X43 hx hZ e43 cl47A (j := (3 : Int32)) cl47I (g := (mkF m 112 #[.val (.int p0), .val (.int p1), .val (.int p2), .val (.int p3), .val (.int p4), .val (.int p5), .val (.int (p0.toInt8.toInt32)), .val (.int (p1.toInt8.toInt32)), .val (.int (p2.toInt8.toInt32)), .val (.int (p3.toInt8.toInt32)), .val (.int (p5.toInt8.toInt32)), .val (.int (0 : Int32)), .val (.ref b2), .unset, .unset] [(.int (p3.toInt8.toInt32)), (.int (3 : Int32)), (.ref b2)])) rfl rfl (hb hby at_112)
    have f48 : Arv Z h47 b2 k1 .byte (7 : Int32) [(.int ((p0.toInt8.toInt32).toInt8.toInt32)), (.int ((p1.toInt8.toInt32).toInt8.toInt32)), (.int ((p2.toInt8.toInt32).toInt8.toInt32)), (.int ((p3.toInt8.toInt32).toInt8.toInt32)), (.int ((p5.toInt8.toInt32).toInt8.toInt32)), (.int ((p5.toInt8.toInt32).toInt8.toInt32)), (.int ((p5.toInt8.toInt32).toInt8.toInt32))] (.int (0 : Int32)) := Arv.set cl47A cl47q cl47S cl47N cl47H cl47G (fits_nar_byte _) W47 3 rfl (Nat.le_of_ble_eq_true rfl)
    have Kp47 : Keep h0 h47 [] := Kp43.wr W47 (Or.inr sz4)
    have Z49 : n0 ≤ h47.size := Nat.le_trans Z45 (Nat.le_of_eq W47.size.symm)
    have N50 := Fr.snoc X47 N46 ge3
    refine Goes.by st47 ?_
    show Goes p.tables e below _ (T47.setTop (mkF m 113 #[.val (.int p0), .val (.int p1), .val (.int p2), .val (.int p3), .val (.int p4), .val (.int p5), .val (.int (p0.toInt8.toInt32)), .val (.int (p1.toInt8.toInt32)), .val (.int (p2.toInt8.toInt32)), .val (.int (p3.toInt8.toInt32)), .val (.int (p5.toInt8.toInt32)), .val (.int (0 : Int32)), .val (.ref b2), .unset, .unset] []))
    refine Goes.by (B := T47.setTop (mkF m 152 #[.val (.int p0), .val (.int p1), .val (.int p2), .val (.int p3), .val (.int p4), .val (.int p5), .val (.int (p0.toInt8.toInt32)), .val (.int (p1.toInt8.toInt32)), .val (.int (p2.toInt8.toInt32)), .val (.int (p3.toInt8.toInt32)), .val (.int (p5.toInt8.toInt32)), .val (.int (0 : Int32)), .val (.ref b2), .val (.int (((((p0.toInt8.toInt32) * (16777216 : Int32)) + (((p1.toInt8.toInt32) &&& (255 : Int32)) * (65536 : Int32))) + (((p2.toInt8.toInt32) &&& (255 : Int32)) * (256 : Int32))) + ((p3.toInt8.toInt32) &&& (255 : Int32)))), .unset] [(.int (0 : Int32)), (.ref b2)])) (fun t k => ?_) ?_
    · show Steps p.tables e below (T47.setTop (mkF m 113 #[.val (.int p0), .val (.int p1), .val (.int p2), .val (.int p3), .val (.int p4), .val (.int p5), .val (.int (p0.toInt8.toInt32)), .val (.int (p1.toInt8.toInt32)), .val (.int (p2.toInt8.toInt32)), .val (.int (p3.toInt8.toInt32)), .val (.int (p5.toInt8.toInt32)), .val (.int (0 : Int32)), .val (.ref b2), .unset, .unset] [])) t
      refine XS.iload X47.here hx rfl (hb hby at_113) rfl ?_
      show Steps p.tables e below (T47.setTop (mkF m 115 #[.val (.int p0), .val (.int p1), .val (.int p2), .val (.int p3), .val (.int p4), .val (.int p5), .val (.int (p0.toInt8.toInt32)), .val (.int (p1.toInt8.toInt32)), .val (.int (p2.toInt8.toInt32)), .val (.int (p3.toInt8.toInt32)), .val (.int (p5.toInt8.toInt32)), .val (.int (0 : Int32)), .val (.ref b2), .unset, .unset] [(.int (p0.toInt8.toInt32))])) t
      refine X47.ldcInt hx hown (mvT hZ (hw _ (List.mem_of_getElem? (i := 2) rfl))) (g := (mkF m 115 #[.val (.int p0), .val (.int p1), .val (.int p2), .val (.int p3), .val (.int p4), .val (.int p5), .val (.int (p0.toInt8.toInt32)), .val (.int (p1.toInt8.toInt32)), .val (.int (p2.toInt8.toInt32)), .val (.int (p3.toInt8.toInt32)), .val (.int (p5.toInt8.toInt32)), .val (.int (0 : Int32)), .val (.ref b2), .unset, .unset] [(.int (p0.toInt8.toInt32))])) rfl (hb hby at_115) _ ?_
      show Steps p.tables e below (T47.setTop (mkF m 117 #[.val (.int p0), .val (.int p1), .val (.int p2), .val (.int p3), .val (.int p4), .val (.int p5), .val (.int (p0.toInt8.toInt32)), .val (.int (p1.toInt8.toInt32)), .val (.int (p2.toInt8.toInt32)), .val (.int (p3.toInt8.toInt32)), .val (.int (p5.toInt8.toInt32)), .val (.int (0 : Int32)), .val (.ref b2), .unset, .unset] [(.int (16777216 : Int32)), (.int (p0.toInt8.toInt32))])) t
      refine XS.imul X47.here hx rfl (hb hby at_117) rfl ?_
      show Steps p.tables e below (T47.setTop (mkF m 118 #[.val (.int p0), .val (.int p1), .val (.int p2), .val (.int p3), .val (.int p4), .val (.int p5), .val (.int (p0.toInt8.toInt32)), .val (.int (p1.toInt8.toInt32)), .val (.int (p2.toInt8.toInt32)), .val (.int (p3.toInt8.toInt32)), .val (.int (p5.toInt8.toInt32)), .val (.int (0 : Int32)), .val (.ref b2), .unset, .unset] [(.int ((p0.toInt8.toInt32) * (16777216 : Int32)))])) t
      refine XS.iload X47.here hx rfl (hb hby at_118) rfl ?_
      show Steps p.tables e below (T47.setTop (mkF m 120 #[.val (.int p0), .val (.int p1), .val (.int p2), .val (.int p3), .val (.int p4), .val (.int p5), .val (.int (p0.toInt8.toInt32)), .val (.int (p1.toInt8.toInt32)), .val (.int (p2.toInt8.toInt32)), .val (.int (p3.toInt8.toInt32)), .val (.int (p5.toInt8.toInt32)), .val (.int (0 : Int32)), .val (.ref b2), .unset, .unset] [(.int (p1.toInt8.toInt32)), (.int ((p0.toInt8.toInt32) * (16777216 : Int32)))])) t
      refine XS.sipush X47.here hx rfl (hb hby at_120) ?_
      show Steps p.tables e below (T47.setTop (mkF m 123 #[.val (.int p0), .val (.int p1), .val (.int p2), .val (.int p3), .val (.int p4), .val (.int p5), .val (.int (p0.toInt8.toInt32)), .val (.int (p1.toInt8.toInt32)), .val (.int (p2.toInt8.toInt32)), .val (.int (p3.toInt8.toInt32)), .val (.int (p5.toInt8.toInt32)), .val (.int (0 : Int32)), .val (.ref b2), .unset, .unset] [(.int (255 : Int32)), (.int (p1.toInt8.toInt32)), (.int ((p0.toInt8.toInt32) * (16777216 : Int32)))])) t
      refine XS.iand X47.here hx rfl (hb hby at_123) rfl ?_
      show Steps p.tables e below (T47.setTop (mkF m 124 #[.val (.int p0), .val (.int p1), .val (.int p2), .val (.int p3), .val (.int p4), .val (.int p5), .val (.int (p0.toInt8.toInt32)), .val (.int (p1.toInt8.toInt32)), .val (.int (p2.toInt8.toInt32)), .val (.int (p3.toInt8.toInt32)), .val (.int (p5.toInt8.toInt32)), .val (.int (0 : Int32)), .val (.ref b2), .unset, .unset] [(.int ((p1.toInt8.toInt32) &&& (255 : Int32))), (.int ((p0.toInt8.toInt32) * (16777216 : Int32)))])) t
      refine X47.ldcInt hx hown (mvT hZ (hw _ (List.mem_of_getElem? (i := 3) rfl))) (g := (mkF m 124 #[.val (.int p0), .val (.int p1), .val (.int p2), .val (.int p3), .val (.int p4), .val (.int p5), .val (.int (p0.toInt8.toInt32)), .val (.int (p1.toInt8.toInt32)), .val (.int (p2.toInt8.toInt32)), .val (.int (p3.toInt8.toInt32)), .val (.int (p5.toInt8.toInt32)), .val (.int (0 : Int32)), .val (.ref b2), .unset, .unset] [(.int ((p1.toInt8.toInt32) &&& (255 : Int32))), (.int ((p0.toInt8.toInt32) * (16777216 : Int32)))])) rfl (hb hby at_124) _ ?_
      show Steps p.tables e below (T47.setTop (mkF m 126 #[.val (.int p0), .val (.int p1), .val (.int p2), .val (.int p3), .val (.int p4), .val (.int p5), .val (.int (p0.toInt8.toInt32)), .val (.int (p1.toInt8.toInt32)), .val (.int (p2.toInt8.toInt32)), .val (.int (p3.toInt8.toInt32)), .val (.int (p5.toInt8.toInt32)), .val (.int (0 : Int32)), .val (.ref b2), .unset, .unset] [(.int (65536 : Int32)), (.int ((p1.toInt8.toInt32) &&& (255 : Int32))), (.int ((p0.toInt8.toInt32) * (16777216 : Int32)))])) t
      refine XS.imul X47.here hx rfl (hb hby at_126) rfl ?_
      show Steps p.tables e below (T47.setTop (mkF m 127 #[.val (.int p0), .val (.int p1), .val (.int p2), .val (.int p3), .val (.int p4), .val (.int p5), .val (.int (p0.toInt8.toInt32)), .val (.int (p1.toInt8.toInt32)), .val (.int (p2.toInt8.toInt32)), .val (.int (p3.toInt8.toInt32)), .val (.int (p5.toInt8.toInt32)), .val (.int (0 : Int32)), .val (.ref b2), .unset, .unset] [(.int (((p1.toInt8.toInt32) &&& (255 : Int32)) * (65536 : Int32))), (.int ((p0.toInt8.toInt32) * (16777216 : Int32)))])) t
      refine XS.iadd X47.here hx rfl (hb hby at_127) rfl ?_
      show Steps p.tables e below (T47.setTop (mkF m 128 #[.val (.int p0), .val (.int p1), .val (.int p2), .val (.int p3), .val (.int p4), .val (.int p5), .val (.int (p0.toInt8.toInt32)), .val (.int (p1.toInt8.toInt32)), .val (.int (p2.toInt8.toInt32)), .val (.int (p3.toInt8.toInt32)), .val (.int (p5.toInt8.toInt32)), .val (.int (0 : Int32)), .val (.ref b2), .unset, .unset] [(.int (((p0.toInt8.toInt32) * (16777216 : Int32)) + (((p1.toInt8.toInt32) &&& (255 : Int32)) * (65536 : Int32))))])) t
      refine XS.iload X47.here hx rfl (hb hby at_128) rfl ?_
      show Steps p.tables e below (T47.setTop (mkF m 130 #[.val (.int p0), .val (.int p1), .val (.int p2), .val (.int p3), .val (.int p4), .val (.int p5), .val (.int (p0.toInt8.toInt32)), .val (.int (p1.toInt8.toInt32)), .val (.int (p2.toInt8.toInt32)), .val (.int (p3.toInt8.toInt32)), .val (.int (p5.toInt8.toInt32)), .val (.int (0 : Int32)), .val (.ref b2), .unset, .unset] [(.int (p2.toInt8.toInt32)), (.int (((p0.toInt8.toInt32) * (16777216 : Int32)) + (((p1.toInt8.toInt32) &&& (255 : Int32)) * (65536 : Int32))))])) t
      refine XS.sipush X47.here hx rfl (hb hby at_130) ?_
      show Steps p.tables e below (T47.setTop (mkF m 133 #[.val (.int p0), .val (.int p1), .val (.int p2), .val (.int p3), .val (.int p4), .val (.int p5), .val (.int (p0.toInt8.toInt32)), .val (.int (p1.toInt8.toInt32)), .val (.int (p2.toInt8.toInt32)), .val (.int (p3.toInt8.toInt32)), .val (.int (p5.toInt8.toInt32)), .val (.int (0 : Int32)), .val (.ref b2), .unset, .unset] [(.int (255 : Int32)), (.int (p2.toInt8.toInt32)), (.int (((p0.toInt8.toInt32) * (16777216 : Int32)) + (((p1.toInt8.toInt32) &&& (255 : Int32)) * (65536 : Int32))))])) t
      refine XS.iand X47.here hx rfl (hb hby at_133) rfl ?_
      show Steps p.tables e below (T47.setTop (mkF m 134 #[.val (.int p0), .val (.int p1), .val (.int p2), .val (.int p3), .val (.int p4), .val (.int p5), .val (.int (p0.toInt8.toInt32)), .val (.int (p1.toInt8.toInt32)), .val (.int (p2.toInt8.toInt32)), .val (.int (p3.toInt8.toInt32)), .val (.int (p5.toInt8.toInt32)), .val (.int (0 : Int32)), .val (.ref b2), .unset, .unset] [(.int ((p2.toInt8.toInt32) &&& (255 : Int32))), (.int (((p0.toInt8.toInt32) * (16777216 : Int32)) + (((p1.toInt8.toInt32) &&& (255 : Int32)) * (65536 : Int32))))])) t
      refine XS.sipush X47.here hx rfl (hb hby at_134) ?_
      show Steps p.tables e below (T47.setTop (mkF m 137 #[.val (.int p0), .val (.int p1), .val (.int p2), .val (.int p3), .val (.int p4), .val (.int p5), .val (.int (p0.toInt8.toInt32)), .val (.int (p1.toInt8.toInt32)), .val (.int (p2.toInt8.toInt32)), .val (.int (p3.toInt8.toInt32)), .val (.int (p5.toInt8.toInt32)), .val (.int (0 : Int32)), .val (.ref b2), .unset, .unset] [(.int (256 : Int32)), (.int ((p2.toInt8.toInt32) &&& (255 : Int32))), (.int (((p0.toInt8.toInt32) * (16777216 : Int32)) + (((p1.toInt8.toInt32) &&& (255 : Int32)) * (65536 : Int32))))])) t
      refine XS.imul X47.here hx rfl (hb hby at_137) rfl ?_
      show Steps p.tables e below (T47.setTop (mkF m 138 #[.val (.int p0), .val (.int p1), .val (.int p2), .val (.int p3), .val (.int p4), .val (.int p5), .val (.int (p0.toInt8.toInt32)), .val (.int (p1.toInt8.toInt32)), .val (.int (p2.toInt8.toInt32)), .val (.int (p3.toInt8.toInt32)), .val (.int (p5.toInt8.toInt32)), .val (.int (0 : Int32)), .val (.ref b2), .unset, .unset] [(.int (((p2.toInt8.toInt32) &&& (255 : Int32)) * (256 : Int32))), (.int (((p0.toInt8.toInt32) * (16777216 : Int32)) + (((p1.toInt8.toInt32) &&& (255 : Int32)) * (65536 : Int32))))])) t
      refine XS.iadd X47.here hx rfl (hb hby at_138) rfl ?_
      show Steps p.tables e below (T47.setTop (mkF m 139 #[.val (.int p0), .val (.int p1), .val (.int p2), .val (.int p3), .val (.int p4), .val (.int p5), .val (.int (p0.toInt8.toInt32)), .val (.int (p1.toInt8.toInt32)), .val (.int (p2.toInt8.toInt32)), .val (.int (p3.toInt8.toInt32)), .val (.int (p5.toInt8.toInt32)), .val (.int (0 : Int32)), .val (.ref b2), .unset, .unset] [(.int ((((p0.toInt8.toInt32) * (16777216 : Int32)) + (((p1.toInt8.toInt32) &&& (255 : Int32)) * (65536 : Int32))) + (((p2.toInt8.toInt32) &&& (255 : Int32)) * (256 : Int32))))])) t
      refine XS.iload X47.here hx rfl (hb hby at_139) rfl ?_
      show Steps p.tables e below (T47.setTop (mkF m 141 #[.val (.int p0), .val (.int p1), .val (.int p2), .val (.int p3), .val (.int p4), .val (.int p5), .val (.int (p0.toInt8.toInt32)), .val (.int (p1.toInt8.toInt32)), .val (.int (p2.toInt8.toInt32)), .val (.int (p3.toInt8.toInt32)), .val (.int (p5.toInt8.toInt32)), .val (.int (0 : Int32)), .val (.ref b2), .unset, .unset] [(.int (p3.toInt8.toInt32)), (.int ((((p0.toInt8.toInt32) * (16777216 : Int32)) + (((p1.toInt8.toInt32) &&& (255 : Int32)) * (65536 : Int32))) + (((p2.toInt8.toInt32) &&& (255 : Int32)) * (256 : Int32))))])) t
      refine XS.sipush X47.here hx rfl (hb hby at_141) ?_
      show Steps p.tables e below (T47.setTop (mkF m 144 #[.val (.int p0), .val (.int p1), .val (.int p2), .val (.int p3), .val (.int p4), .val (.int p5), .val (.int (p0.toInt8.toInt32)), .val (.int (p1.toInt8.toInt32)), .val (.int (p2.toInt8.toInt32)), .val (.int (p3.toInt8.toInt32)), .val (.int (p5.toInt8.toInt32)), .val (.int (0 : Int32)), .val (.ref b2), .unset, .unset] [(.int (255 : Int32)), (.int (p3.toInt8.toInt32)), (.int ((((p0.toInt8.toInt32) * (16777216 : Int32)) + (((p1.toInt8.toInt32) &&& (255 : Int32)) * (65536 : Int32))) + (((p2.toInt8.toInt32) &&& (255 : Int32)) * (256 : Int32))))])) t
      refine XS.iand X47.here hx rfl (hb hby at_144) rfl ?_
      show Steps p.tables e below (T47.setTop (mkF m 145 #[.val (.int p0), .val (.int p1), .val (.int p2), .val (.int p3), .val (.int p4), .val (.int p5), .val (.int (p0.toInt8.toInt32)), .val (.int (p1.toInt8.toInt32)), .val (.int (p2.toInt8.toInt32)), .val (.int (p3.toInt8.toInt32)), .val (.int (p5.toInt8.toInt32)), .val (.int (0 : Int32)), .val (.ref b2), .unset, .unset] [(.int ((p3.toInt8.toInt32) &&& (255 : Int32))), (.int ((((p0.toInt8.toInt32) * (16777216 : Int32)) + (((p1.toInt8.toInt32) &&& (255 : Int32)) * (65536 : Int32))) + (((p2.toInt8.toInt32) &&& (255 : Int32)) * (256 : Int32))))])) t
      refine XS.iadd X47.here hx rfl (hb hby at_145) rfl ?_
      show Steps p.tables e below (T47.setTop (mkF m 146 #[.val (.int p0), .val (.int p1), .val (.int p2), .val (.int p3), .val (.int p4), .val (.int p5), .val (.int (p0.toInt8.toInt32)), .val (.int (p1.toInt8.toInt32)), .val (.int (p2.toInt8.toInt32)), .val (.int (p3.toInt8.toInt32)), .val (.int (p5.toInt8.toInt32)), .val (.int (0 : Int32)), .val (.ref b2), .unset, .unset] [(.int (((((p0.toInt8.toInt32) * (16777216 : Int32)) + (((p1.toInt8.toInt32) &&& (255 : Int32)) * (65536 : Int32))) + (((p2.toInt8.toInt32) &&& (255 : Int32)) * (256 : Int32))) + ((p3.toInt8.toInt32) &&& (255 : Int32))))])) t
      refine XS.istore X47.here hx rfl (hb hby at_146) rfl (l' := #[.val (.int p0), .val (.int p1), .val (.int p2), .val (.int p3), .val (.int p4), .val (.int p5), .val (.int (p0.toInt8.toInt32)), .val (.int (p1.toInt8.toInt32)), .val (.int (p2.toInt8.toInt32)), .val (.int (p3.toInt8.toInt32)), .val (.int (p5.toInt8.toInt32)), .val (.int (0 : Int32)), .val (.ref b2), .val (.int (((((p0.toInt8.toInt32) * (16777216 : Int32)) + (((p1.toInt8.toInt32) &&& (255 : Int32)) * (65536 : Int32))) + (((p2.toInt8.toInt32) &&& (255 : Int32)) * (256 : Int32))) + ((p3.toInt8.toInt32) &&& (255 : Int32)))), .unset]) rfl ?_
      show Steps p.tables e below (T47.setTop (mkF m 148 #[.val (.int p0), .val (.int p1), .val (.int p2), .val (.int p3), .val (.int p4), .val (.int p5), .val (.int (p0.toInt8.toInt32)), .val (.int (p1.toInt8.toInt32)), .val (.int (p2.toInt8.toInt32)), .val (.int (p3.toInt8.toInt32)), .val (.int (p5.toInt8.toInt32)), .val (.int (0 : Int32)), .val (.ref b2), .val (.int (((((p0.toInt8.toInt32) * (16777216 : Int32)) + (((p1.toInt8.toInt32) &&& (255 : Int32)) * (65536 : Int32))) + (((p2.toInt8.toInt32) &&& (255 : Int32)) * (256 : Int32))) + ((p3.toInt8.toInt32) &&& (255 : Int32)))), .unset] [])) t
      refine XS.aload X47.here hx rfl (hb hby at_148) rfl rfl ?_
      show Steps p.tables e below (T47.setTop (mkF m 150 #[.val (.int p0), .val (.int p1), .val (.int p2), .val (.int p3), .val (.int p4), .val (.int p5), .val (.int (p0.toInt8.toInt32)), .val (.int (p1.toInt8.toInt32)), .val (.int (p2.toInt8.toInt32)), .val (.int (p3.toInt8.toInt32)), .val (.int (p5.toInt8.toInt32)), .val (.int (0 : Int32)), .val (.ref b2), .val (.int (((((p0.toInt8.toInt32) * (16777216 : Int32)) + (((p1.toInt8.toInt32) &&& (255 : Int32)) * (65536 : Int32))) + (((p2.toInt8.toInt32) &&& (255 : Int32)) * (256 : Int32))) + ((p3.toInt8.toInt32) &&& (255 : Int32)))), .unset] [(.ref b2)])) t
      refine XS.iload X47.here hx rfl (hb hby at_150) rfl ?_
      exact k
    have el52 : Elt Z h47 b2 .byte (0 : Int32) (.int ((p0.toInt8.toInt32).toInt8.toInt32)) := Elt.of f48 ⟨by decide, by decide⟩ rfl
    have el53 : Elt Z h47 b2 .byte ((0 : Int32) + (1 : Int32)) (.int ((p1.toInt8.toInt32).toInt8.toInt32)) := Elt.of f48 ⟨by decide, by decide⟩ rfl
    have el54 : Elt Z h47 b2 .byte ((0 : Int32) + (2 : Int32)) (.int ((p2.toInt8.toInt32).toInt8.toInt32)) := Elt.of f48 ⟨by decide, by decide⟩ rfl
    have el55 : Elt Z h47 b2 .byte ((0 : Int32) + (3 : Int32)) (.int ((p3.toInt8.toInt32).toInt8.toInt32)) := Elt.of f48 ⟨by decide, by decide⟩ rfl
    obtain ⟨_, _, ⟨T51, L51, k51, n51⟩, -, X51, ⟨Lc51, hQ51, l51, y51, z51⟩, st51⟩ := Jvm.LawKit.callS X47 hx (y := (⟨"com/example/moraine/moraine/BigEndian", "getInt", "([BI)I"⟩ : MethodName)) hown (mvT hZ (hw _ (List.mem_of_getElem? (i := 4) rfl))) (mvT hZ (hw _ (List.mem_of_getElem? (i := 5) rfl))) (mvT hZ (hw _ (List.mem_of_getElem? (i := 6) rfl))) (mvT hZ (hw _ (List.mem_of_getElem? (i := 7) rfl))) (by decide) (backOf (W := 0) (rmGet l Z az hw [] b2 (0 : Int32) ((p0.toInt8.toInt32).toInt8.toInt32) ((p1.toInt8.toInt32).toInt8.toInt32) ((p2.toInt8.toInt32).toInt8.toInt32) ((p3.toInt8.toInt32).toInt8.toInt32) h47 n0 Z49 el52 el53 el54 el55) hZ (hw _ (List.mem_of_getElem? (i := 7) rfl)) (hw _ (List.mem_of_getElem? (i := 6) rfl)) (by decide) (by decide)) (g := (mkF m 152 #[.val (.int p0), .val (.int p1), .val (.int p2), .val (.int p3), .val (.int p4), .val (.int p5), .val (.int (p0.toInt8.toInt32)), .val (.int (p1.toInt8.toInt32)), .val (.int (p2.toInt8.toInt32)), .val (.int (p3.toInt8.toInt32)), .val (.int (p5.toInt8.toInt32)), .val (.int (0 : Int32)), .val (.ref b2), .val (.int (((((p0.toInt8.toInt32) * (16777216 : Int32)) + (((p1.toInt8.toInt32) &&& (255 : Int32)) * (65536 : Int32))) + (((p2.toInt8.toInt32) &&& (255 : Int32)) * (256 : Int32))) + ((p3.toInt8.toInt32) &&& (255 : Int32)))), .unset] [(.int (0 : Int32)), (.ref b2)])) rfl (by rw [hml]; rfl) (argsL := [(.ref b2), (.int (0 : Int32))]) (rest := []) (lenOf own_pd0 rfl) rfl (by show 2 * 0 + _ ≤ _; exact Nat.le_of_eq rfl) (hb hby at_152) (fun _ _ => ⟨rfl, e47, (by decide : 1 + 0 ≤ _), (by decide : 7 + 0 ≤ _)⟩)
    dsimp only [Pt.U, Pt.locs, Pt.cells, Pt.slots] at X51 l51 y51 z51 st51 hQ51
    subst l51 y51 z51
    obtain ⟨rfl, N51q, e51⟩ := hQ51
    have N56 := Fr.app N50 N51q
    refine Goes.by st51 ?_
    show Goes p.tables e below _ (T51.setTop (mkF m 155 #[.val (.int p0), .val (.int p1), .val (.int p2), .val (.int p3), .val (.int p4), .val (.int p5), .val (.int (p0.toInt8.toInt32)), .val (.int (p1.toInt8.toInt32)), .val (.int (p2.toInt8.toInt32)), .val (.int (p3.toInt8.toInt32)), .val (.int (p5.toInt8.toInt32)), .val (.int (0 : Int32)), .val (.ref b2), .val (.int (((((p0.toInt8.toInt32) * (16777216 : Int32)) + (((p1.toInt8.toInt32) &&& (255 : Int32)) * (65536 : Int32))) + (((p2.toInt8.toInt32) &&& (255 : Int32)) * (256 : Int32))) + ((p3.toInt8.toInt32) &&& (255 : Int32)))), .unset] [(.int (fGet ((p0.toInt8.toInt32).toInt8.toInt32) ((p1.toInt8.toInt32).toInt8.toInt32) ((p2.toInt8.toInt32).toInt8.toInt32) ((p3.toInt8.toInt32).toInt8.toInt32)))]))
    refine Goes.by (B := T51.setTop (mkF m 169 #[.val (.int p0), .val (.int p1), .val (.int p2), .val (.int p3), .val (.int p4), .val (.int p5), .val (.int (p0.toInt8.toInt32)), .val (.int (p1.toInt8.toInt32)), .val (.int (p2.toInt8.toInt32)), .val (.int (p3.toInt8.toInt32)), .val (.int (p5.toInt8.toInt32)), .val (.int (0 : Int32)), .val (.ref b2), .val (.int (((((p0.toInt8.toInt32) * (16777216 : Int32)) + (((p1.toInt8.toInt32) &&& (255 : Int32)) * (65536 : Int32))) + (((p2.toInt8.toInt32) &&& (255 : Int32)) * (256 : Int32))) + ((p3.toInt8.toInt32) &&& (255 : Int32)))), .val (.int (fGet ((p0.toInt8.toInt32).toInt8.toInt32) ((p1.toInt8.toInt32).toInt8.toInt32) ((p2.toInt8.toInt32).toInt8.toInt32) ((p3.toInt8.toInt32).toInt8.toInt32)))] [(.int (1 : Int32))])) (fun t k => ?_) ?_
    · show Steps p.tables e below (T51.setTop (mkF m 155 #[.val (.int p0), .val (.int p1), .val (.int p2), .val (.int p3), .val (.int p4), .val (.int p5), .val (.int (p0.toInt8.toInt32)), .val (.int (p1.toInt8.toInt32)), .val (.int (p2.toInt8.toInt32)), .val (.int (p3.toInt8.toInt32)), .val (.int (p5.toInt8.toInt32)), .val (.int (0 : Int32)), .val (.ref b2), .val (.int (((((p0.toInt8.toInt32) * (16777216 : Int32)) + (((p1.toInt8.toInt32) &&& (255 : Int32)) * (65536 : Int32))) + (((p2.toInt8.toInt32) &&& (255 : Int32)) * (256 : Int32))) + ((p3.toInt8.toInt32) &&& (255 : Int32)))), .unset] [(.int (fGet ((p0.toInt8.toInt32).toInt8.toInt32) ((p1.toInt8.toInt32).toInt8.toInt32) ((p2.toInt8.toInt32).toInt8.toInt32) ((p3.toInt8.toInt32).toInt8.toInt32)))])) t
      refine XS.istore X51.here hx rfl (hb hby at_155) rfl (l' := #[.val (.int p0), .val (.int p1), .val (.int p2), .val (.int p3), .val (.int p4), .val (.int p5), .val (.int (p0.toInt8.toInt32)), .val (.int (p1.toInt8.toInt32)), .val (.int (p2.toInt8.toInt32)), .val (.int (p3.toInt8.toInt32)), .val (.int (p5.toInt8.toInt32)), .val (.int (0 : Int32)), .val (.ref b2), .val (.int (((((p0.toInt8.toInt32) * (16777216 : Int32)) + (((p1.toInt8.toInt32) &&& (255 : Int32)) * (65536 : Int32))) + (((p2.toInt8.toInt32) &&& (255 : Int32)) * (256 : Int32))) + ((p3.toInt8.toInt32) &&& (255 : Int32)))), .val (.int (fGet ((p0.toInt8.toInt32).toInt8.toInt32) ((p1.toInt8.toInt32).toInt8.toInt32) ((p2.toInt8.toInt32).toInt8.toInt32) ((p3.toInt8.toInt32).toInt8.toInt32)))]) rfl ?_
      show Steps p.tables e below (T51.setTop (mkF m 157 #[.val (.int p0), .val (.int p1), .val (.int p2), .val (.int p3), .val (.int p4), .val (.int p5), .val (.int (p0.toInt8.toInt32)), .val (.int (p1.toInt8.toInt32)), .val (.int (p2.toInt8.toInt32)), .val (.int (p3.toInt8.toInt32)), .val (.int (p5.toInt8.toInt32)), .val (.int (0 : Int32)), .val (.ref b2), .val (.int (((((p0.toInt8.toInt32) * (16777216 : Int32)) + (((p1.toInt8.toInt32) &&& (255 : Int32)) * (65536 : Int32))) + (((p2.toInt8.toInt32) &&& (255 : Int32)) * (256 : Int32))) + ((p3.toInt8.toInt32) &&& (255 : Int32)))), .val (.int (fGet ((p0.toInt8.toInt32).toInt8.toInt32) ((p1.toInt8.toInt32).toInt8.toInt32) ((p2.toInt8.toInt32).toInt8.toInt32) ((p3.toInt8.toInt32).toInt8.toInt32)))] [])) t
      refine XS.iload X51.here hx rfl (hb hby at_157) rfl ?_
      show Steps p.tables e below (T51.setTop (mkF m 159 #[.val (.int p0), .val (.int p1), .val (.int p2), .val (.int p3), .val (.int p4), .val (.int p5), .val (.int (p0.toInt8.toInt32)), .val (.int (p1.toInt8.toInt32)), .val (.int (p2.toInt8.toInt32)), .val (.int (p3.toInt8.toInt32)), .val (.int (p5.toInt8.toInt32)), .val (.int (0 : Int32)), .val (.ref b2), .val (.int (((((p0.toInt8.toInt32) * (16777216 : Int32)) + (((p1.toInt8.toInt32) &&& (255 : Int32)) * (65536 : Int32))) + (((p2.toInt8.toInt32) &&& (255 : Int32)) * (256 : Int32))) + ((p3.toInt8.toInt32) &&& (255 : Int32)))), .val (.int (fGet ((p0.toInt8.toInt32).toInt8.toInt32) ((p1.toInt8.toInt32).toInt8.toInt32) ((p2.toInt8.toInt32).toInt8.toInt32) ((p3.toInt8.toInt32).toInt8.toInt32)))] [(.int (fGet ((p0.toInt8.toInt32).toInt8.toInt32) ((p1.toInt8.toInt32).toInt8.toInt32) ((p2.toInt8.toInt32).toInt8.toInt32) ((p3.toInt8.toInt32).toInt8.toInt32)))])) t
      refine XS.iload X51.here hx rfl (hb hby at_159) rfl ?_
      show Steps p.tables e below (T51.setTop (mkF m 161 #[.val (.int p0), .val (.int p1), .val (.int p2), .val (.int p3), .val (.int p4), .val (.int p5), .val (.int (p0.toInt8.toInt32)), .val (.int (p1.toInt8.toInt32)), .val (.int (p2.toInt8.toInt32)), .val (.int (p3.toInt8.toInt32)), .val (.int (p5.toInt8.toInt32)), .val (.int (0 : Int32)), .val (.ref b2), .val (.int (((((p0.toInt8.toInt32) * (16777216 : Int32)) + (((p1.toInt8.toInt32) &&& (255 : Int32)) * (65536 : Int32))) + (((p2.toInt8.toInt32) &&& (255 : Int32)) * (256 : Int32))) + ((p3.toInt8.toInt32) &&& (255 : Int32)))), .val (.int (fGet ((p0.toInt8.toInt32).toInt8.toInt32) ((p1.toInt8.toInt32).toInt8.toInt32) ((p2.toInt8.toInt32).toInt8.toInt32) ((p3.toInt8.toInt32).toInt8.toInt32)))] [(.int (((((p0.toInt8.toInt32) * (16777216 : Int32)) + (((p1.toInt8.toInt32) &&& (255 : Int32)) * (65536 : Int32))) + (((p2.toInt8.toInt32) &&& (255 : Int32)) * (256 : Int32))) + ((p3.toInt8.toInt32) &&& (255 : Int32)))), (.int (fGet ((p0.toInt8.toInt32).toInt8.toInt32) ((p1.toInt8.toInt32).toInt8.toInt32) ((p2.toInt8.toInt32).toInt8.toInt32) ((p3.toInt8.toInt32).toInt8.toInt32)))])) t
      refine XS.icmpNo X51.here hx rfl (hb hby at_161) rfl (teq (own_law p0 p1 p2 p3)).2 ?_
      show Steps p.tables e below (T51.setTop (mkF m 164 #[.val (.int p0), .val (.int p1), .val (.int p2), .val (.int p3), .val (.int p4), .val (.int p5), .val (.int (p0.toInt8.toInt32)), .val (.int (p1.toInt8.toInt32)), .val (.int (p2.toInt8.toInt32)), .val (.int (p3.toInt8.toInt32)), .val (.int (p5.toInt8.toInt32)), .val (.int (0 : Int32)), .val (.ref b2), .val (.int (((((p0.toInt8.toInt32) * (16777216 : Int32)) + (((p1.toInt8.toInt32) &&& (255 : Int32)) * (65536 : Int32))) + (((p2.toInt8.toInt32) &&& (255 : Int32)) * (256 : Int32))) + ((p3.toInt8.toInt32) &&& (255 : Int32)))), .val (.int (fGet ((p0.toInt8.toInt32).toInt8.toInt32) ((p1.toInt8.toInt32).toInt8.toInt32) ((p2.toInt8.toInt32).toInt8.toInt32) ((p3.toInt8.toInt32).toInt8.toInt32)))] [])) t
      refine XS.iconst X51.here hx rfl (hb hby at_164) ?_
      show Steps p.tables e below (T51.setTop (mkF m 165 #[.val (.int p0), .val (.int p1), .val (.int p2), .val (.int p3), .val (.int p4), .val (.int p5), .val (.int (p0.toInt8.toInt32)), .val (.int (p1.toInt8.toInt32)), .val (.int (p2.toInt8.toInt32)), .val (.int (p3.toInt8.toInt32)), .val (.int (p5.toInt8.toInt32)), .val (.int (0 : Int32)), .val (.ref b2), .val (.int (((((p0.toInt8.toInt32) * (16777216 : Int32)) + (((p1.toInt8.toInt32) &&& (255 : Int32)) * (65536 : Int32))) + (((p2.toInt8.toInt32) &&& (255 : Int32)) * (256 : Int32))) + ((p3.toInt8.toInt32) &&& (255 : Int32)))), .val (.int (fGet ((p0.toInt8.toInt32).toInt8.toInt32) ((p1.toInt8.toInt32).toInt8.toInt32) ((p2.toInt8.toInt32).toInt8.toInt32) ((p3.toInt8.toInt32).toInt8.toInt32)))] [(.int (1 : Int32))])) t
      refine XS.goto X51.here hx rfl (pc0 := 165) (pc' := 169) rfl (hb hby at_165) (by decide) (by decide) ?_
      exact k
    obtain ⟨fs, hr, hrun, hended, hW, hsame⟩ := X51.leave (v := some (.int (1 : Int32))) (fun h => by rw [Bd.returns] at h; cases h)
    refine Goes.mk _ _ ?_ ⟨hrun, hended, _, _, rfl, ?_, ⟨_, rfl⟩, hW, hsame.mono (by decide) (by decide)⟩
    · exact retN X51 hx (t := .boolean) Bd.returns (by simp) (hb hby at_169) hr
    · show Q0 Z p0 p1 p2 p3 p4 p5 h0 n0 _ T51.heap _
      rw [e51]
      exact ⟨rfl, N56⟩
  · refine Goes.by (B := T31.setTop (mkF m 85 #[.val (.int p0), .val (.int p1), .val (.int p2), .val (.int p3), .val (.int p4), .val (.int p5), .val (.int (p0.toInt8.toInt32)), .val (.int (p1.toInt8.toInt32)), .val (.int (p2.toInt8.toInt32)), .val (.int (p3.toInt8.toInt32)), .val (.int (p5.toInt8.toInt32)), .val (.int (1 : Int32)), .val (.ref b2), .unset, .unset] [(.int (p0.toInt8.toInt32)), (.int (1 : Int32)), (.ref b2)])) (fun t k => ?_) ?_
    · show Steps p.tables e below (T31.setTop (mkF m 79 #[.val (.int p0), .val (.int p1), .val (.int p2), .val (.int p3), .val (.int p4), .val (.int p5), .val (.int (p0.toInt8.toInt32)), .val (.int (p1.toInt8.toInt32)), .val (.int (p2.toInt8.toInt32)), .val (.int (p3.toInt8.toInt32)), .val (.int (p5.toInt8.toInt32)), .val (.int (1 : Int32)), .val (.ref b2), .unset, .unset] [])) t
      refine XS.aload X31.here hx rfl (hb hby at_79) rfl rfl ?_
      show Steps p.tables e below (T31.setTop (mkF m 81 #[.val (.int p0), .val (.int p1), .val (.int p2), .val (.int p3), .val (.int p4), .val (.int p5), .val (.int (p0.toInt8.toInt32)), .val (.int (p1.toInt8.toInt32)), .val (.int (p2.toInt8.toInt32)), .val (.int (p3.toInt8.toInt32)), .val (.int (p5.toInt8.toInt32)), .val (.int (1 : Int32)), .val (.ref b2), .unset, .unset] [(.ref b2)])) t
      refine XS.iload X31.here hx rfl (hb hby at_81) rfl ?_
      show Steps p.tables e below (T31.setTop (mkF m 83 #[.val (.int p0), .val (.int p1), .val (.int p2), .val (.int p3), .val (.int p4), .val (.int p5), .val (.int (p0.toInt8.toInt32)), .val (.int (p1.toInt8.toInt32)), .val (.int (p2.toInt8.toInt32)), .val (.int (p3.toInt8.toInt32)), .val (.int (p5.toInt8.toInt32)), .val (.int (1 : Int32)), .val (.ref b2), .unset, .unset] [(.int (1 : Int32)), (.ref b2)])) t
      refine XS.iload X31.here hx rfl (hb hby at_83) rfl ?_
      exact k
    obtain ⟨cl57, cl57A, cl57q, cl57S, cl57N, cl57H, cl57G⟩ := f32
    have cl57I : ¬ ((1 : Int32) < 0 ∨ cl57.slots.size ≤ ((1 : Int32)).toNatClampNeg) := inb_of cl57S ⟨by decide, by decide⟩
    obtain ⟨T57, h57, X57, e57, W57, st57⟩ := stB X31 hx hZ e31 cl57A (j := (1 : Int32)) cl57I (g := (mkF m 85 #[.val (.int p0), .val (.int p1), .val (.int p2), .val (.int p3), .val (.int p4), .val (.int p5), .val (.int (p0.toInt8.toInt32)), .val (.int (p1.toInt8.toInt32)), .val (.int (p2.toInt8.toInt32)), .val (.int (p3.toInt8.toInt32)), .val (.int (p5.toInt8.toInt32)), .val (.int (1 : Int32)), .val (.ref b2), .unset, .unset] [(.int (p0.toInt8.toInt32)), (.int (1 : Int32)), (.ref b2)])) rfl rfl (hb hby at_85)
    have f58 : Arv Z h57 b2 k1 .byte (7 : Int32) [(.int ((p5.toInt8.toInt32).toInt8.toInt32)), (.int ((p0.toInt8.toInt32).toInt8.toInt32)), (.int ((p5.toInt8.toInt32).toInt8.toInt32)), (.int ((p5.toInt8.toInt32).toInt8.toInt32)), (.int ((p5.toInt8.toInt32).toInt8.toInt32)), (.int ((p5.toInt8.toInt32).toInt8.toInt32)), (.int ((p5.toInt8.toInt32).toInt8.toInt32))] (.int (0 : Int32)) := Arv.set cl57A cl57q cl57S cl57N cl57H cl57G (fits_nar_byte _) W57 1 rfl (Nat.le_of_ble_eq_true rfl)
    have Kp57 : Keep h0 h57 [] := Kp31.wr W57 (Or.inr sz4)
    have Z59 : n0 ≤ h57.size := Nat.le_trans Z33 (Nat.le_of_eq W57.size.symm)
    have N60 := Fr.snoc X57 N34 ge3
    refine Goes.by st57 ?_
    show Goes p.tables e below _ (T57.setTop (mkF m 86 #[.val (.int p0), .val (.int p1), .val (.int p2), .val (.int p3), .val (.int p4), .val (.int p5), .val (.int (p0.toInt8.toInt32)), .val (.int (p1.toInt8.toInt32)), .val (.int (p2.toInt8.toInt32)), .val (.int (p3.toInt8.toInt32)), .val (.int (p5.toInt8.toInt32)), .val (.int (1 : Int32)), .val (.ref b2), .unset, .unset] []))
    refine Goes.by (B := T57.setTop (mkF m 94 #[.val (.int p0), .val (.int p1), .val (.int p2), .val (.int p3), .val (.int p4), .val (.int p5), .val (.int (p0.toInt8.toInt32)), .val (.int (p1.toInt8.toInt32)), .val (.int (p2.toInt8.toInt32)), .val (.int (p3.toInt8.toInt32)), .val (.int (p5.toInt8.toInt32)), .val (.int (1 : Int32)), .val (.ref b2), .unset, .unset] [(.int (p1.toInt8.toInt32)), (.int (2 : Int32)), (.ref b2)])) (fun t k => ?_) ?_
    · show Steps p.tables e below (T57.setTop (mkF m 86 #[.val (.int p0), .val (.int p1), .val (.int p2), .val (.int p3), .val (.int p4), .val (.int p5), .val (.int (p0.toInt8.toInt32)), .val (.int (p1.toInt8.toInt32)), .val (.int (p2.toInt8.toInt32)), .val (.int (p3.toInt8.toInt32)), .val (.int (p5.toInt8.toInt32)), .val (.int (1 : Int32)), .val (.ref b2), .unset, .unset] [])) t
      refine XS.aload X57.here hx rfl (hb hby at_86) rfl rfl ?_
      show Steps p.tables e below (T57.setTop (mkF m 88 #[.val (.int p0), .val (.int p1), .val (.int p2), .val (.int p3), .val (.int p4), .val (.int p5), .val (.int (p0.toInt8.toInt32)), .val (.int (p1.toInt8.toInt32)), .val (.int (p2.toInt8.toInt32)), .val (.int (p3.toInt8.toInt32)), .val (.int (p5.toInt8.toInt32)), .val (.int (1 : Int32)), .val (.ref b2), .unset, .unset] [(.ref b2)])) t
      refine XS.iload X57.here hx rfl (hb hby at_88) rfl ?_
      show Steps p.tables e below (T57.setTop (mkF m 90 #[.val (.int p0), .val (.int p1), .val (.int p2), .val (.int p3), .val (.int p4), .val (.int p5), .val (.int (p0.toInt8.toInt32)), .val (.int (p1.toInt8.toInt32)), .val (.int (p2.toInt8.toInt32)), .val (.int (p3.toInt8.toInt32)), .val (.int (p5.toInt8.toInt32)), .val (.int (1 : Int32)), .val (.ref b2), .unset, .unset] [(.int (1 : Int32)), (.ref b2)])) t
      refine XS.iconst X57.here hx rfl (hb hby at_90) ?_
      show Steps p.tables e below (T57.setTop (mkF m 91 #[.val (.int p0), .val (.int p1), .val (.int p2), .val (.int p3), .val (.int p4), .val (.int p5), .val (.int (p0.toInt8.toInt32)), .val (.int (p1.toInt8.toInt32)), .val (.int (p2.toInt8.toInt32)), .val (.int (p3.toInt8.toInt32)), .val (.int (p5.toInt8.toInt32)), .val (.int (1 : Int32)), .val (.ref b2), .unset, .unset] [(.int (1 : Int32)), (.int (1 : Int32)), (.ref b2)])) t
      refine XS.iadd X57.here hx rfl (hb hby at_91) rfl ?_
      show Steps p.tables e below (T57.setTop (mkF m 92 #[.val (.int p0), .val (.int p1), .val (.int p2), .val (.int p3), .val (.int p4), .val (.int p5), .val (.int (p0.toInt8.toInt32)), .val (.int (p1.toInt8.toInt32)), .val (.int (p2.toInt8.toInt32)), .val (.int (p3.toInt8.toInt32)), .val (.int (p5.toInt8.toInt32)), .val (.int (1 : Int32)), .val (.ref b2), .unset, .unset] [(.int (2 : Int32)), (.ref b2)])) t
      refine XS.iload X57.here hx rfl (hb hby at_92) rfl ?_
      exact k
    obtain ⟨cl61, cl61A, cl61q, cl61S, cl61N, cl61H, cl61G⟩ := f58
    have cl61I : ¬ ((2 : Int32) < 0 ∨ cl61.slots.size ≤ ((2 : Int32)).toNatClampNeg) := inb_of cl61S ⟨by decide, by decide⟩
    obtain ⟨T61, h61, X61, e61, W61, st61⟩ := stB X57 hx hZ e57 cl61A (j := (2 : Int32)) cl61I (g := (mkF m 94 #[.val (.int p0), .val (.int p1), .val (.int p2), .val (.int p3), .val (.int p4), .val (.int p5), .val (.int (p0.toInt8.toInt32)), .val (.int (p1.toInt8.toInt32)), .val (.int (p2.toInt8.toInt32)), .val (.int (p3.toInt8.toInt32)), .val (.int (p5.toInt8.toInt32)), .val (.int (1 : Int32)), .val (.ref b2), .unset, .unset] [(.int (p1.toInt8.toInt32)), (.int (2 : Int32)), (.ref b2)])) rfl rfl (hb hby at_94)
    have f62 : Arv Z h61 b2 k1 .byte (7 : Int32) [(.int ((p5.toInt8.toInt32).toInt8.toInt32)), (.int ((p0.toInt8.toInt32).toInt8.toInt32)), (.int ((p1.toInt8.toInt32).toInt8.toInt32)), (.int ((p5.toInt8.toInt32).toInt8.toInt32)), (.int ((p5.toInt8.toInt32).toInt8.toInt32)), (.int ((p5.toInt8.toInt32).toInt8.toInt32)), (.int ((p5.toInt8.toInt32).toInt8.toInt32))] (.int (0 : Int32)) := Arv.set cl61A cl61q cl61S cl61N cl61H cl61G (fits_nar_byte _) W61 2 rfl (Nat.le_of_ble_eq_true rfl)
    have Kp61 : Keep h0 h61 [] := Kp57.wr W61 (Or.inr sz4)
    have Z63 : n0 ≤ h61.size := Nat.le_trans Z59 (Nat.le_of_eq W61.size.symm)
    have N64 := Fr.snoc X61 N60 ge3
    refine Goes.by st61 ?_
    show Goes p.tables e below _ (T61.setTop (mkF m 95 #[.val (.int p0), .val (.int p1), .val (.int p2), .val (.int p3), .val (.int p4), .val (.int p5), .val (.int (p0.toInt8.toInt32)), .val (.int (p1.toInt8.toInt32)), .val (.int (p2.toInt8.toInt32)), .val (.int (p3.toInt8.toInt32)), .val (.int (p5.toInt8.toInt32)), .val (.int (1 : Int32)), .val (.ref b2), .unset, .unset] []))
    refine Goes.by (B := T61.setTop (mkF m 103 #[.val (.int p0), .val (.int p1), .val (.int p2), .val (.int p3), .val (.int p4), .val (.int p5), .val (.int (p0.toInt8.toInt32)), .val (.int (p1.toInt8.toInt32)), .val (.int (p2.toInt8.toInt32)), .val (.int (p3.toInt8.toInt32)), .val (.int (p5.toInt8.toInt32)), .val (.int (1 : Int32)), .val (.ref b2), .unset, .unset] [(.int (p2.toInt8.toInt32)), (.int (3 : Int32)), (.ref b2)])) (fun t k => ?_) ?_
    · show Steps p.tables e below (T61.setTop (mkF m 95 #[.val (.int p0), .val (.int p1), .val (.int p2), .val (.int p3), .val (.int p4), .val (.int p5), .val (.int (p0.toInt8.toInt32)), .val (.int (p1.toInt8.toInt32)), .val (.int (p2.toInt8.toInt32)), .val (.int (p3.toInt8.toInt32)), .val (.int (p5.toInt8.toInt32)), .val (.int (1 : Int32)), .val (.ref b2), .unset, .unset] [])) t
      refine XS.aload X61.here hx rfl (hb hby at_95) rfl rfl ?_
      show Steps p.tables e below (T61.setTop (mkF m 97 #[.val (.int p0), .val (.int p1), .val (.int p2), .val (.int p3), .val (.int p4), .val (.int p5), .val (.int (p0.toInt8.toInt32)), .val (.int (p1.toInt8.toInt32)), .val (.int (p2.toInt8.toInt32)), .val (.int (p3.toInt8.toInt32)), .val (.int (p5.toInt8.toInt32)), .val (.int (1 : Int32)), .val (.ref b2), .unset, .unset] [(.ref b2)])) t
      refine XS.iload X61.here hx rfl (hb hby at_97) rfl ?_
      show Steps p.tables e below (T61.setTop (mkF m 99 #[.val (.int p0), .val (.int p1), .val (.int p2), .val (.int p3), .val (.int p4), .val (.int p5), .val (.int (p0.toInt8.toInt32)), .val (.int (p1.toInt8.toInt32)), .val (.int (p2.toInt8.toInt32)), .val (.int (p3.toInt8.toInt32)), .val (.int (p5.toInt8.toInt32)), .val (.int (1 : Int32)), .val (.ref b2), .unset, .unset] [(.int (1 : Int32)), (.ref b2)])) t
      refine XS.iconst X61.here hx rfl (hb hby at_99) ?_
      show Steps p.tables e below (T61.setTop (mkF m 100 #[.val (.int p0), .val (.int p1), .val (.int p2), .val (.int p3), .val (.int p4), .val (.int p5), .val (.int (p0.toInt8.toInt32)), .val (.int (p1.toInt8.toInt32)), .val (.int (p2.toInt8.toInt32)), .val (.int (p3.toInt8.toInt32)), .val (.int (p5.toInt8.toInt32)), .val (.int (1 : Int32)), .val (.ref b2), .unset, .unset] [(.int (2 : Int32)), (.int (1 : Int32)), (.ref b2)])) t
      refine XS.iadd X61.here hx rfl (hb hby at_100) rfl ?_
      show Steps p.tables e below (T61.setTop (mkF m 101 #[.val (.int p0), .val (.int p1), .val (.int p2), .val (.int p3), .val (.int p4), .val (.int p5), .val (.int (p0.toInt8.toInt32)), .val (.int (p1.toInt8.toInt32)), .val (.int (p2.toInt8.toInt32)), .val (.int (p3.toInt8.toInt32)), .val (.int (p5.toInt8.toInt32)), .val (.int (1 : Int32)), .val (.ref b2), .unset, .unset] [(.int (3 : Int32)), (.ref b2)])) t
      refine XS.iload X61.here hx rfl (hb hby at_101) rfl ?_
      exact k
    obtain ⟨cl65, cl65A, cl65q, cl65S, cl65N, cl65H, cl65G⟩ := f62
    have cl65I : ¬ ((3 : Int32) < 0 ∨ cl65.slots.size ≤ ((3 : Int32)).toNatClampNeg) := inb_of cl65S ⟨by decide, by decide⟩
    obtain ⟨T65, h65, X65, e65, W65, st65⟩ := stB X61 hx hZ e61 cl65A (j := (3 : Int32)) cl65I (g := (mkF m 103 #[.val (.int p0), .val (.int p1), .val (.int p2), .val (.int p3), .val (.int p4), .val (.int p5), .val (.int (p0.toInt8.toInt32)), .val (.int (p1.toInt8.toInt32)), .val (.int (p2.toInt8.toInt32)), .val (.int (p3.toInt8.toInt32)), .val (.int (p5.toInt8.toInt32)), .val (.int (1 : Int32)), .val (.ref b2), .unset, .unset] [(.int (p2.toInt8.toInt32)), (.int (3 : Int32)), (.ref b2)])) rfl rfl (hb hby at_103)
    have f66 : Arv Z h65 b2 k1 .byte (7 : Int32) [(.int ((p5.toInt8.toInt32).toInt8.toInt32)), (.int ((p0.toInt8.toInt32).toInt8.toInt32)), (.int ((p1.toInt8.toInt32).toInt8.toInt32)), (.int ((p2.toInt8.toInt32).toInt8.toInt32)), (.int ((p5.toInt8.toInt32).toInt8.toInt32)), (.int ((p5.toInt8.toInt32).toInt8.toInt32)), (.int ((p5.toInt8.toInt32).toInt8.toInt32))] (.int (0 : Int32)) := Arv.set cl65A cl65q cl65S cl65N cl65H cl65G (fits_nar_byte _) W65 3 rfl (Nat.le_of_ble_eq_true rfl)
    have Kp65 : Keep h0 h65 [] := Kp61.wr W65 (Or.inr sz4)
    have Z67 : n0 ≤ h65.size := Nat.le_trans Z63 (Nat.le_of_eq W65.size.symm)
    have N68 := Fr.snoc X65 N64 ge3
    refine Goes.by st65 ?_
    show Goes p.tables e below _ (T65.setTop (mkF m 104 #[.val (.int p0), .val (.int p1), .val (.int p2), .val (.int p3), .val (.int p4), .val (.int p5), .val (.int (p0.toInt8.toInt32)), .val (.int (p1.toInt8.toInt32)), .val (.int (p2.toInt8.toInt32)), .val (.int (p3.toInt8.toInt32)), .val (.int (p5.toInt8.toInt32)), .val (.int (1 : Int32)), .val (.ref b2), .unset, .unset] []))
    refine Goes.by (B := T65.setTop (mkF m 112 #[.val (.int p0), .val (.int p1), .val (.int p2), .val (.int p3), .val (.int p4), .val (.int p5), .val (.int (p0.toInt8.toInt32)), .val (.int (p1.toInt8.toInt32)), .val (.int (p2.toInt8.toInt32)), .val (.int (p3.toInt8.toInt32)), .val (.int (p5.toInt8.toInt32)), .val (.int (1 : Int32)), .val (.ref b2), .unset, .unset] [(.int (p3.toInt8.toInt32)), (.int (4 : Int32)), (.ref b2)])) (fun t k => ?_) ?_
    · show Steps p.tables e below (T65.setTop (mkF m 104 #[.val (.int p0), .val (.int p1), .val (.int p2), .val (.int p3), .val (.int p4), .val (.int p5), .val (.int (p0.toInt8.toInt32)), .val (.int (p1.toInt8.toInt32)), .val (.int (p2.toInt8.toInt32)), .val (.int (p3.toInt8.toInt32)), .val (.int (p5.toInt8.toInt32)), .val (.int (1 : Int32)), .val (.ref b2), .unset, .unset] [])) t
      refine XS.aload X65.here hx rfl (hb hby at_104) rfl rfl ?_
      show Steps p.tables e below (T65.setTop (mkF m 106 #[.val (.int p0), .val (.int p1), .val (.int p2), .val (.int p3), .val (.int p4), .val (.int p5), .val (.int (p0.toInt8.toInt32)), .val (.int (p1.toInt8.toInt32)), .val (.int (p2.toInt8.toInt32)), .val (.int (p3.toInt8.toInt32)), .val (.int (p5.toInt8.toInt32)), .val (.int (1 : Int32)), .val (.ref b2), .unset, .unset] [(.ref b2)])) t
      refine XS.iload X65.here hx rfl (hb hby at_106) rfl ?_
      show Steps p.tables e below (T65.setTop (mkF m 108 #[.val (.int p0), .val (.int p1), .val (.int p2), .val (.int p3), .val (.int p4), .val (.int p5), .val (.int (p0.toInt8.toInt32)), .val (.int (p1.toInt8.toInt32)), .val (.int (p2.toInt8.toInt32)), .val (.int (p3.toInt8.toInt32)), .val (.int (p5.toInt8.toInt32)), .val (.int (1 : Int32)), .val (.ref b2), .unset, .unset] [(.int (1 : Int32)), (.ref b2)])) t
      refine XS.iconst X65.here hx rfl (hb hby at_108) ?_
      show Steps p.tables e below (T65.setTop (mkF m 109 #[.val (.int p0), .val (.int p1), .val (.int p2), .val (.int p3), .val (.int p4), .val (.int p5), .val (.int (p0.toInt8.toInt32)), .val (.int (p1.toInt8.toInt32)), .val (.int (p2.toInt8.toInt32)), .val (.int (p3.toInt8.toInt32)), .val (.int (p5.toInt8.toInt32)), .val (.int (1 : Int32)), .val (.ref b2), .unset, .unset] [(.int (3 : Int32)), (.int (1 : Int32)), (.ref b2)])) t
      refine XS.iadd X65.here hx rfl (hb hby at_109) rfl ?_
      show Steps p.tables e below (T65.setTop (mkF m 110 #[.val (.int p0), .val (.int p1), .val (.int p2), .val (.int p3), .val (.int p4), .val (.int p5), .val (.int (p0.toInt8.toInt32)), .val (.int (p1.toInt8.toInt32)), .val (.int (p2.toInt8.toInt32)), .val (.int (p3.toInt8.toInt32)), .val (.int (p5.toInt8.toInt32)), .val (.int (1 : Int32)), .val (.ref b2), .unset, .unset] [(.int (4 : Int32)), (.ref b2)])) t
      refine XS.iload X65.here hx rfl (hb hby at_110) rfl ?_
      exact k
    obtain ⟨cl69, cl69A, cl69q, cl69S, cl69N, cl69H, cl69G⟩ := f66
    have cl69I : ¬ ((4 : Int32) < 0 ∨ cl69.slots.size ≤ ((4 : Int32)).toNatClampNeg) := inb_of cl69S ⟨by decide, by decide⟩
    obtain ⟨T69, h69, X69, e69, W69, st69⟩ := stB X65 hx hZ e65 cl69A (j := (4 : Int32)) cl69I (g := (mkF m 112 #[.val (.int p0), .val (.int p1), .val (.int p2), .val (.int p3), .val (.int p4), .val (.int p5), .val (.int (p0.toInt8.toInt32)), .val (.int (p1.toInt8.toInt32)), .val (.int (p2.toInt8.toInt32)), .val (.int (p3.toInt8.toInt32)), .val (.int (p5.toInt8.toInt32)), .val (.int (1 : Int32)), .val (.ref b2), .unset, .unset] [(.int (p3.toInt8.toInt32)), (.int (4 : Int32)), (.ref b2)])) rfl rfl (hb hby at_112)
    have f70 : Arv Z h69 b2 k1 .byte (7 : Int32) [(.int ((p5.toInt8.toInt32).toInt8.toInt32)), (.int ((p0.toInt8.toInt32).toInt8.toInt32)), (.int ((p1.toInt8.toInt32).toInt8.toInt32)), (.int ((p2.toInt8.toInt32).toInt8.toInt32)), (.int ((p3.toInt8.toInt32).toInt8.toInt32)), (.int ((p5.toInt8.toInt32).toInt8.toInt32)), (.int ((p5.toInt8.toInt32).toInt8.toInt32))] (.int (0 : Int32)) := Arv.set cl69A cl69q cl69S cl69N cl69H cl69G (fits_nar_byte _) W69 4 rfl (Nat.le_of_ble_eq_true rfl)
    have Kp69 : Keep h0 h69 [] := Kp65.wr W69 (Or.inr sz4)
    have Z71 : n0 ≤ h69.size := Nat.le_trans Z67 (Nat.le_of_eq W69.size.symm)
    have N72 := Fr.snoc X69 N68 ge3
    refine Goes.by st69 ?_
    show Goes p.tables e below _ (T69.setTop (mkF m 113 #[.val (.int p0), .val (.int p1), .val (.int p2), .val (.int p3), .val (.int p4), .val (.int p5), .val (.int (p0.toInt8.toInt32)), .val (.int (p1.toInt8.toInt32)), .val (.int (p2.toInt8.toInt32)), .val (.int (p3.toInt8.toInt32)), .val (.int (p5.toInt8.toInt32)), .val (.int (1 : Int32)), .val (.ref b2), .unset, .unset] []))
    refine Goes.by (B := T69.setTop (mkF m 152 #[.val (.int p0), .val (.int p1), .val (.int p2), .val (.int p3), .val (.int p4), .val (.int p5), .val (.int (p0.toInt8.toInt32)), .val (.int (p1.toInt8.toInt32)), .val (.int (p2.toInt8.toInt32)), .val (.int (p3.toInt8.toInt32)), .val (.int (p5.toInt8.toInt32)), .val (.int (1 : Int32)), .val (.ref b2), .val (.int (((((p0.toInt8.toInt32) * (16777216 : Int32)) + (((p1.toInt8.toInt32) &&& (255 : Int32)) * (65536 : Int32))) + (((p2.toInt8.toInt32) &&& (255 : Int32)) * (256 : Int32))) + ((p3.toInt8.toInt32) &&& (255 : Int32)))), .unset] [(.int (1 : Int32)), (.ref b2)])) (fun t k => ?_) ?_
    · show Steps p.tables e below (T69.setTop (mkF m 113 #[.val (.int p0), .val (.int p1), .val (.int p2), .val (.int p3), .val (.int p4), .val (.int p5), .val (.int (p0.toInt8.toInt32)), .val (.int (p1.toInt8.toInt32)), .val (.int (p2.toInt8.toInt32)), .val (.int (p3.toInt8.toInt32)), .val (.int (p5.toInt8.toInt32)), .val (.int (1 : Int32)), .val (.ref b2), .unset, .unset] [])) t
      refine XS.iload X69.here hx rfl (hb hby at_113) rfl ?_
      show Steps p.tables e below (T69.setTop (mkF m 115 #[.val (.int p0), .val (.int p1), .val (.int p2), .val (.int p3), .val (.int p4), .val (.int p5), .val (.int (p0.toInt8.toInt32)), .val (.int (p1.toInt8.toInt32)), .val (.int (p2.toInt8.toInt32)), .val (.int (p3.toInt8.toInt32)), .val (.int (p5.toInt8.toInt32)), .val (.int (1 : Int32)), .val (.ref b2), .unset, .unset] [(.int (p0.toInt8.toInt32))])) t
      refine X69.ldcInt hx hown (mvT hZ (hw _ (List.mem_of_getElem? (i := 2) rfl))) (g := (mkF m 115 #[.val (.int p0), .val (.int p1), .val (.int p2), .val (.int p3), .val (.int p4), .val (.int p5), .val (.int (p0.toInt8.toInt32)), .val (.int (p1.toInt8.toInt32)), .val (.int (p2.toInt8.toInt32)), .val (.int (p3.toInt8.toInt32)), .val (.int (p5.toInt8.toInt32)), .val (.int (1 : Int32)), .val (.ref b2), .unset, .unset] [(.int (p0.toInt8.toInt32))])) rfl (hb hby at_115) _ ?_
      show Steps p.tables e below (T69.setTop (mkF m 117 #[.val (.int p0), .val (.int p1), .val (.int p2), .val (.int p3), .val (.int p4), .val (.int p5), .val (.int (p0.toInt8.toInt32)), .val (.int (p1.toInt8.toInt32)), .val (.int (p2.toInt8.toInt32)), .val (.int (p3.toInt8.toInt32)), .val (.int (p5.toInt8.toInt32)), .val (.int (1 : Int32)), .val (.ref b2), .unset, .unset] [(.int (16777216 : Int32)), (.int (p0.toInt8.toInt32))])) t
      refine XS.imul X69.here hx rfl (hb hby at_117) rfl ?_
      show Steps p.tables e below (T69.setTop (mkF m 118 #[.val (.int p0), .val (.int p1), .val (.int p2), .val (.int p3), .val (.int p4), .val (.int p5), .val (.int (p0.toInt8.toInt32)), .val (.int (p1.toInt8.toInt32)), .val (.int (p2.toInt8.toInt32)), .val (.int (p3.toInt8.toInt32)), .val (.int (p5.toInt8.toInt32)), .val (.int (1 : Int32)), .val (.ref b2), .unset, .unset] [(.int ((p0.toInt8.toInt32) * (16777216 : Int32)))])) t
      refine XS.iload X69.here hx rfl (hb hby at_118) rfl ?_
      show Steps p.tables e below (T69.setTop (mkF m 120 #[.val (.int p0), .val (.int p1), .val (.int p2), .val (.int p3), .val (.int p4), .val (.int p5), .val (.int (p0.toInt8.toInt32)), .val (.int (p1.toInt8.toInt32)), .val (.int (p2.toInt8.toInt32)), .val (.int (p3.toInt8.toInt32)), .val (.int (p5.toInt8.toInt32)), .val (.int (1 : Int32)), .val (.ref b2), .unset, .unset] [(.int (p1.toInt8.toInt32)), (.int ((p0.toInt8.toInt32) * (16777216 : Int32)))])) t
      refine XS.sipush X69.here hx rfl (hb hby at_120) ?_
      show Steps p.tables e below (T69.setTop (mkF m 123 #[.val (.int p0), .val (.int p1), .val (.int p2), .val (.int p3), .val (.int p4), .val (.int p5), .val (.int (p0.toInt8.toInt32)), .val (.int (p1.toInt8.toInt32)), .val (.int (p2.toInt8.toInt32)), .val (.int (p3.toInt8.toInt32)), .val (.int (p5.toInt8.toInt32)), .val (.int (1 : Int32)), .val (.ref b2), .unset, .unset] [(.int (255 : Int32)), (.int (p1.toInt8.toInt32)), (.int ((p0.toInt8.toInt32) * (16777216 : Int32)))])) t
      refine XS.iand X69.here hx rfl (hb hby at_123) rfl ?_
      show Steps p.tables e below (T69.setTop (mkF m 124 #[.val (.int p0), .val (.int p1), .val (.int p2), .val (.int p3), .val (.int p4), .val (.int p5), .val (.int (p0.toInt8.toInt32)), .val (.int (p1.toInt8.toInt32)), .val (.int (p2.toInt8.toInt32)), .val (.int (p3.toInt8.toInt32)), .val (.int (p5.toInt8.toInt32)), .val (.int (1 : Int32)), .val (.ref b2), .unset, .unset] [(.int ((p1.toInt8.toInt32) &&& (255 : Int32))), (.int ((p0.toInt8.toInt32) * (16777216 : Int32)))])) t
      refine X69.ldcInt hx hown (mvT hZ (hw _ (List.mem_of_getElem? (i := 3) rfl))) (g := (mkF m 124 #[.val (.int p0), .val (.int p1), .val (.int p2), .val (.int p3), .val (.int p4), .val (.int p5), .val (.int (p0.toInt8.toInt32)), .val (.int (p1.toInt8.toInt32)), .val (.int (p2.toInt8.toInt32)), .val (.int (p3.toInt8.toInt32)), .val (.int (p5.toInt8.toInt32)), .val (.int (1 : Int32)), .val (.ref b2), .unset, .unset] [(.int ((p1.toInt8.toInt32) &&& (255 : Int32))), (.int ((p0.toInt8.toInt32) * (16777216 : Int32)))])) rfl (hb hby at_124) _ ?_
      show Steps p.tables e below (T69.setTop (mkF m 126 #[.val (.int p0), .val (.int p1), .val (.int p2), .val (.int p3), .val (.int p4), .val (.int p5), .val (.int (p0.toInt8.toInt32)), .val (.int (p1.toInt8.toInt32)), .val (.int (p2.toInt8.toInt32)), .val (.int (p3.toInt8.toInt32)), .val (.int (p5.toInt8.toInt32)), .val (.int (1 : Int32)), .val (.ref b2), .unset, .unset] [(.int (65536 : Int32)), (.int ((p1.toInt8.toInt32) &&& (255 : Int32))), (.int ((p0.toInt8.toInt32) * (16777216 : Int32)))])) t
      refine XS.imul X69.here hx rfl (hb hby at_126) rfl ?_
      show Steps p.tables e below (T69.setTop (mkF m 127 #[.val (.int p0), .val (.int p1), .val (.int p2), .val (.int p3), .val (.int p4), .val (.int p5), .val (.int (p0.toInt8.toInt32)), .val (.int (p1.toInt8.toInt32)), .val (.int (p2.toInt8.toInt32)), .val (.int (p3.toInt8.toInt32)), .val (.int (p5.toInt8.toInt32)), .val (.int (1 : Int32)), .val (.ref b2), .unset, .unset] [(.int (((p1.toInt8.toInt32) &&& (255 : Int32)) * (65536 : Int32))), (.int ((p0.toInt8.toInt32) * (16777216 : Int32)))])) t
      refine XS.iadd X69.here hx rfl (hb hby at_127) rfl ?_
      show Steps p.tables e below (T69.setTop (mkF m 128 #[.val (.int p0), .val (.int p1), .val (.int p2), .val (.int p3), .val (.int p4), .val (.int p5), .val (.int (p0.toInt8.toInt32)), .val (.int (p1.toInt8.toInt32)), .val (.int (p2.toInt8.toInt32)), .val (.int (p3.toInt8.toInt32)), .val (.int (p5.toInt8.toInt32)), .val (.int (1 : Int32)), .val (.ref b2), .unset, .unset] [(.int (((p0.toInt8.toInt32) * (16777216 : Int32)) + (((p1.toInt8.toInt32) &&& (255 : Int32)) * (65536 : Int32))))])) t
      refine XS.iload X69.here hx rfl (hb hby at_128) rfl ?_
      show Steps p.tables e below (T69.setTop (mkF m 130 #[.val (.int p0), .val (.int p1), .val (.int p2), .val (.int p3), .val (.int p4), .val (.int p5), .val (.int (p0.toInt8.toInt32)), .val (.int (p1.toInt8.toInt32)), .val (.int (p2.toInt8.toInt32)), .val (.int (p3.toInt8.toInt32)), .val (.int (p5.toInt8.toInt32)), .val (.int (1 : Int32)), .val (.ref b2), .unset, .unset] [(.int (p2.toInt8.toInt32)), (.int (((p0.toInt8.toInt32) * (16777216 : Int32)) + (((p1.toInt8.toInt32) &&& (255 : Int32)) * (65536 : Int32))))])) t
      refine XS.sipush X69.here hx rfl (hb hby at_130) ?_
      show Steps p.tables e below (T69.setTop (mkF m 133 #[.val (.int p0), .val (.int p1), .val (.int p2), .val (.int p3), .val (.int p4), .val (.int p5), .val (.int (p0.toInt8.toInt32)), .val (.int (p1.toInt8.toInt32)), .val (.int (p2.toInt8.toInt32)), .val (.int (p3.toInt8.toInt32)), .val (.int (p5.toInt8.toInt32)), .val (.int (1 : Int32)), .val (.ref b2), .unset, .unset] [(.int (255 : Int32)), (.int (p2.toInt8.toInt32)), (.int (((p0.toInt8.toInt32) * (16777216 : Int32)) + (((p1.toInt8.toInt32) &&& (255 : Int32)) * (65536 : Int32))))])) t
      refine XS.iand X69.here hx rfl (hb hby at_133) rfl ?_
      show Steps p.tables e below (T69.setTop (mkF m 134 #[.val (.int p0), .val (.int p1), .val (.int p2), .val (.int p3), .val (.int p4), .val (.int p5), .val (.int (p0.toInt8.toInt32)), .val (.int (p1.toInt8.toInt32)), .val (.int (p2.toInt8.toInt32)), .val (.int (p3.toInt8.toInt32)), .val (.int (p5.toInt8.toInt32)), .val (.int (1 : Int32)), .val (.ref b2), .unset, .unset] [(.int ((p2.toInt8.toInt32) &&& (255 : Int32))), (.int (((p0.toInt8.toInt32) * (16777216 : Int32)) + (((p1.toInt8.toInt32) &&& (255 : Int32)) * (65536 : Int32))))])) t
      refine XS.sipush X69.here hx rfl (hb hby at_134) ?_
      show Steps p.tables e below (T69.setTop (mkF m 137 #[.val (.int p0), .val (.int p1), .val (.int p2), .val (.int p3), .val (.int p4), .val (.int p5), .val (.int (p0.toInt8.toInt32)), .val (.int (p1.toInt8.toInt32)), .val (.int (p2.toInt8.toInt32)), .val (.int (p3.toInt8.toInt32)), .val (.int (p5.toInt8.toInt32)), .val (.int (1 : Int32)), .val (.ref b2), .unset, .unset] [(.int (256 : Int32)), (.int ((p2.toInt8.toInt32) &&& (255 : Int32))), (.int (((p0.toInt8.toInt32) * (16777216 : Int32)) + (((p1.toInt8.toInt32) &&& (255 : Int32)) * (65536 : Int32))))])) t
      refine XS.imul X69.here hx rfl (hb hby at_137) rfl ?_
      show Steps p.tables e below (T69.setTop (mkF m 138 #[.val (.int p0), .val (.int p1), .val (.int p2), .val (.int p3), .val (.int p4), .val (.int p5), .val (.int (p0.toInt8.toInt32)), .val (.int (p1.toInt8.toInt32)), .val (.int (p2.toInt8.toInt32)), .val (.int (p3.toInt8.toInt32)), .val (.int (p5.toInt8.toInt32)), .val (.int (1 : Int32)), .val (.ref b2), .unset, .unset] [(.int (((p2.toInt8.toInt32) &&& (255 : Int32)) * (256 : Int32))), (.int (((p0.toInt8.toInt32) * (16777216 : Int32)) + (((p1.toInt8.toInt32) &&& (255 : Int32)) * (65536 : Int32))))])) t
      refine XS.iadd X69.here hx rfl (hb hby at_138) rfl ?_
      show Steps p.tables e below (T69.setTop (mkF m 139 #[.val (.int p0), .val (.int p1), .val (.int p2), .val (.int p3), .val (.int p4), .val (.int p5), .val (.int (p0.toInt8.toInt32)), .val (.int (p1.toInt8.toInt32)), .val (.int (p2.toInt8.toInt32)), .val (.int (p3.toInt8.toInt32)), .val (.int (p5.toInt8.toInt32)), .val (.int (1 : Int32)), .val (.ref b2), .unset, .unset] [(.int ((((p0.toInt8.toInt32) * (16777216 : Int32)) + (((p1.toInt8.toInt32) &&& (255 : Int32)) * (65536 : Int32))) + (((p2.toInt8.toInt32) &&& (255 : Int32)) * (256 : Int32))))])) t
      refine XS.iload X69.here hx rfl (hb hby at_139) rfl ?_
      show Steps p.tables e below (T69.setTop (mkF m 141 #[.val (.int p0), .val (.int p1), .val (.int p2), .val (.int p3), .val (.int p4), .val (.int p5), .val (.int (p0.toInt8.toInt32)), .val (.int (p1.toInt8.toInt32)), .val (.int (p2.toInt8.toInt32)), .val (.int (p3.toInt8.toInt32)), .val (.int (p5.toInt8.toInt32)), .val (.int (1 : Int32)), .val (.ref b2), .unset, .unset] [(.int (p3.toInt8.toInt32)), (.int ((((p0.toInt8.toInt32) * (16777216 : Int32)) + (((p1.toInt8.toInt32) &&& (255 : Int32)) * (65536 : Int32))) + (((p2.toInt8.toInt32) &&& (255 : Int32)) * (256 : Int32))))])) t
      refine XS.sipush X69.here hx rfl (hb hby at_141) ?_
      show Steps p.tables e below (T69.setTop (mkF m 144 #[.val (.int p0), .val (.int p1), .val (.int p2), .val (.int p3), .val (.int p4), .val (.int p5), .val (.int (p0.toInt8.toInt32)), .val (.int (p1.toInt8.toInt32)), .val (.int (p2.toInt8.toInt32)), .val (.int (p3.toInt8.toInt32)), .val (.int (p5.toInt8.toInt32)), .val (.int (1 : Int32)), .val (.ref b2), .unset, .unset] [(.int (255 : Int32)), (.int (p3.toInt8.toInt32)), (.int ((((p0.toInt8.toInt32) * (16777216 : Int32)) + (((p1.toInt8.toInt32) &&& (255 : Int32)) * (65536 : Int32))) + (((p2.toInt8.toInt32) &&& (255 : Int32)) * (256 : Int32))))])) t
      refine XS.iand X69.here hx rfl (hb hby at_144) rfl ?_
      show Steps p.tables e below (T69.setTop (mkF m 145 #[.val (.int p0), .val (.int p1), .val (.int p2), .val (.int p3), .val (.int p4), .val (.int p5), .val (.int (p0.toInt8.toInt32)), .val (.int (p1.toInt8.toInt32)), .val (.int (p2.toInt8.toInt32)), .val (.int (p3.toInt8.toInt32)), .val (.int (p5.toInt8.toInt32)), .val (.int (1 : Int32)), .val (.ref b2), .unset, .unset] [(.int ((p3.toInt8.toInt32) &&& (255 : Int32))), (.int ((((p0.toInt8.toInt32) * (16777216 : Int32)) + (((p1.toInt8.toInt32) &&& (255 : Int32)) * (65536 : Int32))) + (((p2.toInt8.toInt32) &&& (255 : Int32)) * (256 : Int32))))])) t
      refine XS.iadd X69.here hx rfl (hb hby at_145) rfl ?_
      show Steps p.tables e below (T69.setTop (mkF m 146 #[.val (.int p0), .val (.int p1), .val (.int p2), .val (.int p3), .val (.int p4), .val (.int p5), .val (.int (p0.toInt8.toInt32)), .val (.int (p1.toInt8.toInt32)), .val (.int (p2.toInt8.toInt32)), .val (.int (p3.toInt8.toInt32)), .val (.int (p5.toInt8.toInt32)), .val (.int (1 : Int32)), .val (.ref b2), .unset, .unset] [(.int (((((p0.toInt8.toInt32) * (16777216 : Int32)) + (((p1.toInt8.toInt32) &&& (255 : Int32)) * (65536 : Int32))) + (((p2.toInt8.toInt32) &&& (255 : Int32)) * (256 : Int32))) + ((p3.toInt8.toInt32) &&& (255 : Int32))))])) t
      refine XS.istore X69.here hx rfl (hb hby at_146) rfl (l' := #[.val (.int p0), .val (.int p1), .val (.int p2), .val (.int p3), .val (.int p4), .val (.int p5), .val (.int (p0.toInt8.toInt32)), .val (.int (p1.toInt8.toInt32)), .val (.int (p2.toInt8.toInt32)), .val (.int (p3.toInt8.toInt32)), .val (.int (p5.toInt8.toInt32)), .val (.int (1 : Int32)), .val (.ref b2), .val (.int (((((p0.toInt8.toInt32) * (16777216 : Int32)) + (((p1.toInt8.toInt32) &&& (255 : Int32)) * (65536 : Int32))) + (((p2.toInt8.toInt32) &&& (255 : Int32)) * (256 : Int32))) + ((p3.toInt8.toInt32) &&& (255 : Int32)))), .unset]) rfl ?_
      show Steps p.tables e below (T69.setTop (mkF m 148 #[.val (.int p0), .val (.int p1), .val (.int p2), .val (.int p3), .val (.int p4), .val (.int p5), .val (.int (p0.toInt8.toInt32)), .val (.int (p1.toInt8.toInt32)), .val (.int (p2.toInt8.toInt32)), .val (.int (p3.toInt8.toInt32)), .val (.int (p5.toInt8.toInt32)), .val (.int (1 : Int32)), .val (.ref b2), .val (.int (((((p0.toInt8.toInt32) * (16777216 : Int32)) + (((p1.toInt8.toInt32) &&& (255 : Int32)) * (65536 : Int32))) + (((p2.toInt8.toInt32) &&& (255 : Int32)) * (256 : Int32))) + ((p3.toInt8.toInt32) &&& (255 : Int32)))), .unset] [])) t
      refine XS.aload X69.here hx rfl (hb hby at_148) rfl rfl ?_
      show Steps p.tables e below (T69.setTop (mkF m 150 #[.val (.int p0), .val (.int p1), .val (.int p2), .val (.int p3), .val (.int p4), .val (.int p5), .val (.int (p0.toInt8.toInt32)), .val (.int (p1.toInt8.toInt32)), .val (.int (p2.toInt8.toInt32)), .val (.int (p3.toInt8.toInt32)), .val (.int (p5.toInt8.toInt32)), .val (.int (1 : Int32)), .val (.ref b2), .val (.int (((((p0.toInt8.toInt32) * (16777216 : Int32)) + (((p1.toInt8.toInt32) &&& (255 : Int32)) * (65536 : Int32))) + (((p2.toInt8.toInt32) &&& (255 : Int32)) * (256 : Int32))) + ((p3.toInt8.toInt32) &&& (255 : Int32)))), .unset] [(.ref b2)])) t
      refine XS.iload X69.here hx rfl (hb hby at_150) rfl ?_
      exact k
    have el74 : Elt Z h69 b2 .byte (1 : Int32) (.int ((p0.toInt8.toInt32).toInt8.toInt32)) := Elt.of f70 ⟨by decide, by decide⟩ rfl
    have el75 : Elt Z h69 b2 .byte ((1 : Int32) + (1 : Int32)) (.int ((p1.toInt8.toInt32).toInt8.toInt32)) := Elt.of f70 ⟨by decide, by decide⟩ rfl
    have el76 : Elt Z h69 b2 .byte ((1 : Int32) + (2 : Int32)) (.int ((p2.toInt8.toInt32).toInt8.toInt32)) := Elt.of f70 ⟨by decide, by decide⟩ rfl
    have el77 : Elt Z h69 b2 .byte ((1 : Int32) + (3 : Int32)) (.int ((p3.toInt8.toInt32).toInt8.toInt32)) := Elt.of f70 ⟨by decide, by decide⟩ rfl
    obtain ⟨_, _, ⟨T73, L73, k73, n73⟩, -, X73, ⟨Lc73, hQ73, l73, y73, z73⟩, st73⟩ := Jvm.LawKit.callS X69 hx (y := (⟨"com/example/moraine/moraine/BigEndian", "getInt", "([BI)I"⟩ : MethodName)) hown (mvT hZ (hw _ (List.mem_of_getElem? (i := 4) rfl))) (mvT hZ (hw _ (List.mem_of_getElem? (i := 5) rfl))) (mvT hZ (hw _ (List.mem_of_getElem? (i := 6) rfl))) (mvT hZ (hw _ (List.mem_of_getElem? (i := 7) rfl))) (by decide) (backOf (W := 0) (rmGet l Z az hw [] b2 (1 : Int32) ((p0.toInt8.toInt32).toInt8.toInt32) ((p1.toInt8.toInt32).toInt8.toInt32) ((p2.toInt8.toInt32).toInt8.toInt32) ((p3.toInt8.toInt32).toInt8.toInt32) h69 n0 Z71 el74 el75 el76 el77) hZ (hw _ (List.mem_of_getElem? (i := 7) rfl)) (hw _ (List.mem_of_getElem? (i := 6) rfl)) (by decide) (by decide)) (g := (mkF m 152 #[.val (.int p0), .val (.int p1), .val (.int p2), .val (.int p3), .val (.int p4), .val (.int p5), .val (.int (p0.toInt8.toInt32)), .val (.int (p1.toInt8.toInt32)), .val (.int (p2.toInt8.toInt32)), .val (.int (p3.toInt8.toInt32)), .val (.int (p5.toInt8.toInt32)), .val (.int (1 : Int32)), .val (.ref b2), .val (.int (((((p0.toInt8.toInt32) * (16777216 : Int32)) + (((p1.toInt8.toInt32) &&& (255 : Int32)) * (65536 : Int32))) + (((p2.toInt8.toInt32) &&& (255 : Int32)) * (256 : Int32))) + ((p3.toInt8.toInt32) &&& (255 : Int32)))), .unset] [(.int (1 : Int32)), (.ref b2)])) rfl (by rw [hml]; rfl) (argsL := [(.ref b2), (.int (1 : Int32))]) (rest := []) (lenOf own_pd0 rfl) rfl (by show 2 * 0 + _ ≤ _; exact Nat.le_of_eq rfl) (hb hby at_152) (fun _ _ => ⟨rfl, e69, (by decide : 1 + 0 ≤ _), (by decide : 7 + 0 ≤ _)⟩)
    dsimp only [Pt.U, Pt.locs, Pt.cells, Pt.slots] at X73 l73 y73 z73 st73 hQ73
    subst l73 y73 z73
    obtain ⟨rfl, N73q, e73⟩ := hQ73
    have N78 := Fr.app N72 N73q
    refine Goes.by st73 ?_
    show Goes p.tables e below _ (T73.setTop (mkF m 155 #[.val (.int p0), .val (.int p1), .val (.int p2), .val (.int p3), .val (.int p4), .val (.int p5), .val (.int (p0.toInt8.toInt32)), .val (.int (p1.toInt8.toInt32)), .val (.int (p2.toInt8.toInt32)), .val (.int (p3.toInt8.toInt32)), .val (.int (p5.toInt8.toInt32)), .val (.int (1 : Int32)), .val (.ref b2), .val (.int (((((p0.toInt8.toInt32) * (16777216 : Int32)) + (((p1.toInt8.toInt32) &&& (255 : Int32)) * (65536 : Int32))) + (((p2.toInt8.toInt32) &&& (255 : Int32)) * (256 : Int32))) + ((p3.toInt8.toInt32) &&& (255 : Int32)))), .unset] [(.int (fGet ((p0.toInt8.toInt32).toInt8.toInt32) ((p1.toInt8.toInt32).toInt8.toInt32) ((p2.toInt8.toInt32).toInt8.toInt32) ((p3.toInt8.toInt32).toInt8.toInt32)))]))
    refine Goes.by (B := T73.setTop (mkF m 169 #[.val (.int p0), .val (.int p1), .val (.int p2), .val (.int p3), .val (.int p4), .val (.int p5), .val (.int (p0.toInt8.toInt32)), .val (.int (p1.toInt8.toInt32)), .val (.int (p2.toInt8.toInt32)), .val (.int (p3.toInt8.toInt32)), .val (.int (p5.toInt8.toInt32)), .val (.int (1 : Int32)), .val (.ref b2), .val (.int (((((p0.toInt8.toInt32) * (16777216 : Int32)) + (((p1.toInt8.toInt32) &&& (255 : Int32)) * (65536 : Int32))) + (((p2.toInt8.toInt32) &&& (255 : Int32)) * (256 : Int32))) + ((p3.toInt8.toInt32) &&& (255 : Int32)))), .val (.int (fGet ((p0.toInt8.toInt32).toInt8.toInt32) ((p1.toInt8.toInt32).toInt8.toInt32) ((p2.toInt8.toInt32).toInt8.toInt32) ((p3.toInt8.toInt32).toInt8.toInt32)))] [(.int (1 : Int32))])) (fun t k => ?_) ?_
    · show Steps p.tables e below (T73.setTop (mkF m 155 #[.val (.int p0), .val (.int p1), .val (.int p2), .val (.int p3), .val (.int p4), .val (.int p5), .val (.int (p0.toInt8.toInt32)), .val (.int (p1.toInt8.toInt32)), .val (.int (p2.toInt8.toInt32)), .val (.int (p3.toInt8.toInt32)), .val (.int (p5.toInt8.toInt32)), .val (.int (1 : Int32)), .val (.ref b2), .val (.int (((((p0.toInt8.toInt32) * (16777216 : Int32)) + (((p1.toInt8.toInt32) &&& (255 : Int32)) * (65536 : Int32))) + (((p2.toInt8.toInt32) &&& (255 : Int32)) * (256 : Int32))) + ((p3.toInt8.toInt32) &&& (255 : Int32)))), .unset] [(.int (fGet ((p0.toInt8.toInt32).toInt8.toInt32) ((p1.toInt8.toInt32).toInt8.toInt32) ((p2.toInt8.toInt32).toInt8.toInt32) ((p3.toInt8.toInt32).toInt8.toInt32)))])) t
      refine XS.istore X73.here hx rfl (hb hby at_155) rfl (l' := #[.val (.int p0), .val (.int p1), .val (.int p2), .val (.int p3), .val (.int p4), .val (.int p5), .val (.int (p0.toInt8.toInt32)), .val (.int (p1.toInt8.toInt32)), .val (.int (p2.toInt8.toInt32)), .val (.int (p3.toInt8.toInt32)), .val (.int (p5.toInt8.toInt32)), .val (.int (1 : Int32)), .val (.ref b2), .val (.int (((((p0.toInt8.toInt32) * (16777216 : Int32)) + (((p1.toInt8.toInt32) &&& (255 : Int32)) * (65536 : Int32))) + (((p2.toInt8.toInt32) &&& (255 : Int32)) * (256 : Int32))) + ((p3.toInt8.toInt32) &&& (255 : Int32)))), .val (.int (fGet ((p0.toInt8.toInt32).toInt8.toInt32) ((p1.toInt8.toInt32).toInt8.toInt32) ((p2.toInt8.toInt32).toInt8.toInt32) ((p3.toInt8.toInt32).toInt8.toInt32)))]) rfl ?_
      show Steps p.tables e below (T73.setTop (mkF m 157 #[.val (.int p0), .val (.int p1), .val (.int p2), .val (.int p3), .val (.int p4), .val (.int p5), .val (.int (p0.toInt8.toInt32)), .val (.int (p1.toInt8.toInt32)), .val (.int (p2.toInt8.toInt32)), .val (.int (p3.toInt8.toInt32)), .val (.int (p5.toInt8.toInt32)), .val (.int (1 : Int32)), .val (.ref b2), .val (.int (((((p0.toInt8.toInt32) * (16777216 : Int32)) + (((p1.toInt8.toInt32) &&& (255 : Int32)) * (65536 : Int32))) + (((p2.toInt8.toInt32) &&& (255 : Int32)) * (256 : Int32))) + ((p3.toInt8.toInt32) &&& (255 : Int32)))), .val (.int (fGet ((p0.toInt8.toInt32).toInt8.toInt32) ((p1.toInt8.toInt32).toInt8.toInt32) ((p2.toInt8.toInt32).toInt8.toInt32) ((p3.toInt8.toInt32).toInt8.toInt32)))] [])) t
      refine XS.iload X73.here hx rfl (hb hby at_157) rfl ?_
      show Steps p.tables e below (T73.setTop (mkF m 159 #[.val (.int p0), .val (.int p1), .val (.int p2), .val (.int p3), .val (.int p4), .val (.int p5), .val (.int (p0.toInt8.toInt32)), .val (.int (p1.toInt8.toInt32)), .val (.int (p2.toInt8.toInt32)), .val (.int (p3.toInt8.toInt32)), .val (.int (p5.toInt8.toInt32)), .val (.int (1 : Int32)), .val (.ref b2), .val (.int (((((p0.toInt8.toInt32) * (16777216 : Int32)) + (((p1.toInt8.toInt32) &&& (255 : Int32)) * (65536 : Int32))) + (((p2.toInt8.toInt32) &&& (255 : Int32)) * (256 : Int32))) + ((p3.toInt8.toInt32) &&& (255 : Int32)))), .val (.int (fGet ((p0.toInt8.toInt32).toInt8.toInt32) ((p1.toInt8.toInt32).toInt8.toInt32) ((p2.toInt8.toInt32).toInt8.toInt32) ((p3.toInt8.toInt32).toInt8.toInt32)))] [(.int (fGet ((p0.toInt8.toInt32).toInt8.toInt32) ((p1.toInt8.toInt32).toInt8.toInt32) ((p2.toInt8.toInt32).toInt8.toInt32) ((p3.toInt8.toInt32).toInt8.toInt32)))])) t
      refine XS.iload X73.here hx rfl (hb hby at_159) rfl ?_
      show Steps p.tables e below (T73.setTop (mkF m 161 #[.val (.int p0), .val (.int p1), .val (.int p2), .val (.int p3), .val (.int p4), .val (.int p5), .val (.int (p0.toInt8.toInt32)), .val (.int (p1.toInt8.toInt32)), .val (.int (p2.toInt8.toInt32)), .val (.int (p3.toInt8.toInt32)), .val (.int (p5.toInt8.toInt32)), .val (.int (1 : Int32)), .val (.ref b2), .val (.int (((((p0.toInt8.toInt32) * (16777216 : Int32)) + (((p1.toInt8.toInt32) &&& (255 : Int32)) * (65536 : Int32))) + (((p2.toInt8.toInt32) &&& (255 : Int32)) * (256 : Int32))) + ((p3.toInt8.toInt32) &&& (255 : Int32)))), .val (.int (fGet ((p0.toInt8.toInt32).toInt8.toInt32) ((p1.toInt8.toInt32).toInt8.toInt32) ((p2.toInt8.toInt32).toInt8.toInt32) ((p3.toInt8.toInt32).toInt8.toInt32)))] [(.int (((((p0.toInt8.toInt32) * (16777216 : Int32)) + (((p1.toInt8.toInt32) &&& (255 : Int32)) * (65536 : Int32))) + (((p2.toInt8.toInt32) &&& (255 : Int32)) * (256 : Int32))) + ((p3.toInt8.toInt32) &&& (255 : Int32)))), (.int (fGet ((p0.toInt8.toInt32).toInt8.toInt32) ((p1.toInt8.toInt32).toInt8.toInt32) ((p2.toInt8.toInt32).toInt8.toInt32) ((p3.toInt8.toInt32).toInt8.toInt32)))])) t
      refine XS.icmpNo X73.here hx rfl (hb hby at_161) rfl (teq (own_law p0 p1 p2 p3)).2 ?_
      show Steps p.tables e below (T73.setTop (mkF m 164 #[.val (.int p0), .val (.int p1), .val (.int p2), .val (.int p3), .val (.int p4), .val (.int p5), .val (.int (p0.toInt8.toInt32)), .val (.int (p1.toInt8.toInt32)), .val (.int (p2.toInt8.toInt32)), .val (.int (p3.toInt8.toInt32)), .val (.int (p5.toInt8.toInt32)), .val (.int (1 : Int32)), .val (.ref b2), .val (.int (((((p0.toInt8.toInt32) * (16777216 : Int32)) + (((p1.toInt8.toInt32) &&& (255 : Int32)) * (65536 : Int32))) + (((p2.toInt8.toInt32) &&& (255 : Int32)) * (256 : Int32))) + ((p3.toInt8.toInt32) &&& (255 : Int32)))), .val (.int (fGet ((p0.toInt8.toInt32).toInt8.toInt32) ((p1.toInt8.toInt32).toInt8.toInt32) ((p2.toInt8.toInt32).toInt8.toInt32) ((p3.toInt8.toInt32).toInt8.toInt32)))] [])) t
      refine XS.iconst X73.here hx rfl (hb hby at_164) ?_
      show Steps p.tables e below (T73.setTop (mkF m 165 #[.val (.int p0), .val (.int p1), .val (.int p2), .val (.int p3), .val (.int p4), .val (.int p5), .val (.int (p0.toInt8.toInt32)), .val (.int (p1.toInt8.toInt32)), .val (.int (p2.toInt8.toInt32)), .val (.int (p3.toInt8.toInt32)), .val (.int (p5.toInt8.toInt32)), .val (.int (1 : Int32)), .val (.ref b2), .val (.int (((((p0.toInt8.toInt32) * (16777216 : Int32)) + (((p1.toInt8.toInt32) &&& (255 : Int32)) * (65536 : Int32))) + (((p2.toInt8.toInt32) &&& (255 : Int32)) * (256 : Int32))) + ((p3.toInt8.toInt32) &&& (255 : Int32)))), .val (.int (fGet ((p0.toInt8.toInt32).toInt8.toInt32) ((p1.toInt8.toInt32).toInt8.toInt32) ((p2.toInt8.toInt32).toInt8.toInt32) ((p3.toInt8.toInt32).toInt8.toInt32)))] [(.int (1 : Int32))])) t
      refine XS.goto X73.here hx rfl (pc0 := 165) (pc' := 169) rfl (hb hby at_165) (by decide) (by decide) ?_
      exact k
    obtain ⟨fs, hr, hrun, hended, hW, hsame⟩ := X73.leave (v := some (.int (1 : Int32))) (fun h => by rw [Bd.returns] at h; cases h)
    refine Goes.mk _ _ ?_ ⟨hrun, hended, _, _, rfl, ?_, ⟨_, rfl⟩, hW, hsame.mono (by decide) (by decide)⟩
    · exact retN X73 hx (t := .boolean) Bd.returns (by simp) (hb hby at_169) hr
    · show Q0 Z p0 p1 p2 p3 p4 p5 h0 n0 _ T73.heap _
      rw [e73]
      exact ⟨rfl, N78⟩
  · refine Goes.by (B := T31.setTop (mkF m 85 #[.val (.int p0), .val (.int p1), .val (.int p2), .val (.int p3), .val (.int p4), .val (.int p5), .val (.int (p0.toInt8.toInt32)), .val (.int (p1.toInt8.toInt32)), .val (.int (p2.toInt8.toInt32)), .val (.int (p3.toInt8.toInt32)), .val (.int (p5.toInt8.toInt32)), .val (.int (2 : Int32)), .val (.ref b2), .unset, .unset] [(.int (p0.toInt8.toInt32)), (.int (2 : Int32)), (.ref b2)])) (fun t k => ?_) ?_
    · show Steps p.tables e below (T31.setTop (mkF m 79 #[.val (.int p0), .val (.int p1), .val (.int p2), .val (.int p3), .val (.int p4), .val (.int p5), .val (.int (p0.toInt8.toInt32)), .val (.int (p1.toInt8.toInt32)), .val (.int (p2.toInt8.toInt32)), .val (.int (p3.toInt8.toInt32)), .val (.int (p5.toInt8.toInt32)), .val (.int (2 : Int32)), .val (.ref b2), .unset, .unset] [])) t
      refine XS.aload X31.here hx rfl (hb hby at_79) rfl rfl ?_
      show Steps p.tables e below (T31.setTop (mkF m 81 #[.val (.int p0), .val (.int p1), .val (.int p2), .val (.int p3), .val (.int p4), .val (.int p5), .val (.int (p0.toInt8.toInt32)), .val (.int (p1.toInt8.toInt32)), .val (.int (p2.toInt8.toInt32)), .val (.int (p3.toInt8.toInt32)), .val (.int (p5.toInt8.toInt32)), .val (.int (2 : Int32)), .val (.ref b2), .unset, .unset] [(.ref b2)])) t
      refine XS.iload X31.here hx rfl (hb hby at_81) rfl ?_
      show Steps p.tables e below (T31.setTop (mkF m 83 #[.val (.int p0), .val (.int p1), .val (.int p2), .val (.int p3), .val (.int p4), .val (.int p5), .val (.int (p0.toInt8.toInt32)), .val (.int (p1.toInt8.toInt32)), .val (.int (p2.toInt8.toInt32)), .val (.int (p3.toInt8.toInt32)), .val (.int (p5.toInt8.toInt32)), .val (.int (2 : Int32)), .val (.ref b2), .unset, .unset] [(.int (2 : Int32)), (.ref b2)])) t
      refine XS.iload X31.here hx rfl (hb hby at_83) rfl ?_
      exact k
    obtain ⟨cl79, cl79A, cl79q, cl79S, cl79N, cl79H, cl79G⟩ := f32
    have cl79I : ¬ ((2 : Int32) < 0 ∨ cl79.slots.size ≤ ((2 : Int32)).toNatClampNeg) := inb_of cl79S ⟨by decide, by decide⟩
    obtain ⟨T79, h79, X79, e79, W79, st79⟩ := stB X31 hx hZ e31 cl79A (j := (2 : Int32)) cl79I (g := (mkF m 85 #[.val (.int p0), .val (.int p1), .val (.int p2), .val (.int p3), .val (.int p4), .val (.int p5), .val (.int (p0.toInt8.toInt32)), .val (.int (p1.toInt8.toInt32)), .val (.int (p2.toInt8.toInt32)), .val (.int (p3.toInt8.toInt32)), .val (.int (p5.toInt8.toInt32)), .val (.int (2 : Int32)), .val (.ref b2), .unset, .unset] [(.int (p0.toInt8.toInt32)), (.int (2 : Int32)), (.ref b2)])) rfl rfl (hb hby at_85)
    have f80 : Arv Z h79 b2 k1 .byte (7 : Int32) [(.int ((p5.toInt8.toInt32).toInt8.toInt32)), (.int ((p5.toInt8.toInt32).toInt8.toInt32)), (.int ((p0.toInt8.toInt32).toInt8.toInt32)), (.int ((p5.toInt8.toInt32).toInt8.toInt32)), (.int ((p5.toInt8.toInt32).toInt8.toInt32)), (.int ((p5.toInt8.toInt32).toInt8.toInt32)), (.int ((p5.toInt8.toInt32).toInt8.toInt32))] (.int (0 : Int32)) := Arv.set cl79A cl79q cl79S cl79N cl79H cl79G (fits_nar_byte _) W79 2 rfl (Nat.le_of_ble_eq_true rfl)
    have Kp79 : Keep h0 h79 [] := Kp31.wr W79 (Or.inr sz4)
    have Z81 : n0 ≤ h79.size := Nat.le_trans Z33 (Nat.le_of_eq W79.size.symm)
    have N82 := Fr.snoc X79 N34 ge3
    refine Goes.by st79 ?_
    show Goes p.tables e below _ (T79.setTop (mkF m 86 #[.val (.int p0), .val (.int p1), .val (.int p2), .val (.int p3), .val (.int p4), .val (.int p5), .val (.int (p0.toInt8.toInt32)), .val (.int (p1.toInt8.toInt32)), .val (.int (p2.toInt8.toInt32)), .val (.int (p3.toInt8.toInt32)), .val (.int (p5.toInt8.toInt32)), .val (.int (2 : Int32)), .val (.ref b2), .unset, .unset] []))
    refine Goes.by (B := T79.setTop (mkF m 94 #[.val (.int p0), .val (.int p1), .val (.int p2), .val (.int p3), .val (.int p4), .val (.int p5), .val (.int (p0.toInt8.toInt32)), .val (.int (p1.toInt8.toInt32)), .val (.int (p2.toInt8.toInt32)), .val (.int (p3.toInt8.toInt32)), .val (.int (p5.toInt8.toInt32)), .val (.int (2 : Int32)), .val (.ref b2), .unset, .unset] [(.int (p1.toInt8.toInt32)), (.int (3 : Int32)), (.ref b2)])) (fun t k => ?_) ?_
    · show Steps p.tables e below (T79.setTop (mkF m 86 #[.val (.int p0), .val (.int p1), .val (.int p2), .val (.int p3), .val (.int p4), .val (.int p5), .val (.int (p0.toInt8.toInt32)), .val (.int (p1.toInt8.toInt32)), .val (.int (p2.toInt8.toInt32)), .val (.int (p3.toInt8.toInt32)), .val (.int (p5.toInt8.toInt32)), .val (.int (2 : Int32)), .val (.ref b2), .unset, .unset] [])) t
      refine XS.aload X79.here hx rfl (hb hby at_86) rfl rfl ?_
      show Steps p.tables e below (T79.setTop (mkF m 88 #[.val (.int p0), .val (.int p1), .val (.int p2), .val (.int p3), .val (.int p4), .val (.int p5), .val (.int (p0.toInt8.toInt32)), .val (.int (p1.toInt8.toInt32)), .val (.int (p2.toInt8.toInt32)), .val (.int (p3.toInt8.toInt32)), .val (.int (p5.toInt8.toInt32)), .val (.int (2 : Int32)), .val (.ref b2), .unset, .unset] [(.ref b2)])) t
      refine XS.iload X79.here hx rfl (hb hby at_88) rfl ?_
      show Steps p.tables e below (T79.setTop (mkF m 90 #[.val (.int p0), .val (.int p1), .val (.int p2), .val (.int p3), .val (.int p4), .val (.int p5), .val (.int (p0.toInt8.toInt32)), .val (.int (p1.toInt8.toInt32)), .val (.int (p2.toInt8.toInt32)), .val (.int (p3.toInt8.toInt32)), .val (.int (p5.toInt8.toInt32)), .val (.int (2 : Int32)), .val (.ref b2), .unset, .unset] [(.int (2 : Int32)), (.ref b2)])) t
      refine XS.iconst X79.here hx rfl (hb hby at_90) ?_
      show Steps p.tables e below (T79.setTop (mkF m 91 #[.val (.int p0), .val (.int p1), .val (.int p2), .val (.int p3), .val (.int p4), .val (.int p5), .val (.int (p0.toInt8.toInt32)), .val (.int (p1.toInt8.toInt32)), .val (.int (p2.toInt8.toInt32)), .val (.int (p3.toInt8.toInt32)), .val (.int (p5.toInt8.toInt32)), .val (.int (2 : Int32)), .val (.ref b2), .unset, .unset] [(.int (1 : Int32)), (.int (2 : Int32)), (.ref b2)])) t
      refine XS.iadd X79.here hx rfl (hb hby at_91) rfl ?_
      show Steps p.tables e below (T79.setTop (mkF m 92 #[.val (.int p0), .val (.int p1), .val (.int p2), .val (.int p3), .val (.int p4), .val (.int p5), .val (.int (p0.toInt8.toInt32)), .val (.int (p1.toInt8.toInt32)), .val (.int (p2.toInt8.toInt32)), .val (.int (p3.toInt8.toInt32)), .val (.int (p5.toInt8.toInt32)), .val (.int (2 : Int32)), .val (.ref b2), .unset, .unset] [(.int (3 : Int32)), (.ref b2)])) t
      refine XS.iload X79.here hx rfl (hb hby at_92) rfl ?_
      exact k
    obtain ⟨cl83, cl83A, cl83q, cl83S, cl83N, cl83H, cl83G⟩ := f80
    have cl83I : ¬ ((3 : Int32) < 0 ∨ cl83.slots.size ≤ ((3 : Int32)).toNatClampNeg) := inb_of cl83S ⟨by decide, by decide⟩
    obtain ⟨T83, h83, X83, e83, W83, st83⟩ := stB X79 hx hZ e79 cl83A (j := (3 : Int32)) cl83I (g := (mkF m 94 #[.val (.int p0), .val (.int p1), .val (.int p2), .val (.int p3), .val (.int p4), .val (.int p5), .val (.int (p0.toInt8.toInt32)), .val (.int (p1.toInt8.toInt32)), .val (.int (p2.toInt8.toInt32)), .val (.int (p3.toInt8.toInt32)), .val (.int (p5.toInt8.toInt32)), .val (.int (2 : Int32)), .val (.ref b2), .unset, .unset] [(.int (p1.toInt8.toInt32)), (.int (3 : Int32)), (.ref b2)])) rfl rfl (hb hby at_94)
    have f84 : Arv Z h83 b2 k1 .byte (7 : Int32) [(.int ((p5.toInt8.toInt32).toInt8.toInt32)), (.int ((p5.toInt8.toInt32).toInt8.toInt32)), (.int ((p0.toInt8.toInt32).toInt8.toInt32)), (.int ((p1.toInt8.toInt32).toInt8.toInt32)), (.int ((p5.toInt8.toInt32).toInt8.toInt32)), (.int ((p5.toInt8.toInt32).toInt8.toInt32)), (.int ((p5.toInt8.toInt32).toInt8.toInt32))] (.int (0 : Int32)) := Arv.set cl83A cl83q cl83S cl83N cl83H cl83G (fits_nar_byte _) W83 3 rfl (Nat.le_of_ble_eq_true rfl)
    have Kp83 : Keep h0 h83 [] := Kp79.wr W83 (Or.inr sz4)
    have Z85 : n0 ≤ h83.size := Nat.le_trans Z81 (Nat.le_of_eq W83.size.symm)
    have N86 := Fr.snoc X83 N82 ge3
    refine Goes.by st83 ?_
    show Goes p.tables e below _ (T83.setTop (mkF m 95 #[.val (.int p0), .val (.int p1), .val (.int p2), .val (.int p3), .val (.int p4), .val (.int p5), .val (.int (p0.toInt8.toInt32)), .val (.int (p1.toInt8.toInt32)), .val (.int (p2.toInt8.toInt32)), .val (.int (p3.toInt8.toInt32)), .val (.int (p5.toInt8.toInt32)), .val (.int (2 : Int32)), .val (.ref b2), .unset, .unset] []))
    refine Goes.by (B := T83.setTop (mkF m 103 #[.val (.int p0), .val (.int p1), .val (.int p2), .val (.int p3), .val (.int p4), .val (.int p5), .val (.int (p0.toInt8.toInt32)), .val (.int (p1.toInt8.toInt32)), .val (.int (p2.toInt8.toInt32)), .val (.int (p3.toInt8.toInt32)), .val (.int (p5.toInt8.toInt32)), .val (.int (2 : Int32)), .val (.ref b2), .unset, .unset] [(.int (p2.toInt8.toInt32)), (.int (4 : Int32)), (.ref b2)])) (fun t k => ?_) ?_
    · show Steps p.tables e below (T83.setTop (mkF m 95 #[.val (.int p0), .val (.int p1), .val (.int p2), .val (.int p3), .val (.int p4), .val (.int p5), .val (.int (p0.toInt8.toInt32)), .val (.int (p1.toInt8.toInt32)), .val (.int (p2.toInt8.toInt32)), .val (.int (p3.toInt8.toInt32)), .val (.int (p5.toInt8.toInt32)), .val (.int (2 : Int32)), .val (.ref b2), .unset, .unset] [])) t
      refine XS.aload X83.here hx rfl (hb hby at_95) rfl rfl ?_
      show Steps p.tables e below (T83.setTop (mkF m 97 #[.val (.int p0), .val (.int p1), .val (.int p2), .val (.int p3), .val (.int p4), .val (.int p5), .val (.int (p0.toInt8.toInt32)), .val (.int (p1.toInt8.toInt32)), .val (.int (p2.toInt8.toInt32)), .val (.int (p3.toInt8.toInt32)), .val (.int (p5.toInt8.toInt32)), .val (.int (2 : Int32)), .val (.ref b2), .unset, .unset] [(.ref b2)])) t
      refine XS.iload X83.here hx rfl (hb hby at_97) rfl ?_
      show Steps p.tables e below (T83.setTop (mkF m 99 #[.val (.int p0), .val (.int p1), .val (.int p2), .val (.int p3), .val (.int p4), .val (.int p5), .val (.int (p0.toInt8.toInt32)), .val (.int (p1.toInt8.toInt32)), .val (.int (p2.toInt8.toInt32)), .val (.int (p3.toInt8.toInt32)), .val (.int (p5.toInt8.toInt32)), .val (.int (2 : Int32)), .val (.ref b2), .unset, .unset] [(.int (2 : Int32)), (.ref b2)])) t
      refine XS.iconst X83.here hx rfl (hb hby at_99) ?_
      show Steps p.tables e below (T83.setTop (mkF m 100 #[.val (.int p0), .val (.int p1), .val (.int p2), .val (.int p3), .val (.int p4), .val (.int p5), .val (.int (p0.toInt8.toInt32)), .val (.int (p1.toInt8.toInt32)), .val (.int (p2.toInt8.toInt32)), .val (.int (p3.toInt8.toInt32)), .val (.int (p5.toInt8.toInt32)), .val (.int (2 : Int32)), .val (.ref b2), .unset, .unset] [(.int (2 : Int32)), (.int (2 : Int32)), (.ref b2)])) t
      refine XS.iadd X83.here hx rfl (hb hby at_100) rfl ?_
      show Steps p.tables e below (T83.setTop (mkF m 101 #[.val (.int p0), .val (.int p1), .val (.int p2), .val (.int p3), .val (.int p4), .val (.int p5), .val (.int (p0.toInt8.toInt32)), .val (.int (p1.toInt8.toInt32)), .val (.int (p2.toInt8.toInt32)), .val (.int (p3.toInt8.toInt32)), .val (.int (p5.toInt8.toInt32)), .val (.int (2 : Int32)), .val (.ref b2), .unset, .unset] [(.int (4 : Int32)), (.ref b2)])) t
      refine XS.iload X83.here hx rfl (hb hby at_101) rfl ?_
      exact k
    obtain ⟨cl87, cl87A, cl87q, cl87S, cl87N, cl87H, cl87G⟩ := f84
    have cl87I : ¬ ((4 : Int32) < 0 ∨ cl87.slots.size ≤ ((4 : Int32)).toNatClampNeg) := inb_of cl87S ⟨by decide, by decide⟩
    obtain ⟨T87, h87, X87, e87, W87, st87⟩ := stB X83 hx hZ e83 cl87A (j := (4 : Int32)) cl87I (g := (mkF m 103 #[.val (.int p0), .val (.int p1), .val (.int p2), .val (.int p3), .val (.int p4), .val (.int p5), .val (.int (p0.toInt8.toInt32)), .val (.int (p1.toInt8.toInt32)), .val (.int (p2.toInt8.toInt32)), .val (.int (p3.toInt8.toInt32)), .val (.int (p5.toInt8.toInt32)), .val (.int (2 : Int32)), .val (.ref b2), .unset, .unset] [(.int (p2.toInt8.toInt32)), (.int (4 : Int32)), (.ref b2)])) rfl rfl (hb hby at_103)
    have f88 : Arv Z h87 b2 k1 .byte (7 : Int32) [(.int ((p5.toInt8.toInt32).toInt8.toInt32)), (.int ((p5.toInt8.toInt32).toInt8.toInt32)), (.int ((p0.toInt8.toInt32).toInt8.toInt32)), (.int ((p1.toInt8.toInt32).toInt8.toInt32)), (.int ((p2.toInt8.toInt32).toInt8.toInt32)), (.int ((p5.toInt8.toInt32).toInt8.toInt32)), (.int ((p5.toInt8.toInt32).toInt8.toInt32))] (.int (0 : Int32)) := Arv.set cl87A cl87q cl87S cl87N cl87H cl87G (fits_nar_byte _) W87 4 rfl (Nat.le_of_ble_eq_true rfl)
    have Kp87 : Keep h0 h87 [] := Kp83.wr W87 (Or.inr sz4)
    have Z89 : n0 ≤ h87.size := Nat.le_trans Z85 (Nat.le_of_eq W87.size.symm)
    have N90 := Fr.snoc X87 N86 ge3
    refine Goes.by st87 ?_
    show Goes p.tables e below _ (T87.setTop (mkF m 104 #[.val (.int p0), .val (.int p1), .val (.int p2), .val (.int p3), .val (.int p4), .val (.int p5), .val (.int (p0.toInt8.toInt32)), .val (.int (p1.toInt8.toInt32)), .val (.int (p2.toInt8.toInt32)), .val (.int (p3.toInt8.toInt32)), .val (.int (p5.toInt8.toInt32)), .val (.int (2 : Int32)), .val (.ref b2), .unset, .unset] []))
    refine Goes.by (B := T87.setTop (mkF m 112 #[.val (.int p0), .val (.int p1), .val (.int p2), .val (.int p3), .val (.int p4), .val (.int p5), .val (.int (p0.toInt8.toInt32)), .val (.int (p1.toInt8.toInt32)), .val (.int (p2.toInt8.toInt32)), .val (.int (p3.toInt8.toInt32)), .val (.int (p5.toInt8.toInt32)), .val (.int (2 : Int32)), .val (.ref b2), .unset, .unset] [(.int (p3.toInt8.toInt32)), (.int (5 : Int32)), (.ref b2)])) (fun t k => ?_) ?_
    · show Steps p.tables e below (T87.setTop (mkF m 104 #[.val (.int p0), .val (.int p1), .val (.int p2), .val (.int p3), .val (.int p4), .val (.int p5), .val (.int (p0.toInt8.toInt32)), .val (.int (p1.toInt8.toInt32)), .val (.int (p2.toInt8.toInt32)), .val (.int (p3.toInt8.toInt32)), .val (.int (p5.toInt8.toInt32)), .val (.int (2 : Int32)), .val (.ref b2), .unset, .unset] [])) t
      refine XS.aload X87.here hx rfl (hb hby at_104) rfl rfl ?_
      show Steps p.tables e below (T87.setTop (mkF m 106 #[.val (.int p0), .val (.int p1), .val (.int p2), .val (.int p3), .val (.int p4), .val (.int p5), .val (.int (p0.toInt8.toInt32)), .val (.int (p1.toInt8.toInt32)), .val (.int (p2.toInt8.toInt32)), .val (.int (p3.toInt8.toInt32)), .val (.int (p5.toInt8.toInt32)), .val (.int (2 : Int32)), .val (.ref b2), .unset, .unset] [(.ref b2)])) t
      refine XS.iload X87.here hx rfl (hb hby at_106) rfl ?_
      show Steps p.tables e below (T87.setTop (mkF m 108 #[.val (.int p0), .val (.int p1), .val (.int p2), .val (.int p3), .val (.int p4), .val (.int p5), .val (.int (p0.toInt8.toInt32)), .val (.int (p1.toInt8.toInt32)), .val (.int (p2.toInt8.toInt32)), .val (.int (p3.toInt8.toInt32)), .val (.int (p5.toInt8.toInt32)), .val (.int (2 : Int32)), .val (.ref b2), .unset, .unset] [(.int (2 : Int32)), (.ref b2)])) t
      refine XS.iconst X87.here hx rfl (hb hby at_108) ?_
      show Steps p.tables e below (T87.setTop (mkF m 109 #[.val (.int p0), .val (.int p1), .val (.int p2), .val (.int p3), .val (.int p4), .val (.int p5), .val (.int (p0.toInt8.toInt32)), .val (.int (p1.toInt8.toInt32)), .val (.int (p2.toInt8.toInt32)), .val (.int (p3.toInt8.toInt32)), .val (.int (p5.toInt8.toInt32)), .val (.int (2 : Int32)), .val (.ref b2), .unset, .unset] [(.int (3 : Int32)), (.int (2 : Int32)), (.ref b2)])) t
      refine XS.iadd X87.here hx rfl (hb hby at_109) rfl ?_
      show Steps p.tables e below (T87.setTop (mkF m 110 #[.val (.int p0), .val (.int p1), .val (.int p2), .val (.int p3), .val (.int p4), .val (.int p5), .val (.int (p0.toInt8.toInt32)), .val (.int (p1.toInt8.toInt32)), .val (.int (p2.toInt8.toInt32)), .val (.int (p3.toInt8.toInt32)), .val (.int (p5.toInt8.toInt32)), .val (.int (2 : Int32)), .val (.ref b2), .unset, .unset] [(.int (5 : Int32)), (.ref b2)])) t
      refine XS.iload X87.here hx rfl (hb hby at_110) rfl ?_
      exact k
    obtain ⟨cl91, cl91A, cl91q, cl91S, cl91N, cl91H, cl91G⟩ := f88
    have cl91I : ¬ ((5 : Int32) < 0 ∨ cl91.slots.size ≤ ((5 : Int32)).toNatClampNeg) := inb_of cl91S ⟨by decide, by decide⟩
    obtain ⟨T91, h91, X91, e91, W91, st91⟩ := stB X87 hx hZ e87 cl91A (j := (5 : Int32)) cl91I (g := (mkF m 112 #[.val (.int p0), .val (.int p1), .val (.int p2), .val (.int p3), .val (.int p4), .val (.int p5), .val (.int (p0.toInt8.toInt32)), .val (.int (p1.toInt8.toInt32)), .val (.int (p2.toInt8.toInt32)), .val (.int (p3.toInt8.toInt32)), .val (.int (p5.toInt8.toInt32)), .val (.int (2 : Int32)), .val (.ref b2), .unset, .unset] [(.int (p3.toInt8.toInt32)), (.int (5 : Int32)), (.ref b2)])) rfl rfl (hb hby at_112)
    have f92 : Arv Z h91 b2 k1 .byte (7 : Int32) [(.int ((p5.toInt8.toInt32).toInt8.toInt32)), (.int ((p5.toInt8.toInt32).toInt8.toInt32)), (.int ((p0.toInt8.toInt32).toInt8.toInt32)), (.int ((p1.toInt8.toInt32).toInt8.toInt32)), (.int ((p2.toInt8.toInt32).toInt8.toInt32)), (.int ((p3.toInt8.toInt32).toInt8.toInt32)), (.int ((p5.toInt8.toInt32).toInt8.toInt32))] (.int (0 : Int32)) := Arv.set cl91A cl91q cl91S cl91N cl91H cl91G (fits_nar_byte _) W91 5 rfl (Nat.le_of_ble_eq_true rfl)
    have Kp91 : Keep h0 h91 [] := Kp87.wr W91 (Or.inr sz4)
    have Z93 : n0 ≤ h91.size := Nat.le_trans Z89 (Nat.le_of_eq W91.size.symm)
    have N94 := Fr.snoc X91 N90 ge3
    refine Goes.by st91 ?_
    show Goes p.tables e below _ (T91.setTop (mkF m 113 #[.val (.int p0), .val (.int p1), .val (.int p2), .val (.int p3), .val (.int p4), .val (.int p5), .val (.int (p0.toInt8.toInt32)), .val (.int (p1.toInt8.toInt32)), .val (.int (p2.toInt8.toInt32)), .val (.int (p3.toInt8.toInt32)), .val (.int (p5.toInt8.toInt32)), .val (.int (2 : Int32)), .val (.ref b2), .unset, .unset] []))
    refine Goes.by (B := T91.setTop (mkF m 152 #[.val (.int p0), .val (.int p1), .val (.int p2), .val (.int p3), .val (.int p4), .val (.int p5), .val (.int (p0.toInt8.toInt32)), .val (.int (p1.toInt8.toInt32)), .val (.int (p2.toInt8.toInt32)), .val (.int (p3.toInt8.toInt32)), .val (.int (p5.toInt8.toInt32)), .val (.int (2 : Int32)), .val (.ref b2), .val (.int (((((p0.toInt8.toInt32) * (16777216 : Int32)) + (((p1.toInt8.toInt32) &&& (255 : Int32)) * (65536 : Int32))) + (((p2.toInt8.toInt32) &&& (255 : Int32)) * (256 : Int32))) + ((p3.toInt8.toInt32) &&& (255 : Int32)))), .unset] [(.int (2 : Int32)), (.ref b2)])) (fun t k => ?_) ?_
    · show Steps p.tables e below (T91.setTop (mkF m 113 #[.val (.int p0), .val (.int p1), .val (.int p2), .val (.int p3), .val (.int p4), .val (.int p5), .val (.int (p0.toInt8.toInt32)), .val (.int (p1.toInt8.toInt32)), .val (.int (p2.toInt8.toInt32)), .val (.int (p3.toInt8.toInt32)), .val (.int (p5.toInt8.toInt32)), .val (.int (2 : Int32)), .val (.ref b2), .unset, .unset] [])) t
      refine XS.iload X91.here hx rfl (hb hby at_113) rfl ?_
      show Steps p.tables e below (T91.setTop (mkF m 115 #[.val (.int p0), .val (.int p1), .val (.int p2), .val (.int p3), .val (.int p4), .val (.int p5), .val (.int (p0.toInt8.toInt32)), .val (.int (p1.toInt8.toInt32)), .val (.int (p2.toInt8.toInt32)), .val (.int (p3.toInt8.toInt32)), .val (.int (p5.toInt8.toInt32)), .val (.int (2 : Int32)), .val (.ref b2), .unset, .unset] [(.int (p0.toInt8.toInt32))])) t
      refine X91.ldcInt hx hown (mvT hZ (hw _ (List.mem_of_getElem? (i := 2) rfl))) (g := (mkF m 115 #[.val (.int p0), .val (.int p1), .val (.int p2), .val (.int p3), .val (.int p4), .val (.int p5), .val (.int (p0.toInt8.toInt32)), .val (.int (p1.toInt8.toInt32)), .val (.int (p2.toInt8.toInt32)), .val (.int (p3.toInt8.toInt32)), .val (.int (p5.toInt8.toInt32)), .val (.int (2 : Int32)), .val (.ref b2), .unset, .unset] [(.int (p0.toInt8.toInt32))])) rfl (hb hby at_115) _ ?_
      show Steps p.tables e below (T91.setTop (mkF m 117 #[.val (.int p0), .val (.int p1), .val (.int p2), .val (.int p3), .val (.int p4), .val (.int p5), .val (.int (p0.toInt8.toInt32)), .val (.int (p1.toInt8.toInt32)), .val (.int (p2.toInt8.toInt32)), .val (.int (p3.toInt8.toInt32)), .val (.int (p5.toInt8.toInt32)), .val (.int (2 : Int32)), .val (.ref b2), .unset, .unset] [(.int (16777216 : Int32)), (.int (p0.toInt8.toInt32))])) t
      refine XS.imul X91.here hx rfl (hb hby at_117) rfl ?_
      show Steps p.tables e below (T91.setTop (mkF m 118 #[.val (.int p0), .val (.int p1), .val (.int p2), .val (.int p3), .val (.int p4), .val (.int p5), .val (.int (p0.toInt8.toInt32)), .val (.int (p1.toInt8.toInt32)), .val (.int (p2.toInt8.toInt32)), .val (.int (p3.toInt8.toInt32)), .val (.int (p5.toInt8.toInt32)), .val (.int (2 : Int32)), .val (.ref b2), .unset, .unset] [(.int ((p0.toInt8.toInt32) * (16777216 : Int32)))])) t
      refine XS.iload X91.here hx rfl (hb hby at_118) rfl ?_
      show Steps p.tables e below (T91.setTop (mkF m 120 #[.val (.int p0), .val (.int p1), .val (.int p2), .val (.int p3), .val (.int p4), .val (.int p5), .val (.int (p0.toInt8.toInt32)), .val (.int (p1.toInt8.toInt32)), .val (.int (p2.toInt8.toInt32)), .val (.int (p3.toInt8.toInt32)), .val (.int (p5.toInt8.toInt32)), .val (.int (2 : Int32)), .val (.ref b2), .unset, .unset] [(.int (p1.toInt8.toInt32)), (.int ((p0.toInt8.toInt32) * (16777216 : Int32)))])) t
      refine XS.sipush X91.here hx rfl (hb hby at_120) ?_
      show Steps p.tables e below (T91.setTop (mkF m 123 #[.val (.int p0), .val (.int p1), .val (.int p2), .val (.int p3), .val (.int p4), .val (.int p5), .val (.int (p0.toInt8.toInt32)), .val (.int (p1.toInt8.toInt32)), .val (.int (p2.toInt8.toInt32)), .val (.int (p3.toInt8.toInt32)), .val (.int (p5.toInt8.toInt32)), .val (.int (2 : Int32)), .val (.ref b2), .unset, .unset] [(.int (255 : Int32)), (.int (p1.toInt8.toInt32)), (.int ((p0.toInt8.toInt32) * (16777216 : Int32)))])) t
      refine XS.iand X91.here hx rfl (hb hby at_123) rfl ?_
      show Steps p.tables e below (T91.setTop (mkF m 124 #[.val (.int p0), .val (.int p1), .val (.int p2), .val (.int p3), .val (.int p4), .val (.int p5), .val (.int (p0.toInt8.toInt32)), .val (.int (p1.toInt8.toInt32)), .val (.int (p2.toInt8.toInt32)), .val (.int (p3.toInt8.toInt32)), .val (.int (p5.toInt8.toInt32)), .val (.int (2 : Int32)), .val (.ref b2), .unset, .unset] [(.int ((p1.toInt8.toInt32) &&& (255 : Int32))), (.int ((p0.toInt8.toInt32) * (16777216 : Int32)))])) t
      refine X91.ldcInt hx hown (mvT hZ (hw _ (List.mem_of_getElem? (i := 3) rfl))) (g := (mkF m 124 #[.val (.int p0), .val (.int p1), .val (.int p2), .val (.int p3), .val (.int p4), .val (.int p5), .val (.int (p0.toInt8.toInt32)), .val (.int (p1.toInt8.toInt32)), .val (.int (p2.toInt8.toInt32)), .val (.int (p3.toInt8.toInt32)), .val (.int (p5.toInt8.toInt32)), .val (.int (2 : Int32)), .val (.ref b2), .unset, .unset] [(.int ((p1.toInt8.toInt32) &&& (255 : Int32))), (.int ((p0.toInt8.toInt32) * (16777216 : Int32)))])) rfl (hb hby at_124) _ ?_
      show Steps p.tables e below (T91.setTop (mkF m 126 #[.val (.int p0), .val (.int p1), .val (.int p2), .val (.int p3), .val (.int p4), .val (.int p5), .val (.int (p0.toInt8.toInt32)), .val (.int (p1.toInt8.toInt32)), .val (.int (p2.toInt8.toInt32)), .val (.int (p3.toInt8.toInt32)), .val (.int (p5.toInt8.toInt32)), .val (.int (2 : Int32)), .val (.ref b2), .unset, .unset] [(.int (65536 : Int32)), (.int ((p1.toInt8.toInt32) &&& (255 : Int32))), (.int ((p0.toInt8.toInt32) * (16777216 : Int32)))])) t
      refine XS.imul X91.here hx rfl (hb hby at_126) rfl ?_
      show Steps p.tables e below (T91.setTop (mkF m 127 #[.val (.int p0), .val (.int p1), .val (.int p2), .val (.int p3), .val (.int p4), .val (.int p5), .val (.int (p0.toInt8.toInt32)), .val (.int (p1.toInt8.toInt32)), .val (.int (p2.toInt8.toInt32)), .val (.int (p3.toInt8.toInt32)), .val (.int (p5.toInt8.toInt32)), .val (.int (2 : Int32)), .val (.ref b2), .unset, .unset] [(.int (((p1.toInt8.toInt32) &&& (255 : Int32)) * (65536 : Int32))), (.int ((p0.toInt8.toInt32) * (16777216 : Int32)))])) t
      refine XS.iadd X91.here hx rfl (hb hby at_127) rfl ?_
      show Steps p.tables e below (T91.setTop (mkF m 128 #[.val (.int p0), .val (.int p1), .val (.int p2), .val (.int p3), .val (.int p4), .val (.int p5), .val (.int (p0.toInt8.toInt32)), .val (.int (p1.toInt8.toInt32)), .val (.int (p2.toInt8.toInt32)), .val (.int (p3.toInt8.toInt32)), .val (.int (p5.toInt8.toInt32)), .val (.int (2 : Int32)), .val (.ref b2), .unset, .unset] [(.int (((p0.toInt8.toInt32) * (16777216 : Int32)) + (((p1.toInt8.toInt32) &&& (255 : Int32)) * (65536 : Int32))))])) t
      refine XS.iload X91.here hx rfl (hb hby at_128) rfl ?_
      show Steps p.tables e below (T91.setTop (mkF m 130 #[.val (.int p0), .val (.int p1), .val (.int p2), .val (.int p3), .val (.int p4), .val (.int p5), .val (.int (p0.toInt8.toInt32)), .val (.int (p1.toInt8.toInt32)), .val (.int (p2.toInt8.toInt32)), .val (.int (p3.toInt8.toInt32)), .val (.int (p5.toInt8.toInt32)), .val (.int (2 : Int32)), .val (.ref b2), .unset, .unset] [(.int (p2.toInt8.toInt32)), (.int (((p0.toInt8.toInt32) * (16777216 : Int32)) + (((p1.toInt8.toInt32) &&& (255 : Int32)) * (65536 : Int32))))])) t
      refine XS.sipush X91.here hx rfl (hb hby at_130) ?_
      show Steps p.tables e below (T91.setTop (mkF m 133 #[.val (.int p0), .val (.int p1), .val (.int p2), .val (.int p3), .val (.int p4), .val (.int p5), .val (.int (p0.toInt8.toInt32)), .val (.int (p1.toInt8.toInt32)), .val (.int (p2.toInt8.toInt32)), .val (.int (p3.toInt8.toInt32)), .val (.int (p5.toInt8.toInt32)), .val (.int (2 : Int32)), .val (.ref b2), .unset, .unset] [(.int (255 : Int32)), (.int (p2.toInt8.toInt32)), (.int (((p0.toInt8.toInt32) * (16777216 : Int32)) + (((p1.toInt8.toInt32) &&& (255 : Int32)) * (65536 : Int32))))])) t
      refine XS.iand X91.here hx rfl (hb hby at_133) rfl ?_
      show Steps p.tables e below (T91.setTop (mkF m 134 #[.val (.int p0), .val (.int p1), .val (.int p2), .val (.int p3), .val (.int p4), .val (.int p5), .val (.int (p0.toInt8.toInt32)), .val (.int (p1.toInt8.toInt32)), .val (.int (p2.toInt8.toInt32)), .val (.int (p3.toInt8.toInt32)), .val (.int (p5.toInt8.toInt32)), .val (.int (2 : Int32)), .val (.ref b2), .unset, .unset] [(.int ((p2.toInt8.toInt32) &&& (255 : Int32))), (.int (((p0.toInt8.toInt32) * (16777216 : Int32)) + (((p1.toInt8.toInt32) &&& (255 : Int32)) * (65536 : Int32))))])) t
      refine XS.sipush X91.here hx rfl (hb hby at_134) ?_
      show Steps p.tables e below (T91.setTop (mkF m 137 #[.val (.int p0), .val (.int p1), .val (.int p2), .val (.int p3), .val (.int p4), .val (.int p5), .val (.int (p0.toInt8.toInt32)), .val (.int (p1.toInt8.toInt32)), .val (.int (p2.toInt8.toInt32)), .val (.int (p3.toInt8.toInt32)), .val (.int (p5.toInt8.toInt32)), .val (.int (2 : Int32)), .val (.ref b2), .unset, .unset] [(.int (256 : Int32)), (.int ((p2.toInt8.toInt32) &&& (255 : Int32))), (.int (((p0.toInt8.toInt32) * (16777216 : Int32)) + (((p1.toInt8.toInt32) &&& (255 : Int32)) * (65536 : Int32))))])) t
      refine XS.imul X91.here hx rfl (hb hby at_137) rfl ?_
      show Steps p.tables e below (T91.setTop (mkF m 138 #[.val (.int p0), .val (.int p1), .val (.int p2), .val (.int p3), .val (.int p4), .val (.int p5), .val (.int (p0.toInt8.toInt32)), .val (.int (p1.toInt8.toInt32)), .val (.int (p2.toInt8.toInt32)), .val (.int (p3.toInt8.toInt32)), .val (.int (p5.toInt8.toInt32)), .val (.int (2 : Int32)), .val (.ref b2), .unset, .unset] [(.int (((p2.toInt8.toInt32) &&& (255 : Int32)) * (256 : Int32))), (.int (((p0.toInt8.toInt32) * (16777216 : Int32)) + (((p1.toInt8.toInt32) &&& (255 : Int32)) * (65536 : Int32))))])) t
      refine XS.iadd X91.here hx rfl (hb hby at_138) rfl ?_
      show Steps p.tables e below (T91.setTop (mkF m 139 #[.val (.int p0), .val (.int p1), .val (.int p2), .val (.int p3), .val (.int p4), .val (.int p5), .val (.int (p0.toInt8.toInt32)), .val (.int (p1.toInt8.toInt32)), .val (.int (p2.toInt8.toInt32)), .val (.int (p3.toInt8.toInt32)), .val (.int (p5.toInt8.toInt32)), .val (.int (2 : Int32)), .val (.ref b2), .unset, .unset] [(.int ((((p0.toInt8.toInt32) * (16777216 : Int32)) + (((p1.toInt8.toInt32) &&& (255 : Int32)) * (65536 : Int32))) + (((p2.toInt8.toInt32) &&& (255 : Int32)) * (256 : Int32))))])) t
      refine XS.iload X91.here hx rfl (hb hby at_139) rfl ?_
      show Steps p.tables e below (T91.setTop (mkF m 141 #[.val (.int p0), .val (.int p1), .val (.int p2), .val (.int p3), .val (.int p4), .val (.int p5), .val (.int (p0.toInt8.toInt32)), .val (.int (p1.toInt8.toInt32)), .val (.int (p2.toInt8.toInt32)), .val (.int (p3.toInt8.toInt32)), .val (.int (p5.toInt8.toInt32)), .val (.int (2 : Int32)), .val (.ref b2), .unset, .unset] [(.int (p3.toInt8.toInt32)), (.int ((((p0.toInt8.toInt32) * (16777216 : Int32)) + (((p1.toInt8.toInt32) &&& (255 : Int32)) * (65536 : Int32))) + (((p2.toInt8.toInt32) &&& (255 : Int32)) * (256 : Int32))))])) t
      refine XS.sipush X91.here hx rfl (hb hby at_141) ?_
      show Steps p.tables e below (T91.setTop (mkF m 144 #[.val (.int p0), .val (.int p1), .val (.int p2), .val (.int p3), .val (.int p4), .val (.int p5), .val (.int (p0.toInt8.toInt32)), .val (.int (p1.toInt8.toInt32)), .val (.int (p2.toInt8.toInt32)), .val (.int (p3.toInt8.toInt32)), .val (.int (p5.toInt8.toInt32)), .val (.int (2 : Int32)), .val (.ref b2), .unset, .unset] [(.int (255 : Int32)), (.int (p3.toInt8.toInt32)), (.int ((((p0.toInt8.toInt32) * (16777216 : Int32)) + (((p1.toInt8.toInt32) &&& (255 : Int32)) * (65536 : Int32))) + (((p2.toInt8.toInt32) &&& (255 : Int32)) * (256 : Int32))))])) t
      refine XS.iand X91.here hx rfl (hb hby at_144) rfl ?_
      show Steps p.tables e below (T91.setTop (mkF m 145 #[.val (.int p0), .val (.int p1), .val (.int p2), .val (.int p3), .val (.int p4), .val (.int p5), .val (.int (p0.toInt8.toInt32)), .val (.int (p1.toInt8.toInt32)), .val (.int (p2.toInt8.toInt32)), .val (.int (p3.toInt8.toInt32)), .val (.int (p5.toInt8.toInt32)), .val (.int (2 : Int32)), .val (.ref b2), .unset, .unset] [(.int ((p3.toInt8.toInt32) &&& (255 : Int32))), (.int ((((p0.toInt8.toInt32) * (16777216 : Int32)) + (((p1.toInt8.toInt32) &&& (255 : Int32)) * (65536 : Int32))) + (((p2.toInt8.toInt32) &&& (255 : Int32)) * (256 : Int32))))])) t
      refine XS.iadd X91.here hx rfl (hb hby at_145) rfl ?_
      show Steps p.tables e below (T91.setTop (mkF m 146 #[.val (.int p0), .val (.int p1), .val (.int p2), .val (.int p3), .val (.int p4), .val (.int p5), .val (.int (p0.toInt8.toInt32)), .val (.int (p1.toInt8.toInt32)), .val (.int (p2.toInt8.toInt32)), .val (.int (p3.toInt8.toInt32)), .val (.int (p5.toInt8.toInt32)), .val (.int (2 : Int32)), .val (.ref b2), .unset, .unset] [(.int (((((p0.toInt8.toInt32) * (16777216 : Int32)) + (((p1.toInt8.toInt32) &&& (255 : Int32)) * (65536 : Int32))) + (((p2.toInt8.toInt32) &&& (255 : Int32)) * (256 : Int32))) + ((p3.toInt8.toInt32) &&& (255 : Int32))))])) t
      refine XS.istore X91.here hx rfl (hb hby at_146) rfl (l' := #[.val (.int p0), .val (.int p1), .val (.int p2), .val (.int p3), .val (.int p4), .val (.int p5), .val (.int (p0.toInt8.toInt32)), .val (.int (p1.toInt8.toInt32)), .val (.int (p2.toInt8.toInt32)), .val (.int (p3.toInt8.toInt32)), .val (.int (p5.toInt8.toInt32)), .val (.int (2 : Int32)), .val (.ref b2), .val (.int (((((p0.toInt8.toInt32) * (16777216 : Int32)) + (((p1.toInt8.toInt32) &&& (255 : Int32)) * (65536 : Int32))) + (((p2.toInt8.toInt32) &&& (255 : Int32)) * (256 : Int32))) + ((p3.toInt8.toInt32) &&& (255 : Int32)))), .unset]) rfl ?_
      show Steps p.tables e below (T91.setTop (mkF m 148 #[.val (.int p0), .val (.int p1), .val (.int p2), .val (.int p3), .val (.int p4), .val (.int p5), .val (.int (p0.toInt8.toInt32)), .val (.int (p1.toInt8.toInt32)), .val (.int (p2.toInt8.toInt32)), .val (.int (p3.toInt8.toInt32)), .val (.int (p5.toInt8.toInt32)), .val (.int (2 : Int32)), .val (.ref b2), .val (.int (((((p0.toInt8.toInt32) * (16777216 : Int32)) + (((p1.toInt8.toInt32) &&& (255 : Int32)) * (65536 : Int32))) + (((p2.toInt8.toInt32) &&& (255 : Int32)) * (256 : Int32))) + ((p3.toInt8.toInt32) &&& (255 : Int32)))), .unset] [])) t
      refine XS.aload X91.here hx rfl (hb hby at_148) rfl rfl ?_
      show Steps p.tables e below (T91.setTop (mkF m 150 #[.val (.int p0), .val (.int p1), .val (.int p2), .val (.int p3), .val (.int p4), .val (.int p5), .val (.int (p0.toInt8.toInt32)), .val (.int (p1.toInt8.toInt32)), .val (.int (p2.toInt8.toInt32)), .val (.int (p3.toInt8.toInt32)), .val (.int (p5.toInt8.toInt32)), .val (.int (2 : Int32)), .val (.ref b2), .val (.int (((((p0.toInt8.toInt32) * (16777216 : Int32)) + (((p1.toInt8.toInt32) &&& (255 : Int32)) * (65536 : Int32))) + (((p2.toInt8.toInt32) &&& (255 : Int32)) * (256 : Int32))) + ((p3.toInt8.toInt32) &&& (255 : Int32)))), .unset] [(.ref b2)])) t
      refine XS.iload X91.here hx rfl (hb hby at_150) rfl ?_
      exact k
    have el96 : Elt Z h91 b2 .byte (2 : Int32) (.int ((p0.toInt8.toInt32).toInt8.toInt32)) := Elt.of f92 ⟨by decide, by decide⟩ rfl
    have el97 : Elt Z h91 b2 .byte ((2 : Int32) + (1 : Int32)) (.int ((p1.toInt8.toInt32).toInt8.toInt32)) := Elt.of f92 ⟨by decide, by decide⟩ rfl
    have el98 : Elt Z h91 b2 .byte ((2 : Int32) + (2 : Int32)) (.int ((p2.toInt8.toInt32).toInt8.toInt32)) := Elt.of f92 ⟨by decide, by decide⟩ rfl
    have el99 : Elt Z h91 b2 .byte ((2 : Int32) + (3 : Int32)) (.int ((p3.toInt8.toInt32).toInt8.toInt32)) := Elt.of f92 ⟨by decide, by decide⟩ rfl
    obtain ⟨_, _, ⟨T95, L95, k95, n95⟩, -, X95, ⟨Lc95, hQ95, l95, y95, z95⟩, st95⟩ := Jvm.LawKit.callS X91 hx (y := (⟨"com/example/moraine/moraine/BigEndian", "getInt", "([BI)I"⟩ : MethodName)) hown (mvT hZ (hw _ (List.mem_of_getElem? (i := 4) rfl))) (mvT hZ (hw _ (List.mem_of_getElem? (i := 5) rfl))) (mvT hZ (hw _ (List.mem_of_getElem? (i := 6) rfl))) (mvT hZ (hw _ (List.mem_of_getElem? (i := 7) rfl))) (by decide) (backOf (W := 0) (rmGet l Z az hw [] b2 (2 : Int32) ((p0.toInt8.toInt32).toInt8.toInt32) ((p1.toInt8.toInt32).toInt8.toInt32) ((p2.toInt8.toInt32).toInt8.toInt32) ((p3.toInt8.toInt32).toInt8.toInt32) h91 n0 Z93 el96 el97 el98 el99) hZ (hw _ (List.mem_of_getElem? (i := 7) rfl)) (hw _ (List.mem_of_getElem? (i := 6) rfl)) (by decide) (by decide)) (g := (mkF m 152 #[.val (.int p0), .val (.int p1), .val (.int p2), .val (.int p3), .val (.int p4), .val (.int p5), .val (.int (p0.toInt8.toInt32)), .val (.int (p1.toInt8.toInt32)), .val (.int (p2.toInt8.toInt32)), .val (.int (p3.toInt8.toInt32)), .val (.int (p5.toInt8.toInt32)), .val (.int (2 : Int32)), .val (.ref b2), .val (.int (((((p0.toInt8.toInt32) * (16777216 : Int32)) + (((p1.toInt8.toInt32) &&& (255 : Int32)) * (65536 : Int32))) + (((p2.toInt8.toInt32) &&& (255 : Int32)) * (256 : Int32))) + ((p3.toInt8.toInt32) &&& (255 : Int32)))), .unset] [(.int (2 : Int32)), (.ref b2)])) rfl (by rw [hml]; rfl) (argsL := [(.ref b2), (.int (2 : Int32))]) (rest := []) (lenOf own_pd0 rfl) rfl (by show 2 * 0 + _ ≤ _; exact Nat.le_of_eq rfl) (hb hby at_152) (fun _ _ => ⟨rfl, e91, (by decide : 1 + 0 ≤ _), (by decide : 7 + 0 ≤ _)⟩)
    dsimp only [Pt.U, Pt.locs, Pt.cells, Pt.slots] at X95 l95 y95 z95 st95 hQ95
    subst l95 y95 z95
    obtain ⟨rfl, N95q, e95⟩ := hQ95
    have N100 := Fr.app N94 N95q
    refine Goes.by st95 ?_
    show Goes p.tables e below _ (T95.setTop (mkF m 155 #[.val (.int p0), .val (.int p1), .val (.int p2), .val (.int p3), .val (.int p4), .val (.int p5), .val (.int (p0.toInt8.toInt32)), .val (.int (p1.toInt8.toInt32)), .val (.int (p2.toInt8.toInt32)), .val (.int (p3.toInt8.toInt32)), .val (.int (p5.toInt8.toInt32)), .val (.int (2 : Int32)), .val (.ref b2), .val (.int (((((p0.toInt8.toInt32) * (16777216 : Int32)) + (((p1.toInt8.toInt32) &&& (255 : Int32)) * (65536 : Int32))) + (((p2.toInt8.toInt32) &&& (255 : Int32)) * (256 : Int32))) + ((p3.toInt8.toInt32) &&& (255 : Int32)))), .unset] [(.int (fGet ((p0.toInt8.toInt32).toInt8.toInt32) ((p1.toInt8.toInt32).toInt8.toInt32) ((p2.toInt8.toInt32).toInt8.toInt32) ((p3.toInt8.toInt32).toInt8.toInt32)))]))
    refine Goes.by (B := T95.setTop (mkF m 169 #[.val (.int p0), .val (.int p1), .val (.int p2), .val (.int p3), .val (.int p4), .val (.int p5), .val (.int (p0.toInt8.toInt32)), .val (.int (p1.toInt8.toInt32)), .val (.int (p2.toInt8.toInt32)), .val (.int (p3.toInt8.toInt32)), .val (.int (p5.toInt8.toInt32)), .val (.int (2 : Int32)), .val (.ref b2), .val (.int (((((p0.toInt8.toInt32) * (16777216 : Int32)) + (((p1.toInt8.toInt32) &&& (255 : Int32)) * (65536 : Int32))) + (((p2.toInt8.toInt32) &&& (255 : Int32)) * (256 : Int32))) + ((p3.toInt8.toInt32) &&& (255 : Int32)))), .val (.int (fGet ((p0.toInt8.toInt32).toInt8.toInt32) ((p1.toInt8.toInt32).toInt8.toInt32) ((p2.toInt8.toInt32).toInt8.toInt32) ((p3.toInt8.toInt32).toInt8.toInt32)))] [(.int (1 : Int32))])) (fun t k => ?_) ?_
    · show Steps p.tables e below (T95.setTop (mkF m 155 #[.val (.int p0), .val (.int p1), .val (.int p2), .val (.int p3), .val (.int p4), .val (.int p5), .val (.int (p0.toInt8.toInt32)), .val (.int (p1.toInt8.toInt32)), .val (.int (p2.toInt8.toInt32)), .val (.int (p3.toInt8.toInt32)), .val (.int (p5.toInt8.toInt32)), .val (.int (2 : Int32)), .val (.ref b2), .val (.int (((((p0.toInt8.toInt32) * (16777216 : Int32)) + (((p1.toInt8.toInt32) &&& (255 : Int32)) * (65536 : Int32))) + (((p2.toInt8.toInt32) &&& (255 : Int32)) * (256 : Int32))) + ((p3.toInt8.toInt32) &&& (255 : Int32)))), .unset] [(.int (fGet ((p0.toInt8.toInt32).toInt8.toInt32) ((p1.toInt8.toInt32).toInt8.toInt32) ((p2.toInt8.toInt32).toInt8.toInt32) ((p3.toInt8.toInt32).toInt8.toInt32)))])) t
      refine XS.istore X95.here hx rfl (hb hby at_155) rfl (l' := #[.val (.int p0), .val (.int p1), .val (.int p2), .val (.int p3), .val (.int p4), .val (.int p5), .val (.int (p0.toInt8.toInt32)), .val (.int (p1.toInt8.toInt32)), .val (.int (p2.toInt8.toInt32)), .val (.int (p3.toInt8.toInt32)), .val (.int (p5.toInt8.toInt32)), .val (.int (2 : Int32)), .val (.ref b2), .val (.int (((((p0.toInt8.toInt32) * (16777216 : Int32)) + (((p1.toInt8.toInt32) &&& (255 : Int32)) * (65536 : Int32))) + (((p2.toInt8.toInt32) &&& (255 : Int32)) * (256 : Int32))) + ((p3.toInt8.toInt32) &&& (255 : Int32)))), .val (.int (fGet ((p0.toInt8.toInt32).toInt8.toInt32) ((p1.toInt8.toInt32).toInt8.toInt32) ((p2.toInt8.toInt32).toInt8.toInt32) ((p3.toInt8.toInt32).toInt8.toInt32)))]) rfl ?_
      show Steps p.tables e below (T95.setTop (mkF m 157 #[.val (.int p0), .val (.int p1), .val (.int p2), .val (.int p3), .val (.int p4), .val (.int p5), .val (.int (p0.toInt8.toInt32)), .val (.int (p1.toInt8.toInt32)), .val (.int (p2.toInt8.toInt32)), .val (.int (p3.toInt8.toInt32)), .val (.int (p5.toInt8.toInt32)), .val (.int (2 : Int32)), .val (.ref b2), .val (.int (((((p0.toInt8.toInt32) * (16777216 : Int32)) + (((p1.toInt8.toInt32) &&& (255 : Int32)) * (65536 : Int32))) + (((p2.toInt8.toInt32) &&& (255 : Int32)) * (256 : Int32))) + ((p3.toInt8.toInt32) &&& (255 : Int32)))), .val (.int (fGet ((p0.toInt8.toInt32).toInt8.toInt32) ((p1.toInt8.toInt32).toInt8.toInt32) ((p2.toInt8.toInt32).toInt8.toInt32) ((p3.toInt8.toInt32).toInt8.toInt32)))] [])) t
      refine XS.iload X95.here hx rfl (hb hby at_157) rfl ?_
      show Steps p.tables e below (T95.setTop (mkF m 159 #[.val (.int p0), .val (.int p1), .val (.int p2), .val (.int p3), .val (.int p4), .val (.int p5), .val (.int (p0.toInt8.toInt32)), .val (.int (p1.toInt8.toInt32)), .val (.int (p2.toInt8.toInt32)), .val (.int (p3.toInt8.toInt32)), .val (.int (p5.toInt8.toInt32)), .val (.int (2 : Int32)), .val (.ref b2), .val (.int (((((p0.toInt8.toInt32) * (16777216 : Int32)) + (((p1.toInt8.toInt32) &&& (255 : Int32)) * (65536 : Int32))) + (((p2.toInt8.toInt32) &&& (255 : Int32)) * (256 : Int32))) + ((p3.toInt8.toInt32) &&& (255 : Int32)))), .val (.int (fGet ((p0.toInt8.toInt32).toInt8.toInt32) ((p1.toInt8.toInt32).toInt8.toInt32) ((p2.toInt8.toInt32).toInt8.toInt32) ((p3.toInt8.toInt32).toInt8.toInt32)))] [(.int (fGet ((p0.toInt8.toInt32).toInt8.toInt32) ((p1.toInt8.toInt32).toInt8.toInt32) ((p2.toInt8.toInt32).toInt8.toInt32) ((p3.toInt8.toInt32).toInt8.toInt32)))])) t
      refine XS.iload X95.here hx rfl (hb hby at_159) rfl ?_
      show Steps p.tables e below (T95.setTop (mkF m 161 #[.val (.int p0), .val (.int p1), .val (.int p2), .val (.int p3), .val (.int p4), .val (.int p5), .val (.int (p0.toInt8.toInt32)), .val (.int (p1.toInt8.toInt32)), .val (.int (p2.toInt8.toInt32)), .val (.int (p3.toInt8.toInt32)), .val (.int (p5.toInt8.toInt32)), .val (.int (2 : Int32)), .val (.ref b2), .val (.int (((((p0.toInt8.toInt32) * (16777216 : Int32)) + (((p1.toInt8.toInt32) &&& (255 : Int32)) * (65536 : Int32))) + (((p2.toInt8.toInt32) &&& (255 : Int32)) * (256 : Int32))) + ((p3.toInt8.toInt32) &&& (255 : Int32)))), .val (.int (fGet ((p0.toInt8.toInt32).toInt8.toInt32) ((p1.toInt8.toInt32).toInt8.toInt32) ((p2.toInt8.toInt32).toInt8.toInt32) ((p3.toInt8.toInt32).toInt8.toInt32)))] [(.int (((((p0.toInt8.toInt32) * (16777216 : Int32)) + (((p1.toInt8.toInt32) &&& (255 : Int32)) * (65536 : Int32))) + (((p2.toInt8.toInt32) &&& (255 : Int32)) * (256 : Int32))) + ((p3.toInt8.toInt32) &&& (255 : Int32)))), (.int (fGet ((p0.toInt8.toInt32).toInt8.toInt32) ((p1.toInt8.toInt32).toInt8.toInt32) ((p2.toInt8.toInt32).toInt8.toInt32) ((p3.toInt8.toInt32).toInt8.toInt32)))])) t
      refine XS.icmpNo X95.here hx rfl (hb hby at_161) rfl (teq (own_law p0 p1 p2 p3)).2 ?_
      show Steps p.tables e below (T95.setTop (mkF m 164 #[.val (.int p0), .val (.int p1), .val (.int p2), .val (.int p3), .val (.int p4), .val (.int p5), .val (.int (p0.toInt8.toInt32)), .val (.int (p1.toInt8.toInt32)), .val (.int (p2.toInt8.toInt32)), .val (.int (p3.toInt8.toInt32)), .val (.int (p5.toInt8.toInt32)), .val (.int (2 : Int32)), .val (.ref b2), .val (.int (((((p0.toInt8.toInt32) * (16777216 : Int32)) + (((p1.toInt8.toInt32) &&& (255 : Int32)) * (65536 : Int32))) + (((p2.toInt8.toInt32) &&& (255 : Int32)) * (256 : Int32))) + ((p3.toInt8.toInt32) &&& (255 : Int32)))), .val (.int (fGet ((p0.toInt8.toInt32).toInt8.toInt32) ((p1.toInt8.toInt32).toInt8.toInt32) ((p2.toInt8.toInt32).toInt8.toInt32) ((p3.toInt8.toInt32).toInt8.toInt32)))] [])) t
      refine XS.iconst X95.here hx rfl (hb hby at_164) ?_
      show Steps p.tables e below (T95.setTop (mkF m 165 #[.val (.int p0), .val (.int p1), .val (.int p2), .val (.int p3), .val (.int p4), .val (.int p5), .val (.int (p0.toInt8.toInt32)), .val (.int (p1.toInt8.toInt32)), .val (.int (p2.toInt8.toInt32)), .val (.int (p3.toInt8.toInt32)), .val (.int (p5.toInt8.toInt32)), .val (.int (2 : Int32)), .val (.ref b2), .val (.int (((((p0.toInt8.toInt32) * (16777216 : Int32)) + (((p1.toInt8.toInt32) &&& (255 : Int32)) * (65536 : Int32))) + (((p2.toInt8.toInt32) &&& (255 : Int32)) * (256 : Int32))) + ((p3.toInt8.toInt32) &&& (255 : Int32)))), .val (.int (fGet ((p0.toInt8.toInt32).toInt8.toInt32) ((p1.toInt8.toInt32).toInt8.toInt32) ((p2.toInt8.toInt32).toInt8.toInt32) ((p3.toInt8.toInt32).toInt8.toInt32)))] [(.int (1 : Int32))])) t
      refine XS.goto X95.here hx rfl (pc0 := 165) (pc' := 169) rfl (hb hby at_165) (by decide) (by decide) ?_
      exact k
    obtain ⟨fs, hr, hrun, hended, hW, hsame⟩ := X95.leave (v := some (.int (1 : Int32))) (fun h => by rw [Bd.returns] at h; cases h)
    refine Goes.mk _ _ ?_ ⟨hrun, hended, _, _, rfl, ?_, ⟨_, rfl⟩, hW, hsame.mono (by decide) (by decide)⟩
    · exact retN X95 hx (t := .boolean) Bd.returns (by simp) (hb hby at_169) hr
    · show Q0 Z p0 p1 p2 p3 p4 p5 h0 n0 _ T95.heap _
      rw [e95]
      exact ⟨rfl, N100⟩
  · refine Goes.by (B := T31.setTop (mkF m 85 #[.val (.int p0), .val (.int p1), .val (.int p2), .val (.int p3), .val (.int p4), .val (.int p5), .val (.int (p0.toInt8.toInt32)), .val (.int (p1.toInt8.toInt32)), .val (.int (p2.toInt8.toInt32)), .val (.int (p3.toInt8.toInt32)), .val (.int (p5.toInt8.toInt32)), .val (.int (3 : Int32)), .val (.ref b2), .unset, .unset] [(.int (p0.toInt8.toInt32)), (.int (3 : Int32)), (.ref b2)])) (fun t k => ?_) ?_
    · show Steps p.tables e below (T31.setTop (mkF m 79 #[.val (.int p0), .val (.int p1), .val (.int p2), .val (.int p3), .val (.int p4), .val (.int p5), .val (.int (p0.toInt8.toInt32)), .val (.int (p1.toInt8.toInt32)), .val (.int (p2.toInt8.toInt32)), .val (.int (p3.toInt8.toInt32)), .val (.int (p5.toInt8.toInt32)), .val (.int (3 : Int32)), .val (.ref b2), .unset, .unset] [])) t
      refine XS.aload X31.here hx rfl (hb hby at_79) rfl rfl ?_
      show Steps p.tables e below (T31.setTop (mkF m 81 #[.val (.int p0), .val (.int p1), .val (.int p2), .val (.int p3), .val (.int p4), .val (.int p5), .val (.int (p0.toInt8.toInt32)), .val (.int (p1.toInt8.toInt32)), .val (.int (p2.toInt8.toInt32)), .val (.int (p3.toInt8.toInt32)), .val (.int (p5.toInt8.toInt32)), .val (.int (3 : Int32)), .val (.ref b2), .unset, .unset] [(.ref b2)])) t
      refine XS.iload X31.here hx rfl (hb hby at_81) rfl ?_
      show Steps p.tables e below (T31.setTop (mkF m 83 #[.val (.int p0), .val (.int p1), .val (.int p2), .val (.int p3), .val (.int p4), .val (.int p5), .val (.int (p0.toInt8.toInt32)), .val (.int (p1.toInt8.toInt32)), .val (.int (p2.toInt8.toInt32)), .val (.int (p3.toInt8.toInt32)), .val (.int (p5.toInt8.toInt32)), .val (.int (3 : Int32)), .val (.ref b2), .unset, .unset] [(.int (3 : Int32)), (.ref b2)])) t
      refine XS.iload X31.here hx rfl (hb hby at_83) rfl ?_
      exact k
    obtain ⟨cl101, cl101A, cl101q, cl101S, cl101N, cl101H, cl101G⟩ := f32
    have cl101I : ¬ ((3 : Int32) < 0 ∨ cl101.slots.size ≤ ((3 : Int32)).toNatClampNeg) := inb_of cl101S ⟨by decide, by decide⟩
    obtain ⟨T101, h101, X101, e101, W101, st101⟩ := stB X31 hx hZ e31 cl101A (j := (3 : Int32)) cl101I (g := (mkF m 85 #[.val (.int p0), .val (.int p1), .val (.int p2), .val (.int p3), .val (.int p4), .val (.int p5), .val (.int (p0.toInt8.toInt32)), .val (.int (p1.toInt8.toInt32)), .val (.int (p2.toInt8.toInt32)), .val (.int (p3.toInt8.toInt32)), .val (.int (p5.toInt8.toInt32)), .val (.int (3 : Int32)), .val (.ref b2), .unset, .unset] [(.int (p0.toInt8.toInt32)), (.int (3 : Int32)), (.ref b2)])) rfl rfl (hb hby at_85)
    have f102 : Arv Z h101 b2 k1 .byte (7 : Int32) [(.int ((p5.toInt8.toInt32).toInt8.toInt32)), (.int ((p5.toInt8.toInt32).toInt8.toInt32)), (.int ((p5.toInt8.toInt32).toInt8.toInt32)), (.int ((p0.toInt8.toInt32).toInt8.toInt32)), (.int ((p5.toInt8.toInt32).toInt8.toInt32)), (.int ((p5.toInt8.toInt32).toInt8.toInt32)), (.int ((p5.toInt8.toInt32).toInt8.toInt32))] (.int (0 : Int32)) := Arv.set cl101A cl101q cl101S cl101N cl101H cl101G (fits_nar_byte _) W101 3 rfl (Nat.le_of_ble_eq_true rfl)
    have Kp101 : Keep h0 h101 [] := Kp31.wr W101 (Or.inr sz4)
    have Z103 : n0 ≤ h101.size := Nat.le_trans Z33 (Nat.le_of_eq W101.size.symm)
    have N104 := Fr.snoc X101 N34 ge3
    refine Goes.by st101 ?_
    show Goes p.tables e below _ (T101.setTop (mkF m 86 #[.val (.int p0), .val (.int p1), .val (.int p2), .val (.int p3), .val (.int p4), .val (.int p5), .val (.int (p0.toInt8.toInt32)), .val (.int (p1.toInt8.toInt32)), .val (.int (p2.toInt8.toInt32)), .val (.int (p3.toInt8.toInt32)), .val (.int (p5.toInt8.toInt32)), .val (.int (3 : Int32)), .val (.ref b2), .unset, .unset] []))
    refine Goes.by (B := T101.setTop (mkF m 94 #[.val (.int p0), .val (.int p1), .val (.int p2), .val (.int p3), .val (.int p4), .val (.int p5), .val (.int (p0.toInt8.toInt32)), .val (.int (p1.toInt8.toInt32)), .val (.int (p2.toInt8.toInt32)), .val (.int (p3.toInt8.toInt32)), .val (.int (p5.toInt8.toInt32)), .val (.int (3 : Int32)), .val (.ref b2), .unset, .unset] [(.int (p1.toInt8.toInt32)), (.int (4 : Int32)), (.ref b2)])) (fun t k => ?_) ?_
    · show Steps p.tables e below (T101.setTop (mkF m 86 #[.val (.int p0), .val (.int p1), .val (.int p2), .val (.int p3), .val (.int p4), .val (.int p5), .val (.int (p0.toInt8.toInt32)), .val (.int (p1.toInt8.toInt32)), .val (.int (p2.toInt8.toInt32)), .val (.int (p3.toInt8.toInt32)), .val (.int (p5.toInt8.toInt32)), .val (.int (3 : Int32)), .val (.ref b2), .unset, .unset] [])) t
      refine XS.aload X101.here hx rfl (hb hby at_86) rfl rfl ?_
      show Steps p.tables e below (T101.setTop (mkF m 88 #[.val (.int p0), .val (.int p1), .val (.int p2), .val (.int p3), .val (.int p4), .val (.int p5), .val (.int (p0.toInt8.toInt32)), .val (.int (p1.toInt8.toInt32)), .val (.int (p2.toInt8.toInt32)), .val (.int (p3.toInt8.toInt32)), .val (.int (p5.toInt8.toInt32)), .val (.int (3 : Int32)), .val (.ref b2), .unset, .unset] [(.ref b2)])) t
      refine XS.iload X101.here hx rfl (hb hby at_88) rfl ?_
      show Steps p.tables e below (T101.setTop (mkF m 90 #[.val (.int p0), .val (.int p1), .val (.int p2), .val (.int p3), .val (.int p4), .val (.int p5), .val (.int (p0.toInt8.toInt32)), .val (.int (p1.toInt8.toInt32)), .val (.int (p2.toInt8.toInt32)), .val (.int (p3.toInt8.toInt32)), .val (.int (p5.toInt8.toInt32)), .val (.int (3 : Int32)), .val (.ref b2), .unset, .unset] [(.int (3 : Int32)), (.ref b2)])) t
      refine XS.iconst X101.here hx rfl (hb hby at_90) ?_
      show Steps p.tables e below (T101.setTop (mkF m 91 #[.val (.int p0), .val (.int p1), .val (.int p2), .val (.int p3), .val (.int p4), .val (.int p5), .val (.int (p0.toInt8.toInt32)), .val (.int (p1.toInt8.toInt32)), .val (.int (p2.toInt8.toInt32)), .val (.int (p3.toInt8.toInt32)), .val (.int (p5.toInt8.toInt32)), .val (.int (3 : Int32)), .val (.ref b2), .unset, .unset] [(.int (1 : Int32)), (.int (3 : Int32)), (.ref b2)])) t
      refine XS.iadd X101.here hx rfl (hb hby at_91) rfl ?_
      show Steps p.tables e below (T101.setTop (mkF m 92 #[.val (.int p0), .val (.int p1), .val (.int p2), .val (.int p3), .val (.int p4), .val (.int p5), .val (.int (p0.toInt8.toInt32)), .val (.int (p1.toInt8.toInt32)), .val (.int (p2.toInt8.toInt32)), .val (.int (p3.toInt8.toInt32)), .val (.int (p5.toInt8.toInt32)), .val (.int (3 : Int32)), .val (.ref b2), .unset, .unset] [(.int (4 : Int32)), (.ref b2)])) t
      refine XS.iload X101.here hx rfl (hb hby at_92) rfl ?_
      exact k
    obtain ⟨cl105, cl105A, cl105q, cl105S, cl105N, cl105H, cl105G⟩ := f102
    have cl105I : ¬ ((4 : Int32) < 0 ∨ cl105.slots.size ≤ ((4 : Int32)).toNatClampNeg) := inb_of cl105S ⟨by decide, by decide⟩
    obtain ⟨T105, h105, X105, e105, W105, st105⟩ := stB X101 hx hZ e101 cl105A (j := (4 : Int32)) cl105I (g := (mkF m 94 #[.val (.int p0), .val (.int p1), .val (.int p2), .val (.int p3), .val (.int p4), .val (.int p5), .val (.int (p0.toInt8.toInt32)), .val (.int (p1.toInt8.toInt32)), .val (.int (p2.toInt8.toInt32)), .val (.int (p3.toInt8.toInt32)), .val (.int (p5.toInt8.toInt32)), .val (.int (3 : Int32)), .val (.ref b2), .unset, .unset] [(.int (p1.toInt8.toInt32)), (.int (4 : Int32)), (.ref b2)])) rfl rfl (hb hby at_94)
    have f106 : Arv Z h105 b2 k1 .byte (7 : Int32) [(.int ((p5.toInt8.toInt32).toInt8.toInt32)), (.int ((p5.toInt8.toInt32).toInt8.toInt32)), (.int ((p5.toInt8.toInt32).toInt8.toInt32)), (.int ((p0.toInt8.toInt32).toInt8.toInt32)), (.int ((p1.toInt8.toInt32).toInt8.toInt32)), (.int ((p5.toInt8.toInt32).toInt8.toInt32)), (.int ((p5.toInt8.toInt32).toInt8.toInt32))] (.int (0 : Int32)) := Arv.set cl105A cl105q cl105S cl105N cl105H cl105G (fits_nar_byte _) W105 4 rfl (Nat.le_of_ble_eq_true rfl)
    have Kp105 : Keep h0 h105 [] := Kp101.wr W105 (Or.inr sz4)
    have Z107 : n0 ≤ h105.size := Nat.le_trans Z103 (Nat.le_of_eq W105.size.symm)
    have N108 := Fr.snoc X105 N104 ge3
    refine Goes.by st105 ?_
    show Goes p.tables e below _ (T105.setTop (mkF m 95 #[.val (.int p0), .val (.int p1), .val (.int p2), .val (.int p3), .val (.int p4), .val (.int p5), .val (.int (p0.toInt8.toInt32)), .val (.int (p1.toInt8.toInt32)), .val (.int (p2.toInt8.toInt32)), .val (.int (p3.toInt8.toInt32)), .val (.int (p5.toInt8.toInt32)), .val (.int (3 : Int32)), .val (.ref b2), .unset, .unset] []))
    refine Goes.by (B := T105.setTop (mkF m 103 #[.val (.int p0), .val (.int p1), .val (.int p2), .val (.int p3), .val (.int p4), .val (.int p5), .val (.int (p0.toInt8.toInt32)), .val (.int (p1.toInt8.toInt32)), .val (.int (p2.toInt8.toInt32)), .val (.int (p3.toInt8.toInt32)), .val (.int (p5.toInt8.toInt32)), .val (.int (3 : Int32)), .val (.ref b2), .unset, .unset] [(.int (p2.toInt8.toInt32)), (.int (5 : Int32)), (.ref b2)])) (fun t k => ?_) ?_
    · show Steps p.tables e below (T105.setTop (mkF m 95 #[.val (.int p0), .val (.int p1), .val (.int p2), .val (.int p3), .val (.int p4), .val (.int p5), .val (.int (p0.toInt8.toInt32)), .val (.int (p1.toInt8.toInt32)), .val (.int (p2.toInt8.toInt32)), .val (.int (p3.toInt8.toInt32)), .val (.int (p5.toInt8.toInt32)), .val (.int (3 : Int32)), .val (.ref b2), .unset, .unset] [])) t
      refine XS.aload X105.here hx rfl (hb hby at_95) rfl rfl ?_
      show Steps p.tables e below (T105.setTop (mkF m 97 #[.val (.int p0), .val (.int p1), .val (.int p2), .val (.int p3), .val (.int p4), .val (.int p5), .val (.int (p0.toInt8.toInt32)), .val (.int (p1.toInt8.toInt32)), .val (.int (p2.toInt8.toInt32)), .val (.int (p3.toInt8.toInt32)), .val (.int (p5.toInt8.toInt32)), .val (.int (3 : Int32)), .val (.ref b2), .unset, .unset] [(.ref b2)])) t
      refine XS.iload X105.here hx rfl (hb hby at_97) rfl ?_
      show Steps p.tables e below (T105.setTop (mkF m 99 #[.val (.int p0), .val (.int p1), .val (.int p2), .val (.int p3), .val (.int p4), .val (.int p5), .val (.int (p0.toInt8.toInt32)), .val (.int (p1.toInt8.toInt32)), .val (.int (p2.toInt8.toInt32)), .val (.int (p3.toInt8.toInt32)), .val (.int (p5.toInt8.toInt32)), .val (.int (3 : Int32)), .val (.ref b2), .unset, .unset] [(.int (3 : Int32)), (.ref b2)])) t
      refine XS.iconst X105.here hx rfl (hb hby at_99) ?_
      show Steps p.tables e below (T105.setTop (mkF m 100 #[.val (.int p0), .val (.int p1), .val (.int p2), .val (.int p3), .val (.int p4), .val (.int p5), .val (.int (p0.toInt8.toInt32)), .val (.int (p1.toInt8.toInt32)), .val (.int (p2.toInt8.toInt32)), .val (.int (p3.toInt8.toInt32)), .val (.int (p5.toInt8.toInt32)), .val (.int (3 : Int32)), .val (.ref b2), .unset, .unset] [(.int (2 : Int32)), (.int (3 : Int32)), (.ref b2)])) t
      refine XS.iadd X105.here hx rfl (hb hby at_100) rfl ?_
      show Steps p.tables e below (T105.setTop (mkF m 101 #[.val (.int p0), .val (.int p1), .val (.int p2), .val (.int p3), .val (.int p4), .val (.int p5), .val (.int (p0.toInt8.toInt32)), .val (.int (p1.toInt8.toInt32)), .val (.int (p2.toInt8.toInt32)), .val (.int (p3.toInt8.toInt32)), .val (.int (p5.toInt8.toInt32)), .val (.int (3 : Int32)), .val (.ref b2), .unset, .unset] [(.int (5 : Int32)), (.ref b2)])) t
      refine XS.iload X105.here hx rfl (hb hby at_101) rfl ?_
      exact k
    obtain ⟨cl109, cl109A, cl109q, cl109S, cl109N, cl109H, cl109G⟩ := f106
    have cl109I : ¬ ((5 : Int32) < 0 ∨ cl109.slots.size ≤ ((5 : Int32)).toNatClampNeg) := inb_of cl109S ⟨by decide, by decide⟩
    obtain ⟨T109, h109, X109, e109, W109, st109⟩ := stB X105 hx hZ e105 cl109A (j := (5 : Int32)) cl109I (g := (mkF m 103 #[.val (.int p0), .val (.int p1), .val (.int p2), .val (.int p3), .val (.int p4), .val (.int p5), .val (.int (p0.toInt8.toInt32)), .val (.int (p1.toInt8.toInt32)), .val (.int (p2.toInt8.toInt32)), .val (.int (p3.toInt8.toInt32)), .val (.int (p5.toInt8.toInt32)), .val (.int (3 : Int32)), .val (.ref b2), .unset, .unset] [(.int (p2.toInt8.toInt32)), (.int (5 : Int32)), (.ref b2)])) rfl rfl (hb hby at_103)
    have f110 : Arv Z h109 b2 k1 .byte (7 : Int32) [(.int ((p5.toInt8.toInt32).toInt8.toInt32)), (.int ((p5.toInt8.toInt32).toInt8.toInt32)), (.int ((p5.toInt8.toInt32).toInt8.toInt32)), (.int ((p0.toInt8.toInt32).toInt8.toInt32)), (.int ((p1.toInt8.toInt32).toInt8.toInt32)), (.int ((p2.toInt8.toInt32).toInt8.toInt32)), (.int ((p5.toInt8.toInt32).toInt8.toInt32))] (.int (0 : Int32)) := Arv.set cl109A cl109q cl109S cl109N cl109H cl109G (fits_nar_byte _) W109 5 rfl (Nat.le_of_ble_eq_true rfl)
    have Kp109 : Keep h0 h109 [] := Kp105.wr W109 (Or.inr sz4)
    have Z111 : n0 ≤ h109.size := Nat.le_trans Z107 (Nat.le_of_eq W109.size.symm)
    have N112 := Fr.snoc X109 N108 ge3
    refine Goes.by st109 ?_
    show Goes p.tables e below _ (T109.setTop (mkF m 104 #[.val (.int p0), .val (.int p1), .val (.int p2), .val (.int p3), .val (.int p4), .val (.int p5), .val (.int (p0.toInt8.toInt32)), .val (.int (p1.toInt8.toInt32)), .val (.int (p2.toInt8.toInt32)), .val (.int (p3.toInt8.toInt32)), .val (.int (p5.toInt8.toInt32)), .val (.int (3 : Int32)), .val (.ref b2), .unset, .unset] []))
    refine Goes.by (B := T109.setTop (mkF m 112 #[.val (.int p0), .val (.int p1), .val (.int p2), .val (.int p3), .val (.int p4), .val (.int p5), .val (.int (p0.toInt8.toInt32)), .val (.int (p1.toInt8.toInt32)), .val (.int (p2.toInt8.toInt32)), .val (.int (p3.toInt8.toInt32)), .val (.int (p5.toInt8.toInt32)), .val (.int (3 : Int32)), .val (.ref b2), .unset, .unset] [(.int (p3.toInt8.toInt32)), (.int (6 : Int32)), (.ref b2)])) (fun t k => ?_) ?_
    · show Steps p.tables e below (T109.setTop (mkF m 104 #[.val (.int p0), .val (.int p1), .val (.int p2), .val (.int p3), .val (.int p4), .val (.int p5), .val (.int (p0.toInt8.toInt32)), .val (.int (p1.toInt8.toInt32)), .val (.int (p2.toInt8.toInt32)), .val (.int (p3.toInt8.toInt32)), .val (.int (p5.toInt8.toInt32)), .val (.int (3 : Int32)), .val (.ref b2), .unset, .unset] [])) t
      refine XS.aload X109.here hx rfl (hb hby at_104) rfl rfl ?_
      show Steps p.tables e below (T109.setTop (mkF m 106 #[.val (.int p0), .val (.int p1), .val (.int p2), .val (.int p3), .val (.int p4), .val (.int p5), .val (.int (p0.toInt8.toInt32)), .val (.int (p1.toInt8.toInt32)), .val (.int (p2.toInt8.toInt32)), .val (.int (p3.toInt8.toInt32)), .val (.int (p5.toInt8.toInt32)), .val (.int (3 : Int32)), .val (.ref b2), .unset, .unset] [(.ref b2)])) t
      refine XS.iload X109.here hx rfl (hb hby at_106) rfl ?_
      show Steps p.tables e below (T109.setTop (mkF m 108 #[.val (.int p0), .val (.int p1), .val (.int p2), .val (.int p3), .val (.int p4), .val (.int p5), .val (.int (p0.toInt8.toInt32)), .val (.int (p1.toInt8.toInt32)), .val (.int (p2.toInt8.toInt32)), .val (.int (p3.toInt8.toInt32)), .val (.int (p5.toInt8.toInt32)), .val (.int (3 : Int32)), .val (.ref b2), .unset, .unset] [(.int (3 : Int32)), (.ref b2)])) t
      refine XS.iconst X109.here hx rfl (hb hby at_108) ?_
      show Steps p.tables e below (T109.setTop (mkF m 109 #[.val (.int p0), .val (.int p1), .val (.int p2), .val (.int p3), .val (.int p4), .val (.int p5), .val (.int (p0.toInt8.toInt32)), .val (.int (p1.toInt8.toInt32)), .val (.int (p2.toInt8.toInt32)), .val (.int (p3.toInt8.toInt32)), .val (.int (p5.toInt8.toInt32)), .val (.int (3 : Int32)), .val (.ref b2), .unset, .unset] [(.int (3 : Int32)), (.int (3 : Int32)), (.ref b2)])) t
      refine XS.iadd X109.here hx rfl (hb hby at_109) rfl ?_
      show Steps p.tables e below (T109.setTop (mkF m 110 #[.val (.int p0), .val (.int p1), .val (.int p2), .val (.int p3), .val (.int p4), .val (.int p5), .val (.int (p0.toInt8.toInt32)), .val (.int (p1.toInt8.toInt32)), .val (.int (p2.toInt8.toInt32)), .val (.int (p3.toInt8.toInt32)), .val (.int (p5.toInt8.toInt32)), .val (.int (3 : Int32)), .val (.ref b2), .unset, .unset] [(.int (6 : Int32)), (.ref b2)])) t
      refine XS.iload X109.here hx rfl (hb hby at_110) rfl ?_
      exact k
    obtain ⟨cl113, cl113A, cl113q, cl113S, cl113N, cl113H, cl113G⟩ := f110
    have cl113I : ¬ ((6 : Int32) < 0 ∨ cl113.slots.size ≤ ((6 : Int32)).toNatClampNeg) := inb_of cl113S ⟨by decide, by decide⟩
    obtain ⟨T113, h113, X113, e113, W113, st113⟩ := stB X109 hx hZ e109 cl113A (j := (6 : Int32)) cl113I (g := (mkF m 112 #[.val (.int p0), .val (.int p1), .val (.int p2), .val (.int p3), .val (.int p4), .val (.int p5), .val (.int (p0.toInt8.toInt32)), .val (.int (p1.toInt8.toInt32)), .val (.int (p2.toInt8.toInt32)), .val (.int (p3.toInt8.toInt32)), .val (.int (p5.toInt8.toInt32)), .val (.int (3 : Int32)), .val (.ref b2), .unset, .unset] [(.int (p3.toInt8.toInt32)), (.int (6 : Int32)), (.ref b2)])) rfl rfl (hb hby at_112)
    have f114 : Arv Z h113 b2 k1 .byte (7 : Int32) [(.int ((p5.toInt8.toInt32).toInt8.toInt32)), (.int ((p5.toInt8.toInt32).toInt8.toInt32)), (.int ((p5.toInt8.toInt32).toInt8.toInt32)), (.int ((p0.toInt8.toInt32).toInt8.toInt32)), (.int ((p1.toInt8.toInt32).toInt8.toInt32)), (.int ((p2.toInt8.toInt32).toInt8.toInt32)), (.int ((p3.toInt8.toInt32).toInt8.toInt32))] (.int (0 : Int32)) := Arv.set cl113A cl113q cl113S cl113N cl113H cl113G (fits_nar_byte _) W113 6 rfl (Nat.le_of_ble_eq_true rfl)
    have Kp113 : Keep h0 h113 [] := Kp109.wr W113 (Or.inr sz4)
    have Z115 : n0 ≤ h113.size := Nat.le_trans Z111 (Nat.le_of_eq W113.size.symm)
    have N116 := Fr.snoc X113 N112 ge3
    refine Goes.by st113 ?_
    show Goes p.tables e below _ (T113.setTop (mkF m 113 #[.val (.int p0), .val (.int p1), .val (.int p2), .val (.int p3), .val (.int p4), .val (.int p5), .val (.int (p0.toInt8.toInt32)), .val (.int (p1.toInt8.toInt32)), .val (.int (p2.toInt8.toInt32)), .val (.int (p3.toInt8.toInt32)), .val (.int (p5.toInt8.toInt32)), .val (.int (3 : Int32)), .val (.ref b2), .unset, .unset] []))
    refine Goes.by (B := T113.setTop (mkF m 152 #[.val (.int p0), .val (.int p1), .val (.int p2), .val (.int p3), .val (.int p4), .val (.int p5), .val (.int (p0.toInt8.toInt32)), .val (.int (p1.toInt8.toInt32)), .val (.int (p2.toInt8.toInt32)), .val (.int (p3.toInt8.toInt32)), .val (.int (p5.toInt8.toInt32)), .val (.int (3 : Int32)), .val (.ref b2), .val (.int (((((p0.toInt8.toInt32) * (16777216 : Int32)) + (((p1.toInt8.toInt32) &&& (255 : Int32)) * (65536 : Int32))) + (((p2.toInt8.toInt32) &&& (255 : Int32)) * (256 : Int32))) + ((p3.toInt8.toInt32) &&& (255 : Int32)))), .unset] [(.int (3 : Int32)), (.ref b2)])) (fun t k => ?_) ?_
    · show Steps p.tables e below (T113.setTop (mkF m 113 #[.val (.int p0), .val (.int p1), .val (.int p2), .val (.int p3), .val (.int p4), .val (.int p5), .val (.int (p0.toInt8.toInt32)), .val (.int (p1.toInt8.toInt32)), .val (.int (p2.toInt8.toInt32)), .val (.int (p3.toInt8.toInt32)), .val (.int (p5.toInt8.toInt32)), .val (.int (3 : Int32)), .val (.ref b2), .unset, .unset] [])) t
      refine XS.iload X113.here hx rfl (hb hby at_113) rfl ?_
      show Steps p.tables e below (T113.setTop (mkF m 115 #[.val (.int p0), .val (.int p1), .val (.int p2), .val (.int p3), .val (.int p4), .val (.int p5), .val (.int (p0.toInt8.toInt32)), .val (.int (p1.toInt8.toInt32)), .val (.int (p2.toInt8.toInt32)), .val (.int (p3.toInt8.toInt32)), .val (.int (p5.toInt8.toInt32)), .val (.int (3 : Int32)), .val (.ref b2), .unset, .unset] [(.int (p0.toInt8.toInt32))])) t
      refine X113.ldcInt hx hown (mvT hZ (hw _ (List.mem_of_getElem? (i := 2) rfl))) (g := (mkF m 115 #[.val (.int p0), .val (.int p1), .val (.int p2), .val (.int p3), .val (.int p4), .val (.int p5), .val (.int (p0.toInt8.toInt32)), .val (.int (p1.toInt8.toInt32)), .val (.int (p2.toInt8.toInt32)), .val (.int (p3.toInt8.toInt32)), .val (.int (p5.toInt8.toInt32)), .val (.int (3 : Int32)), .val (.ref b2), .unset, .unset] [(.int (p0.toInt8.toInt32))])) rfl (hb hby at_115) _ ?_
      show Steps p.tables e below (T113.setTop (mkF m 117 #[.val (.int p0), .val (.int p1), .val (.int p2), .val (.int p3), .val (.int p4), .val (.int p5), .val (.int (p0.toInt8.toInt32)), .val (.int (p1.toInt8.toInt32)), .val (.int (p2.toInt8.toInt32)), .val (.int (p3.toInt8.toInt32)), .val (.int (p5.toInt8.toInt32)), .val (.int (3 : Int32)), .val (.ref b2), .unset, .unset] [(.int (16777216 : Int32)), (.int (p0.toInt8.toInt32))])) t
      refine XS.imul X113.here hx rfl (hb hby at_117) rfl ?_
      show Steps p.tables e below (T113.setTop (mkF m 118 #[.val (.int p0), .val (.int p1), .val (.int p2), .val (.int p3), .val (.int p4), .val (.int p5), .val (.int (p0.toInt8.toInt32)), .val (.int (p1.toInt8.toInt32)), .val (.int (p2.toInt8.toInt32)), .val (.int (p3.toInt8.toInt32)), .val (.int (p5.toInt8.toInt32)), .val (.int (3 : Int32)), .val (.ref b2), .unset, .unset] [(.int ((p0.toInt8.toInt32) * (16777216 : Int32)))])) t
      refine XS.iload X113.here hx rfl (hb hby at_118) rfl ?_
      show Steps p.tables e below (T113.setTop (mkF m 120 #[.val (.int p0), .val (.int p1), .val (.int p2), .val (.int p3), .val (.int p4), .val (.int p5), .val (.int (p0.toInt8.toInt32)), .val (.int (p1.toInt8.toInt32)), .val (.int (p2.toInt8.toInt32)), .val (.int (p3.toInt8.toInt32)), .val (.int (p5.toInt8.toInt32)), .val (.int (3 : Int32)), .val (.ref b2), .unset, .unset] [(.int (p1.toInt8.toInt32)), (.int ((p0.toInt8.toInt32) * (16777216 : Int32)))])) t
      refine XS.sipush X113.here hx rfl (hb hby at_120) ?_
      show Steps p.tables e below (T113.setTop (mkF m 123 #[.val (.int p0), .val (.int p1), .val (.int p2), .val (.int p3), .val (.int p4), .val (.int p5), .val (.int (p0.toInt8.toInt32)), .val (.int (p1.toInt8.toInt32)), .val (.int (p2.toInt8.toInt32)), .val (.int (p3.toInt8.toInt32)), .val (.int (p5.toInt8.toInt32)), .val (.int (3 : Int32)), .val (.ref b2), .unset, .unset] [(.int (255 : Int32)), (.int (p1.toInt8.toInt32)), (.int ((p0.toInt8.toInt32) * (16777216 : Int32)))])) t
      refine XS.iand X113.here hx rfl (hb hby at_123) rfl ?_
      show Steps p.tables e below (T113.setTop (mkF m 124 #[.val (.int p0), .val (.int p1), .val (.int p2), .val (.int p3), .val (.int p4), .val (.int p5), .val (.int (p0.toInt8.toInt32)), .val (.int (p1.toInt8.toInt32)), .val (.int (p2.toInt8.toInt32)), .val (.int (p3.toInt8.toInt32)), .val (.int (p5.toInt8.toInt32)), .val (.int (3 : Int32)), .val (.ref b2), .unset, .unset] [(.int ((p1.toInt8.toInt32) &&& (255 : Int32))), (.int ((p0.toInt8.toInt32) * (16777216 : Int32)))])) t
      refine X113.ldcInt hx hown (mvT hZ (hw _ (List.mem_of_getElem? (i := 3) rfl))) (g := (mkF m 124 #[.val (.int p0), .val (.int p1), .val (.int p2), .val (.int p3), .val (.int p4), .val (.int p5), .val (.int (p0.toInt8.toInt32)), .val (.int (p1.toInt8.toInt32)), .val (.int (p2.toInt8.toInt32)), .val (.int (p3.toInt8.toInt32)), .val (.int (p5.toInt8.toInt32)), .val (.int (3 : Int32)), .val (.ref b2), .unset, .unset] [(.int ((p1.toInt8.toInt32) &&& (255 : Int32))), (.int ((p0.toInt8.toInt32) * (16777216 : Int32)))])) rfl (hb hby at_124) _ ?_
      show Steps p.tables e below (T113.setTop (mkF m 126 #[.val (.int p0), .val (.int p1), .val (.int p2), .val (.int p3), .val (.int p4), .val (.int p5), .val (.int (p0.toInt8.toInt32)), .val (.int (p1.toInt8.toInt32)), .val (.int (p2.toInt8.toInt32)), .val (.int (p3.toInt8.toInt32)), .val (.int (p5.toInt8.toInt32)), .val (.int (3 : Int32)), .val (.ref b2), .unset, .unset] [(.int (65536 : Int32)), (.int ((p1.toInt8.toInt32) &&& (255 : Int32))), (.int ((p0.toInt8.toInt32) * (16777216 : Int32)))])) t
      refine XS.imul X113.here hx rfl (hb hby at_126) rfl ?_
      show Steps p.tables e below (T113.setTop (mkF m 127 #[.val (.int p0), .val (.int p1), .val (.int p2), .val (.int p3), .val (.int p4), .val (.int p5), .val (.int (p0.toInt8.toInt32)), .val (.int (p1.toInt8.toInt32)), .val (.int (p2.toInt8.toInt32)), .val (.int (p3.toInt8.toInt32)), .val (.int (p5.toInt8.toInt32)), .val (.int (3 : Int32)), .val (.ref b2), .unset, .unset] [(.int (((p1.toInt8.toInt32) &&& (255 : Int32)) * (65536 : Int32))), (.int ((p0.toInt8.toInt32) * (16777216 : Int32)))])) t
      refine XS.iadd X113.here hx rfl (hb hby at_127) rfl ?_
      show Steps p.tables e below (T113.setTop (mkF m 128 #[.val (.int p0), .val (.int p1), .val (.int p2), .val (.int p3), .val (.int p4), .val (.int p5), .val (.int (p0.toInt8.toInt32)), .val (.int (p1.toInt8.toInt32)), .val (.int (p2.toInt8.toInt32)), .val (.int (p3.toInt8.toInt32)), .val (.int (p5.toInt8.toInt32)), .val (.int (3 : Int32)), .val (.ref b2), .unset, .unset] [(.int (((p0.toInt8.toInt32) * (16777216 : Int32)) + (((p1.toInt8.toInt32) &&& (255 : Int32)) * (65536 : Int32))))])) t
      refine XS.iload X113.here hx rfl (hb hby at_128) rfl ?_
      show Steps p.tables e below (T113.setTop (mkF m 130 #[.val (.int p0), .val (.int p1), .val (.int p2), .val (.int p3), .val (.int p4), .val (.int p5), .val (.int (p0.toInt8.toInt32)), .val (.int (p1.toInt8.toInt32)), .val (.int (p2.toInt8.toInt32)), .val (.int (p3.toInt8.toInt32)), .val (.int (p5.toInt8.toInt32)), .val (.int (3 : Int32)), .val (.ref b2), .unset, .unset] [(.int (p2.toInt8.toInt32)), (.int (((p0.toInt8.toInt32) * (16777216 : Int32)) + (((p1.toInt8.toInt32) &&& (255 : Int32)) * (65536 : Int32))))])) t
      refine XS.sipush X113.here hx rfl (hb hby at_130) ?_
      show Steps p.tables e below (T113.setTop (mkF m 133 #[.val (.int p0), .val (.int p1), .val (.int p2), .val (.int p3), .val (.int p4), .val (.int p5), .val (.int (p0.toInt8.toInt32)), .val (.int (p1.toInt8.toInt32)), .val (.int (p2.toInt8.toInt32)), .val (.int (p3.toInt8.toInt32)), .val (.int (p5.toInt8.toInt32)), .val (.int (3 : Int32)), .val (.ref b2), .unset, .unset] [(.int (255 : Int32)), (.int (p2.toInt8.toInt32)), (.int (((p0.toInt8.toInt32) * (16777216 : Int32)) + (((p1.toInt8.toInt32) &&& (255 : Int32)) * (65536 : Int32))))])) t
      refine XS.iand X113.here hx rfl (hb hby at_133) rfl ?_
      show Steps p.tables e below (T113.setTop (mkF m 134 #[.val (.int p0), .val (.int p1), .val (.int p2), .val (.int p3), .val (.int p4), .val (.int p5), .val (.int (p0.toInt8.toInt32)), .val (.int (p1.toInt8.toInt32)), .val (.int (p2.toInt8.toInt32)), .val (.int (p3.toInt8.toInt32)), .val (.int (p5.toInt8.toInt32)), .val (.int (3 : Int32)), .val (.ref b2), .unset, .unset] [(.int ((p2.toInt8.toInt32) &&& (255 : Int32))), (.int (((p0.toInt8.toInt32) * (16777216 : Int32)) + (((p1.toInt8.toInt32) &&& (255 : Int32)) * (65536 : Int32))))])) t
      refine XS.sipush X113.here hx rfl (hb hby at_134) ?_
      show Steps p.tables e below (T113.setTop (mkF m 137 #[.val (.int p0), .val (.int p1), .val (.int p2), .val (.int p3), .val (.int p4), .val (.int p5), .val (.int (p0.toInt8.toInt32)), .val (.int (p1.toInt8.toInt32)), .val (.int (p2.toInt8.toInt32)), .val (.int (p3.toInt8.toInt32)), .val (.int (p5.toInt8.toInt32)), .val (.int (3 : Int32)), .val (.ref b2), .unset, .unset] [(.int (256 : Int32)), (.int ((p2.toInt8.toInt32) &&& (255 : Int32))), (.int (((p0.toInt8.toInt32) * (16777216 : Int32)) + (((p1.toInt8.toInt32) &&& (255 : Int32)) * (65536 : Int32))))])) t
      refine XS.imul X113.here hx rfl (hb hby at_137) rfl ?_
      show Steps p.tables e below (T113.setTop (mkF m 138 #[.val (.int p0), .val (.int p1), .val (.int p2), .val (.int p3), .val (.int p4), .val (.int p5), .val (.int (p0.toInt8.toInt32)), .val (.int (p1.toInt8.toInt32)), .val (.int (p2.toInt8.toInt32)), .val (.int (p3.toInt8.toInt32)), .val (.int (p5.toInt8.toInt32)), .val (.int (3 : Int32)), .val (.ref b2), .unset, .unset] [(.int (((p2.toInt8.toInt32) &&& (255 : Int32)) * (256 : Int32))), (.int (((p0.toInt8.toInt32) * (16777216 : Int32)) + (((p1.toInt8.toInt32) &&& (255 : Int32)) * (65536 : Int32))))])) t
      refine XS.iadd X113.here hx rfl (hb hby at_138) rfl ?_
      show Steps p.tables e below (T113.setTop (mkF m 139 #[.val (.int p0), .val (.int p1), .val (.int p2), .val (.int p3), .val (.int p4), .val (.int p5), .val (.int (p0.toInt8.toInt32)), .val (.int (p1.toInt8.toInt32)), .val (.int (p2.toInt8.toInt32)), .val (.int (p3.toInt8.toInt32)), .val (.int (p5.toInt8.toInt32)), .val (.int (3 : Int32)), .val (.ref b2), .unset, .unset] [(.int ((((p0.toInt8.toInt32) * (16777216 : Int32)) + (((p1.toInt8.toInt32) &&& (255 : Int32)) * (65536 : Int32))) + (((p2.toInt8.toInt32) &&& (255 : Int32)) * (256 : Int32))))])) t
      refine XS.iload X113.here hx rfl (hb hby at_139) rfl ?_
      show Steps p.tables e below (T113.setTop (mkF m 141 #[.val (.int p0), .val (.int p1), .val (.int p2), .val (.int p3), .val (.int p4), .val (.int p5), .val (.int (p0.toInt8.toInt32)), .val (.int (p1.toInt8.toInt32)), .val (.int (p2.toInt8.toInt32)), .val (.int (p3.toInt8.toInt32)), .val (.int (p5.toInt8.toInt32)), .val (.int (3 : Int32)), .val (.ref b2), .unset, .unset] [(.int (p3.toInt8.toInt32)), (.int ((((p0.toInt8.toInt32) * (16777216 : Int32)) + (((p1.toInt8.toInt32) &&& (255 : Int32)) * (65536 : Int32))) + (((p2.toInt8.toInt32) &&& (255 : Int32)) * (256 : Int32))))])) t
      refine XS.sipush X113.here hx rfl (hb hby at_141) ?_
      show Steps p.tables e below (T113.setTop (mkF m 144 #[.val (.int p0), .val (.int p1), .val (.int p2), .val (.int p3), .val (.int p4), .val (.int p5), .val (.int (p0.toInt8.toInt32)), .val (.int (p1.toInt8.toInt32)), .val (.int (p2.toInt8.toInt32)), .val (.int (p3.toInt8.toInt32)), .val (.int (p5.toInt8.toInt32)), .val (.int (3 : Int32)), .val (.ref b2), .unset, .unset] [(.int (255 : Int32)), (.int (p3.toInt8.toInt32)), (.int ((((p0.toInt8.toInt32) * (16777216 : Int32)) + (((p1.toInt8.toInt32) &&& (255 : Int32)) * (65536 : Int32))) + (((p2.toInt8.toInt32) &&& (255 : Int32)) * (256 : Int32))))])) t
      refine XS.iand X113.here hx rfl (hb hby at_144) rfl ?_
      show Steps p.tables e below (T113.setTop (mkF m 145 #[.val (.int p0), .val (.int p1), .val (.int p2), .val (.int p3), .val (.int p4), .val (.int p5), .val (.int (p0.toInt8.toInt32)), .val (.int (p1.toInt8.toInt32)), .val (.int (p2.toInt8.toInt32)), .val (.int (p3.toInt8.toInt32)), .val (.int (p5.toInt8.toInt32)), .val (.int (3 : Int32)), .val (.ref b2), .unset, .unset] [(.int ((p3.toInt8.toInt32) &&& (255 : Int32))), (.int ((((p0.toInt8.toInt32) * (16777216 : Int32)) + (((p1.toInt8.toInt32) &&& (255 : Int32)) * (65536 : Int32))) + (((p2.toInt8.toInt32) &&& (255 : Int32)) * (256 : Int32))))])) t
      refine XS.iadd X113.here hx rfl (hb hby at_145) rfl ?_
      show Steps p.tables e below (T113.setTop (mkF m 146 #[.val (.int p0), .val (.int p1), .val (.int p2), .val (.int p3), .val (.int p4), .val (.int p5), .val (.int (p0.toInt8.toInt32)), .val (.int (p1.toInt8.toInt32)), .val (.int (p2.toInt8.toInt32)), .val (.int (p3.toInt8.toInt32)), .val (.int (p5.toInt8.toInt32)), .val (.int (3 : Int32)), .val (.ref b2), .unset, .unset] [(.int (((((p0.toInt8.toInt32) * (16777216 : Int32)) + (((p1.toInt8.toInt32) &&& (255 : Int32)) * (65536 : Int32))) + (((p2.toInt8.toInt32) &&& (255 : Int32)) * (256 : Int32))) + ((p3.toInt8.toInt32) &&& (255 : Int32))))])) t
      refine XS.istore X113.here hx rfl (hb hby at_146) rfl (l' := #[.val (.int p0), .val (.int p1), .val (.int p2), .val (.int p3), .val (.int p4), .val (.int p5), .val (.int (p0.toInt8.toInt32)), .val (.int (p1.toInt8.toInt32)), .val (.int (p2.toInt8.toInt32)), .val (.int (p3.toInt8.toInt32)), .val (.int (p5.toInt8.toInt32)), .val (.int (3 : Int32)), .val (.ref b2), .val (.int (((((p0.toInt8.toInt32) * (16777216 : Int32)) + (((p1.toInt8.toInt32) &&& (255 : Int32)) * (65536 : Int32))) + (((p2.toInt8.toInt32) &&& (255 : Int32)) * (256 : Int32))) + ((p3.toInt8.toInt32) &&& (255 : Int32)))), .unset]) rfl ?_
      show Steps p.tables e below (T113.setTop (mkF m 148 #[.val (.int p0), .val (.int p1), .val (.int p2), .val (.int p3), .val (.int p4), .val (.int p5), .val (.int (p0.toInt8.toInt32)), .val (.int (p1.toInt8.toInt32)), .val (.int (p2.toInt8.toInt32)), .val (.int (p3.toInt8.toInt32)), .val (.int (p5.toInt8.toInt32)), .val (.int (3 : Int32)), .val (.ref b2), .val (.int (((((p0.toInt8.toInt32) * (16777216 : Int32)) + (((p1.toInt8.toInt32) &&& (255 : Int32)) * (65536 : Int32))) + (((p2.toInt8.toInt32) &&& (255 : Int32)) * (256 : Int32))) + ((p3.toInt8.toInt32) &&& (255 : Int32)))), .unset] [])) t
      refine XS.aload X113.here hx rfl (hb hby at_148) rfl rfl ?_
      show Steps p.tables e below (T113.setTop (mkF m 150 #[.val (.int p0), .val (.int p1), .val (.int p2), .val (.int p3), .val (.int p4), .val (.int p5), .val (.int (p0.toInt8.toInt32)), .val (.int (p1.toInt8.toInt32)), .val (.int (p2.toInt8.toInt32)), .val (.int (p3.toInt8.toInt32)), .val (.int (p5.toInt8.toInt32)), .val (.int (3 : Int32)), .val (.ref b2), .val (.int (((((p0.toInt8.toInt32) * (16777216 : Int32)) + (((p1.toInt8.toInt32) &&& (255 : Int32)) * (65536 : Int32))) + (((p2.toInt8.toInt32) &&& (255 : Int32)) * (256 : Int32))) + ((p3.toInt8.toInt32) &&& (255 : Int32)))), .unset] [(.ref b2)])) t
      refine XS.iload X113.here hx rfl (hb hby at_150) rfl ?_
      exact k
    have el118 : Elt Z h113 b2 .byte (3 : Int32) (.int ((p0.toInt8.toInt32).toInt8.toInt32)) := Elt.of f114 ⟨by decide, by decide⟩ rfl
    have el119 : Elt Z h113 b2 .byte ((3 : Int32) + (1 : Int32)) (.int ((p1.toInt8.toInt32).toInt8.toInt32)) := Elt.of f114 ⟨by decide, by decide⟩ rfl
    have el120 : Elt Z h113 b2 .byte ((3 : Int32) + (2 : Int32)) (.int ((p2.toInt8.toInt32).toInt8.toInt32)) := Elt.of f114 ⟨by decide, by decide⟩ rfl
    have el121 : Elt Z h113 b2 .byte ((3 : Int32) + (3 : Int32)) (.int ((p3.toInt8.toInt32).toInt8.toInt32)) := Elt.of f114 ⟨by decide, by decide⟩ rfl
    obtain ⟨_, _, ⟨T117, L117, k117, n117⟩, -, X117, ⟨Lc117, hQ117, l117, y117, z117⟩, st117⟩ := Jvm.LawKit.callS X113 hx (y := (⟨"com/example/moraine/moraine/BigEndian", "getInt", "([BI)I"⟩ : MethodName)) hown (mvT hZ (hw _ (List.mem_of_getElem? (i := 4) rfl))) (mvT hZ (hw _ (List.mem_of_getElem? (i := 5) rfl))) (mvT hZ (hw _ (List.mem_of_getElem? (i := 6) rfl))) (mvT hZ (hw _ (List.mem_of_getElem? (i := 7) rfl))) (by decide) (backOf (W := 0) (rmGet l Z az hw [] b2 (3 : Int32) ((p0.toInt8.toInt32).toInt8.toInt32) ((p1.toInt8.toInt32).toInt8.toInt32) ((p2.toInt8.toInt32).toInt8.toInt32) ((p3.toInt8.toInt32).toInt8.toInt32) h113 n0 Z115 el118 el119 el120 el121) hZ (hw _ (List.mem_of_getElem? (i := 7) rfl)) (hw _ (List.mem_of_getElem? (i := 6) rfl)) (by decide) (by decide)) (g := (mkF m 152 #[.val (.int p0), .val (.int p1), .val (.int p2), .val (.int p3), .val (.int p4), .val (.int p5), .val (.int (p0.toInt8.toInt32)), .val (.int (p1.toInt8.toInt32)), .val (.int (p2.toInt8.toInt32)), .val (.int (p3.toInt8.toInt32)), .val (.int (p5.toInt8.toInt32)), .val (.int (3 : Int32)), .val (.ref b2), .val (.int (((((p0.toInt8.toInt32) * (16777216 : Int32)) + (((p1.toInt8.toInt32) &&& (255 : Int32)) * (65536 : Int32))) + (((p2.toInt8.toInt32) &&& (255 : Int32)) * (256 : Int32))) + ((p3.toInt8.toInt32) &&& (255 : Int32)))), .unset] [(.int (3 : Int32)), (.ref b2)])) rfl (by rw [hml]; rfl) (argsL := [(.ref b2), (.int (3 : Int32))]) (rest := []) (lenOf own_pd0 rfl) rfl (by show 2 * 0 + _ ≤ _; exact Nat.le_of_eq rfl) (hb hby at_152) (fun _ _ => ⟨rfl, e113, (by decide : 1 + 0 ≤ _), (by decide : 7 + 0 ≤ _)⟩)
    dsimp only [Pt.U, Pt.locs, Pt.cells, Pt.slots] at X117 l117 y117 z117 st117 hQ117
    subst l117 y117 z117
    obtain ⟨rfl, N117q, e117⟩ := hQ117
    have N122 := Fr.app N116 N117q
    refine Goes.by st117 ?_
    show Goes p.tables e below _ (T117.setTop (mkF m 155 #[.val (.int p0), .val (.int p1), .val (.int p2), .val (.int p3), .val (.int p4), .val (.int p5), .val (.int (p0.toInt8.toInt32)), .val (.int (p1.toInt8.toInt32)), .val (.int (p2.toInt8.toInt32)), .val (.int (p3.toInt8.toInt32)), .val (.int (p5.toInt8.toInt32)), .val (.int (3 : Int32)), .val (.ref b2), .val (.int (((((p0.toInt8.toInt32) * (16777216 : Int32)) + (((p1.toInt8.toInt32) &&& (255 : Int32)) * (65536 : Int32))) + (((p2.toInt8.toInt32) &&& (255 : Int32)) * (256 : Int32))) + ((p3.toInt8.toInt32) &&& (255 : Int32)))), .unset] [(.int (fGet ((p0.toInt8.toInt32).toInt8.toInt32) ((p1.toInt8.toInt32).toInt8.toInt32) ((p2.toInt8.toInt32).toInt8.toInt32) ((p3.toInt8.toInt32).toInt8.toInt32)))]))
    refine Goes.by (B := T117.setTop (mkF m 169 #[.val (.int p0), .val (.int p1), .val (.int p2), .val (.int p3), .val (.int p4), .val (.int p5), .val (.int (p0.toInt8.toInt32)), .val (.int (p1.toInt8.toInt32)), .val (.int (p2.toInt8.toInt32)), .val (.int (p3.toInt8.toInt32)), .val (.int (p5.toInt8.toInt32)), .val (.int (3 : Int32)), .val (.ref b2), .val (.int (((((p0.toInt8.toInt32) * (16777216 : Int32)) + (((p1.toInt8.toInt32) &&& (255 : Int32)) * (65536 : Int32))) + (((p2.toInt8.toInt32) &&& (255 : Int32)) * (256 : Int32))) + ((p3.toInt8.toInt32) &&& (255 : Int32)))), .val (.int (fGet ((p0.toInt8.toInt32).toInt8.toInt32) ((p1.toInt8.toInt32).toInt8.toInt32) ((p2.toInt8.toInt32).toInt8.toInt32) ((p3.toInt8.toInt32).toInt8.toInt32)))] [(.int (1 : Int32))])) (fun t k => ?_) ?_
    · show Steps p.tables e below (T117.setTop (mkF m 155 #[.val (.int p0), .val (.int p1), .val (.int p2), .val (.int p3), .val (.int p4), .val (.int p5), .val (.int (p0.toInt8.toInt32)), .val (.int (p1.toInt8.toInt32)), .val (.int (p2.toInt8.toInt32)), .val (.int (p3.toInt8.toInt32)), .val (.int (p5.toInt8.toInt32)), .val (.int (3 : Int32)), .val (.ref b2), .val (.int (((((p0.toInt8.toInt32) * (16777216 : Int32)) + (((p1.toInt8.toInt32) &&& (255 : Int32)) * (65536 : Int32))) + (((p2.toInt8.toInt32) &&& (255 : Int32)) * (256 : Int32))) + ((p3.toInt8.toInt32) &&& (255 : Int32)))), .unset] [(.int (fGet ((p0.toInt8.toInt32).toInt8.toInt32) ((p1.toInt8.toInt32).toInt8.toInt32) ((p2.toInt8.toInt32).toInt8.toInt32) ((p3.toInt8.toInt32).toInt8.toInt32)))])) t
      refine XS.istore X117.here hx rfl (hb hby at_155) rfl (l' := #[.val (.int p0), .val (.int p1), .val (.int p2), .val (.int p3), .val (.int p4), .val (.int p5), .val (.int (p0.toInt8.toInt32)), .val (.int (p1.toInt8.toInt32)), .val (.int (p2.toInt8.toInt32)), .val (.int (p3.toInt8.toInt32)), .val (.int (p5.toInt8.toInt32)), .val (.int (3 : Int32)), .val (.ref b2), .val (.int (((((p0.toInt8.toInt32) * (16777216 : Int32)) + (((p1.toInt8.toInt32) &&& (255 : Int32)) * (65536 : Int32))) + (((p2.toInt8.toInt32) &&& (255 : Int32)) * (256 : Int32))) + ((p3.toInt8.toInt32) &&& (255 : Int32)))), .val (.int (fGet ((p0.toInt8.toInt32).toInt8.toInt32) ((p1.toInt8.toInt32).toInt8.toInt32) ((p2.toInt8.toInt32).toInt8.toInt32) ((p3.toInt8.toInt32).toInt8.toInt32)))]) rfl ?_
      show Steps p.tables e below (T117.setTop (mkF m 157 #[.val (.int p0), .val (.int p1), .val (.int p2), .val (.int p3), .val (.int p4), .val (.int p5), .val (.int (p0.toInt8.toInt32)), .val (.int (p1.toInt8.toInt32)), .val (.int (p2.toInt8.toInt32)), .val (.int (p3.toInt8.toInt32)), .val (.int (p5.toInt8.toInt32)), .val (.int (3 : Int32)), .val (.ref b2), .val (.int (((((p0.toInt8.toInt32) * (16777216 : Int32)) + (((p1.toInt8.toInt32) &&& (255 : Int32)) * (65536 : Int32))) + (((p2.toInt8.toInt32) &&& (255 : Int32)) * (256 : Int32))) + ((p3.toInt8.toInt32) &&& (255 : Int32)))), .val (.int (fGet ((p0.toInt8.toInt32).toInt8.toInt32) ((p1.toInt8.toInt32).toInt8.toInt32) ((p2.toInt8.toInt32).toInt8.toInt32) ((p3.toInt8.toInt32).toInt8.toInt32)))] [])) t
      refine XS.iload X117.here hx rfl (hb hby at_157) rfl ?_
      show Steps p.tables e below (T117.setTop (mkF m 159 #[.val (.int p0), .val (.int p1), .val (.int p2), .val (.int p3), .val (.int p4), .val (.int p5), .val (.int (p0.toInt8.toInt32)), .val (.int (p1.toInt8.toInt32)), .val (.int (p2.toInt8.toInt32)), .val (.int (p3.toInt8.toInt32)), .val (.int (p5.toInt8.toInt32)), .val (.int (3 : Int32)), .val (.ref b2), .val (.int (((((p0.toInt8.toInt32) * (16777216 : Int32)) + (((p1.toInt8.toInt32) &&& (255 : Int32)) * (65536 : Int32))) + (((p2.toInt8.toInt32) &&& (255 : Int32)) * (256 : Int32))) + ((p3.toInt8.toInt32) &&& (255 : Int32)))), .val (.int (fGet ((p0.toInt8.toInt32).toInt8.toInt32) ((p1.toInt8.toInt32).toInt8.toInt32) ((p2.toInt8.toInt32).toInt8.toInt32) ((p3.toInt8.toInt32).toInt8.toInt32)))] [(.int (fGet ((p0.toInt8.toInt32).toInt8.toInt32) ((p1.toInt8.toInt32).toInt8.toInt32) ((p2.toInt8.toInt32).toInt8.toInt32) ((p3.toInt8.toInt32).toInt8.toInt32)))])) t
      refine XS.iload X117.here hx rfl (hb hby at_159) rfl ?_
      show Steps p.tables e below (T117.setTop (mkF m 161 #[.val (.int p0), .val (.int p1), .val (.int p2), .val (.int p3), .val (.int p4), .val (.int p5), .val (.int (p0.toInt8.toInt32)), .val (.int (p1.toInt8.toInt32)), .val (.int (p2.toInt8.toInt32)), .val (.int (p3.toInt8.toInt32)), .val (.int (p5.toInt8.toInt32)), .val (.int (3 : Int32)), .val (.ref b2), .val (.int (((((p0.toInt8.toInt32) * (16777216 : Int32)) + (((p1.toInt8.toInt32) &&& (255 : Int32)) * (65536 : Int32))) + (((p2.toInt8.toInt32) &&& (255 : Int32)) * (256 : Int32))) + ((p3.toInt8.toInt32) &&& (255 : Int32)))), .val (.int (fGet ((p0.toInt8.toInt32).toInt8.toInt32) ((p1.toInt8.toInt32).toInt8.toInt32) ((p2.toInt8.toInt32).toInt8.toInt32) ((p3.toInt8.toInt32).toInt8.toInt32)))] [(.int (((((p0.toInt8.toInt32) * (16777216 : Int32)) + (((p1.toInt8.toInt32) &&& (255 : Int32)) * (65536 : Int32))) + (((p2.toInt8.toInt32) &&& (255 : Int32)) * (256 : Int32))) + ((p3.toInt8.toInt32) &&& (255 : Int32)))), (.int (fGet ((p0.toInt8.toInt32).toInt8.toInt32) ((p1.toInt8.toInt32).toInt8.toInt32) ((p2.toInt8.toInt32).toInt8.toInt32) ((p3.toInt8.toInt32).toInt8.toInt32)))])) t
      refine XS.icmpNo X117.here hx rfl (hb hby at_161) rfl (teq (own_law p0 p1 p2 p3)).2 ?_
      show Steps p.tables e below (T117.setTop (mkF m 164 #[.val (.int p0), .val (.int p1), .val (.int p2), .val (.int p3), .val (.int p4), .val (.int p5), .val (.int (p0.toInt8.toInt32)), .val (.int (p1.toInt8.toInt32)), .val (.int (p2.toInt8.toInt32)), .val (.int (p3.toInt8.toInt32)), .val (.int (p5.toInt8.toInt32)), .val (.int (3 : Int32)), .val (.ref b2), .val (.int (((((p0.toInt8.toInt32) * (16777216 : Int32)) + (((p1.toInt8.toInt32) &&& (255 : Int32)) * (65536 : Int32))) + (((p2.toInt8.toInt32) &&& (255 : Int32)) * (256 : Int32))) + ((p3.toInt8.toInt32) &&& (255 : Int32)))), .val (.int (fGet ((p0.toInt8.toInt32).toInt8.toInt32) ((p1.toInt8.toInt32).toInt8.toInt32) ((p2.toInt8.toInt32).toInt8.toInt32) ((p3.toInt8.toInt32).toInt8.toInt32)))] [])) t
      refine XS.iconst X117.here hx rfl (hb hby at_164) ?_
      show Steps p.tables e below (T117.setTop (mkF m 165 #[.val (.int p0), .val (.int p1), .val (.int p2), .val (.int p3), .val (.int p4), .val (.int p5), .val (.int (p0.toInt8.toInt32)), .val (.int (p1.toInt8.toInt32)), .val (.int (p2.toInt8.toInt32)), .val (.int (p3.toInt8.toInt32)), .val (.int (p5.toInt8.toInt32)), .val (.int (3 : Int32)), .val (.ref b2), .val (.int (((((p0.toInt8.toInt32) * (16777216 : Int32)) + (((p1.toInt8.toInt32) &&& (255 : Int32)) * (65536 : Int32))) + (((p2.toInt8.toInt32) &&& (255 : Int32)) * (256 : Int32))) + ((p3.toInt8.toInt32) &&& (255 : Int32)))), .val (.int (fGet ((p0.toInt8.toInt32).toInt8.toInt32) ((p1.toInt8.toInt32).toInt8.toInt32) ((p2.toInt8.toInt32).toInt8.toInt32) ((p3.toInt8.toInt32).toInt8.toInt32)))] [(.int (1 : Int32))])) t
      refine XS.goto X117.here hx rfl (pc0 := 165) (pc' := 169) rfl (hb hby at_165) (by decide) (by decide) ?_
      exact k
    obtain ⟨fs, hr, hrun, hended, hW, hsame⟩ := X117.leave (v := some (.int (1 : Int32))) (fun h => by rw [Bd.returns] at h; cases h)
    refine Goes.mk _ _ ?_ ⟨hrun, hended, _, _, rfl, ?_, ⟨_, rfl⟩, hW, hsame.mono (by decide) (by decide)⟩
    · exact retN X117 hx (t := .boolean) Bd.returns (by simp) (hb hby at_169) hr
    · show Q0 Z p0 p1 p2 p3 p4 p5 h0 n0 _ T117.heap _
      rw [e117]
      exact ⟨rfl, N122⟩
set_option maxRecDepth 65536 in
set_option maxHeartbeats 40000000 in
theorem comes_1 {Post : Tables → Env → Array Value → State → Outcome → State → Prop} (hpost : ∀ tb e args s v u, (limb_1_1.after args s (.returned v) u = true ∧ limb_1_2.after args s (.returned v) u = true ∧ True) → FrameEnd s (.returned v) u (Jvm.fieldLocs frame_1_writes args s ++ Jvm.arrayLocs frame_1_arrays args s ++ Jvm.staticLocs frame_1_statics s) 16 128 → Post tb e args s (.returned v) u) :
    ArmFor flags0 classFile x code maxLocals ret World_1 tables_1 room_1 Calls_1 rest_1 Pre_1 Post := by
  intro l hfl _ _ p e ha hc hk s m args below hf hA hF happ hP
  obtain ⟨hcalls, hrest, hpre⟩ := hP
  obtain ⟨-, -, -, hnamed, -, -, -, hat⟩ := (Spec.applies_iff hf).mp happ
  obtain ⟨hg, hn⟩ := and_e (Cond.before_iff.mp (show (Jvm.Cond.and given_1 narrow_1).before args s = true from hpre))
  obtain ⟨gg1, gg2⟩ := and_e hg
  obtain ⟨gg3, gg4⟩ := and_e gg2
  obtain ⟨gg5, gg6⟩ := and_e gg4
  obtain ⟨gg7, gg8⟩ := and_e gg6
  obtain ⟨gg9, gg10⟩ := and_e gg8
  obtain ⟨gg11, gg12⟩ := and_e gg10
  obtain ⟨w0, w1, w2, w3, w4, w5, rfl⟩ : ∃ w0 w1 w2 w3 w4 w5 : Value, args = #[w0, w1, w2, w3, w4, w5] := by
    have hs : args.size = 6 := by simpa [Cond.value, given_1] using gg1
    obtain ⟨L⟩ := args
    match L, hs with
    | [w0, w1, w2, w3, w4, w5], _ => exact ⟨w0, w1, w2, w3, w4, w5, rfl⟩
  have hw := fun d (hd : d ∈ tables_1) => atoms_spec (ws := Jvm.Cond.code x code maxLocals ret :: tables_1) hat d (List.mem_cons_of_mem _ hd)
  have hfit : Fit s := fun {y c} hc i hi => by
    obtain ⟨ha, rfl⟩ := Array.getElem?_eq_some_iff.mp hc
    have q := List.all_eq_true.mp ((Array.all_eq_true_iff_forall_mem.mp hF) _ (Array.getElem_mem ha)) i (List.mem_range.mpr hi)
    simpa [Array.getElem?_eq_getElem hi] using q
  obtain ⟨i0, ei0⟩ := is_v gg3
  obtain rfl : w0 = (.int i0) := Option.some.inj ei0
  obtain ⟨i1, ei1⟩ := is_v gg5
  obtain rfl : w1 = (.int i1) := Option.some.inj ei1
  obtain ⟨i2, ei2⟩ := is_v gg7
  obtain rfl : w2 = (.int i2) := Option.some.inj ei2
  obtain ⟨i3, ei3⟩ := is_v gg9
  obtain rfl : w3 = (.int i3) := Option.some.inj ei3
  obtain ⟨i4, ei4⟩ := is_v gg11
  obtain rfl : w4 = (.int i4) := Option.some.inj ei4
  obtain ⟨i5, ei5⟩ := is_v gg12
  obtain rfl : w5 = (.int i5) := Option.some.inj ei5
  obtain ⟨n, o, h1, h2, h3, _, L, rfl, ⟨rfl, N⟩, hq⟩ := rm0 l s _ hw tables_1 i0 i1 i2 i3 i4 i5 s.heap s.heap.size (Nat.le_refl _)  p e ha hc hk s m _ below hf ((Spec.applies_iff_loose hf).mp happ).1 ⟨rfl, State.Warmed39.refl s, rfl⟩ trivial
  refine ⟨n, _, h1, h2, h3, hpost _ _ _ _ _ _ ⟨Cond.after_iff.mpr rfl, Cond.after_iff.mpr (eq_i res_at (Term.int_eval (1)) rfl), trivial⟩ ⟨hq.1, hq.2.1, (hq.2.2.sift fun y hy => Or.inr (N y hy)).mono (by decide) (by decide)⟩⟩
theorem main_1_1 : Claimed_1_1 := comes_1 fun _ _ _ _ _ _ h hF => ⟨h.1, hF⟩
theorem main_1_2 : Claimed_1_2 := comes_1 fun _ _ _ _ _ _ h hF => ⟨h.2.1, hF⟩
end Jvm.Pilot.@@N@@
namespace Jvm.Pilot.@@N@@
open Jvm Jvm.ClassFile Sem Op Lib Jvm.Free Jvm.Stand Jvm.Pilot.@@N@@.Jvm.D
/-! MADE BY PROGRAM (witnessworld.py) out of the Statement's table words and the real class files: 9 classes; the members and pool entries that the words name. The judged class is class 1, her method 1. -/
namespace start1
open Jvm.ClassFile
def u (s : String) : CpInfo := .utf8 (stringToUtf16 s)
/-- a pool by its gaps: so many unusable entries, then the entry; so many at the end -/
def gap : Nat → List CpInfo → List CpInfo
  | 0, r => r
  | n + 1, r => .unusable :: gap n r
def poolList (es : List (Nat × CpInfo)) (last : Nat) : List CpInfo := es.foldr (fun e r => gap e.1 (e.2 :: r)) (gap last [])
def pool (es : List (Nat × CpInfo)) (last : Nat) : Array CpInfo := ⟨poolList es last⟩
def fileOf (pool : Array CpInfo) (this : Nat) (attrs : Array Attribute := #[]) (ms : Array MethodInfo := #[]) (fl : Nat := 33) (sup : Nat := 0) (ifs : Array Nat := #[]) (fds : Array FieldInfo := #[]) : ClassFile where
  minorVersion := 0
  majorVersion := 65
  constantPool := pool
  accessFlags := fl
  thisClass := this
  superClass := sup
  interfaces := ifs
  fields := fds
  methods := ms
  attributes := attrs
def plain (name : String) (sup : Option ClassId) : Class where
  name := name
  kind := .ordinary
  loader := none
  accessFlags := 33
  super := sup
  interfaces := #[]
  cf := none
  fields := #[]
  methods := #[]
  instanceTypes := #[]
  staticTypes := #[]
  resolved := #[]
  callSites := []
  init := .initialized
  statics := none
  mirror := none

def pool0 : Array CpInfo := pool [(5, u "<init>"), (0, u "()V"), (1, .class_ 10), (1, u "java/lang/Object")] 113

def k0m0 : Method := { name := "<init>", desc := "()V", sig := { parameters := [], returnType := none }, accessFlags := 1, code := none }
/-- java/lang/Object -/
def k0 : Class := { plain "java/lang/Object" none with
  accessFlags := 33
  interfaces := #[]
  cf := some (fileOf pool0 8 #[] #[{ accessFlags := 1, nameIndex := 5, descriptorIndex := 6, attributes := #[] }] 33 0 #[] #[])
  fields := #[]
  methods := #[k0m0]
  instanceTypes := #[]
  staticTypes := #[]
  resolved := Array.replicate 124 none
  statics := none }

def pool1 : Array CpInfo := pool [(2, .class_ 4), (1, u "java/lang/Object"), (0, u "<init>"), (0, u "()V"), (0, .integer 2147483647), (0, .integer 16777216), (0, .integer 65536), (0, .methodref 11 12), (0, .class_ 13), (0, .nameAndType 14 15), (0, u "com/example/moraine/moraine/BigEndian"), (0, u "getInt"), (0, u "([BI)I"), (0, .class_ 17), (0, u "com/example/moraine/moraine/BigEndianGetIntPinLaw"), (2, u "law"), (0, u "(IIIIII)Z")] 5

def k1m0 : Method := { name := "<init>", desc := "()V", sig := { parameters := [], returnType := none }, accessFlags := 2, code := none }
def k1c1 : Code := { maxStack := 3, maxLocals := 15, code := code, exceptionTable := #[], attributes := #[] }
def k1m1 : Method := { name := "law", desc := "(IIIIII)Z", sig := { parameters := [.int, .int, .int, .int, .int, .int], returnType := some .boolean }, accessFlags := 9, code := some k1c1 }
/-- com/example/moraine/moraine/BigEndianGetIntPinLaw -/
def k1 : Class := { plain "com/example/moraine/moraine/BigEndianGetIntPinLaw" (some 0) with
  accessFlags := 49
  interfaces := #[]
  cf := some (fileOf pool1 16 #[] #[{ accessFlags := 2, nameIndex := 5, descriptorIndex := 6, attributes := #[] }, { accessFlags := 9, nameIndex := 20, descriptorIndex := 21, attributes := #[] }] 49 2 #[] #[])
  fields := #[]
  methods := #[k1m0, k1m1]
  instanceTypes := #[]
  staticTypes := #[]
  resolved := Array.replicate 27 none
  statics := none }

def pool2 : Array CpInfo := pool [(2, .class_ 4), (1, u "java/lang/Object"), (0, u "<init>"), (0, u "()V"), (1, .class_ 10), (1, u "com/example/moraine/moraine/BigEndian"), (0, u "getInt"), (0, u "([BI)I")] 16

def k2m0 : Method := { name := "<init>", desc := "()V", sig := { parameters := [], returnType := none }, accessFlags := 2, code := none }
def k2c1 : Code := { maxStack := 4, maxLocals := 2, code := prog_1_method_3_code, exceptionTable := #[], attributes := #[] }
def k2m1 : Method := { name := "getInt", desc := "([BI)I", sig := { parameters := [(.array .byte), .int], returnType := some .int }, accessFlags := 8, code := some k2c1 }
/-- com/example/moraine/moraine/BigEndian -/
def k2 : Class := { plain "com/example/moraine/moraine/BigEndian" (some 0) with
  accessFlags := 48
  interfaces := #[]
  cf := some (fileOf pool2 8 #[] #[{ accessFlags := 2, nameIndex := 5, descriptorIndex := 6, attributes := #[] }, { accessFlags := 8, nameIndex := 11, descriptorIndex := 12, attributes := #[] }] 48 2 #[] #[])
  fields := #[]
  methods := #[k2m0, k2m1]
  instanceTypes := #[]
  staticTypes := #[]
  resolved := Array.replicate 29 none
  statics := none }

def pool3 : Array CpInfo := pool [(1, u "java/lang/Cloneable"), (0, .class_ 1), (0, u "java/lang/Object"), (0, .class_ 3)] 3

/-- java/lang/Cloneable -/
def k3 : Class := { plain "java/lang/Cloneable" (some 0) with
  accessFlags := 1537
  interfaces := #[]
  cf := some (fileOf pool3 2 #[] #[] 1537 4 #[] #[])
  fields := #[]
  methods := #[]
  instanceTypes := #[]
  staticTypes := #[]
  resolved := Array.replicate 8 none
  statics := none }

def pool4 : Array CpInfo := pool [(1, u "java/io/Serializable"), (0, .class_ 1), (0, u "java/lang/Object"), (0, .class_ 3)] 3

/-- java/io/Serializable -/
def k4 : Class := { plain "java/io/Serializable" (some 0) with
  accessFlags := 1537
  interfaces := #[]
  cf := some (fileOf pool4 2 #[] #[] 1537 4 #[] #[])
  fields := #[]
  methods := #[]
  instanceTypes := #[]
  staticTypes := #[]
  resolved := Array.replicate 8 none
  statics := none }

/-- the primitive byte -/
def k5 : Class := { plain "byte" none with kind := .primitive 'B', accessFlags := 0x411 }
/-- [B -/
def k6 : Class := { plain "[B" (some 0) with kind := .array 5 .byte, interfaces := #[3, 4], accessFlags := 1041 }

/-- the primitive int -/
def k7 : Class := { plain "int" none with kind := .primitive 'I', accessFlags := 0x411 }
/-- [I -/
def k8 : Class := { plain "[I" (some 0) with kind := .array 7 .int, interfaces := #[3, 4], accessFlags := 1041 }

def heap : Heap := #[]
def classes : Array Class := #[k0, k1, k2, k3, k4, k5, k6, k7, k8]
def interned : List (Array UInt16 × Addr) := []
def slotsUsed : Nat := 0
def theMethod : MethodId := ⟨1, 1⟩
def args0 : Array Value := #[.int 5, .int 7, .int 5, .int 5, .int 5, .int 5]
def aboutOver (below : List Frame) : State where
  vm := { classes := classes, interned := interned.toArray }
  heap := heap
  slotsUsed := slotsUsed
  threads := #[{ frames := .invoking theMethod args0 :: below }]
def below0 : List Frame := [.native { method := ⟨0, 0⟩, args := #[] }]
def about1 : State := aboutOver below0
def p0 : Program := .bare "" "" ""
def e0 : Env := launch0.env 0 0 0
theorem w_frames : about1.frames = Frame.invoking theMethod args0 :: below0 := rfl
set_option maxRecDepth 65536 in
theorem w_args : argsFit about1.vm theMethod args0 = true := by decide +kernel
set_option maxRecDepth 65536 in
theorem w_heap : heapFits about1 = true := by decide +kernel
set_option maxRecDepth 65536 in
theorem w_runnable : about1.curStatus? = some .runnable := by decide +kernel
set_option maxRecDepth 65536 in
theorem w_alone : about1.alone = true := by decide +kernel
set_option maxRecDepth 65536 in
theorem w_named : about1.methodNamed? x = some theMethod := by decide +kernel
set_option maxRecDepth 65536 in
theorem w_hears : about1.hears theMethod below0 = true := by decide +kernel
set_option maxRecDepth 65536 in
theorem w_ripe : about1.ripe theMethod args0 below0 = true := by decide +kernel
theorem w_running : about1.status = .running := rfl
set_option maxRecDepth 65536 in
theorem w_room : about1.hasRoom e0.platform room_1 = true :=
  launch0.hasRoom_least _ room_1 (by decide +kernel) (by decide +kernel) (by decide +kernel) (by decide +kernel) (by decide +kernel) (by decide +kernel)
theorem allAtoms_all (ts : List Jvm.Cond) (a : Array Jvm.Value) (st : Jvm.State) : (allAtoms ts).before a st = ts.all (fun c => c.before a st) := by
  induction ts with
  | nil => rfl
  | cons c t ih =>
    show (Jvm.Cond.and c (allAtoms t)).before a st = _
    rw [Jvm.Cond.before_and, ih, List.all_cons]
def words1 : List Jvm.Cond := Jvm.Cond.code x code maxLocals ret :: tables_1
/-- a 'code' word, met by the world's own term for the bytes: nothing is compared byte by byte -/
theorem code_word {y : MethodName} {bytes : ByteArray} {mx : Nat} {rt : Option FieldType} {a : Array Value} {s : State} {m : MethodId} {meth : Method} {c : Code} (h1 : s.methodNamed? y = some m) (h2 : s.vm.method? m = some meth) (h3 : meth.code = some c) (h4 : c.code = bytes)
    (h5 : (c.maxLocals == mx && c.exceptionTable.isEmpty && decide (c.maxStack ≤ mostOperands) && decide (meth.sig.returnType = rt) && !meth.locks && decide (parseMethodDescriptor y.desc = some meth.sig)) = true) : (Jvm.Cond.code y bytes mx rt).before a s = true := by
  simp only [Bool.and_eq_true, beq_iff_eq, Bool.not_eq_true', decide_eq_true_eq] at h5
  obtain ⟨⟨⟨⟨⟨g1, g2⟩, g3⟩, g4⟩, g5⟩, g6⟩ := h5
  simp [Cond.before, Cond.holds, Cond.value, h1, h2, h3, h4, g1, g2, g3, g4, g5, g6]
def isCode : Jvm.Cond → Bool
  | .code _ _ _ _ => true
  | _ => false
theorem all_split {L : List Jvm.Cond} {P : Jvm.Cond → Bool} (h1 : L.all (fun c => isCode c || P c) = true) (h2 : ∀ c ∈ L.filter isCode, P c = true) : L.all P = true := by
  refine List.all_eq_true.mpr fun c hc => ?_
  have h := List.all_eq_true.mp h1 c hc
  rcases Bool.eq_false_or_eq_true (isCode c) with hi | hi
  · exact h2 c (List.mem_filter.mpr ⟨hc, hi⟩)
  · simpa [hi] using h
set_option maxRecDepth 65536 in
theorem w_c0 : (Jvm.Cond.code x code maxLocals ret).before args0 about1 = true := code_word (m := ⟨1, 1⟩) (meth := k1m1) (c := k1c1) (by decide +kernel) rfl rfl rfl (by decide +kernel)
set_option maxRecDepth 65536 in
theorem w_c1 : (Jvm.Cond.code ({ cls := "com/example/moraine/moraine/BigEndian", name := "getInt", desc := "([BI)I" } : Jvm.MethodName) prog_1_method_3_code (2 : Nat) (Option.some Jvm.ClassFile.FieldType.int)).before args0 about1 = true := code_word (m := ⟨2, 1⟩) (meth := k2m1) (c := k2c1) (by decide +kernel) rfl rfl rfl (by decide +kernel)
def codes1 : List Jvm.Cond := [Jvm.Cond.code x code maxLocals ret, Jvm.Cond.code ({ cls := "com/example/moraine/moraine/BigEndian", name := "getInt", desc := "([BI)I" } : Jvm.MethodName) prog_1_method_3_code (2 : Nat) (Option.some Jvm.ClassFile.FieldType.int)]
set_option maxRecDepth 65536 in
theorem codes_eq : words1.filter isCode = codes1 := rfl
theorem w_codes : ∀ c ∈ words1.filter isCode, c.before args0 about1 = true := by
  rw [codes_eq]
  intro c hc
  simp only [codes1, List.mem_cons, List.not_mem_nil, or_false] at hc
  rcases hc with rfl | rfl
  · exact w_c0
  · exact w_c1
set_option maxRecDepth 65536 in
theorem w_t1 : words1.all (fun c => isCode c || c.before args0 about1) = true := by decide +kernel
theorem w_tables : (allAtoms (Jvm.Cond.code x code maxLocals ret :: tables_1)).before args0 about1 = true := by
  rw [allAtoms_all]
  show words1.all (fun c => c.before args0 about1) = true
  refine all_split ?_ w_codes
  rw [w_t1]
set_option maxRecDepth 65536 in
theorem w_case : (Jvm.Cond.and given_1 narrow_1).before args0 about1 = true := by decide +kernel
theorem w_applies : (headSpec (Jvm.Cond.code x code maxLocals ret :: tables_1) room_1).applies x e0.platform about1 = true :=
  (Spec.applies_iff w_frames).mpr ⟨w_running, w_runnable, w_alone, w_named, w_hears, w_ripe, w_room, w_tables⟩
theorem atStart : AtStart classFile x code maxLocals ret World_1 tables_1 room_1 Calls_1 rest_1 Pre_1 launch0 p0 e0 about1 theMethod args0 below0 :=
  ⟨lists_1, trivial, launch0.admits_env _ _ _, launch0.least_env, fairChoices_fair.cas, fairChoices_fair.clock, w_frames, w_args, w_heap, w_applies, trivial, trivial, w_case⟩
end start1
theorem witness_1 : WitnessClaimed_1 := ⟨start1.p0, start1.e0, start1.about1, start1.theMethod, start1.args0, start1.below0, start1.atStart⟩
end Jvm.Pilot.@@N@@
