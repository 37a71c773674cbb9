import JvmDerived
import JvmDerived.Pilot.@@N@@Statement
import JvmDerived.Pilot.@@N@@Code
set_option linter.unusedVariables false
set_option linter.unusedSimpArgs false
namespace Jvm.RoadKit
open Sem ClassFile Op Lib Jvm.Stand Jvm.Free Jvm.LawKit
section New
variable {p : Program} {l : Launch} {e : Env} {R : Room} {s : State} {m : MethodId} {args : Array Value} {below : List Frame} {meth : Method} {c : Code} {T : State} {locs : List Loc} {cells slots : Nat}
theorem retI (X : Stand p l e R s m args below meth c T locs cells slots) (hx : p.tables.exec = Jvm.exec) {pc : Nat} {Ls : Array Slot} {z : Int32} {rest : List Value} (hret : meth.sig.returnType = some .int) (hd : decode c.code pc = .ok (.ireturn, 1)) {fs : List Frame}
    (hl : ∀ (f : JFrame) (acts : List Action), f.method = m → f.locked = none → f.entered = [] → (doReturn e (T.setTop f) acts (some (.int z))).1 = T.setFrames fs) : Steps p.tables e below (T.setTop (mkF m pc Ls (.int z :: rest))) (T.setFrames fs) :=
  retOut X hx hret rfl (Or.inl ⟨rfl, Or.inl rfl, _, rfl⟩) hd hl
def Elt (Z : State) (h : Heap) (a : Addr) (ty : FieldType) (j : Int32) (v : Value) : Prop := ∃ cl : Cell, Arr Z h a cl ty ∧ ¬ (j < 0 ∨ cl.slots.size ≤ j.toNatClampNeg) ∧ cl.slots[j.toNatClampNeg]? = some v
theorem Elt.of {Z : State} {h : Heap} {a : Addr} {k : ClassId} {ty : FieldType} {n j : Int32} {vs : List Value} {d v : Value} (F : Arv Z h a k ty n vs d) (q : ¬ j < 0 ∧ j < n) (u : vs.getD j.toNatClampNeg d = v) : Elt Z h a ty j v := by
  obtain ⟨c, A, _, S, _, H, _⟩ := F
  exact ⟨c, A, inb_of S q, H.at (inb_of S q) u⟩
def Goes (tb : Tables) (e : Env) (below : List Frame) (P : State → Outcome → Prop) (A : State) : Prop := ∃ s₂ o, Steps tb e below A s₂ ∧ P s₂ o
theorem Goes.start {tb : Tables} {e : Env} {below : List Frame} {P : State → Outcome → Prop} {A : State} (h : Goes tb e below P A) : ∃ s₂ o, Steps tb e below A s₂ ∧ P s₂ o := h
theorem Goes.by {tb : Tables} {e : Env} {below : List Frame} {P : State → Outcome → Prop} {A B : State} (h : ∀ t, Steps tb e below B t → Steps tb e below A t) (g : Goes tb e below P B) : Goes tb e below P A := by
  obtain ⟨s₂, o, h1, h2⟩ := g
  exact ⟨s₂, o, h _ h1, h2⟩
theorem Goes.mk {tb : Tables} {e : Env} {below : List Frame} {P : State → Outcome → Prop} {A : State} (s₂ : State) (o : Outcome) (h : Steps tb e below A s₂) (hp : P s₂ o) : Goes tb e below P A := ⟨s₂, o, h, hp⟩
end New
end Jvm.RoadKit
namespace Jvm
open ClassFile Sem Op Lib Bundle Jvm.Free Jvm.Free.SB Jvm.Free.SBG
namespace Stand
section OwnW
variable {p : Program} {l : Launch} {e : Env} {R : Room} {s : State} {m : MethodId} {args : Array Value} {below : List Frame} {meth : Method} {c : Code} {T : State} {locs : List Loc} {cells slots : Nat}
/-- one step of ldc_w, whatever state it leaves -/
theorem own_wstep (X : Stand p l e R s m args below meth c T locs cells slots) (hexec : p.tables.exec = Jvm.exec) {g : JFrame} (hg : g.method = m) {index : Nat} (hdg : decode c.code g.pc = .ok (.ldc_w index, 3)) {U : State} {a : Addr} (htop : U.topJava?.isSome)
    (hwp : ∀ (Q : Unit → Pre) (E : CtlPost) (d : Bool) (acts : List Action), (∀ d' acts', Q () d' acts' (U.setTop { g with stack := .ref a :: g.stack })) → wp (ldc_w.sem index) Q E e d acts (T.setTop g))
    (target : State) (hrest : Steps p.tables e below (U.setTop { g with pc := g.pc + 3, stack := .ref a :: g.stack }) target) : Steps p.tables e below (T.setTop g) target := by
  subst hg
  refine Steps.instr (c := _) (by simpa using X.here) ?_
  simp [jvm, wpRun, exec, X.here.top, hexec, hdg]
  refine hwp _ _ _ _ (fun d' acts' => ?_)
  intro acts''
  simp [jvm, afterInstr, htop]
  rw [State.modifyTopJava_setTop]
  exact hrest
/-- the pool's entry, now: open as it was, or resolved to a String -/
theorem own_now (X : Stand p l e R s m args below meth c T locs cells slots) {text : String} {index : Nat} {k k' : Class} {cf : ClassFile} (hk : s.vm.classes[m.cls]? = some k) (hk' : T.vm.classes[m.cls]? = some k') (hcf : k.cf = some cf) (hnm : namesOf? cf.constantPool index = some (.string text)) (hres : k.resolved[index]? = some none ∨ ∃ a, k.resolved[index]? = some (some (.string a))) :
    (k'.resolved[index]? = some none ∧ k.resolved[index]? = some none) ∨ ∃ a, k'.resolved[index]? = some (some (.string a)) := by
  rcases X.warmed.wide.entry hk hk' index with same | ⟨-, r, now, right | ⟨a, t, rfl, -⟩⟩
  · rcases hres with o | ⟨a, o⟩
    · exact Or.inl ⟨same.trans o, o⟩
    · exact Or.inr ⟨a, same.trans o⟩
  · cases r <;> simp [State.rightAt, hk, hcf, hnm] at right
  · exact Or.inr ⟨a, now⟩
set_option maxHeartbeats 4000000 in
/-- ldc_w of a String constant: the String, the tables, and what was made where nothing was held -/
theorem own_ldcWN (X : Stand p l e R s m args below meth c T locs cells slots) (hexec : p.tables.exec = Jvm.exec) {own text : String} {index : Nat} (hown : s.vm.findClass own = some m.cls)
    (hlink : (Cond.stringLink own index text).before args s = true) (hS : ∀ a ∈ Bundle.stringAtoms, a.before args s = true) {g : JFrame} (hg : g.method = m) (hdg : decode c.code g.pc = .ok (.ldc_w index, 3)) {n : Nat} (hn : 4 * text.toList.length ≤ n) (hbig : n ≤ 536870912)
    (hC : cells + 2 ≤ R.cells) (hL : slots + (n + 4) ≤ R.slots) :
    ∃ (a : Addr) (U : State), Stand p l e R (s.setVm U.vm) m args below meth c U locs (cells + 2) (slots + (n + 4)) ∧ s.Since U.vm U.heap.size ∧ (∃ k, U.vm.classes[m.cls]? = some k ∧ k.resolved[index]? = some (some (.string a))) ∧ (∀ b, b < T.heap.size → U.heap[b]? = T.heap[b]?) ∧ T.Warmed39 U.vm ∧
      (U.vm.interned = T.vm.interned ∨ ∃ us : Array UInt16, U.vm.interned = T.vm.interned.push (us, a) ∧ T.vm.interned.find? (fun p => p.1 == us) = none ∧ (us.all (· < 256) = true → SlIn 0 T.heap.size U a us)) ∧
      ∀ target, Steps p.tables e below (U.setTop { g with pc := g.pc + 3, stack := .ref a :: g.stack }) target → Steps p.tables e below (T.setTop g) target := by
  obtain ⟨k, cf, i, us, hk, hcf, hc, hu, hnm, hdec, hres⟩ := Cond.stringLink_spec hown hlink
  obtain ⟨k', hk', ek⟩ := X.warmed.alike.2.2 _ _ hk
  have hcf' : k'.cf = some cf := by rw [ek]; exact hcf
  have bind1 : ∀ {κ : Class}, κ.cf = some cf → κ.cf.bind (namesOf? ·.constantPool index) = some (.string text) ∧ κ.cf.bind (·.constantPool[index]?) = some (.string i) ∧ κ.cf.bind (·.constantPool.utf8? i) = some us := fun h => by
    rw [h]; exact ⟨hnm, hc, by simp [ConstantPool.utf8?, hu]⟩
  obtain ⟨q2, q3, q4⟩ := bind1 hcf
  obtain ⟨r2, r3, r4⟩ := bind1 hcf'
  subst hg
  rcases own_now X hk hk' hcf hnm hres with ⟨now, was⟩ | ⟨a, now⟩
  · cases found : T.vm.interned.find? (fun p => p.1 == us) with
    | some pr =>
      obtain ⟨u0, a⟩ := pr
      obtain rfl : u0 = us := by simpa using Array.find?_some found
      have W : s.Warmed39 (T.vm.noted g.method.cls index (.string a)) := X.warmed.wide.notedString hk (Or.inl was) q2 q3 q4 found
      have tt : (T.setVm (T.vm.noted g.method.cls index (.string a))).topJava?.isSome := by simpa using X.here.top
      exact ⟨a, T.setVm (T.vm.noted g.method.cls index (.string a)), (X.mono (by omega) (by omega)).retabled W, ⟨W, State.Booked.step (T₂ := T.setVm (T.vm.noted g.method.cls index (.string a))) (X.warmed.no_new_pair _) X.same.2.1 ⟨Nat.le_refl _, Or.inl rfl⟩⟩, ⟨_, Vm.classes_note_self index (.string a) hk', Class.resolved_note_self (.string a) now⟩, fun _ _ => rfl, (State.Warmed39.refl T).notedString hk' (Or.inl now) r2 r3 r4 found, Or.inl rfl,
        own_wstep X hexec rfl hdg tt (fun Q E d acts h => (ldc_w.wp_string_found (e := e) (s := T) (f := g) X.here.top hk' hcf' hc hu now found).mpr (h _ _))⟩
    | none =>
      obtain ⟨Zs, LZ, hn4, hfv, hfc⟩ := StringT.of_atoms (args := args) hS
      obtain ⟨kS, kB, L2, hty⟩ := LZ.warmer X.warmed.alike
      have hfs : T.fitsSlot = s.fitsSlot := (show T.fitsSlot = (s.setVm T.vm).fitsSlot from rfl).trans (State.fitsSlot_setVm X.warmed.alike)
      have small : (stringBytes us).size ≤ n := Nat.le_trans (text_bytes_le hdec) hn
      obtain ⟨vm1, evm1⟩ : ∃ vm1 : Vm, vm1 = { T.vm with interned := T.vm.interned.push (us, T.heap.size + 1) } := ⟨_, rfl⟩
      have booked : vm1.interned.find? (fun p => p.1 == us) = some (us, T.heap.size + 1) := by rw [evm1]; show (T.vm.interned.push (us, T.heap.size + 1)).find? _ = _; rw [Array.find?_push, found]; simp
      have W : s.Warmed39 (vm1.noted g.method.cls index (.string (T.heap.size + 1))) := by
        have w := X.warmed.wide.interns us (T.heap.size + 1)
        rw [← evm1] at w; exact w.notedString hk (Or.inl was) q2 q3 q4 booked
      have W2 : T.Warmed39 (vm1.noted g.method.cls index (.string (T.heap.size + 1))) := by
        have w := (State.Warmed39.refl T).interns us (T.heap.size + 1)
        rw [← evm1] at w; exact w.notedString hk' (Or.inl now) r2 r3 r4 booked
      obtain ⟨U0, eU0⟩ : ∃ U0 : State, U0 = withString T Zs.cB Zs.cS kS Zs.fv Zs.fc us := ⟨_, rfl⟩
      have hh : U0.heap = (T.heap.push (bytesOf Zs.cB us)).push (stringAt Zs.cS kS Zs.fv Zs.fc us T.heap.size) := by rw [eU0, withString_eq]; rfl
      have X2 := (X.pushed (bytesOf Zs.cB us)).pushed (stringAt Zs.cS kS Zs.fv Zs.fc us T.heap.size)
      rw [← withString_eq, ← eU0] at X2
      have old : ∀ b, b < T.heap.size → U0.heap[b]? = T.heap[b]? := fun b hb => by rw [hh, Array.getElem?_push, if_neg (by rw [Array.size_push]; omega), Array.getElem?_push, if_neg (by omega)]
      have hsz : U0.heap.size = T.heap.size + 2 := by rw [hh]; simp [Array.size_push]
      have cb : U0.heap[T.heap.size]? = some (bytesOf Zs.cB us) := by rw [hh, Array.getElem?_push, if_neg (by rw [Array.size_push]; omega), Array.getElem?_push, if_pos rfl]
      have cs : U0.heap[T.heap.size + 1]? = some (stringAt Zs.cS kS Zs.fv Zs.fc us T.heap.size) := by rw [hh, Array.getElem?_push, if_pos (by rw [Array.size_push])]
      have z1 : (bytesOf Zs.cB us).slots.size = (stringBytes us).size := by rw [(Cell.writeAll_facts _ _).2.2]; simp [bytes0]
      have z2 : (stringAt Zs.cS kS Zs.fv Zs.fc us T.heap.size).slots.size = 4 := by simp [string0, Cell.setSlot, hty, hn4]
      have one : T.Interned1 (U0.setVm (vm1.noted g.method.cls index (.string (T.heap.size + 1)))) := ⟨by show T.heap.size ≤ U0.heap.size; omega, Or.inr ⟨us, T.heap.size + 1, by rw [evm1]; rfl, by omega, by show T.heap.size + 1 < U0.heap.size; omega⟩⟩
      have tt : (U0.setVm (vm1.noted g.method.cls index (.string (T.heap.size + 1)))).topJava?.isSome := by
        have h0 : U0.topJava?.isSome := by rw [eU0]; simpa [withString] using X.here.top
        simpa using h0
      have hk1 : vm1.classes[g.method.cls]? = some k' := by rw [evm1]; exact hk'
      refine ⟨T.heap.size + 1, U0.setVm (vm1.noted g.method.cls index (.string (T.heap.size + 1))), (X2.mono (by omega) (by rw [z1, z2]; omega)).retabled W, ⟨W, State.Booked.step (X.warmed.no_new_pair _) X.same.2.1 one⟩, ⟨_, Vm.classes_note_self index (.string (T.heap.size + 1)) hk1, Class.resolved_note_self (.string (T.heap.size + 1)) now⟩, old, W2,
        Or.inr ⟨us, by rw [evm1]; rfl, found, fun lat => made_sl (W := U0.setVm (vm1.noted g.method.cls index (.string (T.heap.size + 1)))) hS LZ hn4 hty W.alike cb cs lat (by omega) 0⟩, own_wstep X hexec rfl hdg tt (fun Q E d acts h => ?_)⟩
      rw [evm1, eU0] at h
      refine ldc_w.wp_string_new (e := e) (s := T) (f := g) X.here.top hk' hcf' hc hu now found L2.found L2.cls L2.initialized L2.ordinary L2.foundB L2.clsB L2.kindB L2.value L2.coder ?_ ?_ (X.cellsAbove hC) ?_ (stringBytes_fit L2.clsB L2.kindB us) L2.valueSlot L2.coderSlot (by rw [hfs]; exact hfv _) (by rw [hfs]; exact hfc _) h
      · rw [Launch.admits_arrayLengthLimit X.admits]; omega
      · rw [Launch.admits_maxHeapBytes X.admits]; simp only [componentBytes]; omega
      · have room := X.slotsAbove hL
        rw [hty, hn4]; omega
  · exact ⟨a, T, (X.mono (by omega) (by omega)).retabled X.warmed.wide, X.warmed.since _, ⟨k', hk', now⟩, fun _ _ => rfl, State.Warmed39.refl T, Or.inl rfl, own_wstep X hexec rfl hdg X.here.top (fun Q E d acts h => (ldc_w.wp_string (e := e) (s := T) (f := g) X.here.top hk' hcf' hc now).mpr (h _ _))⟩
end OwnW
end Stand
end Jvm
namespace Jvm.RoadKit
open Sem ClassFile Op Lib Bundle Jvm.Stand Jvm.Free Jvm.LawKit Jvm.Free.SB Jvm.Free.SBG
section OwnR
variable {p : Program} {l : Launch} {e : Env} {R : Room} {s : State} {m : MethodId} {args : Array Value} {below : List Frame} {meth : Method} {c : Code} {T : State} {locs : List Loc} {cells slots : Nat} {Z : State} {a0 : Array Value} {EL : List (String × Nat)} {h : Heap} {vm vm0 : Vm} {own text : String} {index : Nat}
/-- a compact String's two cells, as the walk's facts -/
theorem own_says (hW : Z.Warmed39 vm) {q : SQ} {us : Array UInt16} (F : SlB (Wst Z vm h) q us) (lat : us.all (· < 256) = true) {vs : List Value} {z : Int32} (hvs : vs = us.toList.map fun u => Value.int (Jvm.Lit.byteI u)) (hz : ¬ z < 0) (hl : z.toNatClampNeg = vs.length) :
    Exa Z h q.sa "java/lang/String" ∧ Fld Z h q.sa "java/lang/String" "coder" "B" (.int 0) ∧ Fld Z h q.sa "java/lang/String" "value" "[B" (.ref q.sd) ∧ Arv Z h q.sd q.SA.cls .byte z vs (.int 0) := by
  have al : Z.vm.Alike vm := hW.alike
  obtain ⟨cS, ⟨st, fS, eS⟩, ⟨kS, k1, -, k3⟩, fB, bytes⟩ := F
  have fS : vm.findClass "java/lang/String" = some cS := fS
  have fB : vm.findClass "[B" = some q.SA.cls := fB
  have k1 : vm.classes[cS]? = some kS := k1
  obtain ⟨cv, kv, iv, v1, v2⟩ := st.2.2.2.1
  obtain ⟨cc, kc, ic, c1, c2⟩ := st.2.2.2.2.1
  obtain ⟨kv', v1'⟩ := ff_back (U := Wst Z vm h) al v1
  obtain ⟨kc', c1'⟩ := ff_back (U := Wst Z vm h) al c1
  have v2 : vm.assignable q.sC.cls cv = true := v2
  have c2 : vm.assignable q.sC.cls cc = true := c2
  rw [al.assignable] at v2 c2
  have zS : Z.vm.findClass "java/lang/String" = some q.sC.cls := by rw [← al.findClass, eS]; exact fS
  obtain ⟨kz, hkz, -⟩ := Vm.findClass_spec zS
  obtain ⟨kz', hkz', ekz⟩ := al.2.2 _ _ hkz
  obtain rfl : kz' = kS := by rw [eS, k1] at hkz'; exact (Option.some.inj hkz').symm
  have zB : Z.vm.findClass "[B" = some q.SA.cls := by rw [← al.findClass]; exact fB
  obtain ⟨kb, hkb, -⟩ := Vm.findClass_spec zB
  obtain ⟨kb', hkb', ekb⟩ := al.2.2 _ _ hkb
  obtain ⟨nst, k9, hk9, comp, hkind⟩ := st.2.2.2.2.2.2.2.2.2.2.1
  have hk9 : vm.classes[q.SA.cls]? = some k9 := hk9
  obtain rfl : k9 = kb' := Option.some.inj (hk9.symm.trans hkb')
  have arr : Arr Z h q.sd q.SA .byte := ⟨st.2.2.2.2.2.2.2.2.2.1, ⟨nst, kb, hkb, comp, by rw [ekb] at hkind; exact hkind⟩, st.2.2.2.2.2.2.2.2.2.2.2.1⟩
  have sl : q.SA.slots = us.map fun u => Value.int (Jvm.Lit.byteI u) := by rw [bytes, SBG.stringBytes_lat lat]; rfl
  have len : q.SA.slots.size = vs.length := by rw [sl, hvs]; simp
  have has : Has q.SA vs (.int 0) := fun j hj => by
    have hj' : j < us.size := by rw [len, hvs] at hj; simpa using hj
    rw [sl, hvs]; simp [hj']
  refine ⟨⟨q.sC, kz, st.1, zS, hkz, st.2.2.1, fun _ => by rw [k3, ekz]⟩, ⟨q.sC, cc, kc', ic, q.fSC, st.1, c1', st.2.2.2.2.2.2.1, st.2.1, st.2.2.1, c2, st.2.2.2.2.2.2.2.2.1⟩, ⟨q.sC, cv, kv', iv, q.fSV, st.1, v1', st.2.2.2.2.2.1, st.2.1, st.2.2.1, v2, st.2.2.2.2.2.2.2.1⟩,
    ⟨q.SA, arr, rfl, by rw [len, hl], hz, has, fun j hj => ?_⟩⟩
  have f := st.2.2.2.2.2.2.2.2.2.2.2.2.2.2.2 j hj
  rw [SBG.getD_of (has j hj)] at f
  exact f
/-- ldc_w OF A CONSTANT OF EL, READ: ldcCH's conclusion for the wide form -/
theorem own_ldcWH (X : Stand p l e R (s.setVm vm0) m args below meth c T locs cells slots) (hx : p.tables.exec = Jvm.exec) (hZ : Z.Warmed39 vm0) (hown : vm0.findClass own = some m.cls) (w : (Cond.stringLink own index text).before a0 Z = true) (wS : ∀ a ∈ Bundle.stringAtoms, a.before a0 Z = true)
    (eT : T.heap = h) {k0 : Nat} (hS : s.Since vm0 k0) (hk : k0 ≤ h.size) (hEL : EW Z a0 EL) (hmem : (own, index) ∈ EL) (H : CHv Z EL vm0 h)
    {vs : List Value} {z : Int32} (ht : (∀ c ∈ text.toList, c.toNat < 256) ∧ text.toList.map (fun c => Value.int (Jvm.Lit.byteI c.toNat.toUInt16)) = vs) (hz : ¬ z < 0) (hl : z.toNatClampNeg = vs.length)
    {g : JFrame} (hg : g.method = m) (hd : decode c.code g.pc = .ok (.ldc_w index, 3)) {n : Nat} (hn : 4 * text.toList.length ≤ n) (hbig : n ≤ 536870912) (hc : cells + 2 ≤ R.cells) (hl' : slots + (n + 4) ≤ R.slots) :
    ∃ (a : Addr) (T' : State) (h' : Heap) (k1 : Nat) (b : Addr) (k : ClassId), Stand p l e R (s.setVm T'.vm) m args below meth c T' locs (cells + 2) (slots + (n + 4)) ∧ T'.heap = h' ∧ Ext h h' ∧ s.Since T'.vm k1 ∧ k1 ≤ h'.size ∧ Z.Warmed39 (s.setVm T'.vm).vm ∧ (s.setVm T'.vm).vm.findClass own = some m.cls ∧
      Exa Z h' a "java/lang/String" ∧ Fld Z h' a "java/lang/String" "coder" "B" (.int 0) ∧ Fld Z h' a "java/lang/String" "value" "[B" (.ref b) ∧ Arv Z h' b k .byte z vs (.int 0) ∧ CHr Z EL vm0 h T'.vm h' ∧
      ∀ target, Steps p.tables e below (T'.setTop { g with pc := g.pc + 3, stack := .ref a :: g.stack }) target → Steps p.tables e below (T.setTop g) target := by
  have wS' : ∀ d ∈ Bundle.stringAtoms, d.before args (s.setVm vm0) = true := fun d hd => by
    have q := wS d hd
    simp only [Bundle.stringAtoms, List.mem_cons, List.not_mem_nil, or_false] at hd
    rcases hd with rfl | rfl | rfl | rfl | rfl | rfl | rfl
    · exact mv (s := s.setVm vm0) hZ q
    · exact mv (s := s.setVm vm0) hZ q
    · exact mvA (s := s.setVm vm0) hZ q
    · exact mv (s := s.setVm vm0) hZ q
    · exact mv (s := s.setVm vm0) hZ q
    · exact mv (s := s.setVm vm0) hZ q
    · exact mv (s := s.setVm vm0) hZ q
  obtain ⟨a, T', X', hS', ⟨kk, hkk, hrr⟩, keep, hTW, hint, st⟩ := X.own_ldcWN hx (own := own) hown (mvS hZ w) wS' hg hd hn hbig hc hl'
  subst eT
  have E := ext_of keep
  have hW : Z.Warmed39 T'.vm := State.Warmed39.trans (t := s.setVm vm0) hZ hS'.1
  have A := CHv.at X hZ hEL H
  have hint' : T'.vm.interned = T.vm.interned ∨ ∃ (us : Array UInt16) (b : Addr), T'.vm.interned = T.vm.interned.push (us, b) ∧ T.vm.interned.find? (fun p => p.1 == us) = none ∧ (us.all (· < 256) = true → ∃ q : SQ, q.sa = b ∧ SlB (Wst Z T'.vm T'.heap) q us ∧ T.heap.size ≤ q.sa ∧ T.heap.size ≤ q.sd) := by
    rcases hint with same | ⟨us, i1, i2, i3⟩
    · exact Or.inl same
    · refine Or.inr ⟨us, a, i1, i2, fun lat => ?_⟩
      obtain ⟨q, cS, qa, r1, r2, r3, r4, r5⟩ := i3 lat
      have F : SlB T' q us := ⟨cS, r1, r2, r3, r4⟩
      exact ⟨q, qa, F.carry (V := Wst Z T'.vm T'.heap) (Vm.Alike.refl _) F.ha F.hd, r5.elim (fun z => absurd z.1 (Nat.not_lt_zero _)) id⟩
  have B := CHv.later (vm := T.vm) (vm1 := T'.vm) (wtrans (s := s.setVm vm0) hZ X.warmed) (show (Wst Z T.vm T.heap).Warmed39 T'.vm from hTW) hEL E hint' A.1
  have hf : T'.vm.findClass own = some m.cls := by rw [hS'.1.alike.findClass]; exact hown
  obtain ⟨k2, cf, i, us, hk2, hcf, hp, hu, -, htext, -⟩ := Cond.stringLink_spec (args := a0) (s := Wst Z T'.vm T'.heap) hf (mvS (s := Wst Z T'.vm T'.heap) hW w)
  obtain rfl : kk = k2 := Option.some.inj (hkk.symm.trans hk2)
  obtain ⟨q, rfl, F⟩ := SlB.of (B.1 _ hmem us a ⟨m.cls, kk, cf, i, hf, hk2, hcf, hp, hu, Or.inl hrr⟩)
  have says := own_says hW F (Jvm.ClassFile.lat_of_text htext ht.1) (vs := vs) (z := z) (by rw [← ht.2, Jvm.ClassFile.units_of_text htext ht.1, List.map_map]; rfl) hz hl
  exact ⟨q.sa, T', _, _, q.sd, q.SA.cls, X', rfl, E, hS.trans hS' (Nat.le_trans hk E.1), Nat.le_refl _, hW, hf, says.1, says.2.1, says.2.2.1, says.2.2.2, A.trans ⟨B.1, E.1, B.2⟩, st⟩
end OwnR
end Jvm.RoadKit

/- laws to paste: Road.eqW (cut by pick.py; bodies as the Statement names them) -/
namespace Jvm.Pilot.@@N@@
namespace StrChars
open Jvm Sem ClassFile Op Lib Jvm.Stand Jvm.Free.XT Jvm.Free.ALB Jvm.Free.JM Jvm.Free
open Jvm.Lib.Cold (StaticIs)
def lo8 (x : Int32) : Int32 := x.toInt8.toInt32
theorem fits_lo8 (y : Int32) : fits .byte (.int (lo8 y)) = true := by
  have h1 := y.toInt8.le_toInt
  have h2 := y.toInt8.toInt_lt
  simp only [lo8, fits, Bool.and_eq_true, decide_eq_true_eq, Int32.le_iff_toInt_le, Int8.toInt_toInt32, show (-128 : Int32).toInt = -128 from by decide, show (127 : Int32).toInt = 127 from by decide]
  omega
theorem lo8_mask {x : Int32} (h0 : ¬ x < 0) (h1 : ¬ 255 < x) : lo8 x &&& 255 = x := by
  have t : ∀ k : Fin 256, lo8 (Int32.ofNat k.val) &&& 255 = Int32.ofNat k.val := by decide +kernel
  rw [Int32.lt_iff_toInt_lt] at h0 h1
  have e0 : (0 : Int32).toInt = 0 := rfl
  have e1 : (255 : Int32).toInt = 255 := rfl
  obtain ⟨k, hk⟩ : ∃ k : Nat, x.toInt = k := ⟨x.toInt.toNat, by omega⟩
  have hx : x = Int32.ofNat k := Int32.toInt_inj.mp (by rw [hk, Int32.toInt_ofNat_small (by omega)])
  rw [hx]
  exact t ⟨k, by omega⟩
end StrChars
namespace StrChars.Road
open Jvm Sem ClassFile Op Lib Jvm.Stand Jvm.Free Jvm.Free.XT
open Jvm.Lib.Cold (StaticIs)
abbrev ST : String := "java/lang/String"
end StrChars.Road
namespace StrChars
open Jvm Sem ClassFile Op Lib Jvm.Stand Jvm.Free.XT Jvm.Free.ALB Jvm.Free.JM Jvm.Free
open Jvm.Lib.Cold (StaticIs)
def hi8 (x : Int32) : Int32 := lo8 (x >>> ((8 : Int32) &&& 31))
def pairCh (u v : Int32) : Int32 := (((u &&& 255) <<< ((0 : Int32) &&& 31)) ||| ((v &&& 255) <<< ((8 : Int32) &&& 31))).toUInt32.toUInt16.toUInt32.toInt32
theorem lo8_and (x : Int32) : (lo8 x &&& 255).toBitVec.toNat = x.toBitVec.toNat % 256 := by
  have h : (lo8 x).toBitVec = (x.toBitVec.signExtend 8).signExtend 32 := by rw [lo8, Int8.toBitVec_toInt32, Int32.toBitVec_toInt8]
  rw [Int32.toBitVec_and, BitVec.toNat_and, h]
  have e : ((x.toBitVec.signExtend 8).signExtend 32).toNat % 256 = x.toBitVec.toNat % 256 := by
    rw [BitVec.toNat_signExtend]
    have hlt := x.toBitVec.isLt
    simp only [BitVec.toNat_setWidth, BitVec.toNat_signExtend]
    split <;> split <;> omega
  rw [← e]
  exact Nat.and_two_pow_sub_one_eq_mod _ 8
theorem pair_says {c : Int32} (h0 : ¬ c < 0) (h1 : ¬ 65535 < c) : pairCh (lo8 c) (hi8 c) = c := by
  rw [Int32.lt_iff_toInt_lt] at h0 h1
  have e0 : (0 : Int32).toInt = 0 := rfl
  have e1 : (65535 : Int32).toInt = 65535 := rfl
  have hc : c.toInt = c.toBitVec.toNat := by
    have := c.toBitVec.isLt
    have e : c.toInt = c.toBitVec.toInt := rfl
    rw [e] at h0 h1
    rw [e]
    rw [BitVec.toInt_eq_toNat_cond] at h0 h1 ⊢
    split at h0 <;> split <;> omega
  have hn : c.toBitVec.toNat < 65536 := by omega
  have a1 := lo8_and c
  have a2 : (hi8 c &&& 255).toBitVec.toNat = c.toBitVec.toNat / 256 := by
    rw [hi8, lo8_and]
    have e : ((8 : Int32) &&& 31) = 8 := by decide
    rw [e, Int32.toBitVec_shiftRight]
    have e2 : ((8 : Int32).toBitVec.smod 32) = 8#32 := by decide
    rw [e2, BitVec.sshiftRight_eq', BitVec.toNat_sshiftRight_of_msb_false (by rw [BitVec.msb_eq_false_iff_two_mul_lt]; omega)]
    show c.toBitVec.toNat >>> 8 % 256 = _
    rw [Nat.shiftRight_eq_div_pow]
    omega
  unfold pairCh
  apply Int32.toBitVec_inj.mp
  apply BitVec.eq_of_toNat_eq
  have f0 : ((0 : Int32) &&& 31) = 0 := by decide
  have f8 : ((8 : Int32) &&& 31) = 8 := by decide
  rw [f0, f8]
  have g : (((lo8 c &&& 255) <<< (0 : Int32)) ||| ((hi8 c &&& 255) <<< (8 : Int32))).toBitVec.toNat = c.toBitVec.toNat := by
    rw [Int32.toBitVec_or, Int32.toBitVec_shiftLeft, Int32.toBitVec_shiftLeft]
    have s0 : ((0 : Int32).toBitVec.smod 32) = 0#32 := by decide
    have s8 : ((8 : Int32).toBitVec.smod 32) = 8#32 := by decide
    rw [s0, s8, BitVec.toNat_or]
    simp only [BitVec.shiftLeft_eq', BitVec.toNat_shiftLeft, a1, a2]
    show (c.toBitVec.toNat % 256) <<< 0 % 2 ^ 32 ||| (c.toBitVec.toNat / 256) <<< 8 % 2 ^ 32 = _
    rw [Nat.shiftLeft_zero, Nat.mod_eq_of_lt (show c.toBitVec.toNat % 256 < 2 ^ 32 by omega), Nat.mod_eq_of_lt (show (c.toBitVec.toNat / 256) <<< 8 < 2 ^ 32 by rw [Nat.shiftLeft_eq]; omega), Nat.or_comm, ← Nat.shiftLeft_add_eq_or_of_lt (by omega), Nat.shiftLeft_eq]
    omega
  show BitVec.toNat (((((lo8 c &&& 255) <<< (0 : Int32)) ||| ((hi8 c &&& 255) <<< (8 : Int32))).toBitVec.setWidth 16).setWidth 32) = _
  rw [BitVec.toNat_setWidth, BitVec.toNat_setWidth, g]
  omega
end StrChars
namespace StrChars
open Jvm Sem ClassFile Op Lib Jvm.Stand Jvm.Free.XT Jvm.Free.ALB Jvm.Free.JM Jvm.Free
open Jvm.Lib.Cold (StaticIs)
def Cod (cd : Int32) (n : Nat) (f : Nat → Int32) (V : Cell) : Prop := (cd = 0 ∧ V.slots.size = n ∧ ∀ j, j < n → V.slots[j]? = some (.int (lo8 (f j))) ∧ ¬ 255 < f j) ∨ (cd = 1 ∧ V.slots.size = 2 * n ∧ (∀ j, j < n → V.slots[2 * j]? = some (.int (lo8 (f j))) ∧ V.slots[2 * j + 1]? = some (.int (hi8 (f j)))) ∧ ∃ j, j < n ∧ 255 < f j)
def Txt (x t : Addr) (V : Cell) (cd : Int32) (n : Nat) (f : Nat → Int32) (U : State) : Prop := Exact "java/lang/String" x U ∧ Has x "java/lang/String" "value" "[B" (.ref t) U ∧ Has x "java/lang/String" "coder" "B" (.int cd) U ∧ XT.Arr .byte t V U ∧ Cod cd n f V ∧ ∀ j, j < n → ¬ f j < 0 ∧ ¬ 65535 < f j
theorem Txt.mv {x t : Addr} {V : Cell} {cd : Int32} {n : Nat} {f : Nat → Int32} {U U' : State} (h : Txt x t V cd n f U) (hal : U.vm.Alike U'.vm) (hh : U'.heap = U.heap) : Txt x t V cd n f U' := ⟨h.1.mv hal hh, h.2.1.mv hal hh, h.2.2.1.mv hal hh, h.2.2.2.1.mv hal hh, h.2.2.2.2⟩
end StrChars
namespace StrChars.Road
open Jvm Sem ClassFile Op Lib Jvm.Stand Jvm.Free Jvm.Free.XT
open Jvm.Lib.Cold (StaticIs)
theorem consq {a : Array Value} {s : State} {c : Jvm.Cond} {L : List Jvm.Cond} (h0 : c.before a s = true) (h : ∀ w ∈ L, w.before a s = true) : ∀ w ∈ c :: L, w.before a s = true := fun w hw => (List.mem_cons.mp hw).elim (fun e => e ▸ h0) (h w)
def wideBytes : List Int32 → List Value
  | [] => []
  | c :: cs => .int (lo8 c) :: .int (hi8 c) :: wideBytes cs
theorem wide_lo (d : Value) : ∀ (cs : List Int32) (j : Nat), j < cs.length → (wideBytes cs).getD (2 * j) d = .int (lo8 (cs.getD j 0))
  | [], j, h => absurd h (Nat.not_lt_zero j)
  | c :: cs, 0, _ => rfl
  | c :: cs, j + 1, h => by
    have q := wide_lo d cs j (by simpa using h)
    rw [show 2 * (j + 1) = 2 * j + 1 + 1 from by omega]
    simpa [wideBytes] using q
theorem wide_hi (d : Value) : ∀ (cs : List Int32) (j : Nat), j < cs.length → (wideBytes cs).getD (2 * j + 1) d = .int (hi8 (cs.getD j 0))
  | [], j, h => absurd h (Nat.not_lt_zero j)
  | c :: cs, 0, _ => rfl
  | c :: cs, j + 1, h => by
    have q := wide_hi d cs j (by simpa using h)
    rw [show 2 * (j + 1) + 1 = 2 * j + 1 + 1 + 1 from by omega]
    simpa [wideBytes] using q
theorem low_at (d : Value) (cs : List Int32) (j : Nat) (h : j < cs.length) : (cs.map fun c => Value.int (lo8 c)).getD j d = .int (lo8 (cs.getD j 0)) := by
  simp [List.getD_eq_getElem?_getD, h]
def CodA (cs : List Int32) (cd N2 : Int32) (vs : List Value) : Prop := (cd = 0 ∧ N2 = Int32.ofNat cs.length ∧ vs = (cs.map fun c => Value.int (lo8 c)) ∧ ∀ c ∈ cs, ¬ 255 < c) ∨ (cd = 1 ∧ N2 = Int32.ofNat (2 * cs.length) ∧ vs = wideBytes cs ∧ ∃ c ∈ cs, 255 < c)
theorem CodA.cod {cs : List Int32} {cd N2 : Int32} {vs : List Value} {V : Cell} (h : CodA cs cd N2 vs) (hn : 2 * cs.length < 2 ^ 31) (hs : V.slots.size = N2.toNatClampNeg) (hv : RoadKit.Has V vs (.int 0)) : Cod cd cs.length (fun j => cs.getD j 0) V := by
  rcases h with ⟨rfl, rfl, rfl, h⟩ | ⟨rfl, rfl, rfl, c, hc, hw⟩
  · rw [n32 (by omega)] at hs
    exact Or.inl ⟨rfl, hs, fun j hj => ⟨by rw [hv j (by omega), low_at _ _ _ hj], by
      have e : cs.getD j 0 = cs[j] := by simp [List.getD_eq_getElem?_getD, hj]
      show ¬ 255 < cs.getD j 0
      rw [e]; exact h _ (List.getElem_mem _)⟩⟩
  · rw [n32 (by omega)] at hs
    obtain ⟨j, hj, rfl⟩ := List.getElem_of_mem hc
    exact Or.inr ⟨rfl, hs, fun j hj => ⟨by rw [hv _ (by omega), wide_lo _ _ _ hj], by rw [hv _ (by omega), wide_hi _ _ _ hj]⟩, j, hj, by
      have e : cs.getD j 0 = cs[j] := by simp [List.getD_eq_getElem?_getD, hj]
      show 255 < cs.getD j 0
      rw [e]; exact hw⟩
theorem strObj {Z U : State} {a0 : Array Value} {kI : Nat} (wi : (Jvm.Cond.instantiable ST kI).before a0 Z = true) (al : Z.vm.Alike U.vm) {x : Addr} {v0 c0 : Value} (E : RoadKit.Exa Z U.heap x ST) (V : RoadKit.Fld Z U.heap x ST "value" "[B" v0) (C : RoadKit.Fld Z U.heap x ST "coder" "B" c0) :
    ∃ (D : Cell) (fV fC : Field), Blank ST x D U ∧ Found ST "value" "[B" fV U ∧ Found ST "coder" "B" fC U ∧ D.slots[fV.slot]? = some v0 ∧ D.slots[fC.slot]? = some c0 ∧ RoadKit.slotOf Z ST "value" "[B" = fV.slot ∧ RoadKit.slotOf Z ST "coder" "B" = fC.slot := by
  obtain ⟨D, cfV, kV, iV, fV, hD, gV, stV, knV, obV, asV, slV⟩ := V
  obtain ⟨D', cfC, kC, iC, fC, hD', gC, stC, -, -, asC, slC⟩ := C
  cases hD.symm.trans hD'
  obtain ⟨D2, kD, e1, e2, e3, e4, e5⟩ := E
  cases hD.symm.trans e1
  obtain ⟨c2, k2, i1, i2, i3, -⟩ := Cond.instantiable_spec wi
  cases e2.symm.trans i1
  cases e3.symm.trans i2
  obtain ⟨kU, u1, u2⟩ := al.2.2 _ _ e3
  exact ⟨D, fV, fC, ⟨hD, ⟨knV, fun q hq => by rw [hq] at obV; cases obV⟩, by rw [al.findClass]; exact e2, kU, u1, by rw [u2]; exact i3, by rw [u2]; exact e5 i3⟩, ⟨SBG.found_only al ⟨cfV, kV, iV, gV⟩, stV⟩, ⟨SBG.found_only al ⟨cfC, kC, iC, gC⟩, stC⟩, slV, slC, by simp [RoadKit.slotOf, gV], by simp [RoadKit.slotOf, gC]⟩
theorem sta_is {Z U : State} (al : Z.vm.Alike U.vm) {C n d : String} {v : Value} (S : RoadKit.Sta Z U.heap C n d v) : StaticIs U C n d v := by
  obtain ⟨cfS, iS, kS, fS, st, cS, t1, t2, t3, t4, t5, t6, t7⟩ := S
  exact StaticIs.there (s := { Z with heap := U.heap }) ⟨cfS, iS, kS, fS, st, cS, t1, t2, t3, t4, t5, (fun q => by rw [q] at t6; cases t6), t7⟩ al rfl
end StrChars.Road
namespace StrChars
open Jvm Sem ClassFile Op Lib Jvm.Stand Jvm.Free.XT Jvm.Free.ALB Jvm.Free.JM Jvm.Free
open Jvm.Lib.Cold (StaticIs)
def yv (A : Cell) (i : Nat) : Int32 := match A.slots[i]? with | some (.int x) => x | _ => 0
theorem yv_get {a : Addr} {A : Cell} {U : State} (h : XT.Arr .byte a A U) (ht : Typed .byte A) {i : Nat} (hi : i < A.slots.size) : A.slots[i]? = some (.int (yv A i)) := by
  have e := Array.getElem?_eq_getElem hi
  have f := ht i _ e
  unfold yv; rw [e]
  generalize A.slots[i] = v at f
  cases v <;> simp [fits] at f ⊢
def EqC (A B : Cell) : Prop := A.slots.size = B.slots.size ∧ ∀ i, i < A.slots.size → yv A i = yv B i
def Says01 (q : Prop) (r : Option Value) (s u : State) : Prop := ∃ v : Int32, r = some (.int v) ∧ u.heap = s.heap ∧ ((v = 1 ∧ q) ∨ (v = 0 ∧ ¬ q))
theorem Says01.mv {q : Prop} : ∀ r (U U' V V' : State), U'.heap = U.heap → V.vm.Alike V'.vm → V'.heap = V.heap → Says01 q r U V → Says01 q r U' V' :=
  fun r U U' V V' h1 _ h2 ⟨v, a, b, c⟩ => ⟨v, a, by rw [h1, h2]; exact b, c⟩
namespace LEq
def yN : MethodName := ⟨"java/lang/StringLatin1", "equals", "([B[B)Z"⟩
abbrev yB : ByteArray := jdk_43_method_13_code
theorem d0 : decode yB 0 = .ok (.aload_n 0, 1) := by decide +kernel
theorem d1 : decode yB 1 = .ok (.arraylength, 1) := by decide +kernel
theorem d2 : decode yB 2 = .ok (.aload_n 1, 1) := by decide +kernel
theorem d3 : decode yB 3 = .ok (.arraylength, 1) := by decide +kernel
theorem d4 : decode yB 4 = .ok (.if_icmp (.ne) 30, 3) := by decide +kernel
theorem d7 : decode yB 7 = .ok (.iconst 0, 1) := by decide +kernel
theorem d8 : decode yB 8 = .ok (.istore_n 2, 1) := by decide +kernel
theorem d9 : decode yB 9 = .ok (.iload_n 2, 1) := by decide +kernel
theorem d10 : decode yB 10 = .ok (.aload_n 0, 1) := by decide +kernel
theorem d11 : decode yB 11 = .ok (.arraylength, 1) := by decide +kernel
theorem d12 : decode yB 12 = .ok (.if_icmp (.ge) 20, 3) := by decide +kernel
theorem d15 : decode yB 15 = .ok (.aload_n 0, 1) := by decide +kernel
theorem d16 : decode yB 16 = .ok (.iload_n 2, 1) := by decide +kernel
theorem d17 : decode yB 17 = .ok (.baload, 1) := by decide +kernel
theorem d18 : decode yB 18 = .ok (.aload_n 1, 1) := by decide +kernel
theorem d19 : decode yB 19 = .ok (.iload_n 2, 1) := by decide +kernel
theorem d20 : decode yB 20 = .ok (.baload, 1) := by decide +kernel
theorem d21 : decode yB 21 = .ok (.if_icmp (.eq) 5, 3) := by decide +kernel
theorem d24 : decode yB 24 = .ok (.iconst 0, 1) := by decide +kernel
theorem d25 : decode yB 25 = .ok (.ireturn, 1) := by decide +kernel
theorem d26 : decode yB 26 = .ok (.iinc 2 1, 3) := by decide +kernel
theorem d29 : decode yB 29 = .ok (.goto (-20), 3) := by decide +kernel
theorem d32 : decode yB 32 = .ok (.iconst 1, 1) := by decide +kernel
theorem d33 : decode yB 33 = .ok (.ireturn, 1) := by decide +kernel
theorem d34 : decode yB 34 = .ok (.iconst 0, 1) := by decide +kernel
theorem d35 : decode yB 35 = .ok (.ireturn, 1) := by decide +kernel
def site : List Cond := []
def tab : Cond := tabOf yN yB 3 (some .boolean) site
def P (a : Addr) (A : Cell) (b : Addr) (B : Cell) (args : Array Value) (s : State) : Prop := args = #[.ref a, .ref b] ∧ XT.Arr .byte a A s ∧ Typed .byte A ∧ XT.Arr .byte b B s ∧ Typed .byte B
theorem law (l : Launch) (a : Addr) (A : Cell) (b : Addr) (B : Cell) : Law l yN 2 2 0 0 yB 3 (some .boolean) site (P a A b B) (Says01 (EqC A B)) [] 0 0 := by
  refine Law.of_walk (plainFor_of_name (by decide +kernel)) (by decide +kernel) (by decide +kernel) (by decide) (fun _ _ h => by rw [h.1]; rfl) (fun _ U U' hal hh h => ⟨h.1, h.2.1.mv hal hh, h.2.2.1, h.2.2.2.1.mv hal hh, h.2.2.2.2⟩) (fun r U U' V V' h1 hal h2 h => Says01.mv r U U' V V' h1 hal h2 h) ?_
  intro p e s m args below meth c s₁ X0 hexec hbytes hml hret hlk hnm hown hh0 W hP
  obtain ⟨rfl, hA, tA, hB, tB⟩ := hP
  have a31 := hA.2.2.2
  have b31 := hB.2.2.2
  have hA0 := hA.mv X0.warmed.alike hh0
  have hB0 := hB.mv X0.warmed.alike hh0
  have c1 : Steps p.tables e below (s₁.setTop (entryFrame m #[.ref a, .ref b] 3)) (s₁.setTop (mkF m 0 #[.val (.ref a), .val (.ref b), .unset] [])) := entry rfl
  have c2 : Steps p.tables e below (s₁.setTop (entryFrame m #[.ref a, .ref b] 3)) (s₁.setTop (mkF m 4 #[.val (.ref a), .val (.ref b), .unset] [.int (Int32.ofNat B.slots.size), .int (Int32.ofNat A.slots.size)])) := c1.trans (by
    refine XS.aloadN X0.here hexec rfl (hb hbytes d0) rfl rfl ?_
    refine X0.alen hexec hA0 rfl rfl (hb hbytes d1) ?_
    refine XS.aloadN X0.here hexec rfl (hb hbytes d2) rfl rfl ?_
    refine X0.alen hexec hB0 rfl rfl (hb hbytes d3) ?_
    exact Steps.refl _)
  by_cases hs : A.slots.size = B.slots.size
  · have c3 : Steps p.tables e below (s₁.setTop (entryFrame m #[.ref a, .ref b] 3)) (s₁.setTop (mkF m 9 #[.val (.ref a), .val (.ref b), .val (.int 0)] [])) := c2.trans (by
      refine XS.icmpNo X0.here hexec rfl (hb hbytes d4) rfl (ii_ne_f (by rw [hs])) ?_
      refine iconstV X0.here hexec rfl 0 (hb hbytes d7) (by decide) ?_
      refine XS.istoreN X0.here hexec rfl (hb hbytes d8) rfl rfl ?_
      exact Steps.refl _)
    have loop : ∀ (r i : Nat), i + r = A.slots.size → (∀ j, j < i → yv A j = yv B j) → Steps p.tables e below (s₁.setTop (entryFrame m #[.ref a, .ref b] 3)) (s₁.setTop (mkF m 9 #[.val (.ref a), .val (.ref b), .val (.int (Int32.ofNat i))] [])) → ∃ (pc : Nat) (Ls : Array Slot) (v : Int32), (pc = 25 ∨ pc = 33) ∧ ((v = 1 ∧ EqC A B) ∨ (v = 0 ∧ ¬ EqC A B)) ∧ Steps p.tables e below (s₁.setTop (entryFrame m #[.ref a, .ref b] 3)) (s₁.setTop (mkF m pc Ls [.int v])) := by
      intro r
      induction r with
      | zero =>
        intro i hi he cl
        exact ⟨33, _, 1, Or.inr rfl, Or.inl ⟨rfl, hs, fun j hj => he j (by omega)⟩, cl.trans (by
          refine XS.iloadN X0.here hexec rfl (hb hbytes d9) rfl ?_
          refine XS.aloadN X0.here hexec rfl (hb hbytes d10) rfl rfl ?_
          refine X0.alen hexec hA0 rfl rfl (hb hbytes d11) ?_
          refine XS.icmpYes X0.here hexec rfl (pc0 := 12) rfl (hb hbytes d12) rfl (ii_ge_t (nlt32 (by omega) (by omega))) (by decide) rfl ?_
          refine iconstV X0.here hexec rfl 1 (hb hbytes d32) (by decide) ?_
          exact Steps.refl _)⟩
      | succ r ih =>
        intro i hi he cl
        have c4 : Steps p.tables e below (s₁.setTop (entryFrame m #[.ref a, .ref b] 3)) (s₁.setTop (mkF m 21 #[.val (.ref a), .val (.ref b), .val (.int (Int32.ofNat i))] [.int (yv B i), .int (yv A i)])) := cl.trans (by
          refine XS.iloadN X0.here hexec rfl (hb hbytes d9) rfl ?_
          refine XS.aloadN X0.here hexec rfl (hb hbytes d10) rfl rfl ?_
          refine X0.alen hexec hA0 rfl rfl (hb hbytes d11) ?_
          refine XS.icmpNo X0.here hexec rfl (hb hbytes d12) rfl (ii_ge_f (lt32 (by omega) (by omega))) ?_
          refine XS.aloadN X0.here hexec rfl (hb hbytes d15) rfl rfl ?_
          refine XS.iloadN X0.here hexec rfl (hb hbytes d16) rfl ?_
          refine X0.aget hexec hA0 rfl (yv_get hA tA (i := i) (by omega)) rfl rfl (hb hbytes d17) ?_
          refine XS.aloadN X0.here hexec rfl (hb hbytes d18) rfl rfl ?_
          refine XS.iloadN X0.here hexec rfl (hb hbytes d19) rfl ?_
          refine X0.aget hexec hB0 rfl (yv_get hB tB (i := i) (by omega)) rfl rfl (hb hbytes d20) ?_
          exact Steps.refl _)
        by_cases hv : yv A i = yv B i
        · have c5 : Steps p.tables e below (s₁.setTop (entryFrame m #[.ref a, .ref b] 3)) (s₁.setTop (mkF m 9 #[.val (.ref a), .val (.ref b), .val (.int (Int32.ofNat i + 1))] [])) := c4.trans (by
            refine XS.icmpYes X0.here hexec rfl (pc0 := 21) rfl (hb hbytes d21) rfl (ii_eq_t hv) (by decide) rfl ?_
            refine iincV X0.here hexec rfl 1 (hb hbytes d26) (by decide) rfl rfl ?_
            refine XS.goto X0.here hexec rfl (pc0 := 29) rfl (hb hbytes d29) (by decide) rfl ?_
            exact Steps.refl _)
          rw [succ32] at c5
          exact ih (i + 1) (by omega) (fun j hj => by
            by_cases e : j = i
            · rw [e]; exact hv
            · exact he j (by omega)) c5
        · exact ⟨25, _, 0, Or.inl rfl, Or.inr ⟨rfl, fun q => hv (q.2 i (by omega))⟩, c4.trans (by
            refine XS.icmpNo X0.here hexec rfl (hb hbytes d21) rfl (ii_eq_f hv) ?_
            refine iconstV X0.here hexec rfl 0 (hb hbytes d24) (by decide) ?_
            exact Steps.refl _)⟩
    obtain ⟨pc, Ls, v, hpc, hv, cz⟩ := loop A.slots.size 0 (by omega) (fun j hj => absurd hj (Nat.not_lt_zero j)) c3
    have nv : narrow .boolean (.int v) = .int v := by rcases hv with ⟨rfl, -⟩ | ⟨rfl, -⟩ <;> rfl
    rcases hpc with rfl | rfl
    · exact ⟨s₁, some (.int v), _, _, _, X0, rfl, rfl, rfl, (fun h => by cases h), ⟨v, rfl, hh0, hv⟩, fun fs hl => cz.trans (X0.ireturnOut hexec hret nv (Or.inr (Or.inl rfl)) (hb hbytes d25) hl)⟩
    · exact ⟨s₁, some (.int v), _, _, _, X0, rfl, rfl, rfl, (fun h => by cases h), ⟨v, rfl, hh0, hv⟩, fun fs hl => cz.trans (X0.ireturnOut hexec hret nv (Or.inr (Or.inl rfl)) (hb hbytes d33) hl)⟩
  · have c3 : Steps p.tables e below (s₁.setTop (entryFrame m #[.ref a, .ref b] 3)) (s₁.setTop (mkF m 35 #[.val (.ref a), .val (.ref b), .unset] [.int 0])) := c2.trans (by
      refine XS.icmpYes X0.here hexec rfl (pc0 := 4) rfl (hb hbytes d4) rfl (ii_ne_t (ne32 a31 b31 hs)) (by decide) rfl ?_
      refine iconstV X0.here hexec rfl 0 (hb hbytes d34) (by decide) ?_
      exact Steps.refl _)
    exact ⟨s₁, some (.int 0), _, _, _, X0, rfl, rfl, rfl, (fun h => by cases h), ⟨0, rfl, hh0, Or.inr ⟨rfl, fun q => hs q.1⟩⟩, fun fs hl => c3.trans (X0.ireturnOut hexec hret rfl (Or.inr (Or.inl rfl)) (hb hbytes d35) hl)⟩
end LEq
theorem Cod.ty {cd : Int32} {n : Nat} {f : Nat → Int32} {V : Cell} (h : Cod cd n f V) : Typed .byte V := fun i v hv => by
  have hi : i < V.slots.size := (Array.getElem?_eq_some_iff.mp hv).1
  rcases h with ⟨-, k1, k2⟩ | ⟨-, k1, k2, -⟩
  · rw [(k2 i (by omega)).1] at hv; cases hv; exact fits_lo8 _
  · rcases Nat.mod_two_eq_zero_or_one i with e | e
    · obtain ⟨j, rfl⟩ : ∃ j, i = 2 * j := ⟨i / 2, by omega⟩
      rw [(k2 j (by omega)).1] at hv; cases hv; exact fits_lo8 _
    · obtain ⟨j, rfl⟩ : ∃ j, i = 2 * j + 1 := ⟨i / 2, by omega⟩
      rw [(k2 j (by omega)).2] at hv; cases hv; exact fits_lo8 _
def SameT (n : Nat) (f : Nat → Int32) (k : Nat) (g : Nat → Int32) : Prop := n = k ∧ ∀ j, j < n → f j = g j
theorem lo8_inj {x y : Int32} (h0 : ¬ x < 0) (h1 : ¬ 255 < x) (k0 : ¬ y < 0) (k1 : ¬ 255 < y) (h : lo8 x = lo8 y) : x = y := by
  rw [← lo8_mask h0 h1, ← lo8_mask k0 k1, h]
theorem Cod.eqv {cd : Int32} {n k : Nat} {f g : Nat → Int32} {V V' : Cell} (h : Cod cd n f V) (h' : Cod cd k g V') (hf : ∀ j, j < n → ¬ f j < 0 ∧ ¬ 65535 < f j) (hg : ∀ j, j < k → ¬ g j < 0 ∧ ¬ 65535 < g j) : EqC V V' ↔ SameT n f k g := by
  have yvv : ∀ {W : Cell} {i : Nat} {x : Int32}, W.slots[i]? = some (.int x) → yv W i = x := fun q => by unfold yv; rw [q]
  rcases h with ⟨rfl, k1, k2⟩ | ⟨rfl, k1, k2, -⟩
  · rcases h' with ⟨-, m1, m2⟩ | ⟨e, -⟩
    · constructor
      · rintro ⟨e1, e2⟩
        refine ⟨by omega, fun j hj => ?_⟩
        have q := e2 j (by omega)
        rw [yvv (k2 j hj).1, yvv (m2 j (by omega)).1] at q
        exact lo8_inj (hf j hj).1 (k2 j hj).2 (hg j (by omega)).1 (m2 j (by omega)).2 q
      · rintro ⟨rfl, e2⟩
        refine ⟨by omega, fun j hj => ?_⟩
        rw [yvv (k2 j (by omega)).1, yvv (m2 j (by omega)).1, e2 j (by omega)]
    · exact absurd e (by decide)
  · rcases h' with ⟨e, -⟩ | ⟨-, m1, m2, -⟩
    · exact absurd e (by decide)
    · constructor
      · rintro ⟨e1, e2⟩
        refine ⟨by omega, fun j hj => ?_⟩
        have q1 := e2 (2 * j) (by omega)
        have q2 := e2 (2 * j + 1) (by omega)
        rw [yvv (k2 j hj).1, yvv (m2 j (by omega)).1] at q1
        rw [yvv (k2 j hj).2, yvv (m2 j (by omega)).2] at q2
        rw [← pair_says (hf j hj).1 (hf j hj).2, ← pair_says (hg j (by omega)).1 (hg j (by omega)).2, q1, q2]
      · rintro ⟨rfl, e2⟩
        refine ⟨by omega, fun i hi => ?_⟩
        rcases Nat.mod_two_eq_zero_or_one i with e | e
        · obtain ⟨j, rfl⟩ : ∃ j, i = 2 * j := ⟨i / 2, by omega⟩
          rw [yvv (k2 j (by omega)).1, yvv (m2 j (by omega)).1, e2 j (by omega)]
        · obtain ⟨j, rfl⟩ : ∃ j, i = 2 * j + 1 := ⟨i / 2, by omega⟩
          rw [yvv (k2 j (by omega)).2, yvv (m2 j (by omega)).2, e2 j (by omega)]
theorem Cod.dif {cd cd' : Int32} {n k : Nat} {f g : Nat → Int32} {V V' : Cell} (h : Cod cd n f V) (h' : Cod cd' k g V') (hne : ¬ cd = cd') : ¬ SameT n f k g := by
  rintro ⟨rfl, e⟩
  rcases h with ⟨rfl, -, k2⟩ | ⟨rfl, -, -, j, hj, hw⟩
  · rcases h' with ⟨rfl, -⟩ | ⟨-, -, -, j, hj, hw⟩
    · exact hne rfl
    · exact (k2 j hj).2 (by rw [e j hj]; exact hw)
  · rcases h' with ⟨-, -, m2⟩ | ⟨rfl, -⟩
    · exact (m2 j hj).2 (by rw [← e j hj]; exact hw)
    · exact hne rfl
theorem cinst {p : Program} {l : Launch} {e : Env} {R : Room} {s : State} {m : MethodId} {args : Array Value} {below : List Frame} {meth : Method} {c : Code} {T : State} {locs : List Loc} {cells slots : Nat} (X : Stand p l e R s m args below meth c T locs cells slots) (hexec : p.tables.exec = Jvm.exec) {own C : String} {index : Nat} (hown : s.vm.findClass own = some m.cls) (hlink : (Cond.classLink own index C).before args s = true) {a : Addr} (hE : Exact C a T)
    {g : JFrame} (hg : g.method = m) {rest : List Value} (hstack : g.stack = .ref a :: rest) (hdg : decode c.code g.pc = .ok (.instanceof index, 3)) :
    ∃ T', Stand p l e R s m args below meth c T' locs cells slots ∧ T'.heap = T.heap ∧ ∀ target, Steps p.tables e below (T'.setTop { g with pc := g.pc + 3, stack := .int 1 :: rest }) target → Steps p.tables e below (T.setTop g) target := by
  obtain ⟨cB, h1, D, h2, h3, h4⟩ := hE
  have h1' : s.vm.findClass C = some cB := by rw [← X.warmed.alike.findClass]; exact h1
  obtain ⟨vm', X', st⟩ := X.instanceofYes hexec hown hlink h2 h4 h1' (by rw [h3]; exact Jvm.Free.SB.assignable_self _ _) hg hstack hdg
  exact ⟨_, X', rfl, st⟩
theorem cself {p : Program} {l : Launch} {e : Env} {R : Room} {s : State} {m : MethodId} {args : Array Value} {below : List Frame} {meth : Method} {c : Code} {T : State} {locs : List Loc} {cells slots : Nat} (X : Stand p l e R s m args below meth c T locs cells slots) (hexec : p.tables.exec = Jvm.exec) {own C : String} {index : Nat} (hown : s.vm.findClass own = some m.cls) (hlink : (Cond.classLink own index C).before args s = true) {a : Addr} (hE : Exact C a T)
    {g : JFrame} (hg : g.method = m) {rest : List Value} (hstack : g.stack = .ref a :: rest) (hdg : decode c.code g.pc = .ok (.checkcast index, 3)) :
    ∃ T', Stand p l e R s m args below meth c T' locs cells slots ∧ T'.heap = T.heap ∧ ∀ target, Steps p.tables e below (T'.setTop { g with pc := g.pc + 3, stack := .ref a :: rest }) target → Steps p.tables e below (T.setTop g) target := by
  obtain ⟨cB, h1, D, h2, h3, h4⟩ := hE
  have h1' : s.vm.findClass C = some cB := by rw [← X.warmed.alike.findClass]; exact h1
  obtain ⟨vm', X', st⟩ := X.checkcastYes hexec hown hlink h2 h4 h1' (by rw [h3]; exact Jvm.Free.SB.assignable_self _ _) hg hstack hdg
  exact ⟨_, X', rfl, fun t h => st t (by rw [← hstack] at h; exact h)⟩
namespace SEq
def yN : MethodName := ⟨"java/lang/String", "equals", "(Ljava/lang/Object;)Z"⟩
abbrev yB : ByteArray := jdk_42_method_66_code
theorem d0 : decode yB 0 = .ok (.aload_n 0, 1) := by decide +kernel
theorem d1 : decode yB 1 = .ok (.aload_n 1, 1) := by decide +kernel
theorem d2 : decode yB 2 = .ok (.if_acmp (.ne) 5, 3) := by decide +kernel
theorem d5 : decode yB 5 = .ok (.iconst 1, 1) := by decide +kernel
theorem d6 : decode yB 6 = .ok (.ireturn, 1) := by decide +kernel
theorem d7 : decode yB 7 = .ok (.aload_n 1, 1) := by decide +kernel
theorem d8 : decode yB 8 = .ok (.instanceof 10, 3) := by decide +kernel
theorem d11 : decode yB 11 = .ok (.ifCond (.eq) 43, 3) := by decide +kernel
theorem d14 : decode yB 14 = .ok (.aload_n 1, 1) := by decide +kernel
theorem d15 : decode yB 15 = .ok (.checkcast 10, 3) := by decide +kernel
theorem d18 : decode yB 18 = .ok (.astore_n 2, 1) := by decide +kernel
theorem d19 : decode yB 19 = .ok (.getstatic 38, 3) := by decide +kernel
theorem d22 : decode yB 22 = .ok (.ifCond (.eq) 14, 3) := by decide +kernel
theorem d25 : decode yB 25 = .ok (.aload_n 0, 1) := by decide +kernel
theorem d26 : decode yB 26 = .ok (.getfield 15, 3) := by decide +kernel
theorem d29 : decode yB 29 = .ok (.aload_n 2, 1) := by decide +kernel
theorem d30 : decode yB 30 = .ok (.getfield 15, 3) := by decide +kernel
theorem d33 : decode yB 33 = .ok (.if_icmp (.ne) 21, 3) := by decide +kernel
theorem d36 : decode yB 36 = .ok (.aload_n 0, 1) := by decide +kernel
theorem d37 : decode yB 37 = .ok (.getfield 9, 3) := by decide +kernel
theorem d40 : decode yB 40 = .ok (.aload_n 2, 1) := by decide +kernel
theorem d41 : decode yB 41 = .ok (.getfield 9, 3) := by decide +kernel
theorem d44 : decode yB 44 = .ok (.invokestatic 541, 3) := by decide +kernel
theorem d47 : decode yB 47 = .ok (.ifCond (.eq) 7, 3) := by decide +kernel
theorem d50 : decode yB 50 = .ok (.iconst 1, 1) := by decide +kernel
theorem d51 : decode yB 51 = .ok (.goto 4, 3) := by decide +kernel
theorem d54 : decode yB 54 = .ok (.iconst 0, 1) := by decide +kernel
theorem d55 : decode yB 55 = .ok (.ireturn, 1) := by decide +kernel
def site : List Cond := [.classLink "java/lang/String" 10 "java/lang/String", .fieldLink "java/lang/String" 38 "java/lang/String" "COMPACT_STRINGS" "Z", .fieldLink "java/lang/String" 15 "java/lang/String" "coder" "B", .fieldLink "java/lang/String" 9 "java/lang/String" "value" "[B", LEq.tab] ++ staticW "java/lang/String" 541 LEq.yN
def tab : Cond := tabOf yN yB 3 (some .boolean) site
def P (x t : Addr) (V : Cell) (cd : Int32) (n : Nat) (f : Nat → Int32) (y t' : Addr) (V' : Cell) (cd' : Int32) (k : Nat) (g : Nat → Int32) (z : Int32) (args : Array Value) (s : State) : Prop := args = #[.ref x, .ref y] ∧ Txt x t V cd n f s ∧ Txt y t' V' cd' k g s ∧ StaticIs s "java/lang/String" "COMPACT_STRINGS" "Z" (.int z) ∧ ¬ z = 0
theorem law (l : Launch) (x t : Addr) (V : Cell) (cd : Int32) (n : Nat) (f : Nat → Int32) (y t' : Addr) (V' : Cell) (cd' : Int32) (k : Nat) (g : Nat → Int32) (z : Int32) : Law l yN 2 1 1 14 yB 3 (some .boolean) site (P x t V cd n f y t' V' cd' k g z) (Says01 (SameT n f k g)) [] 0 0 := by
  refine Law.of_walk (plainFor_of_name (by decide +kernel)) (by decide +kernel) (by decide +kernel) (by decide) (fun _ _ h => by rw [h.1]; rfl) (fun _ U U' hal hh h => ⟨h.1, h.2.1.mv hal hh, h.2.2.1.mv hal hh, h.2.2.2.1.there hal hh, h.2.2.2.2⟩) (fun r U U' V V' h1 hal h2 h => Says01.mv r U U' V V' h1 hal h2 h) ?_
  intro p e s m args below meth c s₁ X0 hexec hbytes hml hret hlk hnm hown hh0 W hP
  obtain ⟨rfl, hx, hy, s1, hz⟩ := hP
  have c1 : Steps p.tables e below (s₁.setTop (entryFrame m #[.ref x, .ref y] 3)) (s₁.setTop (mkF m 2 #[.val (.ref x), .val (.ref y), .unset] [.ref y, .ref x])) := Steps.trans (entry rfl) (by
    show Steps p.tables e below (s₁.setTop (mkF m 0 #[.val (.ref x), .val (.ref y), .unset] [])) _
    refine XS.aloadN X0.here hexec rfl (hb hbytes d0) rfl rfl ?_
    refine XS.aloadN X0.here hexec rfl (hb hbytes d1) rfl rfl ?_
    exact Steps.refl _)
  by_cases hxy : x = y
  · have c2 : Steps p.tables e below (s₁.setTop (entryFrame m #[.ref x, .ref y] 3)) (s₁.setTop (mkF m 6 #[.val (.ref x), .val (.ref y), .unset] [.int 1])) := c1.trans (by
      refine acmpNo X0.here hexec rfl (hb hbytes d2) rfl rfl rfl (by simp [acmp, hxy]) ?_
      refine iconstV X0.here hexec rfl 1 (hb hbytes d5) (by decide) ?_
      exact Steps.refl _)
    subst hxy
    have ec : cd = cd' := by
      obtain ⟨D, fd, a1, a2, a3⟩ := hx.2.2.1
      obtain ⟨D', fd', b1, b2, b3⟩ := hy.2.2.1
      cases a1.symm.trans b1
      obtain ⟨q1, q2, q3, q4⟩ := a2.1
      obtain ⟨r1, r2, r3, r4⟩ := b2.1
      cases q4.symm.trans r4
      cases a3.symm.trans b3; rfl
    have et : t = t' := by
      obtain ⟨D, fd, a1, a2, a3⟩ := hx.2.1
      obtain ⟨D', fd', b1, b2, b3⟩ := hy.2.1
      cases a1.symm.trans b1
      obtain ⟨q1, q2, q3, q4⟩ := a2.1
      obtain ⟨r1, r2, r3, r4⟩ := b2.1
      cases q4.symm.trans r4
      cases a3.symm.trans b3; rfl
    subst ec et
    have ev : V = V' := by cases hx.2.2.2.1.1.symm.trans hy.2.2.2.1.1; rfl
    subst ev
    have hs : SameT n f k g := (Cod.eqv hx.2.2.2.2.1 hy.2.2.2.2.1 hx.2.2.2.2.2 hy.2.2.2.2.2).mp ⟨rfl, fun _ _ => rfl⟩
    exact ⟨s₁, some (.int 1), _, _, _, X0, rfl, rfl, rfl, (fun h => by cases h), ⟨1, rfl, hh0, Or.inl ⟨rfl, hs⟩⟩, fun fs hl => c2.trans (X0.ireturnOut hexec hret rfl (Or.inr (Or.inl rfl)) (hb hbytes d6) hl)⟩
  · have c2 : Steps p.tables e below (s₁.setTop (entryFrame m #[.ref x, .ref y] 3)) (s₁.setTop (mkF m 8 #[.val (.ref x), .val (.ref y), .unset] [.ref y])) := c1.trans (by
      refine acmpYes X0.here hexec rfl (pc0 := 2) rfl (hb hbytes d2) rfl rfl rfl (by simp [acmp, hxy]) (by decide) rfl ?_
      refine XS.aloadN X0.here hexec rfl (hb hbytes d7) rfl rfl ?_
      exact Steps.refl _)
    obtain ⟨T3, X3, q3, st3⟩ := cinst X0 hexec hown (wk W (.classLink "java/lang/String" 10 "java/lang/String")) (hy.mv X0.warmed.alike hh0).1 (g := (mkF m 8 #[.val (.ref x), .val (.ref y), .unset] [.ref y])) rfl (rest := []) rfl (hb hbytes d8)
    have hh3 := q3.trans hh0
    have c4 : Steps p.tables e below (s₁.setTop (entryFrame m #[.ref x, .ref y] 3)) (T3.setTop (mkF m 15 #[.val (.ref x), .val (.ref y), .unset] [.ref y])) := (c2.trans (st3 _ (Steps.refl _))).trans (by
      refine XS.ifNo X3.here hexec rfl (hb hbytes d11) rfl (i0_eq_f (by decide)) ?_
      refine XS.aloadN X3.here hexec rfl (hb hbytes d14) rfl rfl ?_
      exact Steps.refl _)
    obtain ⟨T5, X5, q5, st5⟩ := cself X3 hexec hown (wk W (.classLink "java/lang/String" 10 "java/lang/String")) (hy.mv X3.warmed.alike hh3).1 (g := (mkF m 15 #[.val (.ref x), .val (.ref y), .unset] [.ref y])) rfl (rest := []) rfl (hb hbytes d15)
    have hh5 := q5.trans hh3
    have c6 : Steps p.tables e below (s₁.setTop (entryFrame m #[.ref x, .ref y] 3)) (T5.setTop (mkF m 19 #[.val (.ref x), .val (.ref y), .val (.ref y)] [])) := (c4.trans (st5 _ (Steps.refl _))).trans (by
      refine XS.astoreN X5.here hexec rfl (hb hbytes d18) rfl rfl rfl ?_
      exact Steps.refl _)
    obtain ⟨T7, X7, q7, st7⟩ := X5.sget hexec hown (wk W (.fieldLink "java/lang/String" 38 "java/lang/String" "COMPACT_STRINGS" "Z")) s1 (fun _ _ h => by rw [hh5]; exact h) (g := (mkF m 19 #[.val (.ref x), .val (.ref y), .val (.ref y)] [])) rfl (hb hbytes d19)
    have hh7 := q7.trans hh5
    have c8 : Steps p.tables e below (s₁.setTop (entryFrame m #[.ref x, .ref y] 3)) (T7.setTop (mkF m 26 #[.val (.ref x), .val (.ref y), .val (.ref y)] [.ref x])) := (c6.trans (st7 _ (Steps.refl _))).trans (by
      refine XS.ifNo X7.here hexec rfl (hb hbytes d22) rfl (i0_eq_f hz) ?_
      refine XS.aloadN X7.here hexec rfl (hb hbytes d25) rfl rfl ?_
      exact Steps.refl _)
    obtain ⟨T9, X9, q9, st9⟩ := X7.hget hexec hown (wk W (.fieldLink "java/lang/String" 15 "java/lang/String" "coder" "B")) (hx.mv X7.warmed.alike hh7).2.2.1 (g := (mkF m 26 #[.val (.ref x), .val (.ref y), .val (.ref y)] [.ref x])) rfl (rest := []) rfl (hb hbytes d26)
    have hh9 := q9.trans hh7
    have c10 : Steps p.tables e below (s₁.setTop (entryFrame m #[.ref x, .ref y] 3)) (T9.setTop (mkF m 30 #[.val (.ref x), .val (.ref y), .val (.ref y)] [.ref y, .int cd])) := (c8.trans (st9 _ (Steps.refl _))).trans (by
      refine XS.aloadN X9.here hexec rfl (hb hbytes d29) rfl rfl ?_
      exact Steps.refl _)
    obtain ⟨T11, X11, q11, st11⟩ := X9.hget hexec hown (wk W (.fieldLink "java/lang/String" 15 "java/lang/String" "coder" "B")) (hy.mv X9.warmed.alike hh9).2.2.1 (g := (mkF m 30 #[.val (.ref x), .val (.ref y), .val (.ref y)] [.ref y, .int cd])) rfl (rest := [.int cd]) rfl (hb hbytes d30)
    have hh11 := q11.trans hh9
    have c12 : Steps p.tables e below (s₁.setTop (entryFrame m #[.ref x, .ref y] 3)) (T11.setTop (mkF m 33 #[.val (.ref x), .val (.ref y), .val (.ref y)] [.int cd', .int cd])) := c10.trans (st11 _ (Steps.refl _))
    by_cases hcd : cd = cd'
    · subst hcd
      have c13 : Steps p.tables e below (s₁.setTop (entryFrame m #[.ref x, .ref y] 3)) (T11.setTop (mkF m 37 #[.val (.ref x), .val (.ref y), .val (.ref y)] [.ref x])) := c12.trans (by
        refine XS.icmpNo X11.here hexec rfl (hb hbytes d33) rfl (ii_ne_f rfl) ?_
        refine XS.aloadN X11.here hexec rfl (hb hbytes d36) rfl rfl ?_
        exact Steps.refl _)
      obtain ⟨T14, X14, q14, st14⟩ := X11.hget hexec hown (wk W (.fieldLink "java/lang/String" 9 "java/lang/String" "value" "[B")) (hx.mv X11.warmed.alike hh11).2.1 (g := (mkF m 37 #[.val (.ref x), .val (.ref y), .val (.ref y)] [.ref x])) rfl (rest := []) rfl (hb hbytes d37)
      have hh14 := q14.trans hh11
      have c15 : Steps p.tables e below (s₁.setTop (entryFrame m #[.ref x, .ref y] 3)) (T14.setTop (mkF m 41 #[.val (.ref x), .val (.ref y), .val (.ref y)] [.ref y, .ref t])) := (c13.trans (st14 _ (Steps.refl _))).trans (by
        refine XS.aloadN X14.here hexec rfl (hb hbytes d40) rfl rfl ?_
        exact Steps.refl _)
      obtain ⟨T16, X16, q16, st16⟩ := X14.hget hexec hown (wk W (.fieldLink "java/lang/String" 9 "java/lang/String" "value" "[B")) (hy.mv X14.warmed.alike hh14).2.1 (g := (mkF m 41 #[.val (.ref x), .val (.ref y), .val (.ref y)] [.ref y, .ref t])) rfl (rest := [.ref t]) rfl (hb hbytes d41)
      have hh16 := q16.trans hh14
      have c17 : Steps p.tables e below (s₁.setTop (entryFrame m #[.ref x, .ref y] 3)) (T16.setTop (mkF m 44 #[.val (.ref x), .val (.ref y), .val (.ref y)] [.ref t', .ref t])) := c15.trans (st16 _ (Steps.refl _))
      obtain ⟨v18, T18, X18, E18, g18⟩ := X16.callS hexec (LEq.law l t V t' V') hown (wks W (staticW "java/lang/String" 541 LEq.yN)) (wk W LEq.tab) (W := 0) (Nat.le_of_ble_eq_true rfl) (Nat.le_of_ble_eq_true rfl) (Nat.le_refl _) (Nat.le_refl _) (g := (mkF m 44 #[.val (.ref x), .val (.ref y), .val (.ref y)] [.ref t', .ref t])) rfl (by rw [hml]; rfl) c17 (argsL := [.ref t, .ref t']) (rest := []) rfl rfl (by show 2 * 0 + 0 ≤ _; decide) (hb hbytes d44) (⟨rfl, hx.2.2.2.1.mv X16.warmed.alike hh16, hx.2.2.2.2.1.ty, hy.2.2.2.1.mv X16.warmed.alike hh16, hy.2.2.2.2.1.ty⟩)
      obtain ⟨v, rfl, q18, hv⟩ := E18
      have iff := Cod.eqv hx.2.2.2.2.1 hy.2.2.2.2.1 hx.2.2.2.2.2 hy.2.2.2.2.2
      rcases hv with ⟨rfl, he⟩ | ⟨rfl, he⟩
      · have c19 : Steps p.tables e below (s₁.setTop (entryFrame m #[.ref x, .ref y] 3)) (T18.setTop (mkF m 55 #[.val (.ref x), .val (.ref y), .val (.ref y)] [.int 1])) := Steps.trans g18 (by
          refine XS.ifNo X18.here hexec rfl (hb hbytes d47) rfl (i0_eq_f (by decide)) ?_
          refine iconstV X18.here hexec rfl 1 (hb hbytes d50) (by decide) ?_
          refine XS.goto X18.here hexec rfl (pc0 := 51) rfl (hb hbytes d51) (by decide) rfl ?_
          exact Steps.refl _)
        exact ⟨T18, some (.int 1), _, _, _, X18, rfl, rfl, rfl, (fun h => by cases h), ⟨1, rfl, q18.trans hh16, Or.inl ⟨rfl, iff.mp he⟩⟩, fun fs hl => c19.trans (X18.ireturnOut hexec hret rfl (Or.inr (Or.inl rfl)) (hb hbytes d55) hl)⟩
      · have c19 : Steps p.tables e below (s₁.setTop (entryFrame m #[.ref x, .ref y] 3)) (T18.setTop (mkF m 55 #[.val (.ref x), .val (.ref y), .val (.ref y)] [.int 0])) := Steps.trans g18 (by
          refine XS.ifYes X18.here hexec rfl (pc0 := 47) rfl (hb hbytes d47) rfl (i0_eq_t rfl) (by decide) rfl ?_
          refine iconstV X18.here hexec rfl 0 (hb hbytes d54) (by decide) ?_
          exact Steps.refl _)
        exact ⟨T18, some (.int 0), _, _, _, X18, rfl, rfl, rfl, (fun h => by cases h), ⟨0, rfl, q18.trans hh16, Or.inr ⟨rfl, fun q => he (iff.mpr q)⟩⟩, fun fs hl => c19.trans (X18.ireturnOut hexec hret rfl (Or.inr (Or.inl rfl)) (hb hbytes d55) hl)⟩
    · have c13 : Steps p.tables e below (s₁.setTop (entryFrame m #[.ref x, .ref y] 3)) (T11.setTop (mkF m 55 #[.val (.ref x), .val (.ref y), .val (.ref y)] [.int 0])) := c12.trans (by
        refine XS.icmpYes X11.here hexec rfl (pc0 := 33) rfl (hb hbytes d33) rfl (ii_ne_t hcd) (by decide) rfl ?_
        refine iconstV X11.here hexec rfl 0 (hb hbytes d54) (by decide) ?_
        exact Steps.refl _)
      exact ⟨T11, some (.int 0), _, _, _, X11, rfl, rfl, rfl, (fun h => by cases h), ⟨0, rfl, hh11, Or.inr ⟨rfl, Cod.dif hx.2.2.2.2.1 hy.2.2.2.2.1 hcd⟩⟩, fun fs hl => c13.trans (X11.ireturnOut hexec hret rfl (Or.inr (Or.inl rfl)) (hb hbytes d55) hl)⟩
theorem pays {l : Launch} {R : Room} {p : Program} {e : Env} {below : List Frame} {s : State} {sargs : Array Value} {len W : Nat} (x t : Addr) (V : Cell) (cd : Int32) (n : Nat) (f : Nat → Int32) (y t' : Addr) (V' : Cell) (cd' : Int32) (k : Nat) (g : Nat → Int32) (z : Int32) (htab : tab.before sargs s = true) (hfr : 2 ≤ R.frames) (hlo : W + 28 ≤ R.locals) :
    Back l R p e below s sargs yN len W (fun A₁ a₁ => A₁.cells + 0 ≤ R.cells ∧ A₁.slots + 0 ≤ R.slots ∧ P x t V cd n f y t' V' cd' k g z a₁ A₁.U) (fun A₁ _ v₁ B₁ => Says01 (SameT n f k g) v₁ A₁.U B₁.U ∧ B₁.locs = A₁.locs ++ [] ∧ B₁.cells = A₁.cells + 0 ∧ B₁.slots = A₁.slots + 0) :=
  (law l x t V cd n f y t' V' cd' k g z).pays htab hfr (by omega)
end SEq
end StrChars
namespace StrChars.Road
open Jvm Sem ClassFile Op Lib Jvm.Stand Jvm.Free Jvm.Free.XT
open Jvm.Lib.Cold (StaticIs)
abbrev wordsEq : List Jvm.Cond := [.code SEq.yN SEq.yB 3 (some .boolean), .initialized ST, .classLink ST 10 ST, .fieldLink ST 38 ST "COMPACT_STRINGS" "Z", .fieldLink ST 15 ST "coder" "B", .fieldLink ST 9 ST "value" "[B", .methodLink ST 541 LEq.yN, .static LEq.yN, .code LEq.yN LEq.yB 3 (some .boolean), .initialized "java/lang/StringLatin1"]
theorem tabEq_of {a : Array Value} {s : State} (h : ∀ w ∈ wordsEq, w.before a s = true) : SEq.tab.before a s = true := by
  have hl : LEq.tab.before a s = true := unparts (wk h (.code LEq.yN LEq.yB 3 (some .boolean))) (wks h (.initialized LEq.yN.cls :: LEq.site))
  have q := consq hl h
  exact unparts (wk q (.code SEq.yN SEq.yB 3 (some .boolean))) (wks q (.initialized SEq.yN.cls :: SEq.site))
theorem movedEq {Z s : State} {a0 args : Array Value} (hZ : Z.Warmed39 s.vm) (hw : ∀ d ∈ wordsEq, d.before a0 Z = true) : ∀ d ∈ wordsEq, d.before args s = true := fun d hd => by
  have t : ∀ d ∈ wordsEq, (d.onTables && d.keepsFace) = true := by decide +kernel
  exact RoadKit.mv hZ (hw d hd) (t d hd)
theorem txt_of {Z U : State} {a0 : Array Value} {kI : Nat} (wi : (Jvm.Cond.instantiable ST kI).before a0 Z = true) (al : Z.vm.Alike U.vm) {x t : Addr} {kb : ClassId} {cs : List Int32} {cd N2 : Int32} {vs : List Value} (E : RoadKit.Exa Z U.heap x ST) (V : RoadKit.Fld Z U.heap x ST "value" "[B" (.ref t)) (C : RoadKit.Fld Z U.heap x ST "coder" "B" (.int cd)) (K : RoadKit.Arv Z U.heap t kb .byte N2 vs (.int 0)) (hc : CodA cs cd N2 vs) (hb : ∀ c ∈ cs, ¬ c < 0 ∧ ¬ (65535 : Int32) < c) (l2 : cs.length ≤ 4000) :
    ∃ A, Txt x t A cd cs.length (fun j => cs.getD j 0) U := by
  obtain ⟨A, K1, K2, K3, K4, K5, K6⟩ := K
  have hcod := hc.cod (by omega) K3 K5
  obtain ⟨D, fV, fC, hB, F1, F2, g1, g2, -, -⟩ := strObj wi al E V C
  exact ⟨A, ⟨_, hB.2.2.1, D, hB.1, rfl, by cases q : D.vm <;> first | rfl | exact absurd q (hB.2.1.2 _)⟩, Has.of hB F1 g1, Has.of hB F2 g2, ⟨K1.1, State.isArrayOf_alike al K1.2.1, K1.2.2, by rcases hcod with ⟨-, q, -⟩ | ⟨-, q, -⟩ <;> omega⟩, hcod, fun j hj => by
    have e : cs.getD j 0 = cs[j] := by simp [List.getD_eq_getElem?_getD, hj]
    show ¬ cs.getD j 0 < 0 ∧ ¬ 65535 < cs.getD j 0
    rw [e]; exact hb _ (List.getElem_mem _)⟩
theorem same_list (cs ds : List Int32) : SameT cs.length (fun j => cs.getD j 0) ds.length (fun j => ds.getD j 0) ↔ cs = ds := by
  constructor
  · rintro ⟨e, q⟩
    refine List.ext_getElem e fun j h1 h2 => ?_
    have := q j h1
    simpa [List.getD_eq_getElem?_getD, h1, h2] using this
  · rintro rfl
    exact ⟨rfl, fun _ _ => rfl⟩
theorem eqW {p : Program} {l : Launch} {e : Env} {R : Room} {s : State} {args : Array Value} {below : List Frame} {len W : Nat} {Z : State} {a0 : Array Value} {h : Heap} (hZ : Z.Warmed39 s.vm) (hw : ∀ d ∈ wordsEq, d.before a0 Z = true) {kI : Nat} (wi : (Jvm.Cond.instantiable ST kI).before a0 Z = true)
    {x t : Addr} {kb : ClassId} {cs : List Int32} {cd N2 : Int32} {vs : List Value} (E : RoadKit.Exa Z h x ST) (V : RoadKit.Fld Z h x ST "value" "[B" (.ref t)) (C : RoadKit.Fld Z h x ST "coder" "B" (.int cd)) (K : RoadKit.Arv Z h t kb .byte N2 vs (.int 0)) (hc : CodA cs cd N2 vs) (hb : ∀ c ∈ cs, ¬ c < 0 ∧ ¬ (65535 : Int32) < c) (l2 : cs.length ≤ 4000)
    {y t' : Addr} {kb' : ClassId} {ds : List Int32} {cd' N2' : Int32} {vs' : List Value} (E' : RoadKit.Exa Z h y ST) (V' : RoadKit.Fld Z h y ST "value" "[B" (.ref t')) (C' : RoadKit.Fld Z h y ST "coder" "B" (.int cd')) (K' : RoadKit.Arv Z h t' kb' .byte N2' vs' (.int 0)) (hc' : CodA ds cd' N2' vs') (hb' : ∀ c ∈ ds, ¬ c < 0 ∧ ¬ (65535 : Int32) < c) (l2' : ds.length ≤ 4000)
    {z : Int32} (S : RoadKit.Sta Z h ST "COMPACT_STRINGS" "Z" (.int z)) (hz : ¬ z = 0) (hfr : 2 ≤ R.frames) (hlo : W + 28 ≤ R.locals) :
    Back l R p e below s args (⟨"java/lang/String", "equals", "(Ljava/lang/Object;)Z"⟩ : MethodName) len W (fun P a => a = #[.ref x, .ref y] ∧ P.U.heap = h ∧ P.cells + 0 ≤ R.cells ∧ P.slots + 0 ≤ R.slots)
      (fun P _ v B => ∃ L, (((v = some (.int 1) ∧ cs = ds) ∨ (v = some (.int 0) ∧ ¬ cs = ds)) ∧ L = [] ∧ B.U.heap = h) ∧ B.locs = P.locs ++ L ∧ B.cells = P.cells + 0 ∧ B.slots = P.slots + 0) := by
  intro m meth c P g ig mk a X hg hsize hdg hW hn hp'
  obtain ⟨rfl, rfl, r1, r2⟩ := hp'
  have al : Z.vm.Alike P.U.vm := hZ.alike.trans X.warmed.alike
  obtain ⟨A, hx⟩ := txt_of wi al E V C K hc hb l2
  obtain ⟨A', hy⟩ := txt_of wi al E' V' C' K' hc' hb' l2'
  obtain ⟨v, B, X', ⟨⟨w, hv, hh, hq⟩, hl, hk, hs⟩, st⟩ := SEq.pays x t A cd cs.length (fun j => cs.getD j 0) y t' A' cd' ds.length (fun j => ds.getD j 0) z (tabEq_of (movedEq hZ hw)) hfr hlo m meth c P g ig mk _ X hg hsize hdg hW hn ⟨r1, r2, rfl, hx, hy, sta_is al S, hz⟩
  refine ⟨v, B, X', ⟨[], ⟨?_, rfl, hh⟩, hl, hk, hs⟩, st⟩
  rcases hq with ⟨rfl, q⟩ | ⟨rfl, q⟩
  · exact Or.inl ⟨hv, (same_list cs ds).mp q⟩
  · exact Or.inr ⟨hv, fun e => q ((same_list cs ds).mpr e)⟩
end StrChars.Road
end Jvm.Pilot.@@N@@
namespace Jvm.Pilot.@@N@@
open Jvm Jvm.ClassFile Sem Op Lib Jvm.Free Jvm.Stand Jvm.LawKit Jvm.RoadKit Bundle Jvm.Pilot.@@N@@.Jvm.D
abbrev SN : String := "java/lang/String"
abbrev DW : String := "com/example/dendrodiff/dendrodiff/document/DocumentWriter"
abbrev LW : String := "com/example/dendrodiff/dendrodiff/document/DocumentWriterEscapeInAttributePinLaw"
abbrev yEsc : MethodName := ⟨DW, "escapeInAttribute", "(CC)Ljava/lang/String;"⟩
abbrev yDec : MethodName := ⟨LW, "decode", "(Ljava/lang/String;)I"⟩
abbrev yEq : MethodName := ⟨SN, "equals", "(Ljava/lang/Object;)Z"⟩
abbrev rmE : Room := { frames := 0, cells := 2, slots := 28, locals := 0 }
abbrev rmD : Room := { frames := 2, cells := 14, slots := 196, locals := 28 }
theorem wq {Z : State} {az : Array Value} (hw : ∀ d ∈ tables_1, d.before az Z = true) (i : Nat) {d : Jvm.Cond} (h : tables_1[i]? = some d) : d.before az Z = true := hw _ (List.mem_of_getElem? h)
/-! ## the texts -/
def tQ : List Int32 := [38, 113, 117, 111, 116, 59]
def tA : List Int32 := [38, 97, 112, 111, 115, 59]
def tM : List Int32 := [38, 97, 109, 112, 59]
def tL : List Int32 := [38, 108, 116, 59]
def t9 : List Int32 := [38, 35, 57, 59]
def t10 : List Int32 := [38, 35, 49, 48, 59]
def t13 : List Int32 := [38, 35, 49, 51, 59]
def vsOf (cs : List Int32) : List Value := cs.map fun c => Value.int (StrChars.lo8 c)
/-- every sign below 256, and not many -/
def Small (cs : List Int32) : Prop := (∀ c ∈ cs, ¬ c < 0 ∧ ¬ (255 : Int32) < c) ∧ cs.length ≤ 8
instance (cs : List Int32) : Decidable (Small cs) := by unfold Small; infer_instance
/-- at a there stands a compact String that says cs -/
def Str (Z : State) (h : Heap) (a : Addr) (cs : List Int32) : Prop := ∃ (b : Addr) (k : ClassId), Exa Z h a SN ∧ Fld Z h a SN "coder" "B" (.int 0) ∧ Fld Z h a SN "value" "[B" (.ref b) ∧ Arv Z h b k .byte (Int32.ofNat cs.length) (vsOf cs) (.int 0)
theorem Str.ext {Z : State} {h h' : Heap} {a : Addr} {cs : List Int32} (F : Str Z h a cs) (E : Ext h h') : Str Z h' a cs := by
  obtain ⟨b, k, f1, f2, f3, f4⟩ := F
  exact ⟨b, k, f1.ext E, f2.ext E, f3.ext E, f4.ext E⟩
def esc (c q : Int32) : Option (List Int32) := if c = q then (if c = 34 then some tQ else some tA) else if c = 9 then some t9 else if c = 10 then some t10 else if c = 13 then some t13 else if c = 38 then some tM else if c = 60 then some tL else none
def dec (cs : List Int32) : Int32 := if cs = tQ then 34 else if cs = tA then 39 else if cs = tM then 38 else if cs = tL then 60 else if cs = t9 then 9 else if cs = t10 then 10 else if cs = t13 then 13 else -1
theorem own_esc_small {c q : Int32} {cs : List Int32} (h : esc c q = some cs) : Small cs := by
  have a : ∀ t : List Int32, Small t → some t = some cs → Small cs := fun t ht e => by rw [← Option.some.inj e]; exact ht
  unfold esc at h
  split at h
  · split at h
    · exact a _ (by decide) h
    · exact a _ (by decide) h
  · split at h
    · exact a _ (by decide) h
    · split at h
      · exact a _ (by decide) h
      · split at h
        · exact a _ (by decide) h
        · split at h
          · exact a _ (by decide) h
          · split at h
            · exact a _ (by decide) h
            · cases h
/-- the law's own word on what must be escaped, against the writer's answer -/
theorem own_must (c q b : Int32) (hq : q = 34 ∨ q = 39) (hb : (if c = q then (1 : Int32) else if c = 38 then 1 else if c = 60 then 1 else if c = 9 then 1 else if c = 10 then 1 else if c = 13 then 1 else 0) = b) :
    (b = 0 ∧ esc c q = none) ∨ (b = 1 ∧ ∃ cs, esc c q = some cs ∧ dec cs = c) := by
  subst hb
  by_cases h0 : c = q
  · refine Or.inr ⟨if_pos h0, ?_⟩
    subst h0
    rcases hq with rfl | rfl
    · exact ⟨tQ, by decide, by decide⟩
    · exact ⟨tA, by decide, by decide⟩
  · by_cases h1 : c = 38
    · subst h1; exact Or.inr ⟨by rw [if_neg h0]; rfl, tM, by rw [esc, if_neg h0]; rfl, by decide⟩
    · by_cases h2 : c = 60
      · subst h2; exact Or.inr ⟨by rw [if_neg h0]; rfl, tL, by rw [esc, if_neg h0]; rfl, by decide⟩
      · by_cases h3 : c = 9
        · subst h3; exact Or.inr ⟨by rw [if_neg h0]; rfl, t9, by rw [esc, if_neg h0]; rfl, by decide⟩
        · by_cases h4 : c = 10
          · subst h4; exact Or.inr ⟨by rw [if_neg h0]; rfl, t10, by rw [esc, if_neg h0]; rfl, by decide⟩
          · by_cases h5 : c = 13
            · subst h5; exact Or.inr ⟨by rw [if_neg h0]; rfl, t13, by rw [esc, if_neg h0]; rfl, by decide⟩
            · exact Or.inl ⟨by rw [if_neg h0, if_neg h1, if_neg h2, if_neg h3, if_neg h4, if_neg h5], by rw [esc, if_neg h0, if_neg h3, if_neg h4, if_neg h5, if_neg h1, if_neg h2]⟩
/-! ## the constants' words -/
theorem own_atoms {Z : State} {az : Array Value} (hw : ∀ d ∈ tables_1, d.before az Z = true) : ∀ a ∈ Bundle.stringAtoms, a.before az Z = true := fun d hd => by
  simp only [Bundle.stringAtoms, List.mem_cons, List.not_mem_nil, or_false] at hd
  rcases hd with rfl | rfl | rfl | rfl | rfl | rfl | rfl
  all_goals first | exact wq hw 7 rfl | exact wq hw 8 rfl | exact wq hw 9 rfl | exact wq hw 10 rfl | exact wq hw 11 rfl | exact wq hw 12 rfl | exact wq hw 13 rfl
theorem own_EL {Z : State} {az : Array Value} (hw : ∀ d ∈ tables_1, d.before az Z = true) : EW Z az consts_1 :=
  EW.cons (wq hw 6 rfl) (by decide) <| EW.cons (wq hw 43 rfl) (by decide) <| EW.cons (wq hw 25 rfl) (by decide) <| EW.cons (wq hw 37 rfl) (by decide) <| EW.cons (wq hw 44 rfl) (by decide) <| EW.cons (wq hw 45 rfl) (by decide) <| EW.cons (wq hw 39 rfl) (by decide) <|
  EW.cons (wq hw 18 rfl) (by decide) <| EW.cons (wq hw 35 rfl) (by decide) <| EW.cons (wq hw 36 rfl) (by decide) <| EW.cons (wq hw 38 rfl) (by decide) <| EW.cons (wq hw 40 rfl) (by decide) <| EW.cons (wq hw 41 rfl) (by decide) <| EW.cons (wq hw 42 rfl) (by decide) EW.nil
theorem own_eqw {Z : State} {az : Array Value} (hw : ∀ d ∈ tables_1, d.before az Z = true) : ∀ d ∈ StrChars.Road.wordsEq, d.before az Z = true := fun d hd => by
  simp only [StrChars.Road.wordsEq, List.mem_cons, List.not_mem_nil, or_false] at hd
  rcases hd with rfl | rfl | rfl | rfl | rfl | rfl | rfl | rfl | rfl | rfl
  · exact wq hw 23 rfl
  · exact wq hw 7 rfl
  · exact wq hw 26 rfl
  · exact wq hw 28 rfl
  · exact wq hw 29 rfl
  · exact wq hw 30 rfl
  · exact wq hw 31 rfl
  · exact wq hw 32 rfl
  · exact wq hw 34 rfl
  · exact wq hw 33 rfl
theorem own_len {ds : List Int32} (h : Small ds) : ¬ Int32.ofNat ds.length < 0 ∧ (Int32.ofNat ds.length).toNatClampNeg = (vsOf ds).length := by
  have e : (vsOf ds).length = ds.length := by simp [vsOf]
  rw [e]
  have b := h.2
  generalize ds.length = n at b
  have c : n = 0 ∨ n = 1 ∨ n = 2 ∨ n = 3 ∨ n = 4 ∨ n = 5 ∨ n = 6 ∨ n = 7 ∨ n = 8 := by omega
  rcases c with rfl | rfl | rfl | rfl | rfl | rfl | rfl | rfl | rfl <;> decide
section Walk
variable {p : Program} {l : Launch} {e : Env} {R : Room} {s : State} {m : MethodId} {args : Array Value} {below : List Frame} {meth : Method} {c : Code} {T : State} {locs : List Loc} {cells slots : Nat} {Z : State} {az : Array Value} {EL : List (String × Nat)} {h : Heap} {vm0 : Vm}
/-- equals of two Strings that say cs and ds -/
theorem own_eq (X : Stand p l e R s m args below meth c T locs cells slots) (hx : p.tables.exec = Jvm.exec) (hZ : Z.Warmed39 s.vm) (hown : s.vm.findClass LW = some m.cls) (hw : ∀ d ∈ tables_1, d.before az Z = true) (eT : T.heap = h)
    {x y : Addr} {cs ds : List Int32} (F : Str Z h x cs) (G : Str Z h y ds) (hcs : Small cs) (hds : Small ds) {zz : Int32} (S : Sta Z h SN "COMPACT_STRINGS" "Z" (.int zz)) (hzz : ¬ zz = 0)
    {g : JFrame} (hg : g.method = m) (hsize : g.locals.size = c.maxLocals) (hstack : g.stack = [.ref y, .ref x]) (hmon : g.monitorRoom = 0) (hdg : decode c.code g.pc = .ok (.invokevirtual 9, 3)) (hfr : 2 ≤ R.frames) (hlo : 28 ≤ R.locals) (hc : cells ≤ R.cells) (hs : slots ≤ R.slots) :
    ∃ (v : Int32) (T' : State), Stand p l e R s m args below meth c T' locs cells slots ∧ T'.heap = h ∧ ((v = 1 ∧ cs = ds) ∨ (v = 0 ∧ ¬ cs = ds)) ∧ Steps p.tables e below (T.setTop g) (T'.setTop { g with pc := g.pc + 3, stack := [.int v] }) := by
  obtain ⟨b, k, f1, f2, f3, f4⟩ := F
  obtain ⟨b', k', g1, g2, g3, g4⟩ := G
  have up : ∀ {t : List Int32}, Small t → ∀ c ∈ t, ¬ c < 0 ∧ ¬ (65535 : Int32) < c := fun ht c hc => ⟨(ht.1 c hc).1, fun q => (ht.1 c hc).2 (by
    have l0 : (255 : Int32).toInt = 255 := by decide
    have l1 : (65535 : Int32).toInt = 65535 := by decide
    rw [Int32.lt_iff_toInt_lt] at q ⊢; omega)⟩
  have cod : ∀ {t : List Int32}, Small t → StrChars.Road.CodA t 0 (Int32.ofNat t.length) (vsOf t) := fun ht => Or.inl ⟨rfl, rfl, rfl, fun c hc => (ht.1 c hc).2⟩
  obtain ⟨cq, kq, qa, qb, qc⟩ := isOf hZ eT f1
  obtain ⟨v, vm1, ⟨T', L', k2, n2⟩, -, X', ⟨L, hQ, l1, y1, z1⟩, st⟩ := X.virtualBack hx (y := yEq) (z := yEq) hown (mvT hZ (wq hw 19 rfl)) (mvT hZ (wq hw 20 rfl)) (notFace_of_selects (args := #[]) (mvT hZ (wq hw 22 rfl))) (mvT hZ (wq hw 22 rfl)) (mvT hZ (wq hw 21 rfl)) (by decide)
    (StrChars.Road.eqW (W := 0) hZ (own_eqw hw) (kI := 4) (wq hw 8 rfl) f1 f3 f2 f4 (cod hcs) (up hcs) (Nat.le_trans hcs.2 (by decide)) g1 g3 g2 g4 (cod hds) (up hds) (Nat.le_trans hds.2 (by decide)) S hzz hfr (by omega)) qa qc (g := g) hg hsize (Steps.refl _) (argsL := [.ref y]) (rest := []) (fun sig q => by cases q; rfl) hstack (by rw [hmon]; simp) hdg (fun _ _ => ⟨rfl, eT, hc, hs⟩)
  dsimp only [Pt.U, Pt.locs, Pt.cells, Pt.slots] at X' l1 y1 z1 st hQ
  obtain ⟨hv, rfl, e1⟩ := hQ
  rw [List.append_nil] at l1
  subst l1
  rw [Nat.add_zero] at y1 z1
  subst y1 z1
  rcases hv with ⟨rfl, q⟩ | ⟨rfl, q⟩
  · exact ⟨1, T', X', e1, Or.inl ⟨rfl, q⟩, st⟩
  · exact ⟨0, T', X', e1, Or.inr ⟨rfl, q⟩, st⟩
/-- one question of decode: is the text ds? -/
theorem own_block (X : Stand p l e R (s.setVm vm0) m args below meth c T locs cells slots) (hx : p.tables.exec = Jvm.exec) (hZ : Z.Warmed39 vm0) (hown : vm0.findClass LW = some m.cls) (hml : c.maxLocals = 1) (hw : ∀ d ∈ tables_1, d.before az Z = true) (eT : T.heap = h) {k0 : Nat} (hS : s.Since vm0 k0) (hk : k0 ≤ h.size)
    {index : Nat} {text : String} (hmem : (LW, index) ∈ consts_1) (w : (Cond.stringLink LW index text).before az Z = true) (H : CHv Z consts_1 vm0 h) {x : Addr} {cs : List Int32} (F : Str Z h x cs) (hcs : Small cs) {zz : Int32} (S : Sta Z h SN "COMPACT_STRINGS" "Z" (.int zz)) (hzz : ¬ zz = 0)
    {ds : List Int32} (hds : Small ds) (ht : (∀ c ∈ text.toList, c.toNat < 256) ∧ text.toList.map (fun c => Value.int (Jvm.Lit.byteI c.toNat.toUInt16)) = vsOf ds) (hn : 4 * text.toList.length ≤ 24)
    {pc : Nat} (d0 : decode c.code pc = .ok (.aload_n 0, 1)) (d1 : decode c.code (pc + 1) = .ok (.ldc index, 2)) (d3 : decode c.code (pc + 3) = .ok (.invokevirtual 9, 3)) (d6 : decode c.code (pc + 6) = .ok (.ifCond .eq 6, 3))
    (hc : cells + 2 ≤ R.cells) (hl : slots + 28 ≤ R.slots) (hfr : 2 ≤ R.frames) (hlo : 28 ≤ R.locals) :
    ∃ (T' : State) (h' : Heap) (k1 : Nat), Stand p l e R (s.setVm T'.vm) m args below meth c T' locs (cells + 2) (slots + 28) ∧ T'.heap = h' ∧ Ext h h' ∧ s.Since T'.vm k1 ∧ k1 ≤ h'.size ∧ Z.Warmed39 T'.vm ∧ T'.vm.findClass LW = some m.cls ∧ CHr Z consts_1 vm0 h T'.vm h' ∧
      ((cs = ds ∧ ∀ t, Steps p.tables e below (T'.setTop (mkF m (pc + 9) #[.val (.ref x)] [])) t → Steps p.tables e below (T.setTop (mkF m pc #[.val (.ref x)] [])) t) ∨
       (¬ cs = ds ∧ ∀ t, Steps p.tables e below (T'.setTop (mkF m (pc + 12) #[.val (.ref x)] [])) t → Steps p.tables e below (T.setTop (mkF m pc #[.val (.ref x)] [])) t)) := by
  obtain ⟨a, T1, h1, k1, b, k, X1, e1, E1, hS1, hk1, hZ1, hown1, x1, x2, x3, x4, -, -, hC1, -, -, st1⟩ := ldcCH X hx hZ hown w (own_atoms hw) eT hS hk (own_EL hw) hmem H ht (own_len hds).1 (own_len hds).2 (g := mkF m (pc + 1) #[.val (.ref x)] [.ref x]) rfl d1 (n := 24) hn (by decide) hc hl
  obtain ⟨v, T2, X2, e2, hv, st2⟩ := own_eq X1 hx hZ1 hown1 hw e1 (F.ext E1) ⟨b, k, x1, x2, x3, x4⟩ hcs hds (S.ext E1) hzz (g := mkF m (pc + 3) #[.val (.ref x)] [.ref a, .ref x]) rfl (by rw [hml]; rfl) rfl rfl d3 hfr hlo hc hl
  have X3 : Stand p l e R (s.setVm T2.vm) m args below meth c T2 locs (cells + 2) (slots + 28) := X2.retabled X2.warmed.wide
  have hS2 : s.Since T2.vm k1 := hS1.trans (X2.warmed.since k1) (Nat.le_refl _)
  have hZ2 : Z.Warmed39 T2.vm := wtrans hZ1 X2.warmed
  have hown2 : T2.vm.findClass LW = some m.cls := by rw [X2.warmed.alike.findClass]; exact hown1
  have hC2 : CHr Z consts_1 vm0 h T2.vm h1 := hC1.trans (CHv.at X2 hZ1 (own_EL hw) hC1.1)
  have go : ∀ t, Steps p.tables e below (T2.setTop (mkF m (pc + 6) #[.val (.ref x)] [.int v])) t → Steps p.tables e below (T.setTop (mkF m pc #[.val (.ref x)] [])) t := fun t q => by
    refine XS.aloadN X.here hx rfl d0 rfl rfl ?_
    exact st1 _ (st2.trans q)
  refine ⟨T2, h1, k1, X3, e2, E1, hS2, hk1, hZ2, hown2, hC2, ?_⟩
  rcases hv with ⟨rfl, q⟩ | ⟨rfl, q⟩
  · exact Or.inl ⟨q, fun t r => go t (XS.ifNo X3.here hx rfl d6 rfl (by decide) r)⟩
  · exact Or.inr ⟨q, fun t r => go t (XS.ifYes X3.here hx rfl (pc0 := pc + 6) (pc' := pc + 12) rfl d6 rfl (by decide) (by omega) (by omega) r)⟩
def QDec (v : Int32) (w : Option Value) (h' : Heap) (L : List Loc) : Prop := L = [] ∧ w = some (.int v)
def PDec (Z s : State) (below : List Frame) (v : Int32) (s₂ : State) (o : Outcome) : Prop := s₂.status = .running ∧ Ended s₂ below o ∧ ∃ w L, o = .returned w ∧ QDec v w s₂.heap L ∧ CHr Z consts_1 s.vm s.heap s₂.vm s₂.heap ∧ ReturnedEndW s o s₂ L 14 196
theorem own_decEnd (X : Stand p l e R (s.setVm vm0) m args below meth c T [] cells slots) (hx : p.tables.exec = Jvm.exec) {k1 : Nat} (hS : s.Since vm0 k1) (hk : k1 ≤ T.heap.size) (hret : meth.sig.returnType = some .int) (hlk : meth.locks = false) (hC : CHr Z consts_1 s.vm s.heap T.vm T.heap) (hc : cells ≤ 14) (hs : slots ≤ 196)
    {pc : Nat} {Ls : Array Slot} {v : Int32} (d : decode c.code pc = .ok (.ireturn, 1)) : Goes p.tables e below (PDec Z s below v) (T.setTop (mkF m pc Ls [.int v])) := by
  obtain ⟨fs, hr, hrun, hended, hE⟩ := (X.mono hc hs).leaveW hS hk (v := some (.int v)) (fun h => by rw [hret] at h; cases h) hlk
  exact Goes.mk _ _ (retI X hx hret d hr) ⟨hrun, hended, _, _, rfl, ⟨rfl, rfl⟩, hC, hE⟩
def QEsc (Z : State) (h : Heap) (cc q : Int32) (w : Option Value) (h' : Heap) (L : List Loc) : Prop := L = [] ∧ Ext h h' ∧ ((esc cc q = none ∧ w = some .null) ∨ ∃ cs a, esc cc q = some cs ∧ w = some (.ref a) ∧ Str Z h' a cs)
def PEsc (Z s : State) (h : Heap) (below : List Frame) (cc q : Int32) (s₂ : State) (o : Outcome) : Prop := s₂.status = .running ∧ Ended s₂ below o ∧ ∃ w L, o = .returned w ∧ QEsc Z h cc q w s₂.heap L ∧ CHr Z consts_1 s.vm s.heap s₂.vm s₂.heap ∧ ReturnedEndW s o s₂ L 2 28
/-- the writer's answer: load the constant, return it -/
theorem own_escEnd (X : Stand p l e R (s.setVm s.vm) m args below meth c T [] 0 0) (hx : p.tables.exec = Jvm.exec) (hZ : Z.Warmed39 s.vm) (hown : s.vm.findClass DW = some m.cls) (hw : ∀ d ∈ tables_1, d.before az Z = true) (eT : T.heap = h) (es : s.heap = h) (hS : s.Since s.vm h.size) (H : CHv Z consts_1 s.vm h)
    (hret : meth.sig.returnType = some (.object "java/lang/String")) (hlk : meth.locks = false) {index : Nat} {text : String} (hmem : (DW, index) ∈ consts_1) (w : (Cond.stringLink DW index text).before az Z = true)
    {ds : List Int32} (hds : Small ds) (ht : (∀ c ∈ text.toList, c.toNat < 256) ∧ text.toList.map (fun c => Value.int (Jvm.Lit.byteI c.toNat.toUInt16)) = vsOf ds) (hn : 4 * text.toList.length ≤ 24) {cc q : Int32} (he : esc cc q = some ds)
    {pc pr : Nat} {Ls : Array Slot} (d0 : decode c.code pc = .ok (.ldc_w index, 3)) (d3 : decode c.code pr = .ok (.areturn, 1)) (hgo : ∀ (T' : State) (a : Addr) (t : State), At T' m c below → Steps p.tables e below (T'.setTop (mkF m pr Ls [.ref a])) t → Steps p.tables e below (T'.setTop (mkF m (pc + 3) Ls [.ref a])) t) (hc : 0 + 2 ≤ R.cells) (hl : 0 + (24 + 4) ≤ R.slots) :
    Goes p.tables e below (PEsc Z s h below cc q) (T.setTop (mkF m pc Ls [])) := by
  obtain ⟨a, T1, h1, k1, b, k, X1, e1, E1, hS1, hk1, hZ1, hown1, x1, x2, x3, x4, hC1, st1⟩ := own_ldcWH X hx hZ hown w (own_atoms hw) eT hS (Nat.le_refl _) (own_EL hw) hmem H ht (own_len hds).1 (own_len hds).2 (g := mkF m pc Ls []) rfl d0 (n := 24) hn (by decide) hc hl
  subst e1
  obtain ⟨fs, hr, hrun, hended, hE⟩ := X1.leaveW hS1 hk1 (v := some (.ref a)) (fun h => by rw [hret] at h; cases h) hlk
  refine Goes.mk _ _ (st1 _ (hgo _ _ _ X1.here (retOut X1 hx hret rfl (Or.inr (Or.inr (Or.inr (Or.inr ⟨rfl, rfl, rfl⟩)))) d3 hr))) ⟨hrun, hended, _, _, rfl, ⟨rfl, E1, Or.inr ⟨ds, a, he, rfl, b, k, x1, x2, x3, x4⟩⟩, ?_, hE⟩
  rw [es]; exact hC1
theorem own_sw (X : Stand p l e R s m args below meth c T locs cells slots) (hx : p.tables.exec = Jvm.exec) {g : JFrame} (hg : g.method = m) {k : Int32} {rest : List Value} (hstack : g.stack = .int k :: rest) {dflt : Int} {pairs : Array (Int × Int)} {len : Nat} (hd : decode c.code g.pc = .ok (.lookupswitch dflt pairs, len))
    (hs : (pairs.toList.zip (pairs.toList.drop 1)).all (fun (a, next) => a.1 < next.1) = true) {a off : Int} (hf : pairs.find? (·.1 == k.toInt) = some (a, off)) {pc0 pc' : Nat} (hpc : g.pc = pc0) (h0 : 0 ≤ (pc0 : Int) + off) (hp : ((pc0 : Int) + off).toNat = pc') (t : State) (r : Steps p.tables e below (T.setTop { g with pc := pc', stack := rest }) t) : Steps p.tables e below (T.setTop g) t := by
  subst hpc hp; exact X.lookupswitchHit hx hg hstack hd hs hf h0 t r
theorem own_swD (X : Stand p l e R s m args below meth c T locs cells slots) (hx : p.tables.exec = Jvm.exec) {g : JFrame} (hg : g.method = m) {k : Int32} {rest : List Value} (hstack : g.stack = .int k :: rest) {dflt : Int} {pairs : Array (Int × Int)} {len : Nat} (hd : decode c.code g.pc = .ok (.lookupswitch dflt pairs, len))
    (hs : (pairs.toList.zip (pairs.toList.drop 1)).all (fun (a, next) => a.1 < next.1) = true) (hf : pairs.find? (·.1 == k.toInt) = none) {pc0 pc' : Nat} (hpc : g.pc = pc0) (h0 : 0 ≤ (pc0 : Int) + dflt) (hp : ((pc0 : Int) + dflt).toNat = pc') (t : State) (r : Steps p.tables e below (T.setTop { g with pc := pc', stack := rest }) t) : Steps p.tables e below (T.setTop g) t := by
  subst hpc hp; exact X.lookupswitchMiss hx hg hstack hd hs hf h0 t r
theorem own_miss (k : Int32) (h1 : ¬ k = 9) (h2 : ¬ k = 10) (h3 : ¬ k = 13) (h4 : ¬ k = 38) (h5 : ¬ k = 60) : (#[((9 : Int), (58 : Int)), (10, 62), (13, 66), (38, 50), (60, 54)]).find? (·.1 == k.toInt) = none := by
  have f : ∀ {n : Int} {j : Int32}, j.toInt = n → ¬ k = j → ¬ n = k.toInt := fun e q r => q (Int32.toInt_inj.mp (r.symm.trans e.symm))
  have a1 := f (n := 9) (j := 9) (by decide) h1
  have a2 := f (n := 10) (j := 10) (by decide) h2
  have a3 := f (n := 13) (j := 13) (by decide) h3
  have a4 := f (n := 38) (j := 38) (by decide) h4
  have a5 := f (n := 60) (j := 60) (by decide) h5
  rw [Array.find?_eq_none]
  intro x hx
  simp only [List.mem_toArray, List.mem_cons, List.not_mem_nil, or_false] at hx
  rcases hx with rfl | rfl | rfl | rfl | rfl <;> simpa using by assumption
end Walk
theorem own_since (s : State) (n : Nat) : s.Since s.vm n := ⟨State.Warmed39.refl s, fun j p hj hp => by
  have := (Array.getElem?_eq_some_iff.mp hp).1
  omega⟩
theorem de_0 : decode prog_99_method_13_code 0 = .ok (.iload_n 0, 1) := by decide +kernel
theorem de_1 : decode prog_99_method_13_code 1 = .ok (.iload_n 1, 1) := by decide +kernel
theorem de_2 : decode prog_99_method_13_code 2 = .ok (.if_icmp .ne 19, 3) := by decide +kernel
theorem de_5 : decode prog_99_method_13_code 5 = .ok (.iload_n 0, 1) := by decide +kernel
theorem de_6 : decode prog_99_method_13_code 6 = .ok (.bipush 34, 2) := by decide +kernel
theorem de_8 : decode prog_99_method_13_code 8 = .ok (.if_icmp .ne 9, 3) := by decide +kernel
theorem de_11 : decode prog_99_method_13_code 11 = .ok (.ldc_w 290, 3) := by decide +kernel
theorem de_14 : decode prog_99_method_13_code 14 = .ok (.goto 6, 3) := by decide +kernel
theorem de_17 : decode prog_99_method_13_code 17 = .ok (.ldc_w 292, 3) := by decide +kernel
theorem de_20 : decode prog_99_method_13_code 20 = .ok (.areturn, 1) := by decide +kernel
theorem de_21 : decode prog_99_method_13_code 21 = .ok (.iload_n 0, 1) := by decide +kernel
theorem de_22 : decode prog_99_method_13_code 22 = .ok (.lookupswitch 70 #[(9, 58), (10, 62), (13, 66), (38, 50), (60, 54)], 50) := by decide +kernel
theorem de_72 : decode prog_99_method_13_code 72 = .ok (.ldc_w 294, 3) := by decide +kernel
theorem de_75 : decode prog_99_method_13_code 75 = .ok (.areturn, 1) := by decide +kernel
theorem de_76 : decode prog_99_method_13_code 76 = .ok (.ldc_w 296, 3) := by decide +kernel
theorem de_79 : decode prog_99_method_13_code 79 = .ok (.areturn, 1) := by decide +kernel
theorem de_80 : decode prog_99_method_13_code 80 = .ok (.ldc_w 298, 3) := by decide +kernel
theorem de_83 : decode prog_99_method_13_code 83 = .ok (.areturn, 1) := by decide +kernel
theorem de_84 : decode prog_99_method_13_code 84 = .ok (.ldc_w 300, 3) := by decide +kernel
theorem de_87 : decode prog_99_method_13_code 87 = .ok (.areturn, 1) := by decide +kernel
theorem de_88 : decode prog_99_method_13_code 88 = .ok (.ldc_w 302, 3) := by decide +kernel
theorem de_91 : decode prog_99_method_13_code 91 = .ok (.areturn, 1) := by decide +kernel
theorem de_92 : decode prog_99_method_13_code 92 = .ok (.aconst_null, 1) := by decide +kernel
theorem de_93 : decode prog_99_method_13_code 93 = .ok (.areturn, 1) := by decide +kernel
theorem dd_0 : decode method_2_code 0 = .ok (.aload_n 0, 1) := by decide +kernel
theorem dd_1 : decode method_2_code 1 = .ok (.ldc 7, 2) := by decide +kernel
theorem dd_3 : decode method_2_code 3 = .ok (.invokevirtual 9, 3) := by decide +kernel
theorem dd_6 : decode method_2_code 6 = .ok (.ifCond .eq 6, 3) := by decide +kernel
theorem dd_9 : decode method_2_code 9 = .ok (.bipush 34, 2) := by decide +kernel
theorem dd_11 : decode method_2_code 11 = .ok (.ireturn, 1) := by decide +kernel
theorem dd_12 : decode method_2_code 12 = .ok (.aload_n 0, 1) := by decide +kernel
theorem dd_13 : decode method_2_code 13 = .ok (.ldc 15, 2) := by decide +kernel
theorem dd_15 : decode method_2_code 15 = .ok (.invokevirtual 9, 3) := by decide +kernel
theorem dd_18 : decode method_2_code 18 = .ok (.ifCond .eq 6, 3) := by decide +kernel
theorem dd_21 : decode method_2_code 21 = .ok (.bipush 39, 2) := by decide +kernel
theorem dd_23 : decode method_2_code 23 = .ok (.ireturn, 1) := by decide +kernel
theorem dd_24 : decode method_2_code 24 = .ok (.aload_n 0, 1) := by decide +kernel
theorem dd_25 : decode method_2_code 25 = .ok (.ldc 17, 2) := by decide +kernel
theorem dd_27 : decode method_2_code 27 = .ok (.invokevirtual 9, 3) := by decide +kernel
theorem dd_30 : decode method_2_code 30 = .ok (.ifCond .eq 6, 3) := by decide +kernel
theorem dd_33 : decode method_2_code 33 = .ok (.bipush 38, 2) := by decide +kernel
theorem dd_35 : decode method_2_code 35 = .ok (.ireturn, 1) := by decide +kernel
theorem dd_36 : decode method_2_code 36 = .ok (.aload_n 0, 1) := by decide +kernel
theorem dd_37 : decode method_2_code 37 = .ok (.ldc 19, 2) := by decide +kernel
theorem dd_39 : decode method_2_code 39 = .ok (.invokevirtual 9, 3) := by decide +kernel
theorem dd_42 : decode method_2_code 42 = .ok (.ifCond .eq 6, 3) := by decide +kernel
theorem dd_45 : decode method_2_code 45 = .ok (.bipush 60, 2) := by decide +kernel
theorem dd_47 : decode method_2_code 47 = .ok (.ireturn, 1) := by decide +kernel
theorem dd_48 : decode method_2_code 48 = .ok (.aload_n 0, 1) := by decide +kernel
theorem dd_49 : decode method_2_code 49 = .ok (.ldc 21, 2) := by decide +kernel
theorem dd_51 : decode method_2_code 51 = .ok (.invokevirtual 9, 3) := by decide +kernel
theorem dd_54 : decode method_2_code 54 = .ok (.ifCond .eq 6, 3) := by decide +kernel
theorem dd_57 : decode method_2_code 57 = .ok (.bipush 9, 2) := by decide +kernel
theorem dd_59 : decode method_2_code 59 = .ok (.ireturn, 1) := by decide +kernel
theorem dd_60 : decode method_2_code 60 = .ok (.aload_n 0, 1) := by decide +kernel
theorem dd_61 : decode method_2_code 61 = .ok (.ldc 23, 2) := by decide +kernel
theorem dd_63 : decode method_2_code 63 = .ok (.invokevirtual 9, 3) := by decide +kernel
theorem dd_66 : decode method_2_code 66 = .ok (.ifCond .eq 6, 3) := by decide +kernel
theorem dd_69 : decode method_2_code 69 = .ok (.bipush 10, 2) := by decide +kernel
theorem dd_71 : decode method_2_code 71 = .ok (.ireturn, 1) := by decide +kernel
theorem dd_72 : decode method_2_code 72 = .ok (.aload_n 0, 1) := by decide +kernel
theorem dd_73 : decode method_2_code 73 = .ok (.ldc 25, 2) := by decide +kernel
theorem dd_75 : decode method_2_code 75 = .ok (.invokevirtual 9, 3) := by decide +kernel
theorem dd_78 : decode method_2_code 78 = .ok (.ifCond .eq 6, 3) := by decide +kernel
theorem dd_81 : decode method_2_code 81 = .ok (.bipush 13, 2) := by decide +kernel
theorem dd_83 : decode method_2_code 83 = .ok (.ireturn, 1) := by decide +kernel
theorem dd_84 : decode method_2_code 84 = .ok (.iconst (-1), 1) := by decide +kernel
theorem dd_85 : decode method_2_code 85 = .ok (.ireturn, 1) := by decide +kernel
theorem efEsc (m : MethodId) (x0 x1 : Int32) : entryFrame m #[.int x0, .int x1] 2 = mkF m 0 #[.val (.int x0), .val (.int x1)] [] := by first | (simp [entryFrame, mkF, argsToLocals, Value.category]; done) | rfl
theorem own_pnD : plainName DW = true := by first | (simp [plainName, overriddenIn]; done) | decide +kernel
set_option maxRecDepth 65536 in
set_option maxHeartbeats 40000000 in
theorem rmEsc (l : Launch) (Z : State) (az : Array Value) (hw : ∀ d ∈ tables_1, d.before az Z = true) (cc q : Int32) (h0 : Heap) :
    MetFree l yEsc (head1 [Jvm.Cond.code yEsc prog_99_method_13_code 2 (some (.object "java/lang/String"))] rmE) (fun a U => a = #[.int cc, .int q] ∧ Z.Warmed39 U.vm ∧ U.heap = h0 ∧ CHv Z consts_1 U.vm h0) (fun _ _ _ _ _ => True) (fun _ U o U' => ∃ v L, o = .returned v ∧ QEsc Z h0 cc q v U'.heap L ∧ CHr Z consts_1 U.vm U.heap U'.vm U'.heap ∧ ReturnedEndW U o U' L rmE.cells rmE.slots) := by
  refine MetFree.of_bodySF (plainFor_of_name own_pnD) hisR ?_
  intro p e s m args below meth c s₁ Bd hml0 hP hK
  obtain ⟨rfl, hZ, hh, hC⟩ := hP
  have hx := Bd.exec
  have hby := Bd.bytes
  have hown : s.vm.findClass DW = some m.cls := findClass_of_methodNamed Bd.named
  have X0 : Stand p l e rmE s m #[.int cc, .int q] below meth c s₁ [] 0 0 := Stand.of_body Bd
  have e0 : s₁.heap = h0 := by rw [← hh, Bd.state]; rfl
  have X1 : Stand p l e rmE (s.setVm s.vm) m #[.int cc, .int q] below meth c s₁ [] 0 0 := X0
  have hlk : meth.locks = false := by first | exact BodyLoose.notSynchronized Bd | exact Body.notSynchronized Bd
  refine Goes.start ?_
  show Goes p.tables e below (PEsc Z s h0 below cc q) _
  refine Goes.by (B := s₁.setTop (mkF m 0 #[.val (.int cc), .val (.int q)] [])) (fun t k => castTop (efEsc m cc q) k) ?_
  refine Goes.by (B := s₁.setTop (mkF m 2 #[.val (.int cc), .val (.int q)] [.int q, .int cc])) (fun t k => ?_) ?_
  · refine XS.iloadN X0.here hx rfl (hb hby de_0) rfl ?_
    refine XS.iloadN X0.here hx rfl (hb hby de_1) rfl ?_
    exact k
  by_cases hq : cc = q
  · by_cases h34 : cc = 34
    · refine Goes.by (B := s₁.setTop (mkF m 11 #[.val (.int cc), .val (.int q)] [])) (fun t k => ?_) ?_
      · refine XS.icmpNo X0.here hx rfl (hb hby de_2) rfl (teq hq).2 ?_
        refine XS.iloadN X0.here hx rfl (hb hby de_5) rfl ?_
        refine XS.bipush X0.here hx rfl (hb hby de_6) ?_
        refine XS.icmpNo X0.here hx rfl (hb hby de_8) rfl (y := 34) (teq h34).2 ?_
        exact k
      exact own_escEnd X1 hx hZ hown hw e0 hh (own_since s _) hC Bd.returns hlk (index := 290) (text := "&quot;") (List.mem_of_getElem? (i := 0) rfl) (wq hw 6 rfl) (ds := tQ) (by decide) ⟨by decide, by decide⟩ (by decide) (cc := cc) (q := q) (by rw [esc, if_pos hq, if_pos h34]) (pc := 11) (pr := 20) (hb hby de_11) (hb hby de_20) (fun T' a t at' k => XS.goto at' hx rfl (pc0 := 14) (pc' := 20) rfl (hb hby de_14) (by decide) (by decide) k) (by decide) (by decide)
    · refine Goes.by (B := s₁.setTop (mkF m 17 #[.val (.int cc), .val (.int q)] [])) (fun t k => ?_) ?_
      · refine XS.icmpNo X0.here hx rfl (hb hby de_2) rfl (teq hq).2 ?_
        refine XS.iloadN X0.here hx rfl (hb hby de_5) rfl ?_
        refine XS.bipush X0.here hx rfl (hb hby de_6) ?_
        refine XS.icmpYes X0.here hx rfl (pc0 := 8) (pc' := 17) rfl (hb hby de_8) rfl (y := 34) (feq h34).2 (by decide) (by decide) ?_
        exact k
      exact own_escEnd X1 hx hZ hown hw e0 hh (own_since s _) hC Bd.returns hlk (index := 292) (text := "&apos;") (List.mem_of_getElem? (i := 1) rfl) (wq hw 43 rfl) (ds := tA) (by decide) ⟨by decide, by decide⟩ (by decide) (cc := cc) (q := q) (by rw [esc, if_pos hq, if_neg h34]) (pc := 17) (pr := 20) (hb hby de_17) (hb hby de_20) (fun _ _ _ _ k => k) (by decide) (by decide)
  · refine Goes.by (B := s₁.setTop (mkF m 22 #[.val (.int cc), .val (.int q)] [.int cc])) (fun t k => ?_) ?_
    · refine XS.icmpYes X0.here hx rfl (pc0 := 2) (pc' := 21) rfl (hb hby de_2) rfl (feq hq).2 (by decide) (by decide) ?_
      refine XS.iloadN X0.here hx rfl (hb hby de_21) rfl ?_
      exact k
    by_cases h9 : cc = 9
    · refine Goes.by (B := s₁.setTop (mkF m 80 #[.val (.int cc), .val (.int q)] [])) (fun t k => own_sw X0 hx (g := mkF m 22 #[.val (.int cc), .val (.int q)] [.int cc]) rfl rfl (hb hby de_22) (by decide) (a := 9) (off := 58) (by rw [h9]; first | rfl | decide +kernel) (pc0 := 22) (pc' := 80) rfl (by decide) (by decide) t k) ?_
      exact own_escEnd X1 hx hZ hown hw e0 hh (own_since s _) hC Bd.returns hlk (index := 298) (text := "&#9;") (List.mem_of_getElem? (i := 4) rfl) (wq hw 44 rfl) (ds := t9) (by decide) ⟨by decide, by decide⟩ (by decide) (cc := cc) (q := q) (by rw [esc, if_neg hq, if_pos h9]) (pc := 80) (pr := 83) (hb hby de_80) (hb hby de_83) (fun _ _ _ _ k => k) (by decide) (by decide)
    by_cases h10 : cc = 10
    · refine Goes.by (B := s₁.setTop (mkF m 84 #[.val (.int cc), .val (.int q)] [])) (fun t k => own_sw X0 hx (g := mkF m 22 #[.val (.int cc), .val (.int q)] [.int cc]) rfl rfl (hb hby de_22) (by decide) (a := 10) (off := 62) (by rw [h10]; first | rfl | decide +kernel) (pc0 := 22) (pc' := 84) rfl (by decide) (by decide) t k) ?_
      exact own_escEnd X1 hx hZ hown hw e0 hh (own_since s _) hC Bd.returns hlk (index := 300) (text := "&#10;") (List.mem_of_getElem? (i := 5) rfl) (wq hw 45 rfl) (ds := t10) (by decide) ⟨by decide, by decide⟩ (by decide) (cc := cc) (q := q) (by rw [esc, if_neg hq, if_neg h9, if_pos h10]) (pc := 84) (pr := 87) (hb hby de_84) (hb hby de_87) (fun _ _ _ _ k => k) (by decide) (by decide)
    by_cases h13 : cc = 13
    · refine Goes.by (B := s₁.setTop (mkF m 88 #[.val (.int cc), .val (.int q)] [])) (fun t k => own_sw X0 hx (g := mkF m 22 #[.val (.int cc), .val (.int q)] [.int cc]) rfl rfl (hb hby de_22) (by decide) (a := 13) (off := 66) (by rw [h13]; first | rfl | decide +kernel) (pc0 := 22) (pc' := 88) rfl (by decide) (by decide) t k) ?_
      exact own_escEnd X1 hx hZ hown hw e0 hh (own_since s _) hC Bd.returns hlk (index := 302) (text := "&#13;") (List.mem_of_getElem? (i := 6) rfl) (wq hw 39 rfl) (ds := t13) (by decide) ⟨by decide, by decide⟩ (by decide) (cc := cc) (q := q) (by rw [esc, if_neg hq, if_neg h9, if_neg h10, if_pos h13]) (pc := 88) (pr := 91) (hb hby de_88) (hb hby de_91) (fun _ _ _ _ k => k) (by decide) (by decide)
    by_cases h38 : cc = 38
    · refine Goes.by (B := s₁.setTop (mkF m 72 #[.val (.int cc), .val (.int q)] [])) (fun t k => own_sw X0 hx (g := mkF m 22 #[.val (.int cc), .val (.int q)] [.int cc]) rfl rfl (hb hby de_22) (by decide) (a := 38) (off := 50) (by rw [h38]; first | rfl | decide +kernel) (pc0 := 22) (pc' := 72) rfl (by decide) (by decide) t k) ?_
      exact own_escEnd X1 hx hZ hown hw e0 hh (own_since s _) hC Bd.returns hlk (index := 294) (text := "&amp;") (List.mem_of_getElem? (i := 2) rfl) (wq hw 25 rfl) (ds := tM) (by decide) ⟨by decide, by decide⟩ (by decide) (cc := cc) (q := q) (by rw [esc, if_neg hq, if_neg h9, if_neg h10, if_neg h13, if_pos h38]) (pc := 72) (pr := 75) (hb hby de_72) (hb hby de_75) (fun _ _ _ _ k => k) (by decide) (by decide)
    by_cases h60 : cc = 60
    · refine Goes.by (B := s₁.setTop (mkF m 76 #[.val (.int cc), .val (.int q)] [])) (fun t k => own_sw X0 hx (g := mkF m 22 #[.val (.int cc), .val (.int q)] [.int cc]) rfl rfl (hb hby de_22) (by decide) (a := 60) (off := 54) (by rw [h60]; first | rfl | decide +kernel) (pc0 := 22) (pc' := 76) rfl (by decide) (by decide) t k) ?_
      exact own_escEnd X1 hx hZ hown hw e0 hh (own_since s _) hC Bd.returns hlk (index := 296) (text := "&lt;") (List.mem_of_getElem? (i := 3) rfl) (wq hw 37 rfl) (ds := tL) (by decide) ⟨by decide, by decide⟩ (by decide) (cc := cc) (q := q) (by rw [esc, if_neg hq, if_neg h9, if_neg h10, if_neg h13, if_neg h38, if_pos h60]) (pc := 76) (pr := 79) (hb hby de_76) (hb hby de_79) (fun _ _ _ _ k => k) (by decide) (by decide)
    refine Goes.by (B := s₁.setTop (mkF m 93 #[.val (.int cc), .val (.int q)] [.null])) (fun t k => ?_) ?_
    · refine own_swD X0 hx (g := mkF m 22 #[.val (.int cc), .val (.int q)] [.int cc]) rfl rfl (hb hby de_22) (by decide) (own_miss cc h9 h10 h13 h38 h60) (pc0 := 22) (pc' := 92) rfl (by decide) (by decide) t ?_
      exact XS.aconstNull X0.here hx rfl (hb hby de_92) k
    obtain ⟨fs, hr, hrun, hended, hE⟩ := (X1.mono (Nat.zero_le 2) (Nat.zero_le 28)).leaveW (own_since s 0) (Nat.zero_le _) (v := some .null) (fun h => by rw [Bd.returns] at h; cases h) hlk
    have hat : CHr Z consts_1 s.vm s.heap s₁.vm s₁.heap := by rw [hh, e0]; exact CHv.at X1 hZ (own_EL hw) hC
    have hnone : esc cc q = none := by rw [esc, if_neg hq, if_neg h9, if_neg h10, if_neg h13, if_neg h38, if_neg h60]
    exact Goes.mk _ _ (retOut X1 hx Bd.returns rfl (Or.inr (Or.inr (Or.inr (Or.inr ⟨rfl, rfl, rfl⟩)))) (hb hby de_93) hr) ⟨hrun, hended, _, _, rfl, ⟨rfl, (by show Ext h0 s₁.heap; rw [e0]; exact ⟨Nat.le_refl _, fun _ _ z => z⟩), Or.inl ⟨hnone, rfl⟩⟩, hat, hE⟩
theorem efDec (m : MethodId) (x0 : Addr) : entryFrame m #[.ref x0] 1 = mkF m 0 #[.val (.ref x0)] [] := by first | (simp [entryFrame, mkF, argsToLocals, Value.category]; done) | rfl
theorem own_pnL : plainName LW = true := by first | (simp [plainName, overriddenIn]; done) | decide +kernel
set_option maxRecDepth 65536 in
set_option maxHeartbeats 40000000 in
theorem rmDec (l : Launch) (Z : State) (az : Array Value) (hw : ∀ d ∈ tables_1, d.before az Z = true) (x : Addr) (cs : List Int32) (h0 : Heap) (F0 : Str Z h0 x cs) (hcs : Small cs) (zz : Int32) (S0 : Sta Z h0 SN "COMPACT_STRINGS" "Z" (.int zz)) (hzz : ¬ zz = 0) :
    MetFree l yDec (head1 [Jvm.Cond.code yDec method_2_code 1 (some .int)] rmD) (fun a U => a = #[.ref x] ∧ Z.Warmed39 U.vm ∧ U.heap = h0 ∧ CHv Z consts_1 U.vm h0) (fun _ _ _ _ _ => True) (fun _ U o U' => ∃ v L, o = .returned v ∧ QDec (dec cs) v U'.heap L ∧ CHr Z consts_1 U.vm U.heap U'.vm U'.heap ∧ ReturnedEndW U o U' L rmD.cells rmD.slots) := by
  refine MetFree.of_bodySF (plainFor_of_name own_pnL) hisR ?_
  intro p e s m args below meth c s₁ Bd hml0 hP hK
  obtain ⟨rfl, hZ0, hh, hC⟩ := hP
  have hx := Bd.exec
  have hby := Bd.bytes
  have hml : c.maxLocals = 1 := hml0
  have hown0 : s.vm.findClass LW = some m.cls := findClass_of_methodNamed Bd.named
  have X00 : Stand p l e rmD s m #[.ref x] below meth c s₁ [] 0 0 := Stand.of_body Bd
  have e0 : s₁.heap = h0 := by rw [← hh, Bd.state]; rfl
  have X0 : Stand p l e rmD (s.setVm s.vm) m #[.ref x] below meth c s₁ [] 0 0 := X00
  have hS0 := own_since s h0.size
  have hk0 : h0.size ≤ h0.size := Nat.le_refl _
  have C0 : CHr Z consts_1 s.vm h0 s.vm h0 := CHr.refl hC
  have hlk : meth.locks = false := by first | exact BodyLoose.notSynchronized Bd | exact Body.notSynchronized Bd
  refine Goes.start ?_
  show Goes p.tables e below (PDec Z s below (dec cs)) _
  refine Goes.by (B := s₁.setTop (mkF m 0 #[.val (.ref x)] [])) (fun t k => castTop (efDec m x) k) ?_
  obtain ⟨T1, h1, k1, X1, e1, E1, hS1, hk1, hZ1, hown1, hC1, hb1⟩ := own_block X0 hx hZ0 hown0 hml hw e0 hS0 hk0 (index := 7) (text := "&quot;") (List.mem_of_getElem? (i := 7) rfl) (wq hw 18 rfl) C0.1 F0 hcs S0 hzz (ds := tQ) (by decide) ⟨by decide, by decide⟩ (by decide) (pc := 0) (hb hby dd_0) (hb hby dd_1) (hb hby dd_3) (hb hby dd_6) (by decide) (by decide) (by decide) (by decide)
  have C1 := C0.trans hC1
  have F1 := F0.ext E1
  have S1 := S0.ext E1
  rcases hb1 with ⟨q1, st1⟩ | ⟨q1, st1⟩
  · have dv : dec cs = 34 := by rw [q1]; decide
    rw [dv]
    refine Goes.by (B := T1.setTop (mkF m 9 #[.val (.ref x)] [])) st1 ?_
    refine Goes.by (B := T1.setTop (mkF m 11 #[.val (.ref x)] [.int 34])) (fun t k => XS.bipush X1.here hx rfl (hb hby dd_9) k) ?_
    exact own_decEnd X1 hx hS1 (by rw [e1]; exact hk1) Bd.returns hlk (by rw [e1, hh]; exact C1) (by decide) (by decide) (hb hby dd_11)
  refine Goes.by (B := T1.setTop (mkF m 12 #[.val (.ref x)] [])) st1 ?_
  obtain ⟨T2, h2, k2, X2, e2, E2, hS2, hk2, hZ2, hown2, hC2, hb2⟩ := own_block X1 hx hZ1 hown1 hml hw e1 hS1 hk1 (index := 15) (text := "&apos;") (List.mem_of_getElem? (i := 8) rfl) (wq hw 35 rfl) C1.1 F1 hcs S1 hzz (ds := tA) (by decide) ⟨by decide, by decide⟩ (by decide) (pc := 12) (hb hby dd_12) (hb hby dd_13) (hb hby dd_15) (hb hby dd_18) (by decide) (by decide) (by decide) (by decide)
  have C2 := C1.trans hC2
  have F2 := F1.ext E2
  have S2 := S1.ext E2
  rcases hb2 with ⟨q2, st2⟩ | ⟨q2, st2⟩
  · have dv : dec cs = 39 := by rw [q2]; decide
    rw [dv]
    refine Goes.by (B := T2.setTop (mkF m 21 #[.val (.ref x)] [])) st2 ?_
    refine Goes.by (B := T2.setTop (mkF m 23 #[.val (.ref x)] [.int 39])) (fun t k => XS.bipush X2.here hx rfl (hb hby dd_21) k) ?_
    exact own_decEnd X2 hx hS2 (by rw [e2]; exact hk2) Bd.returns hlk (by rw [e2, hh]; exact C2) (by decide) (by decide) (hb hby dd_23)
  refine Goes.by (B := T2.setTop (mkF m 24 #[.val (.ref x)] [])) st2 ?_
  obtain ⟨T3, h3, k3, X3, e3, E3, hS3, hk3, hZ3, hown3, hC3, hb3⟩ := own_block X2 hx hZ2 hown2 hml hw e2 hS2 hk2 (index := 17) (text := "&amp;") (List.mem_of_getElem? (i := 9) rfl) (wq hw 36 rfl) C2.1 F2 hcs S2 hzz (ds := tM) (by decide) ⟨by decide, by decide⟩ (by decide) (pc := 24) (hb hby dd_24) (hb hby dd_25) (hb hby dd_27) (hb hby dd_30) (by decide) (by decide) (by decide) (by decide)
  have C3 := C2.trans hC3
  have F3 := F2.ext E3
  have S3 := S2.ext E3
  rcases hb3 with ⟨q3, st3⟩ | ⟨q3, st3⟩
  · have dv : dec cs = 38 := by rw [q3]; decide
    rw [dv]
    refine Goes.by (B := T3.setTop (mkF m 33 #[.val (.ref x)] [])) st3 ?_
    refine Goes.by (B := T3.setTop (mkF m 35 #[.val (.ref x)] [.int 38])) (fun t k => XS.bipush X3.here hx rfl (hb hby dd_33) k) ?_
    exact own_decEnd X3 hx hS3 (by rw [e3]; exact hk3) Bd.returns hlk (by rw [e3, hh]; exact C3) (by decide) (by decide) (hb hby dd_35)
  refine Goes.by (B := T3.setTop (mkF m 36 #[.val (.ref x)] [])) st3 ?_
  obtain ⟨T4, h4, k4, X4, e4, E4, hS4, hk4, hZ4, hown4, hC4, hb4⟩ := own_block X3 hx hZ3 hown3 hml hw e3 hS3 hk3 (index := 19) (text := "&lt;") (List.mem_of_getElem? (i := 10) rfl) (wq hw 38 rfl) C3.1 F3 hcs S3 hzz (ds := tL) (by decide) ⟨by decide, by decide⟩ (by decide) (pc := 36) (hb hby dd_36) (hb hby dd_37) (hb hby dd_39) (hb hby dd_42) (by decide) (by decide) (by decide) (by decide)
  have C4 := C3.trans hC4
  have F4 := F3.ext E4
  have S4 := S3.ext E4
  rcases hb4 with ⟨q4, st4⟩ | ⟨q4, st4⟩
  · have dv : dec cs = 60 := by rw [q4]; decide
    rw [dv]
    refine Goes.by (B := T4.setTop (mkF m 45 #[.val (.ref x)] [])) st4 ?_
    refine Goes.by (B := T4.setTop (mkF m 47 #[.val (.ref x)] [.int 60])) (fun t k => XS.bipush X4.here hx rfl (hb hby dd_45) k) ?_
    exact own_decEnd X4 hx hS4 (by rw [e4]; exact hk4) Bd.returns hlk (by rw [e4, hh]; exact C4) (by decide) (by decide) (hb hby dd_47)
  refine Goes.by (B := T4.setTop (mkF m 48 #[.val (.ref x)] [])) st4 ?_
  obtain ⟨T5, h5, k5, X5, e5, E5, hS5, hk5, hZ5, hown5, hC5, hb5⟩ := own_block X4 hx hZ4 hown4 hml hw e4 hS4 hk4 (index := 21) (text := "&#9;") (List.mem_of_getElem? (i := 11) rfl) (wq hw 40 rfl) C4.1 F4 hcs S4 hzz (ds := t9) (by decide) ⟨by decide, by decide⟩ (by decide) (pc := 48) (hb hby dd_48) (hb hby dd_49) (hb hby dd_51) (hb hby dd_54) (by decide) (by decide) (by decide) (by decide)
  have C5 := C4.trans hC5
  have F5 := F4.ext E5
  have S5 := S4.ext E5
  rcases hb5 with ⟨q5, st5⟩ | ⟨q5, st5⟩
  · have dv : dec cs = 9 := by rw [q5]; decide
    rw [dv]
    refine Goes.by (B := T5.setTop (mkF m 57 #[.val (.ref x)] [])) st5 ?_
    refine Goes.by (B := T5.setTop (mkF m 59 #[.val (.ref x)] [.int 9])) (fun t k => XS.bipush X5.here hx rfl (hb hby dd_57) k) ?_
    exact own_decEnd X5 hx hS5 (by rw [e5]; exact hk5) Bd.returns hlk (by rw [e5, hh]; exact C5) (by decide) (by decide) (hb hby dd_59)
  refine Goes.by (B := T5.setTop (mkF m 60 #[.val (.ref x)] [])) st5 ?_
  obtain ⟨T6, h6, k6, X6, e6, E6, hS6, hk6, hZ6, hown6, hC6, hb6⟩ := own_block X5 hx hZ5 hown5 hml hw e5 hS5 hk5 (index := 23) (text := "&#10;") (List.mem_of_getElem? (i := 12) rfl) (wq hw 41 rfl) C5.1 F5 hcs S5 hzz (ds := t10) (by decide) ⟨by decide, by decide⟩ (by decide) (pc := 60) (hb hby dd_60) (hb hby dd_61) (hb hby dd_63) (hb hby dd_66) (by decide) (by decide) (by decide) (by decide)
  have C6 := C5.trans hC6
  have F6 := F5.ext E6
  have S6 := S5.ext E6
  rcases hb6 with ⟨q6, st6⟩ | ⟨q6, st6⟩
  · have dv : dec cs = 10 := by rw [q6]; decide
    rw [dv]
    refine Goes.by (B := T6.setTop (mkF m 69 #[.val (.ref x)] [])) st6 ?_
    refine Goes.by (B := T6.setTop (mkF m 71 #[.val (.ref x)] [.int 10])) (fun t k => XS.bipush X6.here hx rfl (hb hby dd_69) k) ?_
    exact own_decEnd X6 hx hS6 (by rw [e6]; exact hk6) Bd.returns hlk (by rw [e6, hh]; exact C6) (by decide) (by decide) (hb hby dd_71)
  refine Goes.by (B := T6.setTop (mkF m 72 #[.val (.ref x)] [])) st6 ?_
  obtain ⟨T7, h7, k7, X7, e7, E7, hS7, hk7, hZ7, hown7, hC7, hb7⟩ := own_block X6 hx hZ6 hown6 hml hw e6 hS6 hk6 (index := 25) (text := "&#13;") (List.mem_of_getElem? (i := 13) rfl) (wq hw 42 rfl) C6.1 F6 hcs S6 hzz (ds := t13) (by decide) ⟨by decide, by decide⟩ (by decide) (pc := 72) (hb hby dd_72) (hb hby dd_73) (hb hby dd_75) (hb hby dd_78) (by decide) (by decide) (by decide) (by decide)
  have C7 := C6.trans hC7
  have F7 := F6.ext E7
  have S7 := S6.ext E7
  rcases hb7 with ⟨q7, st7⟩ | ⟨q7, st7⟩
  · have dv : dec cs = 13 := by rw [q7]; decide
    rw [dv]
    refine Goes.by (B := T7.setTop (mkF m 81 #[.val (.ref x)] [])) st7 ?_
    refine Goes.by (B := T7.setTop (mkF m 83 #[.val (.ref x)] [.int 13])) (fun t k => XS.bipush X7.here hx rfl (hb hby dd_81) k) ?_
    exact own_decEnd X7 hx hS7 (by rw [e7]; exact hk7) Bd.returns hlk (by rw [e7, hh]; exact C7) (by decide) (by decide) (hb hby dd_83)
  refine Goes.by (B := T7.setTop (mkF m 84 #[.val (.ref x)] [])) st7 ?_
  have dv : dec cs = -1 := by rw [dec, if_neg q1, if_neg q2, if_neg q3, if_neg q4, if_neg q5, if_neg q6, if_neg q7]
  rw [dv]
  refine Goes.by (B := T7.setTop (mkF m 85 #[.val (.ref x)] [.int (-1)])) (fun t k => XS.iconst X7.here hx rfl (hb hby dd_84) k) ?_
  exact own_decEnd X7 hx hS7 (by rw [e7]; exact hk7) Bd.returns hlk (by rw [e7, hh]; exact C7) (by decide) (by decide) (hb hby dd_85)
theorem own_pick {Z : State} {h : Heap} {ar : Addr} {k : ClassId} {a0 a1 a2 a3 a4 a5 a6 a7 a8 a9 : Int32} {dv : Value} (F : Arv Z h ar k .char (10 : Int32) [.int a0, .int a1, .int a2, .int a3, .int a4, .int a5, .int a6, .int a7, .int a8, .int a9] dv) (x : Int32) :
    ∃ cv : Int32, Elt Z h ar .char ((x &&& (2147483647 : Int32)) % (10 : Int32)) (.int cv) := by
  have m := c_mask x (2147483647 : Int32) 31 (by decide) (by decide)
  have e : ((2 ^ 31 : Nat) : Int) = 2147483648 := rfl
  rw [e] at m
  have q := (c_irem (x &&& (2147483647 : Int32)) (10 : Int32) 10 (by decide)).1 (by omega)
  generalize (x &&& (2147483647 : Int32)) % (10 : Int32) = j at q ⊢
  have c : j.toInt = 0 ∨ j.toInt = 1 ∨ j.toInt = 2 ∨ j.toInt = 3 ∨ j.toInt = 4 ∨ j.toInt = 5 ∨ j.toInt = 6 ∨ j.toInt = 7 ∨ j.toInt = 8 ∨ j.toInt = 9 := by omega
  rcases c with c | c | c | c | c | c | c | c | c | c
  · obtain rfl : j = 0 := Int32.toInt_inj.mp (c.trans (by decide)); exact ⟨a0, Elt.of F ⟨by decide, by decide⟩ rfl⟩
  · obtain rfl : j = 1 := Int32.toInt_inj.mp (c.trans (by decide)); exact ⟨a1, Elt.of F ⟨by decide, by decide⟩ rfl⟩
  · obtain rfl : j = 2 := Int32.toInt_inj.mp (c.trans (by decide)); exact ⟨a2, Elt.of F ⟨by decide, by decide⟩ rfl⟩
  · obtain rfl : j = 3 := Int32.toInt_inj.mp (c.trans (by decide)); exact ⟨a3, Elt.of F ⟨by decide, by decide⟩ rfl⟩
  · obtain rfl : j = 4 := Int32.toInt_inj.mp (c.trans (by decide)); exact ⟨a4, Elt.of F ⟨by decide, by decide⟩ rfl⟩
  · obtain rfl : j = 5 := Int32.toInt_inj.mp (c.trans (by decide)); exact ⟨a5, Elt.of F ⟨by decide, by decide⟩ rfl⟩
  · obtain rfl : j = 6 := Int32.toInt_inj.mp (c.trans (by decide)); exact ⟨a6, Elt.of F ⟨by decide, by decide⟩ rfl⟩
  · obtain rfl : j = 7 := Int32.toInt_inj.mp (c.trans (by decide)); exact ⟨a7, Elt.of F ⟨by decide, by decide⟩ rfl⟩
  · obtain rfl : j = 8 := Int32.toInt_inj.mp (c.trans (by decide)); exact ⟨a8, Elt.of F ⟨by decide, by decide⟩ rfl⟩
  · obtain rfl : j = 9 := Int32.toInt_inj.mp (c.trans (by decide)); exact ⟨a9, Elt.of F ⟨by decide, by decide⟩ rfl⟩
theorem own_qq (P : Prop) [Decidable P] (q : Int32) (h : (if P then (39 : Int32) else (34 : Int32)) = q) : q = 34 ∨ q = 39 := by
  subst h; split
  · exact Or.inr rfl
  · exact Or.inl rfl
def PLaw (s : State) (below : List Frame) (n0 : Nat) (s₂ : State) (o : Outcome) : Prop := s₂.status = .running ∧ Ended s₂ below o ∧ ∃ v L, o = .returned v ∧ (v = some (.int 1) ∧ Fr n0 L) ∧ ReturnedEndW s o s₂ L 40 14528
section Fin
variable {p : Program} {l : Launch} {e : Env} {s : State} {m : MethodId} {args : Array Value} {below : List Frame} {meth : Method} {c : Code} {T : State} {locs : List Loc} {cells slots : Nat} {Z : State} {az : Array Value} {h : Heap} {vm0 : Vm} {n0 : Nat}
theorem own_lawEnd (X : Stand p l e room_1 (s.setVm vm0) m args below meth c T locs cells slots) (hx : p.tables.exec = Jvm.exec) {k1 : Nat} (hS : s.Since vm0 k1) (hk : k1 ≤ T.heap.size) (hret : meth.sig.returnType = some .boolean) (hlk : meth.locks = false) (N : Fr n0 locs) (hc : cells ≤ 40) (hs : slots ≤ 14528)
    {pc : Nat} {Ls : Array Slot} (d : decode c.code pc = .ok (.ireturn, 1)) : Goes p.tables e below (PLaw s below n0) (T.setTop (mkF m pc Ls [.int 1])) := by
  obtain ⟨fs, hr, hrun, hended, hE⟩ := (X.mono hc hs).leaveW hS hk (v := some (.int 1)) (fun h => by rw [hret] at h; cases h) hlk
  exact Goes.mk _ _ (retN X hx (t := .boolean) hret (by simp) d hr) ⟨hrun, hended, _, _, rfl, ⟨rfl, N⟩, hE⟩
set_option maxRecDepth 65536 in
set_option maxHeartbeats 40000000 in
theorem own_fin (hw : ∀ d ∈ tables_1, d.before az Z = true) (X : Stand p l e room_1 s m args below meth c T locs 1 10) (hx : p.tables.exec = Jvm.exec) (hby : c.code = code) (hml : c.maxLocals = 7) (hret : meth.sig.returnType = some .boolean) (hlk : meth.locks = false) (hZ : Z.Warmed39 s.vm) (hown : s.vm.findClass LW = some m.cls) (eT : T.heap = h) (hC : CHv Z consts_1 s.vm h)
    {zz : Int32} (S : Sta Z h SN "COMPACT_STRINGS" "Z" (.int zz)) (hzz : ¬ zz = 0) (N : Fr n0 locs) {x0 x1 cc qq mm : Int32} {ar : Addr} (hm : (mm = 0 ∧ esc cc qq = none) ∨ (mm = 1 ∧ ∃ cs, esc cc qq = some cs ∧ dec cs = cc)) :
    Goes p.tables e below (PLaw s below n0) (T.setTop (mkF m 145 #[.val (.int x0), .val (.int x1), .val (.ref ar), .val (.int cc), .val (.int qq), .val (.int mm), .unset] [.int qq, .int cc])) := by
  have X0 : Stand p l e room_1 (s.setVm s.vm) m args below meth c T locs 1 10 := X
  obtain ⟨v, vm1, ⟨T1, L1, c1, n1⟩, -, X1, hS1, hg1, ⟨L, ⟨rfl, E1, hv⟩, l1, y1, z1, hC1⟩, st1⟩ := callSS X0 hx (y := yEsc) hown (mvT (s := s.setVm s.vm) hZ (wq hw 2 rfl)) (mvT (s := s.setVm s.vm) hZ (wq hw 3 rfl)) (mvT (s := s.setVm s.vm) hZ (wq hw 4 rfl)) (mvT (s := s.setVm s.vm) hZ (wq hw 5 rfl)) (by decide)
    (backOfSH (W := 0) (rmEsc l Z az hw cc qq h) hZ (wq hw 5 rfl) (wq hw 4 rfl) (by decide) (by decide) (own_EL hw) hC) (g := mkF m 145 #[.val (.int x0), .val (.int x1), .val (.ref ar), .val (.int cc), .val (.int qq), .val (.int mm), .unset] [.int qq, .int cc]) rfl (by rw [hml]; rfl) (argsL := [.int cc, .int qq]) (rest := []) (fun sig q => by cases q; rfl) rfl (by show 2 * 0 + _ ≤ _; exact Nat.le_of_eq rfl) (hb hby at_145) (fun _ _ => ⟨rfl, eT, (show 1 + 2 ≤ 40 by decide), (show 10 + 28 ≤ 14528 by decide)⟩)
  dsimp only [Pt.U, Pt.locs, Pt.cells, Pt.slots] at X1 hS1 hg1 E1 hv l1 y1 z1 hC1 st1
  rw [List.append_nil] at l1
  subst l1 y1 z1
  rw [State.setVm_self] at X1 hS1
  rcases hm with ⟨rfl, he⟩ | ⟨rfl, cs, he, hd⟩
  · obtain rfl : v = some .null := by
      rcases hv with ⟨-, q⟩ | ⟨cs, a, q, -⟩
      · exact q
      · rw [he] at q; cases q
    refine Goes.by (B := T1.setTop (mkF m 165 #[.val (.int x0), .val (.int x1), .val (.ref ar), .val (.int cc), .val (.int qq), .val (.int 0), .val .null] [.int 1])) (fun t k => st1.trans ?_) ?_
    · refine XS.astore X1.here hx rfl (hb hby at_148) rfl rfl (l' := #[.val (.int x0), .val (.int x1), .val (.ref ar), .val (.int cc), .val (.int qq), .val (.int 0), .val .null]) rfl ?_
      refine XS.iload X1.here hx rfl (hb hby at_150) rfl ?_
      refine XS.ifNo X1.here hx rfl (hb hby at_152) rfl (by decide) ?_
      refine XS.aload X1.here hx rfl (hb hby at_155) rfl rfl ?_
      refine XS.ifnonnullNo X1.here hx rfl (hb hby at_157) rfl ?_
      refine XS.iconst X1.here hx rfl (hb hby at_160) ?_
      refine XS.goto X1.here hx rfl (pc0 := 161) (pc' := 165) rfl (hb hby at_161) (by decide) (by decide) ?_
      exact k
    exact own_lawEnd X1 hx hS1 (Nat.le_refl _) hret hlk N (by decide) (by decide) (hb hby at_165)
  · obtain ⟨a, rfl, F⟩ : ∃ a, v = some (.ref a) ∧ Str Z T1.heap a cs := by
      rcases hv with ⟨q, -⟩ | ⟨cs', a, q, r, F⟩
      · rw [he] at q; cases q
      · rw [he] at q; cases q; exact ⟨a, r, F⟩
    have hZ1 : Z.Warmed39 T1.vm := State.Warmed39.trans hZ hS1.1
    have hown1 : T1.vm.findClass LW = some m.cls := by rw [hS1.1.alike.findClass]; exact hown
    refine Goes.by (B := T1.setTop (mkF m 175 #[.val (.int x0), .val (.int x1), .val (.ref ar), .val (.int cc), .val (.int qq), .val (.int 1), .val (.ref a)] [.ref a])) (fun t k => st1.trans ?_) ?_
    · refine XS.astore X1.here hx rfl (hb hby at_148) rfl rfl (l' := #[.val (.int x0), .val (.int x1), .val (.ref ar), .val (.int cc), .val (.int qq), .val (.int 1), .val (.ref a)]) rfl ?_
      refine XS.iload X1.here hx rfl (hb hby at_150) rfl ?_
      refine XS.ifYes X1.here hx rfl (pc0 := 152) (pc' := 166) rfl (hb hby at_152) rfl (by decide) (by decide) (by decide) ?_
      refine XS.aload X1.here hx rfl (hb hby at_166) rfl rfl ?_
      refine XS.ifnonnullYes X1.here hx rfl (pc0 := 168) (pc' := 173) rfl (hb hby at_168) rfl (by decide) (by decide) ?_
      refine XS.aload X1.here hx rfl (hb hby at_173) rfl rfl ?_
      exact k
    obtain ⟨w, vm2, ⟨T2, L2, c2, n2⟩, -, X2, hS2, hg2, ⟨L, ⟨rfl, hw2⟩, l2, y2, z2, hC2⟩, st2⟩ := callSS X1 hx (y := yDec) hown1 (mvT (s := s.setVm T1.vm) hZ1 (wq hw 14 rfl)) (mvT (s := s.setVm T1.vm) hZ1 (wq hw 15 rfl)) (mvT (s := s.setVm T1.vm) hZ1 (wq hw 16 rfl)) (mvT (s := s.setVm T1.vm) hZ1 (wq hw 17 rfl)) (by decide)
      (backOfSH (W := 0) (rmDec l Z az hw a cs T1.heap F (own_esc_small he) zz (S.ext E1) hzz) hZ1 (wq hw 17 rfl) (wq hw 16 rfl) (by decide) (by decide) (own_EL hw) hC1.1) (g := mkF m 175 #[.val (.int x0), .val (.int x1), .val (.ref ar), .val (.int cc), .val (.int qq), .val (.int 1), .val (.ref a)] [.ref a]) rfl (by rw [hml]; rfl) (argsL := [.ref a]) (rest := []) (fun sig q => by cases q; rfl) rfl (by show 2 * 0 + _ ≤ _; exact Nat.le_of_eq rfl) (hb hby at_175) (fun _ _ => ⟨rfl, rfl, (show 1 + 2 + 14 ≤ 40 by decide), (show 10 + 28 + 196 ≤ 14528 by decide)⟩)
    dsimp only [Pt.U, Pt.locs, Pt.cells, Pt.slots] at X2 hS2 hg2 hw2 l2 y2 z2 hC2 st2
    rw [List.append_nil] at l2
    subst l2 y2 z2 hw2
    have X3 : Stand p l e room_1 (s.setVm T2.vm) m args below meth c T2 _ (1 + 2 + 14) (10 + 28 + 196) := X2
    have hS3 : s.Since T2.vm T2.heap.size := hS1.trans hS2 hg2
    refine Goes.by (B := T2.setTop (mkF m 187 #[.val (.int x0), .val (.int x1), .val (.ref ar), .val (.int cc), .val (.int qq), .val (.int 1), .val (.ref a)] [.int 1])) (fun t k => st2.trans ?_) ?_
    · refine XS.iloadN X3.here hx rfl (hb hby at_178) rfl ?_
      refine XS.icmpNo X3.here hx rfl (hb hby at_179) rfl (teq hd).2 ?_
      refine XS.iconst X3.here hx rfl (hb hby at_182) ?_
      refine XS.goto X3.here hx rfl (pc0 := 183) (pc' := 187) rfl (hb hby at_183) (by decide) (by decide) ?_
      exact k
    exact own_lawEnd X3 hx hS3 (Nat.le_refl _) hret hlk N (by decide) (by decide) (hb hby at_187)
end Fin
def Q0 (Z : State) (p0 : Int32) (p1 : Int32) (zz : Int32) (h0 : Heap) (n0 : Nat) (v : Option Value) (h : Heap) (L : List Loc) : Prop := v = some (.int 1) ∧ Fr n0 L
theorem own_pn_com_example_dendrodiff_dendrodiff_document_DocumentWriterEscapeInAttributePinLaw : plainName "com/example/dendrodiff/dendrodiff/document/DocumentWriterEscapeInAttributePinLaw" = true := by first | (simp [plainName, overriddenIn]; done) | decide +kernel
theorem ef0 (m : MethodId) (x0 : Int32) (x1 : Int32) : entryFrame m #[(.int x0), (.int x1)] maxLocals = mkF m 0 #[.val (.int x0), .val (.int x1), .unset, .unset, .unset, .unset, .unset] [] := by first | (simp [entryFrame, mkF, argsToLocals, Value.category, maxLocals]; done) | rfl
set_option maxRecDepth 65536 in
set_option maxHeartbeats 40000000 in
theorem rm0 (l : Launch) (Z : State) (az : Array Value) (hw : ∀ d ∈ tables_1, d.before az Z = true) (ws : List Jvm.Cond) (p0 : Int32) (p1 : Int32) (zz : Int32) (h0 : Heap) (n0 : Nat) (Z0 : n0 ≤ h0.size) (F0 : Sta Z h0 "java/lang/String" "COMPACT_STRINGS" "Z" (.int zz)) (hzz : ¬ zz = (0 : Int32)) :
    MetFree l x (head1 (Jvm.Cond.code x code maxLocals ret :: ws) room_1) (fun a U => a = #[(.int p0), (.int p1)] ∧ Z.Warmed39 U.vm ∧ U.heap = h0 ∧ CHv Z consts_1 U.vm h0) (fun _ _ _ _ _ => True) (fun _ U o U' => ∃ v L, o = .returned v ∧ Q0 Z p0 p1 zz h0 n0 v U'.heap L ∧ ReturnedEndW U o U' L 40 14528) := by
  refine MetFree.of_bodySF (plainFor_of_name own_pn_com_example_dendrodiff_dendrodiff_document_DocumentWriterEscapeInAttributePinLaw) hisR ?_
  intro p e s m args below meth c s₁ Bd hml0 hP hK
  obtain ⟨rfl, hZ, hh, hC⟩ := hP
  have hlk : meth.locks = false := by first | exact BodyLoose.notSynchronized Bd | exact Body.notSynchronized Bd
  have hx := Bd.exec
  have hby := Bd.bytes
  have hml : c.maxLocals = 7 := hml0
  have hown : s.vm.findClass "com/example/dendrodiff/dendrodiff/document/DocumentWriterEscapeInAttributePinLaw" = some m.cls := findClass_of_methodNamed Bd.named
  have hnm := (name_of_methodNamed Bd.named Bd.method).1
  have X0 : Stand p l e room_1 s m #[(.int p0), (.int p1)] below meth c s₁ [] 0 0 := Stand.of_body Bd
  have e0 : s₁.heap = h0 := by rw [← hh, Bd.state]; rfl
  have N0 := Fr.nil n0
  have Kp0 : Keep h0 h0 [] := Keep.refl _ _
  refine Goes.start ?_
  show Goes p.tables e below (PLaw s below n0) _
  refine Goes.by (B := s₁.setTop (mkF m 0 #[.val (.int p0), .val (.int p1), .unset, .unset, .unset, .unset, .unset] [])) (fun t k => castTop (ef0 m p0 p1) k) ?_
  refine Goes.by (B := s₁.setTop (mkF m 2 #[.val (.int p0), .val (.int p1), .unset, .unset, .unset, .unset, .unset] [(.int (10 : Int32))])) (fun t k => ?_) ?_
  · show Steps p.tables e below (s₁.setTop (mkF m 0 #[.val (.int p0), .val (.int p1), .unset, .unset, .unset, .unset, .unset] [])) t
    refine XS.bipush X0.here hx rfl (hb hby at_0) ?_
    exact k
  obtain ⟨T1, h1, k1, X1, e1, E1, A1, st1⟩ := newP X0 hx hZ (hw _ (List.mem_of_getElem? (i := 0) rfl)) e0 (g := (mkF m 2 #[.val (.int p0), .val (.int p1), .unset, .unset, .unset, .unset, .unset] [(.int (10 : Int32))])) rfl (hb hby at_2) rfl (by decide) (cap := 10) (by decide) (by decide) (by decide) (by decide)
  obtain ⟨b2, g1⟩ : ∃ z, z = h0.size := ⟨_, rfl⟩
  rw [← g1] at A1 st1
  have ge3 : n0 ≤ b2 := Nat.le_trans Z0 (Nat.le_of_eq g1.symm)
  have sz4 : h0.size ≤ b2 := Nat.le_trans Kp0.1 (Nat.le_of_eq g1.symm)
  have f5 : Sta Z h1 "java/lang/String" "COMPACT_STRINGS" "Z" (.int zz) := F0.ext E1
  have f6 : Arv Z h1 b2 k1 .char (10 : Int32) [(.int (0 : Int32)), (.int (0 : Int32)), (.int (0 : Int32)), (.int (0 : Int32)), (.int (0 : Int32)), (.int (0 : Int32)), (.int (0 : Int32)), (.int (0 : Int32)), (.int (0 : Int32)), (.int (0 : Int32))] (.int (0 : Int32)) := (Arv.new A1 (by decide)).pad (pad_rep [] (.int (0 : Int32)) 10)
  have Kp1 : Keep h0 h1 [] := Kp0.ext E1
  have Z7 : n0 ≤ h1.size := Nat.le_trans Z0 E1.1
  refine Goes.by st1 ?_
  show Goes p.tables e below _ (T1.setTop (mkF m 4 #[.val (.int p0), .val (.int p1), .unset, .unset, .unset, .unset, .unset] [(.ref b2)]))
  refine Goes.by (B := T1.setTop (mkF m 8 #[.val (.int p0), .val (.int p1), .unset, .unset, .unset, .unset, .unset] [(.int (34 : Int32)), (.int (0 : Int32)), (.ref b2), (.ref b2)])) (fun t k => ?_) ?_
  · show Steps p.tables e below (T1.setTop (mkF m 4 #[.val (.int p0), .val (.int p1), .unset, .unset, .unset, .unset, .unset] [(.ref b2)])) t
    refine XS.dup X1.here hx rfl (hb hby at_4) rfl rfl ?_
    show Steps p.tables e below (T1.setTop (mkF m 5 #[.val (.int p0), .val (.int p1), .unset, .unset, .unset, .unset, .unset] [(.ref b2), (.ref b2)])) t
    refine XS.iconst X1.here hx rfl (hb hby at_5) ?_
    show Steps p.tables e below (T1.setTop (mkF m 6 #[.val (.int p0), .val (.int p1), .unset, .unset, .unset, .unset, .unset] [(.int (0 : Int32)), (.ref b2), (.ref b2)])) t
    refine XS.bipush X1.here hx rfl (hb hby at_6) ?_
    exact k
  obtain ⟨cl8, cl8A, cl8q, cl8S, cl8N, cl8H, cl8G⟩ := id f6
  have cl8I : ¬ ((0 : Int32) < 0 ∨ cl8.slots.size ≤ ((0 : Int32)).toNatClampNeg) := inb_of cl8S ⟨by decide, by decide⟩
  obtain ⟨T8, h8, X8, e8, W8, st8⟩ := stC X1 hx hZ e1 cl8A (j := (0 : Int32)) cl8I (g := (mkF m 8 #[.val (.int p0), .val (.int p1), .unset, .unset, .unset, .unset, .unset] [(.int (34 : Int32)), (.int (0 : Int32)), (.ref b2), (.ref b2)])) rfl rfl (hb hby at_8)
  have f9 : Sta Z h8 "java/lang/String" "COMPACT_STRINGS" "Z" (.int zz) := f5.wr W8
  have f10 : Arv Z h8 b2 k1 .char (10 : Int32) [(.int (nar .char (34 : Int32))), (.int (0 : Int32)), (.int (0 : Int32)), (.int (0 : Int32)), (.int (0 : Int32)), (.int (0 : Int32)), (.int (0 : Int32)), (.int (0 : Int32)), (.int (0 : Int32)), (.int (0 : Int32))] (.int (0 : Int32)) := Arv.set cl8A cl8q cl8S cl8N cl8H cl8G (fits_nar_char _) W8 0 rfl (Nat.le_of_ble_eq_true rfl)
  have Kp8 : Keep h0 h8 [] := Kp1.wr W8 (Or.inr sz4)
  have Z11 : n0 ≤ h8.size := Nat.le_trans Z7 (Nat.le_of_eq W8.size.symm)
  have N12 := Fr.snoc X8 N0 ge3
  refine Goes.by st8 ?_
  show Goes p.tables e below _ (T8.setTop (mkF m 9 #[.val (.int p0), .val (.int p1), .unset, .unset, .unset, .unset, .unset] [(.ref b2)]))
  refine Goes.by (B := T8.setTop (mkF m 13 #[.val (.int p0), .val (.int p1), .unset, .unset, .unset, .unset, .unset] [(.int (39 : Int32)), (.int (1 : Int32)), (.ref b2), (.ref b2)])) (fun t k => ?_) ?_
  · show Steps p.tables e below (T8.setTop (mkF m 9 #[.val (.int p0), .val (.int p1), .unset, .unset, .unset, .unset, .unset] [(.ref b2)])) t
    refine XS.dup X8.here hx rfl (hb hby at_9) rfl rfl ?_
    show Steps p.tables e below (T8.setTop (mkF m 10 #[.val (.int p0), .val (.int p1), .unset, .unset, .unset, .unset, .unset] [(.ref b2), (.ref b2)])) t
    refine XS.iconst X8.here hx rfl (hb hby at_10) ?_
    show Steps p.tables e below (T8.setTop (mkF m 11 #[.val (.int p0), .val (.int p1), .unset, .unset, .unset, .unset, .unset] [(.int (1 : Int32)), (.ref b2), (.ref b2)])) t
    refine XS.bipush X8.here hx rfl (hb hby at_11) ?_
    exact k
  obtain ⟨cl13, cl13A, cl13q, cl13S, cl13N, cl13H, cl13G⟩ := id f10
  have cl13I : ¬ ((1 : Int32) < 0 ∨ cl13.slots.size ≤ ((1 : Int32)).toNatClampNeg) := inb_of cl13S ⟨by decide, by decide⟩
  obtain ⟨T13, h13, X13, e13, W13, st13⟩ := stC X8 hx hZ e8 cl13A (j := (1 : Int32)) cl13I (g := (mkF m 13 #[.val (.int p0), .val (.int p1), .unset, .unset, .unset, .unset, .unset] [(.int (39 : Int32)), (.int (1 : Int32)), (.ref b2), (.ref b2)])) rfl rfl (hb hby at_13)
  have f14 : Sta Z h13 "java/lang/String" "COMPACT_STRINGS" "Z" (.int zz) := f9.wr W13
  have f15 : Arv Z h13 b2 k1 .char (10 : Int32) [(.int (nar .char (34 : Int32))), (.int (nar .char (39 : Int32))), (.int (0 : Int32)), (.int (0 : Int32)), (.int (0 : Int32)), (.int (0 : Int32)), (.int (0 : Int32)), (.int (0 : Int32)), (.int (0 : Int32)), (.int (0 : Int32))] (.int (0 : Int32)) := Arv.set cl13A cl13q cl13S cl13N cl13H cl13G (fits_nar_char _) W13 1 rfl (Nat.le_of_ble_eq_true rfl)
  have Kp13 : Keep h0 h13 [] := Kp8.wr W13 (Or.inr sz4)
  have Z16 : n0 ≤ h13.size := Nat.le_trans Z11 (Nat.le_of_eq W13.size.symm)
  have N17 := Fr.snoc X13 N12 ge3
  refine Goes.by st13 ?_
  show Goes p.tables e below _ (T13.setTop (mkF m 14 #[.val (.int p0), .val (.int p1), .unset, .unset, .unset, .unset, .unset] [(.ref b2)]))
  refine Goes.by (B := T13.setTop (mkF m 18 #[.val (.int p0), .val (.int p1), .unset, .unset, .unset, .unset, .unset] [(.int (38 : Int32)), (.int (2 : Int32)), (.ref b2), (.ref b2)])) (fun t k => ?_) ?_
  · show Steps p.tables e below (T13.setTop (mkF m 14 #[.val (.int p0), .val (.int p1), .unset, .unset, .unset, .unset, .unset] [(.ref b2)])) t
    refine XS.dup X13.here hx rfl (hb hby at_14) rfl rfl ?_
    show Steps p.tables e below (T13.setTop (mkF m 15 #[.val (.int p0), .val (.int p1), .unset, .unset, .unset, .unset, .unset] [(.ref b2), (.ref b2)])) t
    refine XS.iconst X13.here hx rfl (hb hby at_15) ?_
    show Steps p.tables e below (T13.setTop (mkF m 16 #[.val (.int p0), .val (.int p1), .unset, .unset, .unset, .unset, .unset] [(.int (2 : Int32)), (.ref b2), (.ref b2)])) t
    refine XS.bipush X13.here hx rfl (hb hby at_16) ?_
    exact k
  obtain ⟨cl18, cl18A, cl18q, cl18S, cl18N, cl18H, cl18G⟩ := id f15
  have cl18I : ¬ ((2 : Int32) < 0 ∨ cl18.slots.size ≤ ((2 : Int32)).toNatClampNeg) := inb_of cl18S ⟨by decide, by decide⟩
  obtain ⟨T18, h18, X18, e18, W18, st18⟩ := stC X13 hx hZ e13 cl18A (j := (2 : Int32)) cl18I (g := (mkF m 18 #[.val (.int p0), .val (.int p1), .unset, .unset, .unset, .unset, .unset] [(.int (38 : Int32)), (.int (2 : Int32)), (.ref b2), (.ref b2)])) rfl rfl (hb hby at_18)
  have f19 : Sta Z h18 "java/lang/String" "COMPACT_STRINGS" "Z" (.int zz) := f14.wr W18
  have f20 : Arv Z h18 b2 k1 .char (10 : Int32) [(.int (nar .char (34 : Int32))), (.int (nar .char (39 : Int32))), (.int (nar .char (38 : Int32))), (.int (0 : Int32)), (.int (0 : Int32)), (.int (0 : Int32)), (.int (0 : Int32)), (.int (0 : Int32)), (.int (0 : Int32)), (.int (0 : Int32))] (.int (0 : Int32)) := Arv.set cl18A cl18q cl18S cl18N cl18H cl18G (fits_nar_char _) W18 2 rfl (Nat.le_of_ble_eq_true rfl)
  have Kp18 : Keep h0 h18 [] := Kp13.wr W18 (Or.inr sz4)
  have Z21 : n0 ≤ h18.size := Nat.le_trans Z16 (Nat.le_of_eq W18.size.symm)
  have N22 := Fr.snoc X18 N17 ge3
  refine Goes.by st18 ?_
  show Goes p.tables e below _ (T18.setTop (mkF m 19 #[.val (.int p0), .val (.int p1), .unset, .unset, .unset, .unset, .unset] [(.ref b2)]))
  refine Goes.by (B := T18.setTop (mkF m 23 #[.val (.int p0), .val (.int p1), .unset, .unset, .unset, .unset, .unset] [(.int (60 : Int32)), (.int (3 : Int32)), (.ref b2), (.ref b2)])) (fun t k => ?_) ?_
  · show Steps p.tables e below (T18.setTop (mkF m 19 #[.val (.int p0), .val (.int p1), .unset, .unset, .unset, .unset, .unset] [(.ref b2)])) t
    refine XS.dup X18.here hx rfl (hb hby at_19) rfl rfl ?_
    show Steps p.tables e below (T18.setTop (mkF m 20 #[.val (.int p0), .val (.int p1), .unset, .unset, .unset, .unset, .unset] [(.ref b2), (.ref b2)])) t
    refine XS.iconst X18.here hx rfl (hb hby at_20) ?_
    show Steps p.tables e below (T18.setTop (mkF m 21 #[.val (.int p0), .val (.int p1), .unset, .unset, .unset, .unset, .unset] [(.int (3 : Int32)), (.ref b2), (.ref b2)])) t
    refine XS.bipush X18.here hx rfl (hb hby at_21) ?_
    exact k
  obtain ⟨cl23, cl23A, cl23q, cl23S, cl23N, cl23H, cl23G⟩ := id f20
  have cl23I : ¬ ((3 : Int32) < 0 ∨ cl23.slots.size ≤ ((3 : Int32)).toNatClampNeg) := inb_of cl23S ⟨by decide, by decide⟩
  obtain ⟨T23, h23, X23, e23, W23, st23⟩ := stC X18 hx hZ e18 cl23A (j := (3 : Int32)) cl23I (g := (mkF m 23 #[.val (.int p0), .val (.int p1), .unset, .unset, .unset, .unset, .unset] [(.int (60 : Int32)), (.int (3 : Int32)), (.ref b2), (.ref b2)])) rfl rfl (hb hby at_23)
  have f24 : Sta Z h23 "java/lang/String" "COMPACT_STRINGS" "Z" (.int zz) := f19.wr W23
  have f25 : Arv Z h23 b2 k1 .char (10 : Int32) [(.int (nar .char (34 : Int32))), (.int (nar .char (39 : Int32))), (.int (nar .char (38 : Int32))), (.int (nar .char (60 : Int32))), (.int (0 : Int32)), (.int (0 : Int32)), (.int (0 : Int32)), (.int (0 : Int32)), (.int (0 : Int32)), (.int (0 : Int32))] (.int (0 : Int32)) := Arv.set cl23A cl23q cl23S cl23N cl23H cl23G (fits_nar_char _) W23 3 rfl (Nat.le_of_ble_eq_true rfl)
  have Kp23 : Keep h0 h23 [] := Kp18.wr W23 (Or.inr sz4)
  have Z26 : n0 ≤ h23.size := Nat.le_trans Z21 (Nat.le_of_eq W23.size.symm)
  have N27 := Fr.snoc X23 N22 ge3
  refine Goes.by st23 ?_
  show Goes p.tables e below _ (T23.setTop (mkF m 24 #[.val (.int p0), .val (.int p1), .unset, .unset, .unset, .unset, .unset] [(.ref b2)]))
  refine Goes.by (B := T23.setTop (mkF m 28 #[.val (.int p0), .val (.int p1), .unset, .unset, .unset, .unset, .unset] [(.int (62 : Int32)), (.int (4 : Int32)), (.ref b2), (.ref b2)])) (fun t k => ?_) ?_
  · show Steps p.tables e below (T23.setTop (mkF m 24 #[.val (.int p0), .val (.int p1), .unset, .unset, .unset, .unset, .unset] [(.ref b2)])) t
    refine XS.dup X23.here hx rfl (hb hby at_24) rfl rfl ?_
    show Steps p.tables e below (T23.setTop (mkF m 25 #[.val (.int p0), .val (.int p1), .unset, .unset, .unset, .unset, .unset] [(.ref b2), (.ref b2)])) t
    refine XS.iconst X23.here hx rfl (hb hby at_25) ?_
    show Steps p.tables e below (T23.setTop (mkF m 26 #[.val (.int p0), .val (.int p1), .unset, .unset, .unset, .unset, .unset] [(.int (4 : Int32)), (.ref b2), (.ref b2)])) t
    refine XS.bipush X23.here hx rfl (hb hby at_26) ?_
    exact k
  obtain ⟨cl28, cl28A, cl28q, cl28S, cl28N, cl28H, cl28G⟩ := id f25
  have cl28I : ¬ ((4 : Int32) < 0 ∨ cl28.slots.size ≤ ((4 : Int32)).toNatClampNeg) := inb_of cl28S ⟨by decide, by decide⟩
  obtain ⟨T28, h28, X28, e28, W28, st28⟩ := stC X23 hx hZ e23 cl28A (j := (4 : Int32)) cl28I (g := (mkF m 28 #[.val (.int p0), .val (.int p1), .unset, .unset, .unset, .unset, .unset] [(.int (62 : Int32)), (.int (4 : Int32)), (.ref b2), (.ref b2)])) rfl rfl (hb hby at_28)
  have f29 : Sta Z h28 "java/lang/String" "COMPACT_STRINGS" "Z" (.int zz) := f24.wr W28
  have f30 : Arv Z h28 b2 k1 .char (10 : Int32) [(.int (nar .char (34 : Int32))), (.int (nar .char (39 : Int32))), (.int (nar .char (38 : Int32))), (.int (nar .char (60 : Int32))), (.int (nar .char (62 : Int32))), (.int (0 : Int32)), (.int (0 : Int32)), (.int (0 : Int32)), (.int (0 : Int32)), (.int (0 : Int32))] (.int (0 : Int32)) := Arv.set cl28A cl28q cl28S cl28N cl28H cl28G (fits_nar_char _) W28 4 rfl (Nat.le_of_ble_eq_true rfl)
  have Kp28 : Keep h0 h28 [] := Kp23.wr W28 (Or.inr sz4)
  have Z31 : n0 ≤ h28.size := Nat.le_trans Z26 (Nat.le_of_eq W28.size.symm)
  have N32 := Fr.snoc X28 N27 ge3
  refine Goes.by st28 ?_
  show Goes p.tables e below _ (T28.setTop (mkF m 29 #[.val (.int p0), .val (.int p1), .unset, .unset, .unset, .unset, .unset] [(.ref b2)]))
  refine Goes.by (B := T28.setTop (mkF m 33 #[.val (.int p0), .val (.int p1), .unset, .unset, .unset, .unset, .unset] [(.int (9 : Int32)), (.int (5 : Int32)), (.ref b2), (.ref b2)])) (fun t k => ?_) ?_
  · show Steps p.tables e below (T28.setTop (mkF m 29 #[.val (.int p0), .val (.int p1), .unset, .unset, .unset, .unset, .unset] [(.ref b2)])) t
    refine XS.dup X28.here hx rfl (hb hby at_29) rfl rfl ?_
    show Steps p.tables e below (T28.setTop (mkF m 30 #[.val (.int p0), .val (.int p1), .unset, .unset, .unset, .unset, .unset] [(.ref b2), (.ref b2)])) t
    refine XS.iconst X28.here hx rfl (hb hby at_30) ?_
    show Steps p.tables e below (T28.setTop (mkF m 31 #[.val (.int p0), .val (.int p1), .unset, .unset, .unset, .unset, .unset] [(.int (5 : Int32)), (.ref b2), (.ref b2)])) t
    refine XS.bipush X28.here hx rfl (hb hby at_31) ?_
    exact k
  obtain ⟨cl33, cl33A, cl33q, cl33S, cl33N, cl33H, cl33G⟩ := id f30
  have cl33I : ¬ ((5 : Int32) < 0 ∨ cl33.slots.size ≤ ((5 : Int32)).toNatClampNeg) := inb_of cl33S ⟨by decide, by decide⟩
  obtain ⟨T33, h33, X33, e33, W33, st33⟩ := stC X28 hx hZ e28 cl33A (j := (5 : Int32)) cl33I (g := (mkF m 33 #[.val (.int p0), .val (.int p1), .unset, .unset, .unset, .unset, .unset] [(.int (9 : Int32)), (.int (5 : Int32)), (.ref b2), (.ref b2)])) rfl rfl (hb hby at_33)
  have f34 : Sta Z h33 "java/lang/String" "COMPACT_STRINGS" "Z" (.int zz) := f29.wr W33
  have f35 : Arv Z h33 b2 k1 .char (10 : Int32) [(.int (nar .char (34 : Int32))), (.int (nar .char (39 : Int32))), (.int (nar .char (38 : Int32))), (.int (nar .char (60 : Int32))), (.int (nar .char (62 : Int32))), (.int (nar .char (9 : Int32))), (.int (0 : Int32)), (.int (0 : Int32)), (.int (0 : Int32)), (.int (0 : Int32))] (.int (0 : Int32)) := Arv.set cl33A cl33q cl33S cl33N cl33H cl33G (fits_nar_char _) W33 5 rfl (Nat.le_of_ble_eq_true rfl)
  have Kp33 : Keep h0 h33 [] := Kp28.wr W33 (Or.inr sz4)
  have Z36 : n0 ≤ h33.size := Nat.le_trans Z31 (Nat.le_of_eq W33.size.symm)
  have N37 := Fr.snoc X33 N32 ge3
  refine Goes.by st33 ?_
  show Goes p.tables e below _ (T33.setTop (mkF m 34 #[.val (.int p0), .val (.int p1), .unset, .unset, .unset, .unset, .unset] [(.ref b2)]))
  refine Goes.by (B := T33.setTop (mkF m 39 #[.val (.int p0), .val (.int p1), .unset, .unset, .unset, .unset, .unset] [(.int (10 : Int32)), (.int (6 : Int32)), (.ref b2), (.ref b2)])) (fun t k => ?_) ?_
  · show Steps p.tables e below (T33.setTop (mkF m 34 #[.val (.int p0), .val (.int p1), .unset, .unset, .unset, .unset, .unset] [(.ref b2)])) t
    refine XS.dup X33.here hx rfl (hb hby at_34) rfl rfl ?_
    show Steps p.tables e below (T33.setTop (mkF m 35 #[.val (.int p0), .val (.int p1), .unset, .unset, .unset, .unset, .unset] [(.ref b2), (.ref b2)])) t
    refine XS.bipush X33.here hx rfl (hb hby at_35) ?_
    show Steps p.tables e below (T33.setTop (mkF m 37 #[.val (.int p0), .val (.int p1), .unset, .unset, .unset, .unset, .unset] [(.int (6 : Int32)), (.ref b2), (.ref b2)])) t
    refine XS.bipush X33.here hx rfl (hb hby at_37) ?_
    exact k
  obtain ⟨cl38, cl38A, cl38q, cl38S, cl38N, cl38H, cl38G⟩ := id f35
  have cl38I : ¬ ((6 : Int32) < 0 ∨ cl38.slots.size ≤ ((6 : Int32)).toNatClampNeg) := inb_of cl38S ⟨by decide, by decide⟩
  obtain ⟨T38, h38, X38, e38, W38, st38⟩ := stC X33 hx hZ e33 cl38A (j := (6 : Int32)) cl38I (g := (mkF m 39 #[.val (.int p0), .val (.int p1), .unset, .unset, .unset, .unset, .unset] [(.int (10 : Int32)), (.int (6 : Int32)), (.ref b2), (.ref b2)])) rfl rfl (hb hby at_39)
  have f39 : Sta Z h38 "java/lang/String" "COMPACT_STRINGS" "Z" (.int zz) := f34.wr W38
  have f40 : Arv Z h38 b2 k1 .char (10 : Int32) [(.int (nar .char (34 : Int32))), (.int (nar .char (39 : Int32))), (.int (nar .char (38 : Int32))), (.int (nar .char (60 : Int32))), (.int (nar .char (62 : Int32))), (.int (nar .char (9 : Int32))), (.int (nar .char (10 : Int32))), (.int (0 : Int32)), (.int (0 : Int32)), (.int (0 : Int32))] (.int (0 : Int32)) := Arv.set cl38A cl38q cl38S cl38N cl38H cl38G (fits_nar_char _) W38 6 rfl (Nat.le_of_ble_eq_true rfl)
  have Kp38 : Keep h0 h38 [] := Kp33.wr W38 (Or.inr sz4)
  have Z41 : n0 ≤ h38.size := Nat.le_trans Z36 (Nat.le_of_eq W38.size.symm)
  have N42 := Fr.snoc X38 N37 ge3
  refine Goes.by st38 ?_
  show Goes p.tables e below _ (T38.setTop (mkF m 40 #[.val (.int p0), .val (.int p1), .unset, .unset, .unset, .unset, .unset] [(.ref b2)]))
  refine Goes.by (B := T38.setTop (mkF m 45 #[.val (.int p0), .val (.int p1), .unset, .unset, .unset, .unset, .unset] [(.int (13 : Int32)), (.int (7 : Int32)), (.ref b2), (.ref b2)])) (fun t k => ?_) ?_
  · show Steps p.tables e below (T38.setTop (mkF m 40 #[.val (.int p0), .val (.int p1), .unset, .unset, .unset, .unset, .unset] [(.ref b2)])) t
    refine XS.dup X38.here hx rfl (hb hby at_40) rfl rfl ?_
    show Steps p.tables e below (T38.setTop (mkF m 41 #[.val (.int p0), .val (.int p1), .unset, .unset, .unset, .unset, .unset] [(.ref b2), (.ref b2)])) t
    refine XS.bipush X38.here hx rfl (hb hby at_41) ?_
    show Steps p.tables e below (T38.setTop (mkF m 43 #[.val (.int p0), .val (.int p1), .unset, .unset, .unset, .unset, .unset] [(.int (7 : Int32)), (.ref b2), (.ref b2)])) t
    refine XS.bipush X38.here hx rfl (hb hby at_43) ?_
    exact k
  obtain ⟨cl43, cl43A, cl43q, cl43S, cl43N, cl43H, cl43G⟩ := id f40
  have cl43I : ¬ ((7 : Int32) < 0 ∨ cl43.slots.size ≤ ((7 : Int32)).toNatClampNeg) := inb_of cl43S ⟨by decide, by decide⟩
  obtain ⟨T43, h43, X43, e43, W43, st43⟩ := stC X38 hx hZ e38 cl43A (j := (7 : Int32)) cl43I (g := (mkF m 45 #[.val (.int p0), .val (.int p1), .unset, .unset, .unset, .unset, .unset] [(.int (13 : Int32)), (.int (7 : Int32)), (.ref b2), (.ref b2)])) rfl rfl (hb hby at_45)
  have f44 : Sta Z h43 "java/lang/String" "COMPACT_STRINGS" "Z" (.int zz) := f39.wr W43
  have f45 : Arv Z h43 b2 k1 .char (10 : Int32) [(.int (nar .char (34 : Int32))), (.int (nar .char (39 : Int32))), (.int (nar .char (38 : Int32))), (.int (nar .char (60 : Int32))), (.int (nar .char (62 : Int32))), (.int (nar .char (9 : Int32))), (.int (nar .char (10 : Int32))), (.int (nar .char (13 : Int32))), (.int (0 : Int32)), (.int (0 : Int32))] (.int (0 : Int32)) := Arv.set cl43A cl43q cl43S cl43N cl43H cl43G (fits_nar_char _) W43 7 rfl (Nat.le_of_ble_eq_true rfl)
  have Kp43 : Keep h0 h43 [] := Kp38.wr W43 (Or.inr sz4)
  have Z46 : n0 ≤ h43.size := Nat.le_trans Z41 (Nat.le_of_eq W43.size.symm)
  have N47 := Fr.snoc X43 N42 ge3
  refine Goes.by st43 ?_
  show Goes p.tables e below _ (T43.setTop (mkF m 46 #[.val (.int p0), .val (.int p1), .unset, .unset, .unset, .unset, .unset] [(.ref b2)]))
  refine Goes.by (B := T43.setTop (mkF m 51 #[.val (.int p0), .val (.int p1), .unset, .unset, .unset, .unset, .unset] [(.int (32 : Int32)), (.int (8 : Int32)), (.ref b2), (.ref b2)])) (fun t k => ?_) ?_
  · show Steps p.tables e below (T43.setTop (mkF m 46 #[.val (.int p0), .val (.int p1), .unset, .unset, .unset, .unset, .unset] [(.ref b2)])) t
    refine XS.dup X43.here hx rfl (hb hby at_46) rfl rfl ?_
    show Steps p.tables e below (T43.setTop (mkF m 47 #[.val (.int p0), .val (.int p1), .unset, .unset, .unset, .unset, .unset] [(.ref b2), (.ref b2)])) t
    refine XS.bipush X43.here hx rfl (hb hby at_47) ?_
    show Steps p.tables e below (T43.setTop (mkF m 49 #[.val (.int p0), .val (.int p1), .unset, .unset, .unset, .unset, .unset] [(.int (8 : Int32)), (.ref b2), (.ref b2)])) t
    refine XS.bipush X43.here hx rfl (hb hby at_49) ?_
    exact k
  obtain ⟨cl48, cl48A, cl48q, cl48S, cl48N, cl48H, cl48G⟩ := id f45
  have cl48I : ¬ ((8 : Int32) < 0 ∨ cl48.slots.size ≤ ((8 : Int32)).toNatClampNeg) := inb_of cl48S ⟨by decide, by decide⟩
  obtain ⟨T48, h48, X48, e48, W48, st48⟩ := stC X43 hx hZ e43 cl48A (j := (8 : Int32)) cl48I (g := (mkF m 51 #[.val (.int p0), .val (.int p1), .unset, .unset, .unset, .unset, .unset] [(.int (32 : Int32)), (.int (8 : Int32)), (.ref b2), (.ref b2)])) rfl rfl (hb hby at_51)
  have f49 : Sta Z h48 "java/lang/String" "COMPACT_STRINGS" "Z" (.int zz) := f44.wr W48
  have f50 : Arv Z h48 b2 k1 .char (10 : Int32) [(.int (nar .char (34 : Int32))), (.int (nar .char (39 : Int32))), (.int (nar .char (38 : Int32))), (.int (nar .char (60 : Int32))), (.int (nar .char (62 : Int32))), (.int (nar .char (9 : Int32))), (.int (nar .char (10 : Int32))), (.int (nar .char (13 : Int32))), (.int (nar .char (32 : Int32))), (.int (0 : Int32))] (.int (0 : Int32)) := Arv.set cl48A cl48q cl48S cl48N cl48H cl48G (fits_nar_char _) W48 8 rfl (Nat.le_of_ble_eq_true rfl)
  have Kp48 : Keep h0 h48 [] := Kp43.wr W48 (Or.inr sz4)
  have Z51 : n0 ≤ h48.size := Nat.le_trans Z46 (Nat.le_of_eq W48.size.symm)
  have N52 := Fr.snoc X48 N47 ge3
  refine Goes.by st48 ?_
  show Goes p.tables e below _ (T48.setTop (mkF m 52 #[.val (.int p0), .val (.int p1), .unset, .unset, .unset, .unset, .unset] [(.ref b2)]))
  refine Goes.by (B := T48.setTop (mkF m 57 #[.val (.int p0), .val (.int p1), .unset, .unset, .unset, .unset, .unset] [(.int (97 : Int32)), (.int (9 : Int32)), (.ref b2), (.ref b2)])) (fun t k => ?_) ?_
  · show Steps p.tables e below (T48.setTop (mkF m 52 #[.val (.int p0), .val (.int p1), .unset, .unset, .unset, .unset, .unset] [(.ref b2)])) t
    refine XS.dup X48.here hx rfl (hb hby at_52) rfl rfl ?_
    show Steps p.tables e below (T48.setTop (mkF m 53 #[.val (.int p0), .val (.int p1), .unset, .unset, .unset, .unset, .unset] [(.ref b2), (.ref b2)])) t
    refine XS.bipush X48.here hx rfl (hb hby at_53) ?_
    show Steps p.tables e below (T48.setTop (mkF m 55 #[.val (.int p0), .val (.int p1), .unset, .unset, .unset, .unset, .unset] [(.int (9 : Int32)), (.ref b2), (.ref b2)])) t
    refine XS.bipush X48.here hx rfl (hb hby at_55) ?_
    exact k
  obtain ⟨cl53, cl53A, cl53q, cl53S, cl53N, cl53H, cl53G⟩ := id f50
  have cl53I : ¬ ((9 : Int32) < 0 ∨ cl53.slots.size ≤ ((9 : Int32)).toNatClampNeg) := inb_of cl53S ⟨by decide, by decide⟩
  obtain ⟨T53, h53, X53, e53, W53, st53⟩ := stC X48 hx hZ e48 cl53A (j := (9 : Int32)) cl53I (g := (mkF m 57 #[.val (.int p0), .val (.int p1), .unset, .unset, .unset, .unset, .unset] [(.int (97 : Int32)), (.int (9 : Int32)), (.ref b2), (.ref b2)])) rfl rfl (hb hby at_57)
  have f54 : Sta Z h53 "java/lang/String" "COMPACT_STRINGS" "Z" (.int zz) := f49.wr W53
  have f55 : Arv Z h53 b2 k1 .char (10 : Int32) [(.int (nar .char (34 : Int32))), (.int (nar .char (39 : Int32))), (.int (nar .char (38 : Int32))), (.int (nar .char (60 : Int32))), (.int (nar .char (62 : Int32))), (.int (nar .char (9 : Int32))), (.int (nar .char (10 : Int32))), (.int (nar .char (13 : Int32))), (.int (nar .char (32 : Int32))), (.int (nar .char (97 : Int32)))] (.int (0 : Int32)) := Arv.set cl53A cl53q cl53S cl53N cl53H cl53G (fits_nar_char _) W53 9 rfl (Nat.le_of_ble_eq_true rfl)
  have Kp53 : Keep h0 h53 [] := Kp48.wr W53 (Or.inr sz4)
  have Z56 : n0 ≤ h53.size := Nat.le_trans Z51 (Nat.le_of_eq W53.size.symm)
  have N57 := Fr.snoc X53 N52 ge3
  refine Goes.by st53 ?_
  show Goes p.tables e below _ (T53.setTop (mkF m 58 #[.val (.int p0), .val (.int p1), .unset, .unset, .unset, .unset, .unset] [(.ref b2)]))
  refine Goes.by (B := T53.setTop (mkF m 59 #[.val (.int p0), .val (.int p1), .val (.ref b2), .unset, .unset, .unset, .unset] [])) (fun t k => ?_) ?_
  · show Steps p.tables e below (T53.setTop (mkF m 58 #[.val (.int p0), .val (.int p1), .unset, .unset, .unset, .unset, .unset] [(.ref b2)])) t
    refine XS.astoreN X53.here hx rfl (hb hby at_58) rfl rfl (l' := #[.val (.int p0), .val (.int p1), .val (.ref b2), .unset, .unset, .unset, .unset]) rfl ?_
    exact k
  have tl84 : ∀ cc : Int32, Goes p.tables e below (PLaw s below n0) (T53.setTop (mkF m 84 #[.val (.int p0), .val (.int p1), .val (.ref b2), .val (.int cc), .unset, .unset, .unset] [])) := by
    intro cc
    refine Goes.by (B := T53.setTop (mkF m 87 #[.val (.int p0), .val (.int p1), .val (.ref b2), .val (.int cc), .unset, .unset, .unset] [(.int (p1 &&& (2 : Int32)))])) (fun t k => ?_) ?_
    · show Steps p.tables e below (T53.setTop (mkF m 84 #[.val (.int p0), .val (.int p1), .val (.ref b2), .val (.int cc), .unset, .unset, .unset] [])) t
      refine XS.iloadN X53.here hx rfl (hb hby at_84) rfl ?_
      show Steps p.tables e below (T53.setTop (mkF m 85 #[.val (.int p0), .val (.int p1), .val (.ref b2), .val (.int cc), .unset, .unset, .unset] [(.int p1)])) t
      refine XS.iconst X53.here hx rfl (hb hby at_85) ?_
      show Steps p.tables e below (T53.setTop (mkF m 86 #[.val (.int p0), .val (.int p1), .val (.ref b2), .val (.int cc), .unset, .unset, .unset] [(.int (2 : Int32)), (.int p1)])) t
      refine XS.iand X53.here hx rfl (hb hby at_86) rfl ?_
      exact k
    refine Goes.by (B := T53.setTop (mkF m 97 #[.val (.int p0), .val (.int p1), .val (.ref b2), .val (.int cc), .unset, .unset, .unset] [(.int (if (p1 &&& (2 : Int32)) = (0 : Int32) then (39 : Int32) else (34 : Int32)))])) (fun t k => ?_) ?_
    · by_cases hm58 : (p1 &&& (2 : Int32)) = (0 : Int32)
      · simp only [if_pos hm58] at k
        show Steps p.tables e below (T53.setTop (mkF m 87 #[.val (.int p0), .val (.int p1), .val (.ref b2), .val (.int cc), .unset, .unset, .unset] [(.int (p1 &&& (2 : Int32)))])) t
        refine XS.ifYes X53.here hx rfl (pc0 := 87) (pc' := 95) rfl (hb hby at_87) rfl ((if0 _ _).trans (teq hm58).1) (by decide) (by decide) ?_
        show Steps p.tables e below (T53.setTop (mkF m 95 #[.val (.int p0), .val (.int p1), .val (.ref b2), .val (.int cc), .unset, .unset, .unset] [])) t
        refine XS.bipush X53.here hx rfl (hb hby at_95) ?_
        exact k
      · simp only [if_neg hm58] at k
        show Steps p.tables e below (T53.setTop (mkF m 87 #[.val (.int p0), .val (.int p1), .val (.ref b2), .val (.int cc), .unset, .unset, .unset] [(.int (p1 &&& (2 : Int32)))])) t
        refine XS.ifNo X53.here hx rfl (hb hby at_87) rfl ((if0 _ _).trans (feq hm58).1) ?_
        show Steps p.tables e below (T53.setTop (mkF m 90 #[.val (.int p0), .val (.int p1), .val (.ref b2), .val (.int cc), .unset, .unset, .unset] [])) t
        refine XS.bipush X53.here hx rfl (hb hby at_90) ?_
        show Steps p.tables e below (T53.setTop (mkF m 92 #[.val (.int p0), .val (.int p1), .val (.ref b2), .val (.int cc), .unset, .unset, .unset] [(.int (34 : Int32))])) t
        refine XS.goto X53.here hx rfl (pc0 := 92) (pc' := 97) rfl (hb hby at_92) (by decide) (by decide) ?_
        exact k
    refine Goes.by (B := T53.setTop (mkF m 99 #[.val (.int p0), .val (.int p1), .val (.ref b2), .val (.int cc), .val (.int (if (p1 &&& (2 : Int32)) = (0 : Int32) then (39 : Int32) else (34 : Int32))), .unset, .unset] [])) (fun t k => ?_) ?_
    · show Steps p.tables e below (T53.setTop (mkF m 97 #[.val (.int p0), .val (.int p1), .val (.ref b2), .val (.int cc), .unset, .unset, .unset] [(.int (if (p1 &&& (2 : Int32)) = (0 : Int32) then (39 : Int32) else (34 : Int32)))])) t
      refine XS.istore X53.here hx rfl (hb hby at_97) rfl (l' := #[.val (.int p0), .val (.int p1), .val (.ref b2), .val (.int cc), .val (.int (if (p1 &&& (2 : Int32)) = (0 : Int32) then (39 : Int32) else (34 : Int32))), .unset, .unset]) rfl ?_
      exact k
    generalize hg_qq : (if (p1 &&& (2 : Int32)) = (0 : Int32) then (39 : Int32) else (34 : Int32)) = qq
    refine Goes.by (B := T53.setTop (mkF m 102 #[.val (.int p0), .val (.int p1), .val (.ref b2), .val (.int cc), .val (.int qq), .unset, .unset] [(.int qq), (.int cc)])) (fun t k => ?_) ?_
    · show Steps p.tables e below (T53.setTop (mkF m 99 #[.val (.int p0), .val (.int p1), .val (.ref b2), .val (.int cc), .val (.int qq), .unset, .unset] [])) t
      refine XS.iloadN X53.here hx rfl (hb hby at_99) rfl ?_
      show Steps p.tables e below (T53.setTop (mkF m 100 #[.val (.int p0), .val (.int p1), .val (.ref b2), .val (.int cc), .val (.int qq), .unset, .unset] [(.int cc)])) t
      refine XS.iload X53.here hx rfl (hb hby at_100) rfl ?_
      exact k
    refine Goes.by (B := T53.setTop (mkF m 140 #[.val (.int p0), .val (.int p1), .val (.ref b2), .val (.int cc), .val (.int qq), .unset, .unset] [(.int (if cc = qq then (1 : Int32) else (if cc = (38 : Int32) then (1 : Int32) else (if cc = (60 : Int32) then (1 : Int32) else (if cc = (9 : Int32) then (1 : Int32) else (if cc = (10 : Int32) then (1 : Int32) else (if cc = (13 : Int32) then (1 : Int32) else (0 : Int32))))))))])) (fun t k => ?_) ?_
    · by_cases hm59 : cc = qq
      · simp only [if_pos hm59] at k
        show Steps p.tables e below (T53.setTop (mkF m 102 #[.val (.int p0), .val (.int p1), .val (.ref b2), .val (.int cc), .val (.int qq), .unset, .unset] [(.int qq), (.int cc)])) t
        refine XS.icmpYes X53.here hx rfl (pc0 := 102) (pc' := 135) rfl (hb hby at_102) rfl (teq hm59).1 (by decide) (by decide) ?_
        show Steps p.tables e below (T53.setTop (mkF m 135 #[.val (.int p0), .val (.int p1), .val (.ref b2), .val (.int cc), .val (.int qq), .unset, .unset] [])) t
        refine XS.iconst X53.here hx rfl (hb hby at_135) ?_
        show Steps p.tables e below (T53.setTop (mkF m 136 #[.val (.int p0), .val (.int p1), .val (.ref b2), .val (.int cc), .val (.int qq), .unset, .unset] [(.int (1 : Int32))])) t
        refine XS.goto X53.here hx rfl (pc0 := 136) (pc' := 140) rfl (hb hby at_136) (by decide) (by decide) ?_
        exact k
      · by_cases hm60 : cc = (38 : Int32)
        · simp only [if_neg hm59, if_pos hm60] at k
          show Steps p.tables e below (T53.setTop (mkF m 102 #[.val (.int p0), .val (.int p1), .val (.ref b2), .val (.int cc), .val (.int qq), .unset, .unset] [(.int qq), (.int cc)])) t
          refine XS.icmpNo X53.here hx rfl (hb hby at_102) rfl (feq hm59).1 ?_
          show Steps p.tables e below (T53.setTop (mkF m 105 #[.val (.int p0), .val (.int p1), .val (.ref b2), .val (.int cc), .val (.int qq), .unset, .unset] [])) t
          refine XS.iloadN X53.here hx rfl (hb hby at_105) rfl ?_
          show Steps p.tables e below (T53.setTop (mkF m 106 #[.val (.int p0), .val (.int p1), .val (.ref b2), .val (.int cc), .val (.int qq), .unset, .unset] [(.int cc)])) t
          refine XS.bipush X53.here hx rfl (hb hby at_106) ?_
          show Steps p.tables e below (T53.setTop (mkF m 108 #[.val (.int p0), .val (.int p1), .val (.ref b2), .val (.int cc), .val (.int qq), .unset, .unset] [(.int (38 : Int32)), (.int cc)])) t
          refine XS.icmpYes X53.here hx rfl (pc0 := 108) (pc' := 135) rfl (hb hby at_108) rfl (teq hm60).1 (by decide) (by decide) ?_
          show Steps p.tables e below (T53.setTop (mkF m 135 #[.val (.int p0), .val (.int p1), .val (.ref b2), .val (.int cc), .val (.int qq), .unset, .unset] [])) t
          refine XS.iconst X53.here hx rfl (hb hby at_135) ?_
          show Steps p.tables e below (T53.setTop (mkF m 136 #[.val (.int p0), .val (.int p1), .val (.ref b2), .val (.int cc), .val (.int qq), .unset, .unset] [(.int (1 : Int32))])) t
          refine XS.goto X53.here hx rfl (pc0 := 136) (pc' := 140) rfl (hb hby at_136) (by decide) (by decide) ?_
          exact k
        · by_cases hm61 : cc = (60 : Int32)
          · simp only [if_neg hm59, if_neg hm60, if_pos hm61] at k
            show Steps p.tables e below (T53.setTop (mkF m 102 #[.val (.int p0), .val (.int p1), .val (.ref b2), .val (.int cc), .val (.int qq), .unset, .unset] [(.int qq), (.int cc)])) t
            refine XS.icmpNo X53.here hx rfl (hb hby at_102) rfl (feq hm59).1 ?_
            show Steps p.tables e below (T53.setTop (mkF m 105 #[.val (.int p0), .val (.int p1), .val (.ref b2), .val (.int cc), .val (.int qq), .unset, .unset] [])) t
            refine XS.iloadN X53.here hx rfl (hb hby at_105) rfl ?_
            show Steps p.tables e below (T53.setTop (mkF m 106 #[.val (.int p0), .val (.int p1), .val (.ref b2), .val (.int cc), .val (.int qq), .unset, .unset] [(.int cc)])) t
            refine XS.bipush X53.here hx rfl (hb hby at_106) ?_
            show Steps p.tables e below (T53.setTop (mkF m 108 #[.val (.int p0), .val (.int p1), .val (.ref b2), .val (.int cc), .val (.int qq), .unset, .unset] [(.int (38 : Int32)), (.int cc)])) t
            refine XS.icmpNo X53.here hx rfl (hb hby at_108) rfl (feq hm60).1 ?_
            show Steps p.tables e below (T53.setTop (mkF m 111 #[.val (.int p0), .val (.int p1), .val (.ref b2), .val (.int cc), .val (.int qq), .unset, .unset] [])) t
            refine XS.iloadN X53.here hx rfl (hb hby at_111) rfl ?_
            show Steps p.tables e below (T53.setTop (mkF m 112 #[.val (.int p0), .val (.int p1), .val (.ref b2), .val (.int cc), .val (.int qq), .unset, .unset] [(.int cc)])) t
            refine XS.bipush X53.here hx rfl (hb hby at_112) ?_
            show Steps p.tables e below (T53.setTop (mkF m 114 #[.val (.int p0), .val (.int p1), .val (.ref b2), .val (.int cc), .val (.int qq), .unset, .unset] [(.int (60 : Int32)), (.int cc)])) t
            refine XS.icmpYes X53.here hx rfl (pc0 := 114) (pc' := 135) rfl (hb hby at_114) rfl (teq hm61).1 (by decide) (by decide) ?_
            show Steps p.tables e below (T53.setTop (mkF m 135 #[.val (.int p0), .val (.int p1), .val (.ref b2), .val (.int cc), .val (.int qq), .unset, .unset] [])) t
            refine XS.iconst X53.here hx rfl (hb hby at_135) ?_
            show Steps p.tables e below (T53.setTop (mkF m 136 #[.val (.int p0), .val (.int p1), .val (.ref b2), .val (.int cc), .val (.int qq), .unset, .unset] [(.int (1 : Int32))])) t
            refine XS.goto X53.here hx rfl (pc0 := 136) (pc' := 140) rfl (hb hby at_136) (by decide) (by decide) ?_
            exact k
          · by_cases hm62 : cc = (9 : Int32)
            · simp only [if_neg hm59, if_neg hm60, if_neg hm61, if_pos hm62] at k
              show Steps p.tables e below (T53.setTop (mkF m 102 #[.val (.int p0), .val (.int p1), .val (.ref b2), .val (.int cc), .val (.int qq), .unset, .unset] [(.int qq), (.int cc)])) t
              refine XS.icmpNo X53.here hx rfl (hb hby at_102) rfl (feq hm59).1 ?_
              show Steps p.tables e below (T53.setTop (mkF m 105 #[.val (.int p0), .val (.int p1), .val (.ref b2), .val (.int cc), .val (.int qq), .unset, .unset] [])) t
              refine XS.iloadN X53.here hx rfl (hb hby at_105) rfl ?_
              show Steps p.tables e below (T53.setTop (mkF m 106 #[.val (.int p0), .val (.int p1), .val (.ref b2), .val (.int cc), .val (.int qq), .unset, .unset] [(.int cc)])) t
              refine XS.bipush X53.here hx rfl (hb hby at_106) ?_
              show Steps p.tables e below (T53.setTop (mkF m 108 #[.val (.int p0), .val (.int p1), .val (.ref b2), .val (.int cc), .val (.int qq), .unset, .unset] [(.int (38 : Int32)), (.int cc)])) t
              refine XS.icmpNo X53.here hx rfl (hb hby at_108) rfl (feq hm60).1 ?_
              show Steps p.tables e below (T53.setTop (mkF m 111 #[.val (.int p0), .val (.int p1), .val (.ref b2), .val (.int cc), .val (.int qq), .unset, .unset] [])) t
              refine XS.iloadN X53.here hx rfl (hb hby at_111) rfl ?_
              show Steps p.tables e below (T53.setTop (mkF m 112 #[.val (.int p0), .val (.int p1), .val (.ref b2), .val (.int cc), .val (.int qq), .unset, .unset] [(.int cc)])) t
              refine XS.bipush X53.here hx rfl (hb hby at_112) ?_
              show Steps p.tables e below (T53.setTop (mkF m 114 #[.val (.int p0), .val (.int p1), .val (.ref b2), .val (.int cc), .val (.int qq), .unset, .unset] [(.int (60 : Int32)), (.int cc)])) t
              refine XS.icmpNo X53.here hx rfl (hb hby at_114) rfl (feq hm61).1 ?_
              show Steps p.tables e below (T53.setTop (mkF m 117 #[.val (.int p0), .val (.int p1), .val (.ref b2), .val (.int cc), .val (.int qq), .unset, .unset] [])) t
              refine XS.iloadN X53.here hx rfl (hb hby at_117) rfl ?_
              show Steps p.tables e below (T53.setTop (mkF m 118 #[.val (.int p0), .val (.int p1), .val (.ref b2), .val (.int cc), .val (.int qq), .unset, .unset] [(.int cc)])) t
              refine XS.bipush X53.here hx rfl (hb hby at_118) ?_
              show Steps p.tables e below (T53.setTop (mkF m 120 #[.val (.int p0), .val (.int p1), .val (.ref b2), .val (.int cc), .val (.int qq), .unset, .unset] [(.int (9 : Int32)), (.int cc)])) t
              refine XS.icmpYes X53.here hx rfl (pc0 := 120) (pc' := 135) rfl (hb hby at_120) rfl (teq hm62).1 (by decide) (by decide) ?_
              show Steps p.tables e below (T53.setTop (mkF m 135 #[.val (.int p0), .val (.int p1), .val (.ref b2), .val (.int cc), .val (.int qq), .unset, .unset] [])) t
              refine XS.iconst X53.here hx rfl (hb hby at_135) ?_
              show Steps p.tables e below (T53.setTop (mkF m 136 #[.val (.int p0), .val (.int p1), .val (.ref b2), .val (.int cc), .val (.int qq), .unset, .unset] [(.int (1 : Int32))])) t
              refine XS.goto X53.here hx rfl (pc0 := 136) (pc' := 140) rfl (hb hby at_136) (by decide) (by decide) ?_
              exact k
            · by_cases hm63 : cc = (10 : Int32)
              · simp only [if_neg hm59, if_neg hm60, if_neg hm61, if_neg hm62, if_pos hm63] at k
                show Steps p.tables e below (T53.setTop (mkF m 102 #[.val (.int p0), .val (.int p1), .val (.ref b2), .val (.int cc), .val (.int qq), .unset, .unset] [(.int qq), (.int cc)])) t
                refine XS.icmpNo X53.here hx rfl (hb hby at_102) rfl (feq hm59).1 ?_
                show Steps p.tables e below (T53.setTop (mkF m 105 #[.val (.int p0), .val (.int p1), .val (.ref b2), .val (.int cc), .val (.int qq), .unset, .unset] [])) t
                refine XS.iloadN X53.here hx rfl (hb hby at_105) rfl ?_
                show Steps p.tables e below (T53.setTop (mkF m 106 #[.val (.int p0), .val (.int p1), .val (.ref b2), .val (.int cc), .val (.int qq), .unset, .unset] [(.int cc)])) t
                refine XS.bipush X53.here hx rfl (hb hby at_106) ?_
                show Steps p.tables e below (T53.setTop (mkF m 108 #[.val (.int p0), .val (.int p1), .val (.ref b2), .val (.int cc), .val (.int qq), .unset, .unset] [(.int (38 : Int32)), (.int cc)])) t
                refine XS.icmpNo X53.here hx rfl (hb hby at_108) rfl (feq hm60).1 ?_
                show Steps p.tables e below (T53.setTop (mkF m 111 #[.val (.int p0), .val (.int p1), .val (.ref b2), .val (.int cc), .val (.int qq), .unset, .unset] [])) t
                refine XS.iloadN X53.here hx rfl (hb hby at_111) rfl ?_
                show Steps p.tables e below (T53.setTop (mkF m 112 #[.val (.int p0), .val (.int p1), .val (.ref b2), .val (.int cc), .val (.int qq), .unset, .unset] [(.int cc)])) t
                refine XS.bipush X53.here hx rfl (hb hby at_112) ?_
                show Steps p.tables e below (T53.setTop (mkF m 114 #[.val (.int p0), .val (.int p1), .val (.ref b2), .val (.int cc), .val (.int qq), .unset, .unset] [(.int (60 : Int32)), (.int cc)])) t
                refine XS.icmpNo X53.here hx rfl (hb hby at_114) rfl (feq hm61).1 ?_
                show Steps p.tables e below (T53.setTop (mkF m 117 #[.val (.int p0), .val (.int p1), .val (.ref b2), .val (.int cc), .val (.int qq), .unset, .unset] [])) t
                refine XS.iloadN X53.here hx rfl (hb hby at_117) rfl ?_
                show Steps p.tables e below (T53.setTop (mkF m 118 #[.val (.int p0), .val (.int p1), .val (.ref b2), .val (.int cc), .val (.int qq), .unset, .unset] [(.int cc)])) t
                refine XS.bipush X53.here hx rfl (hb hby at_118) ?_
                show Steps p.tables e below (T53.setTop (mkF m 120 #[.val (.int p0), .val (.int p1), .val (.ref b2), .val (.int cc), .val (.int qq), .unset, .unset] [(.int (9 : Int32)), (.int cc)])) t
                refine XS.icmpNo X53.here hx rfl (hb hby at_120) rfl (feq hm62).1 ?_
                show Steps p.tables e below (T53.setTop (mkF m 123 #[.val (.int p0), .val (.int p1), .val (.ref b2), .val (.int cc), .val (.int qq), .unset, .unset] [])) t
                refine XS.iloadN X53.here hx rfl (hb hby at_123) rfl ?_
                show Steps p.tables e below (T53.setTop (mkF m 124 #[.val (.int p0), .val (.int p1), .val (.ref b2), .val (.int cc), .val (.int qq), .unset, .unset] [(.int cc)])) t
                refine XS.bipush X53.here hx rfl (hb hby at_124) ?_
                show Steps p.tables e below (T53.setTop (mkF m 126 #[.val (.int p0), .val (.int p1), .val (.ref b2), .val (.int cc), .val (.int qq), .unset, .unset] [(.int (10 : Int32)), (.int cc)])) t
                refine XS.icmpYes X53.here hx rfl (pc0 := 126) (pc' := 135) rfl (hb hby at_126) rfl (teq hm63).1 (by decide) (by decide) ?_
                show Steps p.tables e below (T53.setTop (mkF m 135 #[.val (.int p0), .val (.int p1), .val (.ref b2), .val (.int cc), .val (.int qq), .unset, .unset] [])) t
                refine XS.iconst X53.here hx rfl (hb hby at_135) ?_
                show Steps p.tables e below (T53.setTop (mkF m 136 #[.val (.int p0), .val (.int p1), .val (.ref b2), .val (.int cc), .val (.int qq), .unset, .unset] [(.int (1 : Int32))])) t
                refine XS.goto X53.here hx rfl (pc0 := 136) (pc' := 140) rfl (hb hby at_136) (by decide) (by decide) ?_
                exact k
              · by_cases hm64 : cc = (13 : Int32)
                · simp only [if_neg hm59, if_neg hm60, if_neg hm61, if_neg hm62, if_neg hm63, if_pos hm64] at k
                  show Steps p.tables e below (T53.setTop (mkF m 102 #[.val (.int p0), .val (.int p1), .val (.ref b2), .val (.int cc), .val (.int qq), .unset, .unset] [(.int qq), (.int cc)])) t
                  refine XS.icmpNo X53.here hx rfl (hb hby at_102) rfl (feq hm59).1 ?_
                  show Steps p.tables e below (T53.setTop (mkF m 105 #[.val (.int p0), .val (.int p1), .val (.ref b2), .val (.int cc), .val (.int qq), .unset, .unset] [])) t
                  refine XS.iloadN X53.here hx rfl (hb hby at_105) rfl ?_
                  show Steps p.tables e below (T53.setTop (mkF m 106 #[.val (.int p0), .val (.int p1), .val (.ref b2), .val (.int cc), .val (.int qq), .unset, .unset] [(.int cc)])) t
                  refine XS.bipush X53.here hx rfl (hb hby at_106) ?_
                  show Steps p.tables e below (T53.setTop (mkF m 108 #[.val (.int p0), .val (.int p1), .val (.ref b2), .val (.int cc), .val (.int qq), .unset, .unset] [(.int (38 : Int32)), (.int cc)])) t
                  refine XS.icmpNo X53.here hx rfl (hb hby at_108) rfl (feq hm60).1 ?_
                  show Steps p.tables e below (T53.setTop (mkF m 111 #[.val (.int p0), .val (.int p1), .val (.ref b2), .val (.int cc), .val (.int qq), .unset, .unset] [])) t
                  refine XS.iloadN X53.here hx rfl (hb hby at_111) rfl ?_
                  show Steps p.tables e below (T53.setTop (mkF m 112 #[.val (.int p0), .val (.int p1), .val (.ref b2), .val (.int cc), .val (.int qq), .unset, .unset] [(.int cc)])) t
                  refine XS.bipush X53.here hx rfl (hb hby at_112) ?_
                  show Steps p.tables e below (T53.setTop (mkF m 114 #[.val (.int p0), .val (.int p1), .val (.ref b2), .val (.int cc), .val (.int qq), .unset, .unset] [(.int (60 : Int32)), (.int cc)])) t
                  refine XS.icmpNo X53.here hx rfl (hb hby at_114) rfl (feq hm61).1 ?_
                  show Steps p.tables e below (T53.setTop (mkF m 117 #[.val (.int p0), .val (.int p1), .val (.ref b2), .val (.int cc), .val (.int qq), .unset, .unset] [])) t
                  refine XS.iloadN X53.here hx rfl (hb hby at_117) rfl ?_
                  show Steps p.tables e below (T53.setTop (mkF m 118 #[.val (.int p0), .val (.int p1), .val (.ref b2), .val (.int cc), .val (.int qq), .unset, .unset] [(.int cc)])) t
                  refine XS.bipush X53.here hx rfl (hb hby at_118) ?_
                  show Steps p.tables e below (T53.setTop (mkF m 120 #[.val (.int p0), .val (.int p1), .val (.ref b2), .val (.int cc), .val (.int qq), .unset, .unset] [(.int (9 : Int32)), (.int cc)])) t
                  refine XS.icmpNo X53.here hx rfl (hb hby at_120) rfl (feq hm62).1 ?_
                  show Steps p.tables e below (T53.setTop (mkF m 123 #[.val (.int p0), .val (.int p1), .val (.ref b2), .val (.int cc), .val (.int qq), .unset, .unset] [])) t
                  refine XS.iloadN X53.here hx rfl (hb hby at_123) rfl ?_
                  show Steps p.tables e below (T53.setTop (mkF m 124 #[.val (.int p0), .val (.int p1), .val (.ref b2), .val (.int cc), .val (.int qq), .unset, .unset] [(.int cc)])) t
                  refine XS.bipush X53.here hx rfl (hb hby at_124) ?_
                  show Steps p.tables e below (T53.setTop (mkF m 126 #[.val (.int p0), .val (.int p1), .val (.ref b2), .val (.int cc), .val (.int qq), .unset, .unset] [(.int (10 : Int32)), (.int cc)])) t
                  refine XS.icmpNo X53.here hx rfl (hb hby at_126) rfl (feq hm63).1 ?_
                  show Steps p.tables e below (T53.setTop (mkF m 129 #[.val (.int p0), .val (.int p1), .val (.ref b2), .val (.int cc), .val (.int qq), .unset, .unset] [])) t
                  refine XS.iloadN X53.here hx rfl (hb hby at_129) rfl ?_
                  show Steps p.tables e below (T53.setTop (mkF m 130 #[.val (.int p0), .val (.int p1), .val (.ref b2), .val (.int cc), .val (.int qq), .unset, .unset] [(.int cc)])) t
                  refine XS.bipush X53.here hx rfl (hb hby at_130) ?_
                  show Steps p.tables e below (T53.setTop (mkF m 132 #[.val (.int p0), .val (.int p1), .val (.ref b2), .val (.int cc), .val (.int qq), .unset, .unset] [(.int (13 : Int32)), (.int cc)])) t
                  refine XS.icmpNo X53.here hx rfl (hb hby at_132) rfl (teq hm64).2 ?_
                  show Steps p.tables e below (T53.setTop (mkF m 135 #[.val (.int p0), .val (.int p1), .val (.ref b2), .val (.int cc), .val (.int qq), .unset, .unset] [])) t
                  refine XS.iconst X53.here hx rfl (hb hby at_135) ?_
                  show Steps p.tables e below (T53.setTop (mkF m 136 #[.val (.int p0), .val (.int p1), .val (.ref b2), .val (.int cc), .val (.int qq), .unset, .unset] [(.int (1 : Int32))])) t
                  refine XS.goto X53.here hx rfl (pc0 := 136) (pc' := 140) rfl (hb hby at_136) (by decide) (by decide) ?_
                  exact k
                · simp only [if_neg hm59, if_neg hm60, if_neg hm61, if_neg hm62, if_neg hm63, if_neg hm64] at k
                  show Steps p.tables e below (T53.setTop (mkF m 102 #[.val (.int p0), .val (.int p1), .val (.ref b2), .val (.int cc), .val (.int qq), .unset, .unset] [(.int qq), (.int cc)])) t
                  refine XS.icmpNo X53.here hx rfl (hb hby at_102) rfl (feq hm59).1 ?_
                  show Steps p.tables e below (T53.setTop (mkF m 105 #[.val (.int p0), .val (.int p1), .val (.ref b2), .val (.int cc), .val (.int qq), .unset, .unset] [])) t
                  refine XS.iloadN X53.here hx rfl (hb hby at_105) rfl ?_
                  show Steps p.tables e below (T53.setTop (mkF m 106 #[.val (.int p0), .val (.int p1), .val (.ref b2), .val (.int cc), .val (.int qq), .unset, .unset] [(.int cc)])) t
                  refine XS.bipush X53.here hx rfl (hb hby at_106) ?_
                  show Steps p.tables e below (T53.setTop (mkF m 108 #[.val (.int p0), .val (.int p1), .val (.ref b2), .val (.int cc), .val (.int qq), .unset, .unset] [(.int (38 : Int32)), (.int cc)])) t
                  refine XS.icmpNo X53.here hx rfl (hb hby at_108) rfl (feq hm60).1 ?_
                  show Steps p.tables e below (T53.setTop (mkF m 111 #[.val (.int p0), .val (.int p1), .val (.ref b2), .val (.int cc), .val (.int qq), .unset, .unset] [])) t
                  refine XS.iloadN X53.here hx rfl (hb hby at_111) rfl ?_
                  show Steps p.tables e below (T53.setTop (mkF m 112 #[.val (.int p0), .val (.int p1), .val (.ref b2), .val (.int cc), .val (.int qq), .unset, .unset] [(.int cc)])) t
                  refine XS.bipush X53.here hx rfl (hb hby at_112) ?_
                  show Steps p.tables e below (T53.setTop (mkF m 114 #[.val (.int p0), .val (.int p1), .val (.ref b2), .val (.int cc), .val (.int qq), .unset, .unset] [(.int (60 : Int32)), (.int cc)])) t
                  refine XS.icmpNo X53.here hx rfl (hb hby at_114) rfl (feq hm61).1 ?_
                  show Steps p.tables e below (T53.setTop (mkF m 117 #[.val (.int p0), .val (.int p1), .val (.ref b2), .val (.int cc), .val (.int qq), .unset, .unset] [])) t
                  refine XS.iloadN X53.here hx rfl (hb hby at_117) rfl ?_
                  show Steps p.tables e below (T53.setTop (mkF m 118 #[.val (.int p0), .val (.int p1), .val (.ref b2), .val (.int cc), .val (.int qq), .unset, .unset] [(.int cc)])) t
                  refine XS.bipush X53.here hx rfl (hb hby at_118) ?_
                  show Steps p.tables e below (T53.setTop (mkF m 120 #[.val (.int p0), .val (.int p1), .val (.ref b2), .val (.int cc), .val (.int qq), .unset, .unset] [(.int (9 : Int32)), (.int cc)])) t
                  refine XS.icmpNo X53.here hx rfl (hb hby at_120) rfl (feq hm62).1 ?_
                  show Steps p.tables e below (T53.setTop (mkF m 123 #[.val (.int p0), .val (.int p1), .val (.ref b2), .val (.int cc), .val (.int qq), .unset, .unset] [])) t
                  refine XS.iloadN X53.here hx rfl (hb hby at_123) rfl ?_
                  show Steps p.tables e below (T53.setTop (mkF m 124 #[.val (.int p0), .val (.int p1), .val (.ref b2), .val (.int cc), .val (.int qq), .unset, .unset] [(.int cc)])) t
                  refine XS.bipush X53.here hx rfl (hb hby at_124) ?_
                  show Steps p.tables e below (T53.setTop (mkF m 126 #[.val (.int p0), .val (.int p1), .val (.ref b2), .val (.int cc), .val (.int qq), .unset, .unset] [(.int (10 : Int32)), (.int cc)])) t
                  refine XS.icmpNo X53.here hx rfl (hb hby at_126) rfl (feq hm63).1 ?_
                  show Steps p.tables e below (T53.setTop (mkF m 129 #[.val (.int p0), .val (.int p1), .val (.ref b2), .val (.int cc), .val (.int qq), .unset, .unset] [])) t
                  refine XS.iloadN X53.here hx rfl (hb hby at_129) rfl ?_
                  show Steps p.tables e below (T53.setTop (mkF m 130 #[.val (.int p0), .val (.int p1), .val (.ref b2), .val (.int cc), .val (.int qq), .unset, .unset] [(.int cc)])) t
                  refine XS.bipush X53.here hx rfl (hb hby at_130) ?_
                  show Steps p.tables e below (T53.setTop (mkF m 132 #[.val (.int p0), .val (.int p1), .val (.ref b2), .val (.int cc), .val (.int qq), .unset, .unset] [(.int (13 : Int32)), (.int cc)])) t
                  refine XS.icmpYes X53.here hx rfl (pc0 := 132) (pc' := 139) rfl (hb hby at_132) rfl (feq hm64).2 (by decide) (by decide) ?_
                  show Steps p.tables e below (T53.setTop (mkF m 139 #[.val (.int p0), .val (.int p1), .val (.ref b2), .val (.int cc), .val (.int qq), .unset, .unset] [])) t
                  refine XS.iconst X53.here hx rfl (hb hby at_139) ?_
                  exact k
    refine Goes.by (B := T53.setTop (mkF m 142 #[.val (.int p0), .val (.int p1), .val (.ref b2), .val (.int cc), .val (.int qq), .val (.int (if cc = qq then (1 : Int32) else (if cc = (38 : Int32) then (1 : Int32) else (if cc = (60 : Int32) then (1 : Int32) else (if cc = (9 : Int32) then (1 : Int32) else (if cc = (10 : Int32) then (1 : Int32) else (if cc = (13 : Int32) then (1 : Int32) else (0 : Int32)))))))), .unset] [])) (fun t k => ?_) ?_
    · show Steps p.tables e below (T53.setTop (mkF m 140 #[.val (.int p0), .val (.int p1), .val (.ref b2), .val (.int cc), .val (.int qq), .unset, .unset] [(.int (if cc = qq then (1 : Int32) else (if cc = (38 : Int32) then (1 : Int32) else (if cc = (60 : Int32) then (1 : Int32) else (if cc = (9 : Int32) then (1 : Int32) else (if cc = (10 : Int32) then (1 : Int32) else (if cc = (13 : Int32) then (1 : Int32) else (0 : Int32))))))))])) t
      refine XS.istore X53.here hx rfl (hb hby at_140) rfl (l' := #[.val (.int p0), .val (.int p1), .val (.ref b2), .val (.int cc), .val (.int qq), .val (.int (if cc = qq then (1 : Int32) else (if cc = (38 : Int32) then (1 : Int32) else (if cc = (60 : Int32) then (1 : Int32) else (if cc = (9 : Int32) then (1 : Int32) else (if cc = (10 : Int32) then (1 : Int32) else (if cc = (13 : Int32) then (1 : Int32) else (0 : Int32)))))))), .unset]) rfl ?_
      exact k
    generalize hg_mm : (if cc = qq then (1 : Int32) else (if cc = (38 : Int32) then (1 : Int32) else (if cc = (60 : Int32) then (1 : Int32) else (if cc = (9 : Int32) then (1 : Int32) else (if cc = (10 : Int32) then (1 : Int32) else (if cc = (13 : Int32) then (1 : Int32) else (0 : Int32))))))) = mm
    refine Goes.by (B := T53.setTop (mkF m 145 #[.val (.int p0), .val (.int p1), .val (.ref b2), .val (.int cc), .val (.int qq), .val (.int mm), .unset] [(.int qq), (.int cc)])) (fun t k => ?_) ?_
    · show Steps p.tables e below (T53.setTop (mkF m 142 #[.val (.int p0), .val (.int p1), .val (.ref b2), .val (.int cc), .val (.int qq), .val (.int mm), .unset] [])) t
      refine XS.iloadN X53.here hx rfl (hb hby at_142) rfl ?_
      show Steps p.tables e below (T53.setTop (mkF m 143 #[.val (.int p0), .val (.int p1), .val (.ref b2), .val (.int cc), .val (.int qq), .val (.int mm), .unset] [(.int cc)])) t
      refine XS.iload X53.here hx rfl (hb hby at_143) rfl ?_
      exact k
    exact own_fin hw X53 hx hby hml Bd.returns hlk hZ hown e53 (hC.keep Kp53 (fun _ q => nomatch q)) f54 hzz N57 (own_must cc qq mm (own_qq _ _ hg_qq) hg_mm)
  refine Goes.by (B := T53.setTop (mkF m 62 #[.val (.int p0), .val (.int p1), .val (.ref b2), .unset, .unset, .unset, .unset] [(.int (p1 &&& (1 : Int32)))])) (fun t k => ?_) ?_
  · show Steps p.tables e below (T53.setTop (mkF m 59 #[.val (.int p0), .val (.int p1), .val (.ref b2), .unset, .unset, .unset, .unset] [])) t
    refine XS.iloadN X53.here hx rfl (hb hby at_59) rfl ?_
    show Steps p.tables e below (T53.setTop (mkF m 60 #[.val (.int p0), .val (.int p1), .val (.ref b2), .unset, .unset, .unset, .unset] [(.int p1)])) t
    refine XS.iconst X53.here hx rfl (hb hby at_60) ?_
    show Steps p.tables e below (T53.setTop (mkF m 61 #[.val (.int p0), .val (.int p1), .val (.ref b2), .unset, .unset, .unset, .unset] [(.int (1 : Int32)), (.int p1)])) t
    refine XS.iand X53.here hx rfl (hb hby at_61) rfl ?_
    exact k
  by_cases hc65 : (p1 &&& (1 : Int32)) = (0 : Int32)
  · refine Goes.by (B := T53.setTop (mkF m 84 #[.val (.int p0), .val (.int p1), .val (.ref b2), .val (.int ((p0 &&& (65535 : Int32)).toUInt32.toUInt16.toUInt32.toInt32)), .unset, .unset, .unset] [])) (fun t k => ?_) ?_
    · show Steps p.tables e below (T53.setTop (mkF m 62 #[.val (.int p0), .val (.int p1), .val (.ref b2), .unset, .unset, .unset, .unset] [(.int (p1 &&& (1 : Int32)))])) t
      refine XS.ifYes X53.here hx rfl (pc0 := 62) (pc' := 78) rfl (hb hby at_62) rfl ((if0 _ _).trans (teq hc65).1) (by decide) (by decide) ?_
      show Steps p.tables e below (T53.setTop (mkF m 78 #[.val (.int p0), .val (.int p1), .val (.ref b2), .unset, .unset, .unset, .unset] [])) t
      refine XS.iloadN X53.here hx rfl (hb hby at_78) rfl ?_
      show Steps p.tables e below (T53.setTop (mkF m 79 #[.val (.int p0), .val (.int p1), .val (.ref b2), .unset, .unset, .unset, .unset] [(.int p0)])) t
      refine X53.ldcInt hx hown (mvT hZ (hw _ (List.mem_of_getElem? (i := 24) rfl))) (g := (mkF m 79 #[.val (.int p0), .val (.int p1), .val (.ref b2), .unset, .unset, .unset, .unset] [(.int p0)])) rfl (hb hby at_79) _ ?_
      show Steps p.tables e below (T53.setTop (mkF m 81 #[.val (.int p0), .val (.int p1), .val (.ref b2), .unset, .unset, .unset, .unset] [(.int (65535 : Int32)), (.int p0)])) t
      refine XS.iand X53.here hx rfl (hb hby at_81) rfl ?_
      show Steps p.tables e below (T53.setTop (mkF m 82 #[.val (.int p0), .val (.int p1), .val (.ref b2), .unset, .unset, .unset, .unset] [(.int (p0 &&& (65535 : Int32)))])) t
      refine XS.i2c X53.here hx rfl (hb hby at_82) rfl ?_
      show Steps p.tables e below (T53.setTop (mkF m 83 #[.val (.int p0), .val (.int p1), .val (.ref b2), .unset, .unset, .unset, .unset] [(.int ((p0 &&& (65535 : Int32)).toUInt32.toUInt16.toUInt32.toInt32))])) t
      refine XS.istoreN X53.here hx rfl (hb hby at_83) rfl (l' := #[.val (.int p0), .val (.int p1), .val (.ref b2), .val (.int ((p0 &&& (65535 : Int32)).toUInt32.toUInt16.toUInt32.toInt32)), .unset, .unset, .unset]) rfl ?_
      exact k
    exact tl84 _
  · refine Goes.by (B := T53.setTop (mkF m 73 #[.val (.int p0), .val (.int p1), .val (.ref b2), .unset, .unset, .unset, .unset] [(.int ((p0 &&& (2147483647 : Int32)) % (10 : Int32))), (.ref b2)])) (fun t k => ?_) ?_
    · show Steps p.tables e below (T53.setTop (mkF m 62 #[.val (.int p0), .val (.int p1), .val (.ref b2), .unset, .unset, .unset, .unset] [(.int (p1 &&& (1 : Int32)))])) t
      refine XS.ifNo X53.here hx rfl (hb hby at_62) rfl ((if0 _ _).trans (feq hc65).1) ?_
      show Steps p.tables e below (T53.setTop (mkF m 65 #[.val (.int p0), .val (.int p1), .val (.ref b2), .unset, .unset, .unset, .unset] [])) t
      refine XS.aloadN X53.here hx rfl (hb hby at_65) rfl rfl ?_
      show Steps p.tables e below (T53.setTop (mkF m 66 #[.val (.int p0), .val (.int p1), .val (.ref b2), .unset, .unset, .unset, .unset] [(.ref b2)])) t
      refine XS.iloadN X53.here hx rfl (hb hby at_66) rfl ?_
      show Steps p.tables e below (T53.setTop (mkF m 67 #[.val (.int p0), .val (.int p1), .val (.ref b2), .unset, .unset, .unset, .unset] [(.int p0), (.ref b2)])) t
      refine X53.ldcInt hx hown (mvT hZ (hw _ (List.mem_of_getElem? (i := 1) rfl))) (g := (mkF m 67 #[.val (.int p0), .val (.int p1), .val (.ref b2), .unset, .unset, .unset, .unset] [(.int p0), (.ref b2)])) rfl (hb hby at_67) _ ?_
      show Steps p.tables e below (T53.setTop (mkF m 69 #[.val (.int p0), .val (.int p1), .val (.ref b2), .unset, .unset, .unset, .unset] [(.int (2147483647 : Int32)), (.int p0), (.ref b2)])) t
      refine XS.iand X53.here hx rfl (hb hby at_69) rfl ?_
      show Steps p.tables e below (T53.setTop (mkF m 70 #[.val (.int p0), .val (.int p1), .val (.ref b2), .unset, .unset, .unset, .unset] [(.int (p0 &&& (2147483647 : Int32))), (.ref b2)])) t
      refine XS.bipush X53.here hx rfl (hb hby at_70) ?_
      show Steps p.tables e below (T53.setTop (mkF m 72 #[.val (.int p0), .val (.int p1), .val (.ref b2), .unset, .unset, .unset, .unset] [(.int (10 : Int32)), (.int (p0 &&& (2147483647 : Int32))), (.ref b2)])) t
      refine iremM X53 hx rfl (hb hby at_72) rfl (by decide) ?_
      exact k
    obtain ⟨cv, hcv⟩ := own_pick f55 p0
    obtain ⟨cl66, cl66A, cl66I, cl66T⟩ := id hcv
    refine Goes.by (B := T53.setTop (mkF m 84 #[.val (.int p0), .val (.int p1), .val (.ref b2), .val (.int cv), .unset, .unset, .unset] [])) (fun t k => ?_) ?_
    · show Steps p.tables e below (T53.setTop (mkF m 73 #[.val (.int p0), .val (.int p1), .val (.ref b2), .unset, .unset, .unset, .unset] [(.int ((p0 &&& (2147483647 : Int32)) % (10 : Int32))), (.ref b2)])) t
      refine X53.caload hx (j := ((p0 &&& (2147483647 : Int32)) % (10 : Int32))) (v := (.int cv)) (by rw [e53]; exact cl66A.1) (State.isArrayOf_alike hZ.alike cl66A.2.1) cl66A.2.2 cl66I cl66T (g := (mkF m 73 #[.val (.int p0), .val (.int p1), .val (.ref b2), .unset, .unset, .unset, .unset] [(.int ((p0 &&& (2147483647 : Int32)) % (10 : Int32))), (.ref b2)])) rfl rfl (hb hby at_73) _ ?_
      show Steps p.tables e below (T53.setTop (mkF m 74 #[.val (.int p0), .val (.int p1), .val (.ref b2), .unset, .unset, .unset, .unset] [(.int cv)])) t
      refine XS.istoreN X53.here hx rfl (hb hby at_74) rfl (l' := #[.val (.int p0), .val (.int p1), .val (.ref b2), .val (.int cv), .unset, .unset, .unset]) rfl ?_
      show Steps p.tables e below (T53.setTop (mkF m 75 #[.val (.int p0), .val (.int p1), .val (.ref b2), .val (.int cv), .unset, .unset, .unset] [])) t
      refine XS.goto X53.here hx rfl (pc0 := 75) (pc' := 84) rfl (hb hby at_75) (by decide) (by decide) ?_
      exact k
    exact tl84 _
set_option maxRecDepth 65536 in
set_option maxHeartbeats 40000000 in
theorem comes_1 {Post : Tables → Env → Array Value → State → Outcome → State → Prop} (hpost : ∀ tb e args s v u, (limb_1_1.after args s (.returned v) u = true ∧ limb_1_2.after args s (.returned v) u = true ∧ True) → ReturnedEndW s (.returned v) u (Jvm.fieldLocs frame_1_writes args s ++ Jvm.arrayLocs frame_1_arrays args s ++ Jvm.staticLocs frame_1_statics s) 40 14528 → Post tb e args s (.returned v) u) :
    ArmFor flags0 classFile x code maxLocals ret World_1 tables_1 room_1 Calls_1 rest_1 Pre_1 Post := by
  intro l hfl _ _ p e ha hc hk s m args below hf hA hF happ hP
  obtain ⟨hcalls, hrest, hpre⟩ := hP
  obtain ⟨-, -, -, hnamed, -, -, -, hat⟩ := (Spec.applies_iff hf).mp happ
  obtain ⟨hg, hn⟩ := and_e (Cond.before_iff.mp (show (Jvm.Cond.and given_1 narrow_1).before args s = true from hpre))
  obtain ⟨gg1, gg2⟩ := and_e hg
  obtain ⟨gg3, gg4⟩ := and_e gg2
  obtain ⟨w0, w1, rfl⟩ : ∃ w0 w1 : Value, args = #[w0, w1] := by
    have hs : args.size = 2 := by simpa [Cond.value, given_1] using gg1
    obtain ⟨L⟩ := args
    match L, hs with
    | [w0, w1], _ => exact ⟨w0, w1, rfl⟩
  have hw := fun d (hd : d ∈ tables_1) => atoms_spec (ws := Jvm.Cond.code x code maxLocals ret :: tables_1) hat d (List.mem_cons_of_mem _ hd)
  have hfit : Fit s := fun {y c} hc i hi => by
    obtain ⟨ha, rfl⟩ := Array.getElem?_eq_some_iff.mp hc
    have q := List.all_eq_true.mp ((Array.all_eq_true_iff_forall_mem.mp hF) _ (Array.getElem_mem ha)) i (List.mem_range.mpr hi)
    simpa [Array.getElem?_eq_getElem hi] using q
  obtain ⟨hsets, hown0⟩ := atoms_of _ (rest_1_c_eq ▸ (show rest_1_c.before _ s = true from hrest))
  have hr0 := Cond.before_iff.mp hown0
  obtain ⟨i0, ei0⟩ := is_v gg3
  obtain rfl : w0 = (.int i0) := Option.some.inj ei0
  obtain ⟨i1, ei1⟩ := is_v gg4
  obtain rfl : w1 = (.int i1) := Option.some.inj ei1
  have n3 := not_v (Cond.before_iff.mp (hsets _ (List.mem_of_getElem? (i := 2) rfl)))
  obtain ⟨i7, e6⟩ := is_v (Cond.before_iff.mp (hsets _ (List.mem_of_getElem? (i := 1) rfl)))
  have S8 : Sta s s.heap "java/lang/String" "COMPACT_STRINGS" "Z" (.int i7) := Sta.start e6 (Or.inl (hsets _ (List.mem_of_getElem? (i := 0) rfl)))
  have c13 : ¬ (i7 = (0 : Int32)) := gotF (Cond.eq_ints e6 (Term.int_eval (0))) n3
  have hC0 : CHv s consts_1 s.vm s.heap := CHv.start (own_EL hw) (fun p hp => hcalls.1 p hp) (hsets _ (List.mem_of_getElem? (i := 2) rfl)) (wq hw 9 rfl) (wq hw 8 rfl)
  obtain ⟨n, o, h1, h2, h3, _, L, rfl, ⟨rfl, N⟩, hq⟩ := rm0 l s _ hw tables_1 i0 i1 i7 s.heap s.heap.size (Nat.le_refl _) S8 c13 p e ha hc hk s m _ below hf ((Spec.applies_iff_loose hf).mp happ).1 ⟨rfl, State.Warmed39.refl s, rfl, hC0⟩ trivial
  refine ⟨n, _, h1, h2, h3, hpost _ _ _ _ _ _ ⟨Cond.after_iff.mpr rfl, Cond.after_iff.mpr (eq_i res_at (Term.int_eval (1)) rfl), trivial⟩ ⟨hq.1, hq.2.1, hq.2.2.1, (hq.2.2.2.sift fun y hy => Or.inr (N y hy)).mono (by decide) (by decide)⟩⟩
theorem main_1_1 : Claimed_1_1 := comes_1 fun _ _ _ _ _ _ h hF => ⟨h.1, hF⟩
theorem main_1_2 : Claimed_1_2 := comes_1 fun _ _ _ _ _ _ h hF => ⟨h.2.1, hF⟩
end Jvm.Pilot.@@N@@
namespace Jvm.Pilot.@@N@@
open Jvm Jvm.ClassFile Sem Op Lib Jvm.Free Jvm.Stand Jvm.Pilot.@@N@@.Jvm.D
/-! MADE BY PROGRAM (witnessworld.py) out of the Statement's table words and the real class files: 19 classes; the members and pool entries that the words name. The judged class is class 1, her method 2. -/
namespace start1
open Jvm.ClassFile
def u (s : String) : CpInfo := .utf8 (stringToUtf16 s)
/-- a pool by its gaps: so many unusable entries, then the entry; so many at the end -/
def gap : Nat → List CpInfo → List CpInfo
  | 0, r => r
  | n + 1, r => .unusable :: gap n r
def poolList (es : List (Nat × CpInfo)) (last : Nat) : List CpInfo := es.foldr (fun e r => gap e.1 (e.2 :: r)) (gap last [])
def pool (es : List (Nat × CpInfo)) (last : Nat) : Array CpInfo := ⟨poolList es last⟩
def fileOf (pool : Array CpInfo) (this : Nat) (attrs : Array Attribute := #[]) (ms : Array MethodInfo := #[]) (fl : Nat := 33) (sup : Nat := 0) (ifs : Array Nat := #[]) (fds : Array FieldInfo := #[]) : ClassFile where
  minorVersion := 0
  majorVersion := 65
  constantPool := pool
  accessFlags := fl
  thisClass := this
  superClass := sup
  interfaces := ifs
  fields := fds
  methods := ms
  attributes := attrs
def plain (name : String) (sup : Option ClassId) : Class where
  name := name
  kind := .ordinary
  loader := none
  accessFlags := 33
  super := sup
  interfaces := #[]
  cf := none
  fields := #[]
  methods := #[]
  instanceTypes := #[]
  staticTypes := #[]
  resolved := #[]
  callSites := []
  init := .initialized
  statics := none
  mirror := none

def pool0 : Array CpInfo := pool [(5, u "<init>"), (0, u "()V"), (1, .class_ 10), (1, u "java/lang/Object")] 113

def k0m0 : Method := { name := "<init>", desc := "()V", sig := { parameters := [], returnType := none }, accessFlags := 1, code := none }
/-- java/lang/Object -/
def k0 : Class := { plain "java/lang/Object" none with
  accessFlags := 33
  interfaces := #[]
  cf := some (fileOf pool0 8 #[] #[{ accessFlags := 1, nameIndex := 5, descriptorIndex := 6, attributes := #[] }] 33 0 #[] #[])
  fields := #[]
  methods := #[k0m0]
  instanceTypes := #[]
  staticTypes := #[]
  resolved := Array.replicate 124 none
  statics := none }

def pool1 : Array CpInfo := pool [(2, .class_ 4), (1, u "java/lang/Object"), (0, u "<init>"), (0, u "()V"), (0, .string 8), (0, u "&quot;"), (0, .methodref 10 11), (0, .class_ 12), (0, .nameAndType 13 14), (0, u "java/lang/String"), (0, u "equals"), (0, u "(Ljava/lang/Object;)Z"), (0, .string 16), (0, u "&apos;"), (0, .string 18), (0, u "&amp;"), (0, .string 20), (0, u "&lt;"), (0, .string 22), (0, u "&#9;"), (0, .string 24), (0, u "&#10;"), (0, .string 26), (0, u "&#13;"), (0, .integer 2147483647), (0, .integer 65535), (0, .methodref 30 31), (0, .class_ 32), (0, .nameAndType 33 34), (0, u "com/example/dendrodiff/dendrodiff/document/DocumentWriter"), (0, u "escapeInAttribute"), (0, u "(CC)Ljava/lang/String;"), (0, .methodref 36 37), (0, .class_ 38), (0, .nameAndType 39 40), (0, u "com/example/dendrodiff/dendrodiff/document/DocumentWriterEscapeInAttributePinLaw"), (0, u "decode"), (0, u "(Ljava/lang/String;)I"), (3, u "law"), (0, u "(II)Z")] 4

def k1m0 : Method := { name := "<init>", desc := "()V", sig := { parameters := [], returnType := none }, accessFlags := 2, code := none }
def k1c1 : Code := { maxStack := 2, maxLocals := 1, code := method_2_code, exceptionTable := #[], attributes := #[] }
def k1m1 : Method := { name := "decode", desc := "(Ljava/lang/String;)I", sig := { parameters := [(.object "java/lang/String")], returnType := some .int }, accessFlags := 10, code := some k1c1 }
def k1c2 : Code := { maxStack := 4, maxLocals := 7, code := code, exceptionTable := #[], attributes := #[] }
def k1m2 : Method := { name := "law", desc := "(II)Z", sig := { parameters := [.int, .int], returnType := some .boolean }, accessFlags := 9, code := some k1c2 }
/-- com/example/dendrodiff/dendrodiff/document/DocumentWriterEscapeInAttributePinLaw -/
def k1 : Class := { plain "com/example/dendrodiff/dendrodiff/document/DocumentWriterEscapeInAttributePinLaw" (some 0) with
  accessFlags := 49
  interfaces := #[]
  cf := some (fileOf pool1 36 #[] #[{ accessFlags := 2, nameIndex := 5, descriptorIndex := 6, attributes := #[] }, { accessFlags := 10, nameIndex := 39, descriptorIndex := 40, attributes := #[] }, { accessFlags := 9, nameIndex := 44, descriptorIndex := 45, attributes := #[] }] 49 2 #[] #[])
  fields := #[]
  methods := #[k1m0, k1m1, k1m2]
  instanceTypes := #[]
  staticTypes := #[]
  resolved := Array.replicate 50 none
  statics := none }

def pool2 : Array CpInfo := pool [(2, .class_ 4), (1, u "java/lang/Object"), (3, .class_ 10), (1, u "com/example/dendrodiff/dendrodiff/document/DocumentWriter"), (0, u "out"), (0, u "Ljava/io/Writer;"), (2, u "quote"), (0, u "C"), (110, .class_ 128), (0, u "com/example/dendrodiff/dendrodiff/document/DocumentWriter$1"), (159, u "escapeInAttribute"), (0, u "(CC)Ljava/lang/String;"), (0, .string 291), (0, u "&quot;"), (0, .string 293), (0, u "&apos;"), (0, .string 295), (0, u "&amp;"), (0, .string 297), (0, u "&lt;"), (0, .string 299), (0, u "&#9;"), (0, .string 301), (0, u "&#10;"), (0, .string 303), (0, u "&#13;")] 89

def k2c0 : Code := { maxStack := 2, maxLocals := 2, code := prog_99_method_13_code, exceptionTable := #[], attributes := #[] }
def k2m0 : Method := { name := "escapeInAttribute", desc := "(CC)Ljava/lang/String;", sig := { parameters := [.char, .char], returnType := some (.object "java/lang/String") }, accessFlags := 9, code := some k2c0 }
/-- com/example/dendrodiff/dendrodiff/document/DocumentWriter -/
def k2 : Class := { plain "com/example/dendrodiff/dendrodiff/document/DocumentWriter" (some 0) with
  accessFlags := 49
  interfaces := #[]
  cf := some (fileOf pool2 8 #[.nestMembers #[127]] #[{ accessFlags := 9, nameIndex := 288, descriptorIndex := 289, attributes := #[] }] 49 2 #[] #[{ accessFlags := 18, nameIndex := 11, descriptorIndex := 12, attributes := #[] }, { accessFlags := 18, nameIndex := 15, descriptorIndex := 16, attributes := #[] }])
  fields := #[{ name := "out", type := (.object "java/io/Writer"), accessFlags := 18, slot := 0, constantValue := 0 }, { name := "quote", type := .char, accessFlags := 18, slot := 1, constantValue := 0 }]
  methods := #[k2m0]
  instanceTypes := #[(.object "java/io/Writer"), .char]
  staticTypes := #[]
  resolved := Array.replicate 393 none
  statics := none }

def pool3 : Array CpInfo := pool [(1, .class_ 2), (0, u "java/io/Serializable"), (0, .class_ 4), (0, u "java/lang/Object")] 2

/-- java/io/Serializable -/
def k3 : Class := { plain "java/io/Serializable" (some 0) with
  accessFlags := 1537
  interfaces := #[]
  cf := some (fileOf pool3 1 #[] #[] 1537 3 #[] #[])
  fields := #[]
  methods := #[]
  instanceTypes := #[]
  staticTypes := #[]
  resolved := Array.replicate 7 none
  statics := none }

def pool4 : Array CpInfo := pool [(1, .class_ 2), (0, u "java/lang/Comparable"), (0, .class_ 4), (0, u "java/lang/Object")] 7

/-- java/lang/Comparable -/
def k4 : Class := { plain "java/lang/Comparable" (some 0) with
  accessFlags := 1537
  interfaces := #[]
  cf := some (fileOf pool4 1 #[] #[] 1537 3 #[] #[])
  fields := #[]
  methods := #[]
  instanceTypes := #[]
  staticTypes := #[]
  resolved := Array.replicate 12 none
  statics := none }

def pool5 : Array CpInfo := pool [(2, .class_ 4), (1, u "java/lang/CharSequence"), (42, .class_ 48), (0, u "java/lang/CharSequence$1CodePointIterator"), (10, .class_ 60), (0, u "java/lang/CharSequence$1CharIterator"), (5, .class_ 67), (0, u "java/lang/Object")] 63

/-- java/lang/CharSequence -/
def k5 : Class := { plain "java/lang/CharSequence" (some 0) with
  accessFlags := 1537
  interfaces := #[]
  cf := some (fileOf pool5 2 #[.nestMembers #[47, 59]] #[] 1537 66 #[] #[])
  fields := #[]
  methods := #[]
  instanceTypes := #[]
  staticTypes := #[]
  resolved := Array.replicate 131 none
  statics := none }

def pool6 : Array CpInfo := pool [(1, .class_ 2), (0, u "java/lang/constant/Constable"), (0, .class_ 4), (0, u "java/lang/Object")] 6

/-- java/lang/constant/Constable -/
def k6 : Class := { plain "java/lang/constant/Constable" (some 0) with
  accessFlags := 1537
  interfaces := #[]
  cf := some (fileOf pool6 1 #[] #[] 1537 3 #[] #[])
  fields := #[]
  methods := #[]
  instanceTypes := #[]
  staticTypes := #[]
  resolved := Array.replicate 11 none
  statics := none }

def pool7 : Array CpInfo := pool [(1, .class_ 2), (0, u "java/lang/constant/ConstantDesc"), (0, .class_ 4), (0, u "java/lang/Object")] 32

/-- java/lang/constant/ConstantDesc -/
def k7 : Class := { plain "java/lang/constant/ConstantDesc" (some 0) with
  accessFlags := 1537
  interfaces := #[]
  cf := some (fileOf pool7 1 #[] #[] 1537 3 #[] #[])
  fields := #[]
  methods := #[]
  instanceTypes := #[]
  staticTypes := #[]
  resolved := Array.replicate 37 none
  statics := none }

def pool8 : Array CpInfo := pool [(2, .class_ 4), (1, u "java/lang/Object"), (0, u "<init>"), (0, u "()V"), (2, .fieldref 10 11), (0, .class_ 12), (0, .nameAndType 13 14), (0, u "java/lang/String"), (0, u "value"), (0, u "[B"), (0, .fieldref 10 16), (0, .nameAndType 17 18), (0, u "coder"), (0, u "B"), (2, u "hash"), (0, u "I"), (2, u "hashIsZero"), (0, u "Z"), (11, .fieldref 10 39), (0, .nameAndType 40 26), (0, u "COMPACT_STRINGS"), (66, .class_ 109), (1, u "java/lang/StringLatin1"), (431, .methodref 107 542), (0, .nameAndType 543 544), (0, u "equals"), (0, u "([B[B)Z"), (28, u "(Ljava/lang/Object;)Z"), (1, .class_ 576), (0, u "java/lang/CharSequence"), (22, u "CASE_INSENSITIVE_ORDER"), (0, u "Ljava/util/Comparator;"), (500, u "serialPersistentFields"), (0, u "[Ljava/io/ObjectStreamField;"), (0, .class_ 1104), (0, u "java/lang/String$CaseInsensitiveComparator"), (1, .class_ 1107), (0, u "java/io/Serializable"), (0, .class_ 1109), (0, u "java/lang/Comparable"), (0, .class_ 1111), (0, u "java/lang/constant/Constable"), (0, .class_ 1113), (0, u "java/lang/constant/ConstantDesc"), (2, u "serialVersionUID"), (0, u "J"), (3, u "REPL"), (0, u "C"), (2, u "LATIN1"), (1, u "UTF16")] 323

def k8m0 : Method := { name := "<init>", desc := "()V", sig := { parameters := [], returnType := none }, accessFlags := 1, code := none }
def k8c1 : Code := { maxStack := 2, maxLocals := 3, code := jdk_42_method_66_code, exceptionTable := #[], attributes := #[] }
def k8m1 : Method := { name := "equals", desc := "(Ljava/lang/Object;)Z", sig := { parameters := [(.object "java/lang/Object")], returnType := some .boolean }, accessFlags := 1, code := some k8c1 }
/-- java/lang/String -/
def k8 : Class := { plain "java/lang/String" (some 0) with
  accessFlags := 49
  interfaces := #[3, 4, 5, 6, 7]
  cf := some (fileOf pool8 10 #[.nestMembers #[1103]] #[{ accessFlags := 1, nameIndex := 5, descriptorIndex := 6, attributes := #[] }, { accessFlags := 1, nameIndex := 543, descriptorIndex := 573, attributes := #[] }] 49 2 #[1106, 1108, 575, 1110, 1112] #[{ accessFlags := 18, nameIndex := 13, descriptorIndex := 14, attributes := #[] }, { accessFlags := 18, nameIndex := 17, descriptorIndex := 18, attributes := #[] }, { accessFlags := 2, nameIndex := 21, descriptorIndex := 22, attributes := #[] }, { accessFlags := 2, nameIndex := 25, descriptorIndex := 26, attributes := #[] }, { accessFlags := 26, nameIndex := 1116, descriptorIndex := 1117, attributes := #[] }, { accessFlags := 24, nameIndex := 40, descriptorIndex := 26, attributes := #[] }, { accessFlags := 26, nameIndex := 1101, descriptorIndex := 1102, attributes := #[] }, { accessFlags := 26, nameIndex := 1121, descriptorIndex := 1122, attributes := #[] }, { accessFlags := 25, nameIndex := 599, descriptorIndex := 600, attributes := #[] }, { accessFlags := 24, nameIndex := 1125, descriptorIndex := 18, attributes := #[] }, { accessFlags := 24, nameIndex := 1127, descriptorIndex := 18, attributes := #[] }])
  fields := #[{ name := "value", type := (.array .byte), accessFlags := 18, slot := 0, constantValue := 0 }, { name := "coder", type := .byte, accessFlags := 18, slot := 1, constantValue := 0 }, { name := "hash", type := .int, accessFlags := 2, slot := 2, constantValue := 0 }, { name := "hashIsZero", type := .boolean, accessFlags := 2, slot := 3, constantValue := 0 }, { name := "serialVersionUID", type := .long, accessFlags := 26, slot := 0, constantValue := 0 }, { name := "COMPACT_STRINGS", type := .boolean, accessFlags := 24, slot := 1, constantValue := 0 }, { name := "serialPersistentFields", type := (.array (.object "java/io/ObjectStreamField")), accessFlags := 26, slot := 2, constantValue := 0 }, { name := "REPL", type := .char, accessFlags := 26, slot := 3, constantValue := 0 }, { name := "CASE_INSENSITIVE_ORDER", type := (.object "java/util/Comparator"), accessFlags := 25, slot := 4, constantValue := 0 }, { name := "LATIN1", type := .byte, accessFlags := 24, slot := 5, constantValue := 0 }, { name := "UTF16", type := .byte, accessFlags := 24, slot := 6, constantValue := 0 }]
  methods := #[k8m0, k8m1]
  instanceTypes := #[(.array .byte), .byte, .int, .boolean]
  staticTypes := #[.long, .boolean, (.array (.object "java/io/ObjectStreamField")), .char, (.object "java/util/Comparator"), .byte, .byte]
  resolved := Array.replicate 1451 none
  statics := some 0 }

def pool9 : Array CpInfo := pool [(4, .class_ 6), (1, u "java/lang/Object"), (0, u "<init>"), (0, u "()V"), (5, .class_ 16), (1, u "java/lang/StringLatin1"), (104, u "$assertionsDisabled"), (0, u "Z"), (98, .class_ 223), (1, u "java/lang/StringLatin1$LinesSpliterator"), (57, u "equals"), (0, u "([B[B)Z"), (107, .class_ 391), (0, u "java/lang/StringLatin1$CharsSpliterator")] 3

def k9m0 : Method := { name := "<init>", desc := "()V", sig := { parameters := [], returnType := none }, accessFlags := 0, code := none }
def k9c1 : Code := { maxStack := 3, maxLocals := 3, code := jdk_43_method_13_code, exceptionTable := #[], attributes := #[] }
def k9m1 : Method := { name := "equals", desc := "([B[B)Z", sig := { parameters := [(.array .byte), (.array .byte)], returnType := some .boolean }, accessFlags := 9, code := some k9c1 }
/-- java/lang/StringLatin1 -/
def k9 : Class := { plain "java/lang/StringLatin1" (some 0) with
  accessFlags := 48
  interfaces := #[]
  cf := some (fileOf pool9 14 #[.nestMembers #[390, 221]] #[{ accessFlags := 0, nameIndex := 7, descriptorIndex := 8, attributes := #[] }, { accessFlags := 9, nameIndex := 281, descriptorIndex := 282, attributes := #[] }] 48 4 #[] #[{ accessFlags := 4120, nameIndex := 121, descriptorIndex := 122, attributes := #[] }])
  fields := #[{ name := "$assertionsDisabled", type := .boolean, accessFlags := 4120, slot := 0, constantValue := 0 }]
  methods := #[k9m0, k9m1]
  instanceTypes := #[]
  staticTypes := #[.boolean]
  resolved := Array.replicate 395 none
  statics := none }

def pool10 : Array CpInfo := pool [(2, .class_ 4), (1, u "java/lang/Object"), (0, u "<init>"), (0, u "()V"), (17, .class_ 26), (1, u "jdk/internal/util/Preconditions"), (28, .class_ 56), (0, u "jdk/internal/util/Preconditions$4"), (57, .class_ 115), (0, u "jdk/internal/util/Preconditions$1"), (7, u "SIOOBE_FORMATTER"), (0, u "Ljava/util/function/BiFunction;"), (0, .class_ 126), (0, u "jdk/internal/util/Preconditions$2"), (3, u "AIOOBE_FORMATTER"), (0, .class_ 132), (0, u "jdk/internal/util/Preconditions$3"), (3, u "IOOBE_FORMATTER")] 57

def k10m0 : Method := { name := "<init>", desc := "()V", sig := { parameters := [], returnType := none }, accessFlags := 1, code := none }
/-- jdk/internal/util/Preconditions -/
def k10 : Class := { plain "jdk/internal/util/Preconditions" (some 0) with
  accessFlags := 33
  interfaces := #[]
  cf := some (fileOf pool10 24 #[.nestMembers #[55, 131, 125, 114]] #[{ accessFlags := 1, nameIndex := 5, descriptorIndex := 6, attributes := #[] }] 33 2 #[] #[{ accessFlags := 25, nameIndex := 123, descriptorIndex := 124, attributes := #[] }, { accessFlags := 25, nameIndex := 130, descriptorIndex := 124, attributes := #[] }, { accessFlags := 25, nameIndex := 136, descriptorIndex := 124, attributes := #[] }])
  fields := #[{ name := "SIOOBE_FORMATTER", type := (.object "java/util/function/BiFunction"), accessFlags := 25, slot := 0, constantValue := 0 }, { name := "AIOOBE_FORMATTER", type := (.object "java/util/function/BiFunction"), accessFlags := 25, slot := 1, constantValue := 0 }, { name := "IOOBE_FORMATTER", type := (.object "java/util/function/BiFunction"), accessFlags := 25, slot := 2, constantValue := 0 }]
  methods := #[k10m0]
  instanceTypes := #[]
  staticTypes := #[(.object "java/util/function/BiFunction"), (.object "java/util/function/BiFunction"), (.object "java/util/function/BiFunction")]
  resolved := Array.replicate 194 none
  statics := some 1 }

def pool11 : Array CpInfo := pool [(9, u "<init>"), (6, .class_ 18), (1, u "java/lang/Object"), (0, u "()V"), (1, .class_ 23), (1, u "jdk/internal/util/ArraysSupport"), (0, u "LOG2_ARRAY_LONG_INDEX_SCALE"), (0, u "I"), (2, u "U"), (0, u "Ljdk/internal/misc/Unsafe;"), (8, u "BIG_ENDIAN"), (0, u "Z"), (8, u "LOG2_BYTE_BIT_SIZE"), (4, u "LOG2_ARRAY_INT_INDEX_SCALE"), (54, u "JLA"), (0, u "Ljdk/internal/access/JavaLangAccess;"), (11, u "LOG2_ARRAY_BOOLEAN_INDEX_SCALE"), (9, u "LOG2_ARRAY_BYTE_INDEX_SCALE"), (5, u "LOG2_ARRAY_CHAR_INDEX_SCALE"), (5, u "LOG2_ARRAY_SHORT_INDEX_SCALE"), (18, u "LOG2_ARRAY_FLOAT_INDEX_SCALE"), (24, u "LOG2_ARRAY_DOUBLE_INDEX_SCALE"), (89, u "T_BOOLEAN"), (2, u "T_CHAR"), (1, u "T_FLOAT"), (1, u "T_DOUBLE"), (1, u "T_BYTE"), (1, u "T_SHORT"), (1, u "T_INT"), (1, u "T_LONG"), (1, u "SOFT_MAX_ARRAY_LENGTH")] 83

def k11m0 : Method := { name := "<init>", desc := "()V", sig := { parameters := [], returnType := none }, accessFlags := 2, code := none }
/-- jdk/internal/util/ArraysSupport -/
def k11 : Class := { plain "jdk/internal/util/ArraysSupport" (some 0) with
  accessFlags := 33
  interfaces := #[]
  cf := some (fileOf pool11 21 #[] #[{ accessFlags := 2, nameIndex := 9, descriptorIndex := 19, attributes := #[] }] 33 16 #[] #[{ accessFlags := 24, nameIndex := 28, descriptorIndex := 29, attributes := #[] }, { accessFlags := 26, nameIndex := 38, descriptorIndex := 39, attributes := #[] }, { accessFlags := 25, nameIndex := 121, descriptorIndex := 25, attributes := #[] }, { accessFlags := 25, nameIndex := 131, descriptorIndex := 25, attributes := #[] }, { accessFlags := 25, nameIndex := 137, descriptorIndex := 25, attributes := #[] }, { accessFlags := 25, nameIndex := 143, descriptorIndex := 25, attributes := #[] }, { accessFlags := 25, nameIndex := 53, descriptorIndex := 25, attributes := #[] }, { accessFlags := 25, nameIndex := 24, descriptorIndex := 25, attributes := #[] }, { accessFlags := 25, nameIndex := 162, descriptorIndex := 25, attributes := #[] }, { accessFlags := 25, nameIndex := 187, descriptorIndex := 25, attributes := #[] }, { accessFlags := 26, nameIndex := 48, descriptorIndex := 25, attributes := #[] }, { accessFlags := 25, nameIndex := 277, descriptorIndex := 25, attributes := #[] }, { accessFlags := 25, nameIndex := 280, descriptorIndex := 25, attributes := #[] }, { accessFlags := 25, nameIndex := 282, descriptorIndex := 25, attributes := #[] }, { accessFlags := 25, nameIndex := 284, descriptorIndex := 25, attributes := #[] }, { accessFlags := 25, nameIndex := 286, descriptorIndex := 25, attributes := #[] }, { accessFlags := 25, nameIndex := 288, descriptorIndex := 25, attributes := #[] }, { accessFlags := 25, nameIndex := 290, descriptorIndex := 25, attributes := #[] }, { accessFlags := 25, nameIndex := 292, descriptorIndex := 25, attributes := #[] }, { accessFlags := 26, nameIndex := 108, descriptorIndex := 109, attributes := #[] }, { accessFlags := 25, nameIndex := 294, descriptorIndex := 25, attributes := #[] }])
  fields := #[{ name := "U", type := (.object "jdk/internal/misc/Unsafe"), accessFlags := 24, slot := 0, constantValue := 0 }, { name := "BIG_ENDIAN", type := .boolean, accessFlags := 26, slot := 1, constantValue := 0 }, { name := "LOG2_ARRAY_BOOLEAN_INDEX_SCALE", type := .int, accessFlags := 25, slot := 2, constantValue := 0 }, { name := "LOG2_ARRAY_BYTE_INDEX_SCALE", type := .int, accessFlags := 25, slot := 3, constantValue := 0 }, { name := "LOG2_ARRAY_CHAR_INDEX_SCALE", type := .int, accessFlags := 25, slot := 4, constantValue := 0 }, { name := "LOG2_ARRAY_SHORT_INDEX_SCALE", type := .int, accessFlags := 25, slot := 5, constantValue := 0 }, { name := "LOG2_ARRAY_INT_INDEX_SCALE", type := .int, accessFlags := 25, slot := 6, constantValue := 0 }, { name := "LOG2_ARRAY_LONG_INDEX_SCALE", type := .int, accessFlags := 25, slot := 7, constantValue := 0 }, { name := "LOG2_ARRAY_FLOAT_INDEX_SCALE", type := .int, accessFlags := 25, slot := 8, constantValue := 0 }, { name := "LOG2_ARRAY_DOUBLE_INDEX_SCALE", type := .int, accessFlags := 25, slot := 9, constantValue := 0 }, { name := "LOG2_BYTE_BIT_SIZE", type := .int, accessFlags := 26, slot := 10, constantValue := 0 }, { name := "T_BOOLEAN", type := .int, accessFlags := 25, slot := 11, constantValue := 0 }, { name := "T_CHAR", type := .int, accessFlags := 25, slot := 12, constantValue := 0 }, { name := "T_FLOAT", type := .int, accessFlags := 25, slot := 13, constantValue := 0 }, { name := "T_DOUBLE", type := .int, accessFlags := 25, slot := 14, constantValue := 0 }, { name := "T_BYTE", type := .int, accessFlags := 25, slot := 15, constantValue := 0 }, { name := "T_SHORT", type := .int, accessFlags := 25, slot := 16, constantValue := 0 }, { name := "T_INT", type := .int, accessFlags := 25, slot := 17, constantValue := 0 }, { name := "T_LONG", type := .int, accessFlags := 25, slot := 18, constantValue := 0 }, { name := "JLA", type := (.object "jdk/internal/access/JavaLangAccess"), accessFlags := 26, slot := 19, constantValue := 0 }, { name := "SOFT_MAX_ARRAY_LENGTH", type := .int, accessFlags := 25, slot := 20, constantValue := 0 }]
  methods := #[k11m0]
  instanceTypes := #[]
  staticTypes := #[(.object "jdk/internal/misc/Unsafe"), .boolean, .int, .int, .int, .int, .int, .int, .int, .int, .int, .int, .int, .int, .int, .int, .int, .int, .int, (.object "jdk/internal/access/JavaLangAccess"), .int]
  resolved := Array.replicate 378 none
  statics := none }

def pool12 : Array CpInfo := pool [(1, u "java/lang/Cloneable"), (0, .class_ 1), (0, u "java/lang/Object"), (0, .class_ 3)] 3

/-- java/lang/Cloneable -/
def k12 : Class := { plain "java/lang/Cloneable" (some 0) with
  accessFlags := 1537
  interfaces := #[]
  cf := some (fileOf pool12 2 #[] #[] 1537 4 #[] #[])
  fields := #[]
  methods := #[]
  instanceTypes := #[]
  staticTypes := #[]
  resolved := Array.replicate 8 none
  statics := none }

/-- the primitive byte -/
def k13 : Class := { plain "byte" none with kind := .primitive 'B', accessFlags := 0x411 }
/-- [B -/
def k14 : Class := { plain "[B" (some 0) with kind := .array 13 .byte, interfaces := #[12, 3], accessFlags := 1041 }

/-- the primitive char -/
def k15 : Class := { plain "char" none with kind := .primitive 'C', accessFlags := 0x411 }
/-- [C -/
def k16 : Class := { plain "[C" (some 0) with kind := .array 15 .char, interfaces := #[12, 3], accessFlags := 1041 }

/-- the primitive int -/
def k17 : Class := { plain "int" none with kind := .primitive 'I', accessFlags := 0x411 }
/-- [I -/
def k18 : Class := { plain "[I" (some 0) with kind := .array 17 .int, interfaces := #[12, 3], accessFlags := 1041 }

def heap : Heap := #[{ cls := 8, slots := #[.long 0, .int 1, .null, .int 0, .null, .int 0, .int 0], vm := .statics 8 },
  { cls := 10, slots := #[.null, .null, .null], vm := .statics 10 }]
def classes : Array Class := #[k0, k1, k2, k3, k4, k5, k6, k7, k8, k9, k10, k11, k12, k13, k14, k15, k16, k17, k18]
def interned : List (Array UInt16 × Addr) := []
def slotsUsed : Nat := 10
def theMethod : MethodId := ⟨1, 2⟩
def args0 : Array Value := #[.int 38, .int 0]
def aboutOver (below : List Frame) : State where
  vm := { classes := classes, interned := interned.toArray }
  heap := heap
  slotsUsed := slotsUsed
  threads := #[{ frames := .invoking theMethod args0 :: below }]
def below0 : List Frame := [.native { method := ⟨0, 0⟩, args := #[] }]
def about1 : State := aboutOver below0
def p0 : Program := .bare "" "" ""
def e0 : Env := launch0.env 0 0 0
theorem w_frames : about1.frames = Frame.invoking theMethod args0 :: below0 := rfl
set_option maxRecDepth 65536 in
theorem w_args : argsFit about1.vm theMethod args0 = true := by decide +kernel
set_option maxRecDepth 65536 in
theorem w_heap : heapFits about1 = true := by decide +kernel
set_option maxRecDepth 65536 in
theorem w_runnable : about1.curStatus? = some .runnable := by decide +kernel
set_option maxRecDepth 65536 in
theorem w_alone : about1.alone = true := by decide +kernel
set_option maxRecDepth 65536 in
theorem w_named : about1.methodNamed? x = some theMethod := by decide +kernel
set_option maxRecDepth 65536 in
theorem w_hears : about1.hears theMethod below0 = true := by decide +kernel
set_option maxRecDepth 65536 in
theorem w_ripe : about1.ripe theMethod args0 below0 = true := by decide +kernel
theorem w_running : about1.status = .running := rfl
set_option maxRecDepth 65536 in
theorem w_room : about1.hasRoom e0.platform room_1 = true :=
  launch0.hasRoom_least _ room_1 (by decide +kernel) (by decide +kernel) (by decide +kernel) (by decide +kernel) (by decide +kernel) (by decide +kernel)
theorem allAtoms_all (ts : List Jvm.Cond) (a : Array Jvm.Value) (st : Jvm.State) : (allAtoms ts).before a st = ts.all (fun c => c.before a st) := by
  induction ts with
  | nil => rfl
  | cons c t ih =>
    show (Jvm.Cond.and c (allAtoms t)).before a st = _
    rw [Jvm.Cond.before_and, ih, List.all_cons]
def words1 : List Jvm.Cond := Jvm.Cond.code x code maxLocals ret :: tables_1
/-- a 'code' word, met by the world's own term for the bytes: nothing is compared byte by byte -/
theorem code_word {y : MethodName} {bytes : ByteArray} {mx : Nat} {rt : Option FieldType} {a : Array Value} {s : State} {m : MethodId} {meth : Method} {c : Code} (h1 : s.methodNamed? y = some m) (h2 : s.vm.method? m = some meth) (h3 : meth.code = some c) (h4 : c.code = bytes)
    (h5 : (c.maxLocals == mx && c.exceptionTable.isEmpty && decide (c.maxStack ≤ mostOperands) && decide (meth.sig.returnType = rt) && !meth.locks && decide (parseMethodDescriptor y.desc = some meth.sig)) = true) : (Jvm.Cond.code y bytes mx rt).before a s = true := by
  simp only [Bool.and_eq_true, beq_iff_eq, Bool.not_eq_true', decide_eq_true_eq] at h5
  obtain ⟨⟨⟨⟨⟨g1, g2⟩, g3⟩, g4⟩, g5⟩, g6⟩ := h5
  simp [Cond.before, Cond.holds, Cond.value, h1, h2, h3, h4, g1, g2, g3, g4, g5, g6]
def isCode : Jvm.Cond → Bool
  | .code _ _ _ _ => true
  | _ => false
theorem all_split {L : List Jvm.Cond} {P : Jvm.Cond → Bool} (h1 : L.all (fun c => isCode c || P c) = true) (h2 : ∀ c ∈ L.filter isCode, P c = true) : L.all P = true := by
  refine List.all_eq_true.mpr fun c hc => ?_
  have h := List.all_eq_true.mp h1 c hc
  rcases Bool.eq_false_or_eq_true (isCode c) with hi | hi
  · exact h2 c (List.mem_filter.mpr ⟨hc, hi⟩)
  · simpa [hi] using h
set_option maxRecDepth 65536 in
theorem w_c0 : (Jvm.Cond.code x code maxLocals ret).before args0 about1 = true := code_word (m := ⟨1, 2⟩) (meth := k1m2) (c := k1c2) (by decide +kernel) rfl rfl rfl (by decide +kernel)
set_option maxRecDepth 65536 in
theorem w_c1 : (Jvm.Cond.code ({ cls := "com/example/dendrodiff/dendrodiff/document/DocumentWriter", name := "escapeInAttribute", desc := "(CC)Ljava/lang/String;" } : Jvm.MethodName) prog_99_method_13_code (2 : Nat) (Option.some (Jvm.ClassFile.FieldType.object "java/lang/String"))).before args0 about1 = true := code_word (m := ⟨2, 0⟩) (meth := k2m0) (c := k2c0) (by decide +kernel) rfl rfl rfl (by decide +kernel)
set_option maxRecDepth 65536 in
theorem w_c2 : (Jvm.Cond.code ({ cls := "com/example/dendrodiff/dendrodiff/document/DocumentWriterEscapeInAttributePinLaw", name := "decode", desc := "(Ljava/lang/String;)I" } : Jvm.MethodName) method_2_code (1 : Nat) (Option.some Jvm.ClassFile.FieldType.int)).before args0 about1 = true := code_word (m := ⟨1, 1⟩) (meth := k1m1) (c := k1c1) (by decide +kernel) rfl rfl rfl (by decide +kernel)
set_option maxRecDepth 65536 in
theorem w_c3 : (Jvm.Cond.code ({ cls := "java/lang/String", name := "equals", desc := "(Ljava/lang/Object;)Z" } : Jvm.MethodName) jdk_42_method_66_code (3 : Nat) (Option.some Jvm.ClassFile.FieldType.boolean)).before args0 about1 = true := code_word (m := ⟨8, 1⟩) (meth := k8m1) (c := k8c1) (by decide +kernel) rfl rfl rfl (by decide +kernel)
set_option maxRecDepth 65536 in
theorem w_c4 : (Jvm.Cond.code ({ cls := "java/lang/StringLatin1", name := "equals", desc := "([B[B)Z" } : Jvm.MethodName) jdk_43_method_13_code (3 : Nat) (Option.some Jvm.ClassFile.FieldType.boolean)).before args0 about1 = true := code_word (m := ⟨9, 1⟩) (meth := k9m1) (c := k9c1) (by decide +kernel) rfl rfl rfl (by decide +kernel)
def codes1 : List Jvm.Cond := [Jvm.Cond.code x code maxLocals ret, Jvm.Cond.code ({ cls := "com/example/dendrodiff/dendrodiff/document/DocumentWriter", name := "escapeInAttribute", desc := "(CC)Ljava/lang/String;" } : Jvm.MethodName) prog_99_method_13_code (2 : Nat) (Option.some (Jvm.ClassFile.FieldType.object "java/lang/String")), Jvm.Cond.code ({ cls := "com/example/dendrodiff/dendrodiff/document/DocumentWriterEscapeInAttributePinLaw", name := "decode", desc := "(Ljava/lang/String;)I" } : Jvm.MethodName) method_2_code (1 : Nat) (Option.some Jvm.ClassFile.FieldType.int), Jvm.Cond.code ({ cls := "java/lang/String", name := "equals", desc := "(Ljava/lang/Object;)Z" } : Jvm.MethodName) jdk_42_method_66_code (3 : Nat) (Option.some Jvm.ClassFile.FieldType.boolean), Jvm.Cond.code ({ cls := "java/lang/StringLatin1", name := "equals", desc := "([B[B)Z" } : Jvm.MethodName) jdk_43_method_13_code (3 : Nat) (Option.some Jvm.ClassFile.FieldType.boolean)]
set_option maxRecDepth 65536 in
theorem codes_eq : words1.filter isCode = codes1 := rfl
theorem w_codes : ∀ c ∈ words1.filter isCode, c.before args0 about1 = true := by
  rw [codes_eq]
  intro c hc
  simp only [codes1, List.mem_cons, List.not_mem_nil, or_false] at hc
  rcases hc with rfl | rfl | rfl | rfl | rfl
  · exact w_c0
  · exact w_c1
  · exact w_c2
  · exact w_c3
  · exact w_c4
set_option maxRecDepth 65536 in
theorem w_t1 : (words1.take 24).all (fun c => isCode c || c.before args0 about1) = true := by decide +kernel
set_option maxRecDepth 65536 in
theorem w_t2 : (words1.drop 24).all (fun c => isCode c || c.before args0 about1) = true := by decide +kernel
theorem w_tables : (allAtoms (Jvm.Cond.code x code maxLocals ret :: tables_1)).before args0 about1 = true := by
  rw [allAtoms_all]
  show words1.all (fun c => c.before args0 about1) = true
  refine all_split ?_ w_codes
  rw [← List.take_append_drop 24 words1, List.all_append, w_t1, w_t2]
  rfl
set_option maxRecDepth 65536 in
theorem w_rest : rest_1_c.before args0 about1 = true := by decide +kernel
set_option maxRecDepth 65536 in
theorem w_case : (Jvm.Cond.and given_1 narrow_1).before args0 about1 = true := by decide +kernel
set_option maxRecDepth 65536 in
theorem w_consts : constsHeld consts_1 about1 := Jvm.Lit.constsHeldB_iff.mp (by decide +kernel)
theorem w_applies : (headSpec (Jvm.Cond.code x code maxLocals ret :: tables_1) room_1).applies x e0.platform about1 = true :=
  (Spec.applies_iff w_frames).mpr ⟨w_running, w_runnable, w_alone, w_named, w_hears, w_ripe, w_room, w_tables⟩
theorem atStart : AtStart classFile x code maxLocals ret World_1 tables_1 room_1 Calls_1 rest_1 Pre_1 launch0 p0 e0 about1 theMethod args0 below0 :=
  ⟨lists_1, trivial, launch0.admits_env _ _ _, launch0.least_env, fairChoices_fair.cas, fairChoices_fair.clock, w_frames, w_args, w_heap, w_applies, ⟨w_consts, trivial⟩, w_rest, w_case⟩
end start1
theorem witness_1 : WitnessClaimed_1 := ⟨start1.p0, start1.e0, start1.about1, start1.theMethod, start1.args0, start1.below0, start1.atStart⟩
end Jvm.Pilot.@@N@@
