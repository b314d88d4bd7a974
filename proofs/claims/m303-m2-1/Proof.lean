import JvmDerived
import JvmDerived.Pilot.@@N@@Statement
import JvmDerived.Pilot.@@N@@Code
set_option linter.unusedVariables false
set_option linter.unusedSimpArgs false
@@BLOCK:NumsL.lean.txt@@
namespace Jvm.RoadKit
open Sem ClassFile Op Lib Jvm.Stand Jvm.Free Jvm.LawKit
section New
variable {p : Program} {l : Launch} {e : Env} {R : Room} {s : State} {m : MethodId} {args : Array Value} {below : List Frame} {meth : Method} {c : Code} {T : State} {locs : List Loc} {cells slots : Nat}
theorem retI (X : Stand p l e R s m args below meth c T locs cells slots) (hx : p.tables.exec = Jvm.exec) {pc : Nat} {Ls : Array Slot} {z : Int32} {rest : List Value} (hret : meth.sig.returnType = some .int) (hd : decode c.code pc = .ok (.ireturn, 1)) {fs : List Frame}
    (hl : ∀ (f : JFrame) (acts : List Action), f.method = m → f.locked = none → f.entered = [] → (doReturn e (T.setTop f) acts (some (.int z))).1 = T.setFrames fs) : Steps p.tables e below (T.setTop (mkF m pc Ls (.int z :: rest))) (T.setFrames fs) :=
  retOut X hx hret rfl (Or.inl ⟨rfl, Or.inl rfl, z, rfl⟩) hd hl
theorem retJ (X : Stand p l e R s m args below meth c T locs cells slots) (hx : p.tables.exec = Jvm.exec) {pc : Nat} {Ls : Array Slot} {z : Int64} {rest : List Value} (hret : meth.sig.returnType = some .long) (hd : decode c.code pc = .ok (.lreturn, 1)) {fs : List Frame}
    (hl : ∀ (f : JFrame) (acts : List Action), f.method = m → f.locked = none → f.entered = [] → (doReturn e (T.setTop f) acts (some (.long z))).1 = T.setFrames fs) : Steps p.tables e below (T.setTop (mkF m pc Ls (.long z :: rest))) (T.setFrames fs) :=
  retOut X hx hret rfl (Or.inr (Or.inl ⟨rfl, rfl, z, rfl⟩)) hd hl
theorem retA (X : Stand p l e R s m args below meth c T locs cells slots) (hx : p.tables.exec = Jvm.exec) {pc : Nat} {Ls : Array Slot} {w : Value} {t : FieldType} {rest : List Value} (hret : meth.sig.returnType = some t) (ht : t.isReference = true) (hn : narrow t w = w) (hw : w.isRef = true) (hd : decode c.code pc = .ok (.areturn, 1)) {fs : List Frame}
    (hl : ∀ (f : JFrame) (acts : List Action), f.method = m → f.locked = none → f.entered = [] → (doReturn e (T.setTop f) acts (some w)).1 = T.setFrames fs) : Steps p.tables e below (T.setTop (mkF m pc Ls (w :: rest))) (T.setFrames fs) :=
  retOut X hx hret hn (Or.inr (Or.inr (Or.inr (Or.inr ⟨rfl, ht, hw⟩)))) hd hl
/-- what an array of ints that is written down holds at a place -/
def own_at (vs : List Value) (d : Value) (j : Int32) : Int32 := match vs.getD j.toNatClampNeg d with | .int x => x | _ => 0
def own_ints (vs : List Value) : Bool := vs.all fun v => match v with | .int _ => true | _ => false
theorem own_at_eq {vs : List Value} {d : Value} (h : own_ints (d :: vs) = true) (j : Int32) : vs.getD j.toNatClampNeg d = .int (own_at vs d j) := by
  have q : vs.getD j.toNatClampNeg d ∈ d :: vs := by
    rw [List.getD_eq_getElem?_getD]
    cases e : vs[j.toNatClampNeg]? with
    | none => simp
    | some w => exact List.mem_cons_of_mem _ (List.mem_of_getElem? e)
  have r := List.all_eq_true.mp h _ q
  unfold own_at
  cases e : vs.getD j.toNatClampNeg d <;> rw [e] at r <;> first | rfl | cases r
/-- a piece of a road from the frame F to the frame G, by whatever states between -/
theorem own_seg (X : Stand p l e R s m args below meth c T locs cells slots) (h : Heap) (F G : JFrame)
    (k : ∃ T', Stand p l e R s m args below meth c T' locs cells slots ∧ T'.heap = h ∧ ∀ target, Steps p.tables e below (T'.setTop G) target → Steps p.tables e below (T.setTop F) target) :
    ∃ T', Stand p l e R s m args below meth c T' locs cells slots ∧ T'.heap = h ∧ ∀ target, Steps p.tables e below (T'.setTop G) target → Steps p.tables e below (T.setTop F) target := k
end New
end Jvm.RoadKit
namespace Jvm.Pilot.@@N@@
open Jvm Jvm.ClassFile Sem Op Lib Jvm.Free Jvm.Stand Jvm.LawKit Jvm.RoadKit Bundle Jvm.Pilot.@@N@@.Jvm.D
theorem d1_0 : decode prog_80_method_6_code 0 = .ok (.iload_n 0, 1) := by decide +kernel
theorem d1_1 : decode prog_80_method_6_code 1 = .ok (.bipush 32, 2) := by decide +kernel
theorem d1_3 : decode prog_80_method_6_code 3 = .ok (.if_icmp .eq 21, 3) := by decide +kernel
theorem d1_6 : decode prog_80_method_6_code 6 = .ok (.iload_n 0, 1) := by decide +kernel
theorem d1_7 : decode prog_80_method_6_code 7 = .ok (.bipush 9, 2) := by decide +kernel
theorem d1_9 : decode prog_80_method_6_code 9 = .ok (.if_icmp .eq 15, 3) := by decide +kernel
theorem d1_12 : decode prog_80_method_6_code 12 = .ok (.iload_n 0, 1) := by decide +kernel
theorem d1_13 : decode prog_80_method_6_code 13 = .ok (.bipush 13, 2) := by decide +kernel
theorem d1_15 : decode prog_80_method_6_code 15 = .ok (.if_icmp .eq 9, 3) := by decide +kernel
theorem d1_18 : decode prog_80_method_6_code 18 = .ok (.iload_n 0, 1) := by decide +kernel
theorem d1_19 : decode prog_80_method_6_code 19 = .ok (.bipush 10, 2) := by decide +kernel
theorem d1_21 : decode prog_80_method_6_code 21 = .ok (.if_icmp .ne 7, 3) := by decide +kernel
theorem d1_24 : decode prog_80_method_6_code 24 = .ok (.iconst 1, 1) := by decide +kernel
theorem d1_25 : decode prog_80_method_6_code 25 = .ok (.goto 4, 3) := by decide +kernel
theorem d1_28 : decode prog_80_method_6_code 28 = .ok (.iconst 0, 1) := by decide +kernel
theorem d1_29 : decode prog_80_method_6_code 29 = .ok (.ireturn, 1) := by decide +kernel
theorem pn_1 : plainName "com/example/rowset_to_xml/rowsettoxml/XmlContent" = true := by first | (simp [plainName, overriddenIn]; done) | decide +kernel
theorem ef_1 (m : MethodId) (p0 : Int32) : entryFrame m #[(.int p0)] 1 = mkF m 0 #[.val (.int p0)] [] := by first | (simp [entryFrame, mkF, argsToLocals, Value.category]; done) | rfl
def F1 (p0 : Int32) : Int32 := (if p0 = (32 : Int32) then (1 : Int32) else (if p0 = (9 : Int32) then (1 : Int32) else (if p0 = (13 : Int32) then (1 : Int32) else (if p0 = (10 : Int32) then (1 : Int32) else (0 : Int32)))))
def Q1 (Z : State) (p0 : Int32) (h0 : Heap) (n0 : Nat) (v : Option Value) (h : Heap) (L : List Loc) : Prop := v = some (.int (F1 p0)) ∧ L = [] ∧ h = h0
set_option maxRecDepth 65536 in
set_option maxHeartbeats 40000000 in
theorem rm1 (l : Launch) (Z : State) (a0 : Array Value) (hw : ∀ d ∈ tables_1, d.before a0 Z = true) (ws : List Jvm.Cond) (p0 : Int32) (h0 : Heap) (n0 : Nat) (Z0 : n0 ≤ h0.size) :
    MetFree l (⟨"com/example/rowset_to_xml/rowsettoxml/XmlContent", "isSpace", "(C)Z"⟩ : MethodName) (head1 (Jvm.Cond.code (⟨"com/example/rowset_to_xml/rowsettoxml/XmlContent", "isSpace", "(C)Z"⟩ : MethodName) prog_80_method_6_code 1 (some .boolean) :: ws) ({ frames := 0, cells := 0, slots := 0, locals := 0 } : Room)) (fun a U => a = #[(.int p0)] ∧ Z.Warmed39 U.vm ∧ U.heap = h0) (fun _ _ _ _ _ => True) (fun _ U o U' => ∃ v L, o = .returned v ∧ Q1 Z p0 h0 n0 v U'.heap L ∧ FrameEnd U o U' L ({ frames := 0, cells := 0, slots := 0, locals := 0 } : Room).cells ({ frames := 0, cells := 0, slots := 0, locals := 0 } : Room).slots) := by
  refine MetFree.of_bodySF (plainFor_of_name pn_1) hisR ?_
  intro p e s m args below meth c s₁ Bd hml0 hP hK
  obtain ⟨rfl, hZ, hh⟩ := hP
  have hx := Bd.exec
  have hby := Bd.bytes
  have hml : c.maxLocals = 1 := hml0
  have hown : s.vm.findClass "com/example/rowset_to_xml/rowsettoxml/XmlContent" = some m.cls := findClass_of_methodNamed Bd.named
  have hnm := (name_of_methodNamed Bd.named Bd.method).1
  have X0 : Stand p l e ({ frames := 0, cells := 0, slots := 0, locals := 0 } : Room) s m #[(.int p0)] below meth c s₁ [] 0 0 := Stand.of_body Bd
  have e0 : s₁.heap = h0 := by rw [← hh, Bd.state]; rfl
  have N0 := Fr.nil n0
  have pre0 : ∀ t, Steps p.tables e below (s₁.setTop (mkF m 0 #[.val (.int p0)] [])) t → Steps p.tables e below (s₁.setTop (entryFrame m #[(.int p0)] 1)) t := fun t k => castTop (ef_1 m p0) k
  obtain ⟨v5_s0, Hv5_s0⟩ : ∃ z : Int32, z = (if p0 = (32 : Int32) then (1 : Int32) else (if p0 = (9 : Int32) then (1 : Int32) else (if p0 = (13 : Int32) then (1 : Int32) else (if p0 = (10 : Int32) then (1 : Int32) else (0 : Int32))))) := ⟨_, rfl⟩
  obtain ⟨T5, X5, e5, st5⟩ := own_seg X0 h0 (mkF m 3 #[.val (.int p0)] [(.int (32 : Int32)), (.int p0)]) (mkF m 29 #[.val (.int p0)] [(.int v5_s0)]) (by
    by_cases hc1 : p0 = (32 : Int32)
    · rw [if_pos hc1] at Hv5_s0
      refine ⟨s₁, X0, e0, fun target kt => ?_⟩
      rw [Hv5_s0] at kt
      show Steps p.tables e below (s₁.setTop (mkF m 3 #[.val (.int p0)] [(.int (32 : Int32)), (.int p0)])) _
      refine XS.icmpYes X0.here hx rfl (pc0 := 3) (pc' := 24) rfl (hb hby d1_3) rfl (teq hc1).1 (by decide) (by decide) ?_
      show Steps p.tables e below (s₁.setTop (mkF m 24 #[.val (.int p0)] [])) _
      refine XS.iconst X0.here hx rfl (hb hby d1_24) ?_
      show Steps p.tables e below (s₁.setTop (mkF m 25 #[.val (.int p0)] [(.int (1 : Int32))])) _
      refine XS.goto X0.here hx rfl (pc0 := 25) (pc' := 29) rfl (hb hby d1_25) (by decide) (by decide) ?_
      exact kt
    · by_cases hc2 : p0 = (9 : Int32)
      · rw [if_neg hc1, if_pos hc2] at Hv5_s0
        refine ⟨s₁, X0, e0, fun target kt => ?_⟩
        rw [Hv5_s0] at kt
        show Steps p.tables e below (s₁.setTop (mkF m 3 #[.val (.int p0)] [(.int (32 : Int32)), (.int p0)])) _
        refine XS.icmpNo X0.here hx rfl (hb hby d1_3) rfl (feq hc1).1 ?_
        show Steps p.tables e below (s₁.setTop (mkF m 6 #[.val (.int p0)] [])) _
        refine XS.iloadN X0.here hx rfl (hb hby d1_6) rfl ?_
        show Steps p.tables e below (s₁.setTop (mkF m 7 #[.val (.int p0)] [(.int p0)])) _
        refine XS.bipush X0.here hx rfl (hb hby d1_7) ?_
        show Steps p.tables e below (s₁.setTop (mkF m 9 #[.val (.int p0)] [(.int (9 : Int32)), (.int p0)])) _
        refine XS.icmpYes X0.here hx rfl (pc0 := 9) (pc' := 24) rfl (hb hby d1_9) rfl (teq hc2).1 (by decide) (by decide) ?_
        show Steps p.tables e below (s₁.setTop (mkF m 24 #[.val (.int p0)] [])) _
        refine XS.iconst X0.here hx rfl (hb hby d1_24) ?_
        show Steps p.tables e below (s₁.setTop (mkF m 25 #[.val (.int p0)] [(.int (1 : Int32))])) _
        refine XS.goto X0.here hx rfl (pc0 := 25) (pc' := 29) rfl (hb hby d1_25) (by decide) (by decide) ?_
        exact kt
      · by_cases hc3 : p0 = (13 : Int32)
        · rw [if_neg hc1, if_neg hc2, if_pos hc3] at Hv5_s0
          refine ⟨s₁, X0, e0, fun target kt => ?_⟩
          rw [Hv5_s0] at kt
          show Steps p.tables e below (s₁.setTop (mkF m 3 #[.val (.int p0)] [(.int (32 : Int32)), (.int p0)])) _
          refine XS.icmpNo X0.here hx rfl (hb hby d1_3) rfl (feq hc1).1 ?_
          show Steps p.tables e below (s₁.setTop (mkF m 6 #[.val (.int p0)] [])) _
          refine XS.iloadN X0.here hx rfl (hb hby d1_6) rfl ?_
          show Steps p.tables e below (s₁.setTop (mkF m 7 #[.val (.int p0)] [(.int p0)])) _
          refine XS.bipush X0.here hx rfl (hb hby d1_7) ?_
          show Steps p.tables e below (s₁.setTop (mkF m 9 #[.val (.int p0)] [(.int (9 : Int32)), (.int p0)])) _
          refine XS.icmpNo X0.here hx rfl (hb hby d1_9) rfl (feq hc2).1 ?_
          show Steps p.tables e below (s₁.setTop (mkF m 12 #[.val (.int p0)] [])) _
          refine XS.iloadN X0.here hx rfl (hb hby d1_12) rfl ?_
          show Steps p.tables e below (s₁.setTop (mkF m 13 #[.val (.int p0)] [(.int p0)])) _
          refine XS.bipush X0.here hx rfl (hb hby d1_13) ?_
          show Steps p.tables e below (s₁.setTop (mkF m 15 #[.val (.int p0)] [(.int (13 : Int32)), (.int p0)])) _
          refine XS.icmpYes X0.here hx rfl (pc0 := 15) (pc' := 24) rfl (hb hby d1_15) rfl (teq hc3).1 (by decide) (by decide) ?_
          show Steps p.tables e below (s₁.setTop (mkF m 24 #[.val (.int p0)] [])) _
          refine XS.iconst X0.here hx rfl (hb hby d1_24) ?_
          show Steps p.tables e below (s₁.setTop (mkF m 25 #[.val (.int p0)] [(.int (1 : Int32))])) _
          refine XS.goto X0.here hx rfl (pc0 := 25) (pc' := 29) rfl (hb hby d1_25) (by decide) (by decide) ?_
          exact kt
        · by_cases hc4 : p0 = (10 : Int32)
          · rw [if_neg hc1, if_neg hc2, if_neg hc3, if_pos hc4] at Hv5_s0
            refine ⟨s₁, X0, e0, fun target kt => ?_⟩
            rw [Hv5_s0] at kt
            show Steps p.tables e below (s₁.setTop (mkF m 3 #[.val (.int p0)] [(.int (32 : Int32)), (.int p0)])) _
            refine XS.icmpNo X0.here hx rfl (hb hby d1_3) rfl (feq hc1).1 ?_
            show Steps p.tables e below (s₁.setTop (mkF m 6 #[.val (.int p0)] [])) _
            refine XS.iloadN X0.here hx rfl (hb hby d1_6) rfl ?_
            show Steps p.tables e below (s₁.setTop (mkF m 7 #[.val (.int p0)] [(.int p0)])) _
            refine XS.bipush X0.here hx rfl (hb hby d1_7) ?_
            show Steps p.tables e below (s₁.setTop (mkF m 9 #[.val (.int p0)] [(.int (9 : Int32)), (.int p0)])) _
            refine XS.icmpNo X0.here hx rfl (hb hby d1_9) rfl (feq hc2).1 ?_
            show Steps p.tables e below (s₁.setTop (mkF m 12 #[.val (.int p0)] [])) _
            refine XS.iloadN X0.here hx rfl (hb hby d1_12) rfl ?_
            show Steps p.tables e below (s₁.setTop (mkF m 13 #[.val (.int p0)] [(.int p0)])) _
            refine XS.bipush X0.here hx rfl (hb hby d1_13) ?_
            show Steps p.tables e below (s₁.setTop (mkF m 15 #[.val (.int p0)] [(.int (13 : Int32)), (.int p0)])) _
            refine XS.icmpNo X0.here hx rfl (hb hby d1_15) rfl (feq hc3).1 ?_
            show Steps p.tables e below (s₁.setTop (mkF m 18 #[.val (.int p0)] [])) _
            refine XS.iloadN X0.here hx rfl (hb hby d1_18) rfl ?_
            show Steps p.tables e below (s₁.setTop (mkF m 19 #[.val (.int p0)] [(.int p0)])) _
            refine XS.bipush X0.here hx rfl (hb hby d1_19) ?_
            show Steps p.tables e below (s₁.setTop (mkF m 21 #[.val (.int p0)] [(.int (10 : Int32)), (.int p0)])) _
            refine XS.icmpNo X0.here hx rfl (hb hby d1_21) rfl (teq hc4).2 ?_
            show Steps p.tables e below (s₁.setTop (mkF m 24 #[.val (.int p0)] [])) _
            refine XS.iconst X0.here hx rfl (hb hby d1_24) ?_
            show Steps p.tables e below (s₁.setTop (mkF m 25 #[.val (.int p0)] [(.int (1 : Int32))])) _
            refine XS.goto X0.here hx rfl (pc0 := 25) (pc' := 29) rfl (hb hby d1_25) (by decide) (by decide) ?_
            exact kt
          · rw [if_neg hc1, if_neg hc2, if_neg hc3, if_neg hc4] at Hv5_s0
            refine ⟨s₁, X0, e0, fun target kt => ?_⟩
            rw [Hv5_s0] at kt
            show Steps p.tables e below (s₁.setTop (mkF m 3 #[.val (.int p0)] [(.int (32 : Int32)), (.int p0)])) _
            refine XS.icmpNo X0.here hx rfl (hb hby d1_3) rfl (feq hc1).1 ?_
            show Steps p.tables e below (s₁.setTop (mkF m 6 #[.val (.int p0)] [])) _
            refine XS.iloadN X0.here hx rfl (hb hby d1_6) rfl ?_
            show Steps p.tables e below (s₁.setTop (mkF m 7 #[.val (.int p0)] [(.int p0)])) _
            refine XS.bipush X0.here hx rfl (hb hby d1_7) ?_
            show Steps p.tables e below (s₁.setTop (mkF m 9 #[.val (.int p0)] [(.int (9 : Int32)), (.int p0)])) _
            refine XS.icmpNo X0.here hx rfl (hb hby d1_9) rfl (feq hc2).1 ?_
            show Steps p.tables e below (s₁.setTop (mkF m 12 #[.val (.int p0)] [])) _
            refine XS.iloadN X0.here hx rfl (hb hby d1_12) rfl ?_
            show Steps p.tables e below (s₁.setTop (mkF m 13 #[.val (.int p0)] [(.int p0)])) _
            refine XS.bipush X0.here hx rfl (hb hby d1_13) ?_
            show Steps p.tables e below (s₁.setTop (mkF m 15 #[.val (.int p0)] [(.int (13 : Int32)), (.int p0)])) _
            refine XS.icmpNo X0.here hx rfl (hb hby d1_15) rfl (feq hc3).1 ?_
            show Steps p.tables e below (s₁.setTop (mkF m 18 #[.val (.int p0)] [])) _
            refine XS.iloadN X0.here hx rfl (hb hby d1_18) rfl ?_
            show Steps p.tables e below (s₁.setTop (mkF m 19 #[.val (.int p0)] [(.int p0)])) _
            refine XS.bipush X0.here hx rfl (hb hby d1_19) ?_
            show Steps p.tables e below (s₁.setTop (mkF m 21 #[.val (.int p0)] [(.int (10 : Int32)), (.int p0)])) _
            refine XS.icmpYes X0.here hx rfl (pc0 := 21) (pc' := 28) rfl (hb hby d1_21) rfl (feq hc4).2 (by decide) (by decide) ?_
            show Steps p.tables e below (s₁.setTop (mkF m 28 #[.val (.int p0)] [])) _
            refine XS.iconst X0.here hx rfl (hb hby d1_28) ?_
            exact kt)
  have hfin : nar .boolean v5_s0 = F1 p0 := by
    rw [Hv5_s0]; unfold F1
    first | rfl | (repeat' split) <;> rfl
  obtain ⟨fs, hr, hrun, hended, hW, hsame⟩ := X5.leave (v := some (.int (nar .boolean v5_s0))) (fun h => by rw [Bd.returns] at h; cases h)
  refine ⟨_, _, pre0 _ ?_, hrun, hended, _, _, rfl, ?_, ⟨_, rfl⟩, hW, hsame.mono (by decide) (by decide)⟩
  · show Steps p.tables e below (s₁.setTop (mkF m 0 #[.val (.int p0)] [])) _
    refine XS.iloadN X0.here hx rfl (hb hby d1_0) rfl ?_
    show Steps p.tables e below (s₁.setTop (mkF m 1 #[.val (.int p0)] [(.int p0)])) _
    refine XS.bipush X0.here hx rfl (hb hby d1_1) ?_
    show Steps p.tables e below (s₁.setTop (mkF m 3 #[.val (.int p0)] [(.int (32 : Int32)), (.int p0)])) _
    refine st5 _ ?_
    show Steps p.tables e below (T5.setTop (mkF m 29 #[.val (.int p0)] [(.int v5_s0)])) _
    exact retN X5 hx (t := .boolean) Bd.returns (by simp) (hb hby d1_29) hr
  · show Q1 Z p0 h0 n0 _ T5.heap _
    exact ⟨congrArg (fun z => some (Value.int z)) hfin, rfl, e5⟩
theorem own_char (x : Int32) (h1 : 0 ≤ x.toInt) (h2 : x.toInt < 65536) : x.toUInt32.toUInt16.toUInt32.toInt32 = x := by
  have h := c_i2c x
  apply Int32.toInt_inj.mp
  omega
def own_bit (x : Int32) : Int32 := (if (32 : Int32) < x then (0 : Int32) else (if ((((4294977024 : Int64).toUInt64 >>> (x &&& 0x3f).toInt64.toUInt64).toInt64) &&& (1 : Int64)) = (0 : Int64) then (0 : Int32) else (1 : Int32)))
theorem own_small : ∀ k : Fin 33, F1 (Int32.ofNat k.val) = own_bit (Int32.ofNat k.val) := by decide +kernel
theorem own_core (x : Int32) (h1 : 0 ≤ x.toInt) : F1 x = own_bit x := by
  have a : (32 : Int32).toInt = 32 := rfl
  by_cases q : (32 : Int32) < x
  · unfold F1 own_bit
    have q' := q
    rw [Int32.lt_iff_toInt_lt] at q'
    have n1 : ¬ x = 32 := fun e => by rw [e] at q'; omega
    have n2 : ¬ x = 9 := fun e => by rw [e] at q'; have : (9 : Int32).toInt = 9 := rfl; omega
    have n3 : ¬ x = 13 := fun e => by rw [e] at q'; have : (13 : Int32).toInt = 13 := rfl; omega
    have n4 : ¬ x = 10 := fun e => by rw [e] at q'; have : (10 : Int32).toInt = 10 := rfl; omega
    rw [if_pos q, if_neg n1, if_neg n2, if_neg n3, if_neg n4]
  · rw [Int32.lt_iff_toInt_lt] at q
    have e : x = Int32.ofNat x.toInt.toNat := by
      apply Int32.toInt_inj.mp
      rw [Int32.toInt_ofNat_small (by omega)]; omega
    have h := own_small ⟨x.toInt.toNat, by omega⟩
    rw [← e] at h; exact h
theorem plain_law (p0 : Int32) (p1 : Int32) (v2_s0 : Int32) (Hv2_s0 : v2_s0 = (if (p1 &&& (1 : Int32)) = (0 : Int32) then (p0 &&& (65535 : Int32)) else (p0 &&& (63 : Int32)))) (v5_s0 : Int32) (Hv5_s0 : v5_s0 = (if (32 : Int32) < v2_s0 then (0 : Int32) else (if ((((4294977024 : Int64).toUInt64 >>> (v2_s0 &&& 0x3f).toInt64.toUInt64).toInt64) &&& (1 : Int64)) = (0 : Int64) then (0 : Int32) else (1 : Int32)))) (v8_s0 : Int32) (Hv8_s0 : v8_s0 = (if (F1 (v2_s0.toUInt32.toUInt16.toUInt32.toInt32)) = v5_s0 then (1 : Int32) else (0 : Int32))) : v8_s0 = 1 := by
  have hb : 0 ≤ v2_s0.toInt ∧ v2_s0.toInt < 65536 := by
    have e1 : (p0 &&& (65535 : Int32)).toInt = p0.toInt % 2 ^ 16 := Jvm.Kit.i32_mask p0 65535 (k := 16) (by decide) (by decide)
    have e2 : (p0 &&& (63 : Int32)).toInt = p0.toInt % 2 ^ 6 := Jvm.Kit.i32_mask p0 63 (k := 6) (by decide) (by decide)
    rw [Hv2_s0]; split <;> omega
  rw [Hv8_s0, own_char _ hb.1 hb.2, own_core _ hb.1, if_pos]
  rw [Hv5_s0]; rfl

theorem pn_0 : plainName "com/example/rowset_to_xml/rowsettoxml/XmlContentIsSpacePinLaw" = true := by first | (simp [plainName, overriddenIn]; done) | decide +kernel
theorem pd_0_0 : parseMethodDescriptor "(C)Z" = some ⟨[.char], some .boolean⟩ := by decide +kernel
theorem ef_0 (m : MethodId) (p0 : Int32) (p1 : Int32) : entryFrame m #[(.int p0), (.int p1)] maxLocals = mkF m 0 #[.val (.int p0), .val (.int p1), .unset, .unset, .unset] [] := by first | (simp [entryFrame, mkF, argsToLocals, Value.category, maxLocals]; done) | rfl
set_option maxRecDepth 65536 in
set_option maxHeartbeats 40000000 in
theorem rm0 (l : Launch) (Z : State) (a0 : Array Value) (hw : ∀ d ∈ tables_1, d.before a0 Z = true) (ws : List Jvm.Cond) (p0 : Int32) (p1 : Int32) (h0 : Heap) (n0 : Nat) (Z0 : n0 ≤ h0.size) :
    MetFree l x (head1 (Jvm.Cond.code x code maxLocals ret :: ws) room_1) (fun a U => a = #[(.int p0), (.int p1)] ∧ Z.Warmed39 U.vm ∧ U.heap = h0) (fun _ _ _ _ _ => True) (fun _ U o U' => ∃ v L, o = .returned v ∧ (v = some (.int 1) ∧ Fr n0 L) ∧ FrameEnd U o U' L room_1.cells room_1.slots) := by
  refine MetFree.of_bodySF (plainFor_of_name pn_0) hisR ?_
  intro p e s m args below meth c s₁ Bd hml0 hP hK
  obtain ⟨rfl, hZ, hh⟩ := hP
  have hx := Bd.exec
  have hby := Bd.bytes
  have hml : c.maxLocals = 5 := hml0
  have hown : s.vm.findClass "com/example/rowset_to_xml/rowsettoxml/XmlContentIsSpacePinLaw" = some m.cls := findClass_of_methodNamed Bd.named
  have hnm := (name_of_methodNamed Bd.named Bd.method).1
  have X0 : Stand p l e room_1 s m #[(.int p0), (.int p1)] below meth c s₁ [] 0 0 := Stand.of_body Bd
  have e0 : s₁.heap = h0 := by rw [← hh, Bd.state]; rfl
  have N0 := Fr.nil n0
  have pre0 : ∀ t, Steps p.tables e below (s₁.setTop (mkF m 0 #[.val (.int p0), .val (.int p1), .unset, .unset, .unset] [])) t → Steps p.tables e below (s₁.setTop (entryFrame m #[(.int p0), (.int p1)] maxLocals)) t := fun t k => castTop (ef_0 m p0 p1) k
  obtain ⟨v2_s0, Hv2_s0⟩ : ∃ z : Int32, z = (if (p1 &&& (1 : Int32)) = (0 : Int32) then (p0 &&& (65535 : Int32)) else (p0 &&& (63 : Int32))) := ⟨_, rfl⟩
  obtain ⟨T2, X2, e2, st2⟩ := own_seg X0 h0 (mkF m 3 #[.val (.int p0), .val (.int p1), .unset, .unset, .unset] [(.int (p1 &&& (1 : Int32)))]) (mkF m 17 #[.val (.int p0), .val (.int p1), .unset, .unset, .unset] [(.int v2_s0)]) (by
    by_cases hc1 : (p1 &&& (1 : Int32)) = (0 : Int32)
    · rw [if_pos hc1] at Hv2_s0
      refine ⟨s₁, X0, e0, fun target kt => ?_⟩
      rw [Hv2_s0] at kt
      show Steps p.tables e below (s₁.setTop (mkF m 3 #[.val (.int p0), .val (.int p1), .unset, .unset, .unset] [(.int (p1 &&& (1 : Int32)))])) _
      refine XS.ifNo X0.here hx rfl (hb hby at_3) rfl ((if0 _ _).trans (teq hc1).2) ?_
      show Steps p.tables e below (s₁.setTop (mkF m 6 #[.val (.int p0), .val (.int p1), .unset, .unset, .unset] [])) _
      refine XS.iloadN X0.here hx rfl (hb hby at_6) rfl ?_
      show Steps p.tables e below (s₁.setTop (mkF m 7 #[.val (.int p0), .val (.int p1), .unset, .unset, .unset] [(.int p0)])) _
      refine X0.ldcInt hx hown (mvT hZ (hw _ (List.mem_of_getElem? (i := 5) rfl))) (g := (mkF m 7 #[.val (.int p0), .val (.int p1), .unset, .unset, .unset] [(.int p0)])) rfl (hb hby at_7) _ ?_
      show Steps p.tables e below (s₁.setTop (mkF m 9 #[.val (.int p0), .val (.int p1), .unset, .unset, .unset] [(.int (65535 : Int32)), (.int p0)])) _
      refine XS.iand X0.here hx rfl (hb hby at_9) rfl ?_
      show Steps p.tables e below (s₁.setTop (mkF m 10 #[.val (.int p0), .val (.int p1), .unset, .unset, .unset] [(.int (p0 &&& (65535 : Int32)))])) _
      refine XS.goto X0.here hx rfl (pc0 := 10) (pc' := 17) rfl (hb hby at_10) (by decide) (by decide) ?_
      exact kt
    · rw [if_neg hc1] at Hv2_s0
      refine ⟨s₁, X0, e0, fun target kt => ?_⟩
      rw [Hv2_s0] at kt
      show Steps p.tables e below (s₁.setTop (mkF m 3 #[.val (.int p0), .val (.int p1), .unset, .unset, .unset] [(.int (p1 &&& (1 : Int32)))])) _
      refine XS.ifYes X0.here hx rfl (pc0 := 3) (pc' := 13) rfl (hb hby at_3) rfl ((if0 _ _).trans (feq hc1).2) (by decide) (by decide) ?_
      show Steps p.tables e below (s₁.setTop (mkF m 13 #[.val (.int p0), .val (.int p1), .unset, .unset, .unset] [])) _
      refine XS.iloadN X0.here hx rfl (hb hby at_13) rfl ?_
      show Steps p.tables e below (s₁.setTop (mkF m 14 #[.val (.int p0), .val (.int p1), .unset, .unset, .unset] [(.int p0)])) _
      refine XS.bipush X0.here hx rfl (hb hby at_14) ?_
      show Steps p.tables e below (s₁.setTop (mkF m 16 #[.val (.int p0), .val (.int p1), .unset, .unset, .unset] [(.int (63 : Int32)), (.int p0)])) _
      refine XS.iand X0.here hx rfl (hb hby at_16) rfl ?_
      exact kt)
  obtain ⟨v5_s0, Hv5_s0⟩ : ∃ z : Int32, z = (if (32 : Int32) < v2_s0 then (0 : Int32) else (if ((((4294977024 : Int64).toUInt64 >>> (v2_s0 &&& 0x3f).toInt64.toUInt64).toInt64) &&& (1 : Int64)) = (0 : Int64) then (0 : Int32) else (1 : Int32))) := ⟨_, rfl⟩
  obtain ⟨T5, X5, e5, st5⟩ := own_seg X2 h0 (mkF m 24 #[.val (.int p0), .val (.int p1), .val (.int v2_s0), .val (.int (v2_s0.toUInt32.toUInt16.toUInt32.toInt32)), .unset] [(.int (32 : Int32)), (.int v2_s0)]) (mkF m 44 #[.val (.int p0), .val (.int p1), .val (.int v2_s0), .val (.int (v2_s0.toUInt32.toUInt16.toUInt32.toInt32)), .unset] [(.int v5_s0)]) (by
    by_cases hc3 : (32 : Int32) < v2_s0
    · rw [if_pos hc3] at Hv5_s0
      refine ⟨T2, X2, e2, fun target kt => ?_⟩
      rw [Hv5_s0] at kt
      show Steps p.tables e below (T2.setTop (mkF m 24 #[.val (.int p0), .val (.int p1), .val (.int v2_s0), .val (.int (v2_s0.toUInt32.toUInt16.toUInt32.toInt32)), .unset] [(.int (32 : Int32)), (.int v2_s0)])) _
      refine XS.icmpYes X2.here hx rfl (pc0 := 24) (pc' := 43) rfl (hb hby at_24) rfl (tlt hc3).2.2.1 (by decide) (by decide) ?_
      show Steps p.tables e below (T2.setTop (mkF m 43 #[.val (.int p0), .val (.int p1), .val (.int v2_s0), .val (.int (v2_s0.toUInt32.toUInt16.toUInt32.toInt32)), .unset] [])) _
      refine XS.iconst X2.here hx rfl (hb hby at_43) ?_
      exact kt
    · by_cases hc4 : ((((4294977024 : Int64).toUInt64 >>> (v2_s0 &&& 0x3f).toInt64.toUInt64).toInt64) &&& (1 : Int64)) = (0 : Int64)
      · rw [if_neg hc3, if_pos hc4] at Hv5_s0
        refine ⟨T2, X2, e2, fun target kt => ?_⟩
        rw [Hv5_s0] at kt
        show Steps p.tables e below (T2.setTop (mkF m 24 #[.val (.int p0), .val (.int p1), .val (.int v2_s0), .val (.int (v2_s0.toUInt32.toUInt16.toUInt32.toInt32)), .unset] [(.int (32 : Int32)), (.int v2_s0)])) _
        refine XS.icmpNo X2.here hx rfl (hb hby at_24) rfl (flt hc3).2.2.1 ?_
        show Steps p.tables e below (T2.setTop (mkF m 27 #[.val (.int p0), .val (.int p1), .val (.int v2_s0), .val (.int (v2_s0.toUInt32.toUInt16.toUInt32.toInt32)), .unset] [])) _
        refine X2.ldc2Long hx hown (mvT hZ (hw _ (List.mem_of_getElem? (i := 0) rfl))) (g := (mkF m 27 #[.val (.int p0), .val (.int p1), .val (.int v2_s0), .val (.int (v2_s0.toUInt32.toUInt16.toUInt32.toInt32)), .unset] [])) rfl (hb hby at_27) _ ?_
        show Steps p.tables e below (T2.setTop (mkF m 30 #[.val (.int p0), .val (.int p1), .val (.int v2_s0), .val (.int (v2_s0.toUInt32.toUInt16.toUInt32.toInt32)), .unset] [(.long (4294977024 : Int64))])) _
        refine XS.iloadN X2.here hx rfl (hb hby at_30) rfl ?_
        show Steps p.tables e below (T2.setTop (mkF m 31 #[.val (.int p0), .val (.int p1), .val (.int v2_s0), .val (.int (v2_s0.toUInt32.toUInt16.toUInt32.toInt32)), .unset] [(.int v2_s0), (.long (4294977024 : Int64))])) _
        refine XS.lushr X2.here hx rfl (hb hby at_31) rfl ?_
        show Steps p.tables e below (T2.setTop (mkF m 32 #[.val (.int p0), .val (.int p1), .val (.int v2_s0), .val (.int (v2_s0.toUInt32.toUInt16.toUInt32.toInt32)), .unset] [(.long (((4294977024 : Int64).toUInt64 >>> (v2_s0 &&& 0x3f).toInt64.toUInt64).toInt64))])) _
        refine XS.lconst X2.here hx rfl (hb hby at_32) ?_
        show Steps p.tables e below (T2.setTop (mkF m 33 #[.val (.int p0), .val (.int p1), .val (.int v2_s0), .val (.int (v2_s0.toUInt32.toUInt16.toUInt32.toInt32)), .unset] [(.long (1 : Int64)), (.long (((4294977024 : Int64).toUInt64 >>> (v2_s0 &&& 0x3f).toInt64.toUInt64).toInt64))])) _
        refine XS.land X2.here hx rfl (hb hby at_33) rfl ?_
        show Steps p.tables e below (T2.setTop (mkF m 34 #[.val (.int p0), .val (.int p1), .val (.int v2_s0), .val (.int (v2_s0.toUInt32.toUInt16.toUInt32.toInt32)), .unset] [(.long ((((4294977024 : Int64).toUInt64 >>> (v2_s0 &&& 0x3f).toInt64.toUInt64).toInt64) &&& (1 : Int64)))])) _
        refine XS.lconst X2.here hx rfl (hb hby at_34) ?_
        show Steps p.tables e below (T2.setTop (mkF m 35 #[.val (.int p0), .val (.int p1), .val (.int v2_s0), .val (.int (v2_s0.toUInt32.toUInt16.toUInt32.toInt32)), .unset] [(.long (0 : Int64)), (.long ((((4294977024 : Int64).toUInt64 >>> (v2_s0 &&& 0x3f).toInt64.toUInt64).toInt64) &&& (1 : Int64)))])) _
        refine XS.lcmp X2.here hx rfl (hb hby at_35) rfl ?_
        show Steps p.tables e below (T2.setTop (mkF m 36 #[.val (.int p0), .val (.int p1), .val (.int v2_s0), .val (.int (v2_s0.toUInt32.toUInt16.toUInt32.toInt32)), .unset] [(.int (lcmpW ((((4294977024 : Int64).toUInt64 >>> (v2_s0 &&& 0x3f).toInt64.toUInt64).toInt64) &&& (1 : Int64)) (0 : Int64)))])) _
        refine XS.ifYes X2.here hx rfl (pc0 := 36) (pc' := 43) rfl (hb hby at_36) rfl ((if0 _ _).trans (teq ((lw_eq _ _).mpr hc4)).1) (by decide) (by decide) ?_
        show Steps p.tables e below (T2.setTop (mkF m 43 #[.val (.int p0), .val (.int p1), .val (.int v2_s0), .val (.int (v2_s0.toUInt32.toUInt16.toUInt32.toInt32)), .unset] [])) _
        refine XS.iconst X2.here hx rfl (hb hby at_43) ?_
        exact kt
      · rw [if_neg hc3, if_neg hc4] at Hv5_s0
        refine ⟨T2, X2, e2, fun target kt => ?_⟩
        rw [Hv5_s0] at kt
        show Steps p.tables e below (T2.setTop (mkF m 24 #[.val (.int p0), .val (.int p1), .val (.int v2_s0), .val (.int (v2_s0.toUInt32.toUInt16.toUInt32.toInt32)), .unset] [(.int (32 : Int32)), (.int v2_s0)])) _
        refine XS.icmpNo X2.here hx rfl (hb hby at_24) rfl (flt hc3).2.2.1 ?_
        show Steps p.tables e below (T2.setTop (mkF m 27 #[.val (.int p0), .val (.int p1), .val (.int v2_s0), .val (.int (v2_s0.toUInt32.toUInt16.toUInt32.toInt32)), .unset] [])) _
        refine X2.ldc2Long hx hown (mvT hZ (hw _ (List.mem_of_getElem? (i := 0) rfl))) (g := (mkF m 27 #[.val (.int p0), .val (.int p1), .val (.int v2_s0), .val (.int (v2_s0.toUInt32.toUInt16.toUInt32.toInt32)), .unset] [])) rfl (hb hby at_27) _ ?_
        show Steps p.tables e below (T2.setTop (mkF m 30 #[.val (.int p0), .val (.int p1), .val (.int v2_s0), .val (.int (v2_s0.toUInt32.toUInt16.toUInt32.toInt32)), .unset] [(.long (4294977024 : Int64))])) _
        refine XS.iloadN X2.here hx rfl (hb hby at_30) rfl ?_
        show Steps p.tables e below (T2.setTop (mkF m 31 #[.val (.int p0), .val (.int p1), .val (.int v2_s0), .val (.int (v2_s0.toUInt32.toUInt16.toUInt32.toInt32)), .unset] [(.int v2_s0), (.long (4294977024 : Int64))])) _
        refine XS.lushr X2.here hx rfl (hb hby at_31) rfl ?_
        show Steps p.tables e below (T2.setTop (mkF m 32 #[.val (.int p0), .val (.int p1), .val (.int v2_s0), .val (.int (v2_s0.toUInt32.toUInt16.toUInt32.toInt32)), .unset] [(.long (((4294977024 : Int64).toUInt64 >>> (v2_s0 &&& 0x3f).toInt64.toUInt64).toInt64))])) _
        refine XS.lconst X2.here hx rfl (hb hby at_32) ?_
        show Steps p.tables e below (T2.setTop (mkF m 33 #[.val (.int p0), .val (.int p1), .val (.int v2_s0), .val (.int (v2_s0.toUInt32.toUInt16.toUInt32.toInt32)), .unset] [(.long (1 : Int64)), (.long (((4294977024 : Int64).toUInt64 >>> (v2_s0 &&& 0x3f).toInt64.toUInt64).toInt64))])) _
        refine XS.land X2.here hx rfl (hb hby at_33) rfl ?_
        show Steps p.tables e below (T2.setTop (mkF m 34 #[.val (.int p0), .val (.int p1), .val (.int v2_s0), .val (.int (v2_s0.toUInt32.toUInt16.toUInt32.toInt32)), .unset] [(.long ((((4294977024 : Int64).toUInt64 >>> (v2_s0 &&& 0x3f).toInt64.toUInt64).toInt64) &&& (1 : Int64)))])) _
        refine XS.lconst X2.here hx rfl (hb hby at_34) ?_
        show Steps p.tables e below (T2.setTop (mkF m 35 #[.val (.int p0), .val (.int p1), .val (.int v2_s0), .val (.int (v2_s0.toUInt32.toUInt16.toUInt32.toInt32)), .unset] [(.long (0 : Int64)), (.long ((((4294977024 : Int64).toUInt64 >>> (v2_s0 &&& 0x3f).toInt64.toUInt64).toInt64) &&& (1 : Int64)))])) _
        refine XS.lcmp X2.here hx rfl (hb hby at_35) rfl ?_
        show Steps p.tables e below (T2.setTop (mkF m 36 #[.val (.int p0), .val (.int p1), .val (.int v2_s0), .val (.int (v2_s0.toUInt32.toUInt16.toUInt32.toInt32)), .unset] [(.int (lcmpW ((((4294977024 : Int64).toUInt64 >>> (v2_s0 &&& 0x3f).toInt64.toUInt64).toInt64) &&& (1 : Int64)) (0 : Int64)))])) _
        refine XS.ifNo X2.here hx rfl (hb hby at_36) rfl ((if0 _ _).trans (feq (fun q => hc4 ((lw_eq _ _).mp q))).1) ?_
        show Steps p.tables e below (T2.setTop (mkF m 39 #[.val (.int p0), .val (.int p1), .val (.int v2_s0), .val (.int (v2_s0.toUInt32.toUInt16.toUInt32.toInt32)), .unset] [])) _
        refine XS.iconst X2.here hx rfl (hb hby at_39) ?_
        show Steps p.tables e below (T2.setTop (mkF m 40 #[.val (.int p0), .val (.int p1), .val (.int v2_s0), .val (.int (v2_s0.toUInt32.toUInt16.toUInt32.toInt32)), .unset] [(.int (1 : Int32))])) _
        refine XS.goto X2.here hx rfl (pc0 := 40) (pc' := 44) rfl (hb hby at_40) (by decide) (by decide) ?_
        exact kt)
  obtain ⟨_, _, ⟨T6, L6, k6, n6⟩, -, X6, ⟨Lc6, hQ6, l6, y6, z6⟩, st6⟩ := Jvm.LawKit.callS X5 hx (y := (⟨"com/example/rowset_to_xml/rowsettoxml/XmlContent", "isSpace", "(C)Z"⟩ : MethodName)) hown (mvT hZ (hw _ (List.mem_of_getElem? (i := 1) rfl))) (mvT hZ (hw _ (List.mem_of_getElem? (i := 2) rfl))) (mvT hZ (hw _ (List.mem_of_getElem? (i := 3) rfl))) (mvT hZ (hw _ (List.mem_of_getElem? (i := 4) rfl))) (by decide) (backOf (W := 0) (rm1 l Z a0 hw [] (v2_s0.toUInt32.toUInt16.toUInt32.toInt32) h0 n0 Z0) hZ (hw _ (List.mem_of_getElem? (i := 4) rfl)) (hw _ (List.mem_of_getElem? (i := 3) rfl)) (by decide) (by decide)) (g := (mkF m 47 #[.val (.int p0), .val (.int p1), .val (.int v2_s0), .val (.int (v2_s0.toUInt32.toUInt16.toUInt32.toInt32)), .val (.int v5_s0)] [(.int (v2_s0.toUInt32.toUInt16.toUInt32.toInt32))])) rfl (by rw [hml]; rfl) (argsL := [(.int (v2_s0.toUInt32.toUInt16.toUInt32.toInt32))]) (rest := []) (lenOf pd_0_0 rfl) rfl (by show 2 * 0 + _ ≤ _; exact Nat.le_of_eq rfl) (hb hby at_47) (fun _ _ => ⟨rfl, e5, (by decide : 0 + 0 ≤ _), (by decide : 0 + 0 ≤ _)⟩)
  dsimp only [Pt.U, Pt.locs, Pt.cells, Pt.slots] at X6 l6 y6 z6 st6 hQ6
  subst l6 y6 z6
  obtain ⟨rfl, rfl, e6⟩ := hQ6
  try rw [List.append_nil] at X6
  obtain ⟨v8_s0, Hv8_s0⟩ : ∃ z : Int32, z = (if (F1 (v2_s0.toUInt32.toUInt16.toUInt32.toInt32)) = v5_s0 then (1 : Int32) else (0 : Int32)) := ⟨_, rfl⟩
  obtain ⟨T8, X8, e8, st8⟩ := own_seg X6 h0 (mkF m 52 #[.val (.int p0), .val (.int p1), .val (.int v2_s0), .val (.int (v2_s0.toUInt32.toUInt16.toUInt32.toInt32)), .val (.int v5_s0)] [(.int v5_s0), (.int (F1 (v2_s0.toUInt32.toUInt16.toUInt32.toInt32)))]) (mkF m 60 #[.val (.int p0), .val (.int p1), .val (.int v2_s0), .val (.int (v2_s0.toUInt32.toUInt16.toUInt32.toInt32)), .val (.int v5_s0)] [(.int v8_s0)]) (by
    by_cases hc7 : (F1 (v2_s0.toUInt32.toUInt16.toUInt32.toInt32)) = v5_s0
    · rw [if_pos hc7] at Hv8_s0
      refine ⟨T6, X6, e6, fun target kt => ?_⟩
      rw [Hv8_s0] at kt
      show Steps p.tables e below (T6.setTop (mkF m 52 #[.val (.int p0), .val (.int p1), .val (.int v2_s0), .val (.int (v2_s0.toUInt32.toUInt16.toUInt32.toInt32)), .val (.int v5_s0)] [(.int v5_s0), (.int (F1 (v2_s0.toUInt32.toUInt16.toUInt32.toInt32)))])) _
      refine XS.icmpNo X6.here hx rfl (hb hby at_52) rfl (teq hc7).2 ?_
      show Steps p.tables e below (T6.setTop (mkF m 55 #[.val (.int p0), .val (.int p1), .val (.int v2_s0), .val (.int (v2_s0.toUInt32.toUInt16.toUInt32.toInt32)), .val (.int v5_s0)] [])) _
      refine XS.iconst X6.here hx rfl (hb hby at_55) ?_
      show Steps p.tables e below (T6.setTop (mkF m 56 #[.val (.int p0), .val (.int p1), .val (.int v2_s0), .val (.int (v2_s0.toUInt32.toUInt16.toUInt32.toInt32)), .val (.int v5_s0)] [(.int (1 : Int32))])) _
      refine XS.goto X6.here hx rfl (pc0 := 56) (pc' := 60) rfl (hb hby at_56) (by decide) (by decide) ?_
      exact kt
    · rw [if_neg hc7] at Hv8_s0
      refine ⟨T6, X6, e6, fun target kt => ?_⟩
      rw [Hv8_s0] at kt
      show Steps p.tables e below (T6.setTop (mkF m 52 #[.val (.int p0), .val (.int p1), .val (.int v2_s0), .val (.int (v2_s0.toUInt32.toUInt16.toUInt32.toInt32)), .val (.int v5_s0)] [(.int v5_s0), (.int (F1 (v2_s0.toUInt32.toUInt16.toUInt32.toInt32)))])) _
      refine XS.icmpYes X6.here hx rfl (pc0 := 52) (pc' := 59) rfl (hb hby at_52) rfl (feq hc7).2 (by decide) (by decide) ?_
      show Steps p.tables e below (T6.setTop (mkF m 59 #[.val (.int p0), .val (.int p1), .val (.int v2_s0), .val (.int (v2_s0.toUInt32.toUInt16.toUInt32.toInt32)), .val (.int v5_s0)] [])) _
      refine XS.iconst X6.here hx rfl (hb hby at_59) ?_
      exact kt)
  have hfin : nar .boolean v8_s0 = 1 := by rw [plain_law p0 p1 v2_s0 Hv2_s0 v5_s0 Hv5_s0 v8_s0 Hv8_s0]; rfl
  obtain ⟨fs, hr, hrun, hended, hW, hsame⟩ := X8.leave (v := some (.int (nar .boolean v8_s0))) (fun h => by rw [Bd.returns] at h; cases h)
  refine ⟨_, _, pre0 _ ?_, hrun, hended, _, _, rfl, ?_, ⟨_, rfl⟩, hW, hsame.mono (by decide) (by decide)⟩
  · show Steps p.tables e below (s₁.setTop (mkF m 0 #[.val (.int p0), .val (.int p1), .unset, .unset, .unset] [])) _
    refine XS.iloadN X0.here hx rfl (hb hby at_0) rfl ?_
    show Steps p.tables e below (s₁.setTop (mkF m 1 #[.val (.int p0), .val (.int p1), .unset, .unset, .unset] [(.int p1)])) _
    refine XS.iconst X0.here hx rfl (hb hby at_1) ?_
    show Steps p.tables e below (s₁.setTop (mkF m 2 #[.val (.int p0), .val (.int p1), .unset, .unset, .unset] [(.int (1 : Int32)), (.int p1)])) _
    refine XS.iand X0.here hx rfl (hb hby at_2) rfl ?_
    show Steps p.tables e below (s₁.setTop (mkF m 3 #[.val (.int p0), .val (.int p1), .unset, .unset, .unset] [(.int (p1 &&& (1 : Int32)))])) _
    refine st2 _ ?_
    show Steps p.tables e below (T2.setTop (mkF m 17 #[.val (.int p0), .val (.int p1), .unset, .unset, .unset] [(.int v2_s0)])) _
    refine XS.istoreN X2.here hx rfl (hb hby at_17) rfl (l' := #[.val (.int p0), .val (.int p1), .val (.int v2_s0), .unset, .unset]) rfl ?_
    show Steps p.tables e below (T2.setTop (mkF m 18 #[.val (.int p0), .val (.int p1), .val (.int v2_s0), .unset, .unset] [])) _
    refine XS.iloadN X2.here hx rfl (hb hby at_18) rfl ?_
    show Steps p.tables e below (T2.setTop (mkF m 19 #[.val (.int p0), .val (.int p1), .val (.int v2_s0), .unset, .unset] [(.int v2_s0)])) _
    refine XS.i2c X2.here hx rfl (hb hby at_19) rfl ?_
    show Steps p.tables e below (T2.setTop (mkF m 20 #[.val (.int p0), .val (.int p1), .val (.int v2_s0), .unset, .unset] [(.int (v2_s0.toUInt32.toUInt16.toUInt32.toInt32))])) _
    refine XS.istoreN X2.here hx rfl (hb hby at_20) rfl (l' := #[.val (.int p0), .val (.int p1), .val (.int v2_s0), .val (.int (v2_s0.toUInt32.toUInt16.toUInt32.toInt32)), .unset]) rfl ?_
    show Steps p.tables e below (T2.setTop (mkF m 21 #[.val (.int p0), .val (.int p1), .val (.int v2_s0), .val (.int (v2_s0.toUInt32.toUInt16.toUInt32.toInt32)), .unset] [])) _
    refine XS.iloadN X2.here hx rfl (hb hby at_21) rfl ?_
    show Steps p.tables e below (T2.setTop (mkF m 22 #[.val (.int p0), .val (.int p1), .val (.int v2_s0), .val (.int (v2_s0.toUInt32.toUInt16.toUInt32.toInt32)), .unset] [(.int v2_s0)])) _
    refine XS.bipush X2.here hx rfl (hb hby at_22) ?_
    show Steps p.tables e below (T2.setTop (mkF m 24 #[.val (.int p0), .val (.int p1), .val (.int v2_s0), .val (.int (v2_s0.toUInt32.toUInt16.toUInt32.toInt32)), .unset] [(.int (32 : Int32)), (.int v2_s0)])) _
    refine st5 _ ?_
    show Steps p.tables e below (T5.setTop (mkF m 44 #[.val (.int p0), .val (.int p1), .val (.int v2_s0), .val (.int (v2_s0.toUInt32.toUInt16.toUInt32.toInt32)), .unset] [(.int v5_s0)])) _
    refine XS.istore X5.here hx rfl (hb hby at_44) rfl (l' := #[.val (.int p0), .val (.int p1), .val (.int v2_s0), .val (.int (v2_s0.toUInt32.toUInt16.toUInt32.toInt32)), .val (.int v5_s0)]) rfl ?_
    show Steps p.tables e below (T5.setTop (mkF m 46 #[.val (.int p0), .val (.int p1), .val (.int v2_s0), .val (.int (v2_s0.toUInt32.toUInt16.toUInt32.toInt32)), .val (.int v5_s0)] [])) _
    refine XS.iloadN X5.here hx rfl (hb hby at_46) rfl ?_
    show Steps p.tables e below (T5.setTop (mkF m 47 #[.val (.int p0), .val (.int p1), .val (.int v2_s0), .val (.int (v2_s0.toUInt32.toUInt16.toUInt32.toInt32)), .val (.int v5_s0)] [(.int (v2_s0.toUInt32.toUInt16.toUInt32.toInt32))])) _
    refine st6 _ ?_
    show Steps p.tables e below (T6.setTop (mkF m 50 #[.val (.int p0), .val (.int p1), .val (.int v2_s0), .val (.int (v2_s0.toUInt32.toUInt16.toUInt32.toInt32)), .val (.int v5_s0)] [(.int (F1 (v2_s0.toUInt32.toUInt16.toUInt32.toInt32)))])) _
    refine XS.iload X6.here hx rfl (hb hby at_50) rfl ?_
    show Steps p.tables e below (T6.setTop (mkF m 52 #[.val (.int p0), .val (.int p1), .val (.int v2_s0), .val (.int (v2_s0.toUInt32.toUInt16.toUInt32.toInt32)), .val (.int v5_s0)] [(.int v5_s0), (.int (F1 (v2_s0.toUInt32.toUInt16.toUInt32.toInt32)))])) _
    refine st8 _ ?_
    show Steps p.tables e below (T8.setTop (mkF m 60 #[.val (.int p0), .val (.int p1), .val (.int v2_s0), .val (.int (v2_s0.toUInt32.toUInt16.toUInt32.toInt32)), .val (.int v5_s0)] [(.int v8_s0)])) _
    exact retN X8 hx (t := .boolean) Bd.returns (by simp) (hb hby at_60) hr
  · exact ⟨congrArg (fun z => some (Value.int z)) hfin, N0⟩
set_option maxRecDepth 65536 in
set_option maxHeartbeats 40000000 in
theorem comes_1 {Post : Tables → Env → Array Value → State → Outcome → State → Prop} (hpost : ∀ tb e args s v u, (limb_1_1.after args s (.returned v) u = true ∧ limb_1_2.after args s (.returned v) u = true ∧ True) → FrameEnd s (.returned v) u (Jvm.fieldLocs frame_1_writes args s ++ Jvm.arrayLocs frame_1_arrays args s ++ Jvm.staticLocs frame_1_statics s) 0 0 → Post tb e args s (.returned v) u) :
    ArmFor flags0 classFile x code maxLocals ret World_1 tables_1 room_1 Calls_1 rest_1 Pre_1 Post := by
  intro l hfl _ _ p e ha hc hk s m args below hf hA hF happ hP
  obtain ⟨hcalls, hrest, hpre⟩ := hP
  obtain ⟨-, -, -, hnamed, -, -, -, hat⟩ := (Spec.applies_iff hf).mp happ
  obtain ⟨hg, hn⟩ := and_e (Cond.before_iff.mp (show (Jvm.Cond.and given_1 narrow_1).before args s = true from hpre))
  obtain ⟨gg1, gg2⟩ := and_e hg
  obtain ⟨gg3, gg4⟩ := and_e gg2
  obtain ⟨w0, w1, rfl⟩ : ∃ w0 w1 : Value, args = #[w0, w1] := by
    have hs : args.size = 2 := by simpa [Cond.value, given_1] using gg1
    obtain ⟨L⟩ := args
    match L, hs with
    | [w0, w1], _ => exact ⟨w0, w1, rfl⟩
  have hw := fun d (hd : d ∈ tables_1) => atoms_spec (ws := Jvm.Cond.code x code maxLocals ret :: tables_1) hat d (List.mem_cons_of_mem _ hd)
  obtain ⟨i0, ei0⟩ := is_v gg3
  obtain rfl : w0 = (.int i0) := Option.some.inj ei0
  obtain ⟨i1, ei1⟩ := is_v gg4
  obtain rfl : w1 = (.int i1) := Option.some.inj ei1
  obtain ⟨n, o, h1, h2, h3, _, L, rfl, ⟨rfl, N⟩, hq⟩ := rm0 l s _ hw tables_1 i0 i1 s.heap s.heap.size (Nat.le_refl _) p e ha hc hk s m _ below hf ((Spec.applies_iff_loose hf).mp happ).1 ⟨rfl, State.Warmed39.refl s, rfl⟩ trivial
  refine ⟨n, _, h1, h2, h3, hpost _ _ _ _ _ _ ⟨Cond.after_iff.mpr rfl, Cond.after_iff.mpr (eq_i res_at (Term.int_eval (1)) rfl), trivial⟩ ⟨hq.1, hq.2.1, (hq.2.2.sift fun y hy => Or.inr (N y hy)).mono (by decide) (by decide)⟩⟩
theorem main_1_1 : Claimed_1_1 := comes_1 fun _ _ _ _ _ _ h hF => ⟨h.1, hF⟩
theorem main_1_2 : Claimed_1_2 := comes_1 fun _ _ _ _ _ _ h hF => ⟨h.2.1, hF⟩
end Jvm.Pilot.@@N@@
namespace Jvm.Pilot.@@N@@
open Jvm Jvm.ClassFile Sem Op Lib Jvm.Free Jvm.Stand Jvm.Pilot.@@N@@.Jvm.D
/-! MADE BY PROGRAM (witnessworld.py) out of the Statement's table words and the real class files: 9 classes; the members and pool entries that the words name. The judged class is class 1, her method 1. -/
namespace start1
open Jvm.ClassFile
def u (s : String) : CpInfo := .utf8 (stringToUtf16 s)
/-- a pool by its gaps: so many unusable entries, then the entry; so many at the end -/
def gap : Nat → List CpInfo → List CpInfo
  | 0, r => r
  | n + 1, r => .unusable :: gap n r
def poolList (es : List (Nat × CpInfo)) (last : Nat) : List CpInfo := es.foldr (fun e r => gap e.1 (e.2 :: r)) (gap last [])
def pool (es : List (Nat × CpInfo)) (last : Nat) : Array CpInfo := ⟨poolList es last⟩
def fileOf (pool : Array CpInfo) (this : Nat) (attrs : Array Attribute := #[]) (ms : Array MethodInfo := #[]) (fl : Nat := 33) (sup : Nat := 0) (ifs : Array Nat := #[]) (fds : Array FieldInfo := #[]) : ClassFile where
  minorVersion := 0
  majorVersion := 65
  constantPool := pool
  accessFlags := fl
  thisClass := this
  superClass := sup
  interfaces := ifs
  fields := fds
  methods := ms
  attributes := attrs
def plain (name : String) (sup : Option ClassId) : Class where
  name := name
  kind := .ordinary
  loader := none
  accessFlags := 33
  super := sup
  interfaces := #[]
  cf := none
  fields := #[]
  methods := #[]
  instanceTypes := #[]
  staticTypes := #[]
  resolved := #[]
  callSites := []
  init := .initialized
  statics := none
  mirror := none

def pool0 : Array CpInfo := pool [(5, u "<init>"), (0, u "()V"), (1, .class_ 10), (1, u "java/lang/Object")] 113

def k0m0 : Method := { name := "<init>", desc := "()V", sig := { parameters := [], returnType := none }, accessFlags := 1, code := none }
/-- java/lang/Object -/
def k0 : Class := { plain "java/lang/Object" none with
  accessFlags := 33
  interfaces := #[]
  cf := some (fileOf pool0 8 #[] #[{ accessFlags := 1, nameIndex := 5, descriptorIndex := 6, attributes := #[] }] 33 0 #[] #[])
  fields := #[]
  methods := #[k0m0]
  instanceTypes := #[]
  staticTypes := #[]
  resolved := Array.replicate 124 none
  statics := none }

def pool1 : Array CpInfo := pool [(2, .class_ 4), (1, u "java/lang/Object"), (0, u "<init>"), (0, u "()V"), (0, .integer 65535), (0, .class_ 9), (0, u "com/example/rowset_to_xml/rowsettoxml/XmlContentIsSpacePinLaw"), (0, .long 4294977024), (1, .methodref 13 14), (0, .class_ 15), (0, .nameAndType 16 17), (0, u "com/example/rowset_to_xml/rowsettoxml/XmlContent"), (0, u "isSpace"), (0, u "(C)Z"), (0, u "S_BITS"), (0, u "J"), (3, u "law"), (0, u "(II)Z")] 3

def k1m0 : Method := { name := "<init>", desc := "()V", sig := { parameters := [], returnType := none }, accessFlags := 2, code := none }
def k1c1 : Code := { maxStack := 4, maxLocals := 5, code := code, exceptionTable := #[], attributes := #[] }
def k1m1 : Method := { name := "law", desc := "(II)Z", sig := { parameters := [.int, .int], returnType := some .boolean }, accessFlags := 9, code := some k1c1 }
/-- com/example/rowset_to_xml/rowsettoxml/XmlContentIsSpacePinLaw -/
def k1 : Class := { plain "com/example/rowset_to_xml/rowsettoxml/XmlContentIsSpacePinLaw" (some 0) with
  accessFlags := 49
  interfaces := #[]
  cf := some (fileOf pool1 8 #[] #[{ accessFlags := 2, nameIndex := 5, descriptorIndex := 6, attributes := #[] }, { accessFlags := 9, nameIndex := 23, descriptorIndex := 24, attributes := #[] }] 49 2 #[] #[{ accessFlags := 26, nameIndex := 18, descriptorIndex := 19, attributes := #[] }])
  fields := #[{ name := "S_BITS", type := .long, accessFlags := 26, slot := 0, constantValue := 0 }]
  methods := #[k1m0, k1m1]
  instanceTypes := #[]
  staticTypes := #[.long]
  resolved := Array.replicate 28 none
  statics := none }

def pool2 : Array CpInfo := pool [(2, .class_ 4), (1, u "java/lang/Object"), (3, .class_ 10), (1, u "com/example/rowset_to_xml/rowsettoxml/XmlContent"), (0, u "open"), (0, u "[I"), (2, u "attributes"), (4, u "attributeNamespaces"), (0, u "[Ljava/lang/String;"), (2, u "value"), (0, u "Ljava/lang/String;"), (16, u "at"), (0, u "I"), (19, u "depth"), (27, u "isSpace"), (0, u "(C)Z"), (91, u "attributeCount"), (65, u "namespaces"), (0, u "Ljava/util/Map;"), (8, u "declared"), (0, u "Ljava/util/List;"), (2, u "shadowed"), (96, u "PREDEFINED"), (58, .class_ 421), (0, u "com/example/rowset_to_xml/rowsettoxml/XmlContent$NotContentException"), (20, u "DECLARATION_START"), (1, u "DECLARATION_END"), (0, u "VERSION"), (0, u "END_TAG_START"), (0, u "EMPTY_TAG_END"), (0, u "COMMENT_START"), (0, u "COMMENT_END"), (0, u "CDATA_START"), (0, u "CDATA_END"), (0, u "RESERVED_TARGET"), (2, u "PAIRED_ATTRIBUTES")] 58

def k2c0 : Code := { maxStack := 2, maxLocals := 1, code := prog_80_method_6_code, exceptionTable := #[], attributes := #[] }
def k2m0 : Method := { name := "isSpace", desc := "(C)Z", sig := { parameters := [.char], returnType := some .boolean }, accessFlags := 8, code := some k2c0 }
/-- com/example/rowset_to_xml/rowsettoxml/XmlContent -/
def k2 : Class := { plain "com/example/rowset_to_xml/rowsettoxml/XmlContent" (some 0) with
  accessFlags := 48
  interfaces := #[]
  cf := some (fileOf pool2 8 #[.nestMembers #[420]] #[{ accessFlags := 8, nameIndex := 91, descriptorIndex := 92, attributes := #[] }] 48 2 #[] #[{ accessFlags := 26, nameIndex := 442, descriptorIndex := 25, attributes := #[] }, { accessFlags := 26, nameIndex := 444, descriptorIndex := 25, attributes := #[] }, { accessFlags := 26, nameIndex := 445, descriptorIndex := 25, attributes := #[] }, { accessFlags := 26, nameIndex := 446, descriptorIndex := 25, attributes := #[] }, { accessFlags := 26, nameIndex := 447, descriptorIndex := 25, attributes := #[] }, { accessFlags := 26, nameIndex := 448, descriptorIndex := 25, attributes := #[] }, { accessFlags := 26, nameIndex := 449, descriptorIndex := 25, attributes := #[] }, { accessFlags := 26, nameIndex := 450, descriptorIndex := 25, attributes := #[] }, { accessFlags := 26, nameIndex := 451, descriptorIndex := 25, attributes := #[] }, { accessFlags := 26, nameIndex := 452, descriptorIndex := 25, attributes := #[] }, { accessFlags := 26, nameIndex := 361, descriptorIndex := 251, attributes := #[] }, { accessFlags := 26, nameIndex := 455, descriptorIndex := 43, attributes := #[] }, { accessFlags := 18, nameIndex := 24, descriptorIndex := 25, attributes := #[] }, { accessFlags := 2, nameIndex := 42, descriptorIndex := 43, attributes := #[] }, { accessFlags := 2, nameIndex := 11, descriptorIndex := 12, attributes := #[] }, { accessFlags := 2, nameIndex := 63, descriptorIndex := 43, attributes := #[] }, { accessFlags := 2, nameIndex := 250, descriptorIndex := 251, attributes := #[] }, { accessFlags := 2, nameIndex := 260, descriptorIndex := 261, attributes := #[] }, { accessFlags := 2, nameIndex := 264, descriptorIndex := 261, attributes := #[] }, { accessFlags := 2, nameIndex := 15, descriptorIndex := 12, attributes := #[] }, { accessFlags := 2, nameIndex := 20, descriptorIndex := 21, attributes := #[] }, { accessFlags := 2, nameIndex := 184, descriptorIndex := 43, attributes := #[] }])
  fields := #[{ name := "DECLARATION_START", type := (.object "java/lang/String"), accessFlags := 26, slot := 0, constantValue := 0 }, { name := "DECLARATION_END", type := (.object "java/lang/String"), accessFlags := 26, slot := 1, constantValue := 0 }, { name := "VERSION", type := (.object "java/lang/String"), accessFlags := 26, slot := 2, constantValue := 0 }, { name := "END_TAG_START", type := (.object "java/lang/String"), accessFlags := 26, slot := 3, constantValue := 0 }, { name := "EMPTY_TAG_END", type := (.object "java/lang/String"), accessFlags := 26, slot := 4, constantValue := 0 }, { name := "COMMENT_START", type := (.object "java/lang/String"), accessFlags := 26, slot := 5, constantValue := 0 }, { name := "COMMENT_END", type := (.object "java/lang/String"), accessFlags := 26, slot := 6, constantValue := 0 }, { name := "CDATA_START", type := (.object "java/lang/String"), accessFlags := 26, slot := 7, constantValue := 0 }, { name := "CDATA_END", type := (.object "java/lang/String"), accessFlags := 26, slot := 8, constantValue := 0 }, { name := "RESERVED_TARGET", type := (.object "java/lang/String"), accessFlags := 26, slot := 9, constantValue := 0 }, { name := "PREDEFINED", type := (.object "java/util/Map"), accessFlags := 26, slot := 10, constantValue := 0 }, { name := "PAIRED_ATTRIBUTES", type := .int, accessFlags := 26, slot := 11, constantValue := 0 }, { name := "value", type := (.object "java/lang/String"), accessFlags := 18, slot := 0, constantValue := 0 }, { name := "at", type := .int, accessFlags := 2, slot := 1, constantValue := 0 }, { name := "open", type := (.array .int), accessFlags := 2, slot := 2, constantValue := 0 }, { name := "depth", type := .int, accessFlags := 2, slot := 3, constantValue := 0 }, { name := "namespaces", type := (.object "java/util/Map"), accessFlags := 2, slot := 4, constantValue := 0 }, { name := "declared", type := (.object "java/util/List"), accessFlags := 2, slot := 5, constantValue := 0 }, { name := "shadowed", type := (.object "java/util/List"), accessFlags := 2, slot := 6, constantValue := 0 }, { name := "attributes", type := (.array .int), accessFlags := 2, slot := 7, constantValue := 0 }, { name := "attributeNamespaces", type := (.array (.object "java/lang/String")), accessFlags := 2, slot := 8, constantValue := 0 }, { name := "attributeCount", type := .int, accessFlags := 2, slot := 9, constantValue := 0 }]
  methods := #[k2m0]
  instanceTypes := #[(.object "java/lang/String"), .int, (.array .int), .int, (.object "java/util/Map"), (.object "java/util/List"), (.object "java/util/List"), (.array .int), (.array (.object "java/lang/String")), .int]
  staticTypes := #[(.object "java/lang/String"), (.object "java/lang/String"), (.object "java/lang/String"), (.object "java/lang/String"), (.object "java/lang/String"), (.object "java/lang/String"), (.object "java/lang/String"), (.object "java/lang/String"), (.object "java/lang/String"), (.object "java/lang/String"), (.object "java/util/Map"), .int]
  resolved := Array.replicate 514 none
  statics := none }

def pool3 : Array CpInfo := pool [(1, u "java/lang/Cloneable"), (0, .class_ 1), (0, u "java/lang/Object"), (0, .class_ 3)] 3

/-- java/lang/Cloneable -/
def k3 : Class := { plain "java/lang/Cloneable" (some 0) with
  accessFlags := 1537
  interfaces := #[]
  cf := some (fileOf pool3 2 #[] #[] 1537 4 #[] #[])
  fields := #[]
  methods := #[]
  instanceTypes := #[]
  staticTypes := #[]
  resolved := Array.replicate 8 none
  statics := none }

def pool4 : Array CpInfo := pool [(1, u "java/io/Serializable"), (0, .class_ 1), (0, u "java/lang/Object"), (0, .class_ 3)] 3

/-- java/io/Serializable -/
def k4 : Class := { plain "java/io/Serializable" (some 0) with
  accessFlags := 1537
  interfaces := #[]
  cf := some (fileOf pool4 2 #[] #[] 1537 4 #[] #[])
  fields := #[]
  methods := #[]
  instanceTypes := #[]
  staticTypes := #[]
  resolved := Array.replicate 8 none
  statics := none }

/-- the primitive byte -/
def k5 : Class := { plain "byte" none with kind := .primitive 'B', accessFlags := 0x411 }
/-- [B -/
def k6 : Class := { plain "[B" (some 0) with kind := .array 5 .byte, interfaces := #[3, 4], accessFlags := 1041 }

/-- the primitive int -/
def k7 : Class := { plain "int" none with kind := .primitive 'I', accessFlags := 0x411 }
/-- [I -/
def k8 : Class := { plain "[I" (some 0) with kind := .array 7 .int, interfaces := #[3, 4], accessFlags := 1041 }

def heap : Heap := #[]
def classes : Array Class := #[k0, k1, k2, k3, k4, k5, k6, k7, k8]
def interned : List (Array UInt16 × Addr) := []
def slotsUsed : Nat := 0
def theMethod : MethodId := ⟨1, 1⟩
def args0 : Array Value := #[.int 5, .int 5]
def aboutOver (below : List Frame) : State where
  vm := { classes := classes, interned := interned.toArray }
  heap := heap
  slotsUsed := slotsUsed
  threads := #[{ frames := .invoking theMethod args0 :: below }]
def below0 : List Frame := [.native { method := ⟨0, 0⟩, args := #[] }]
def about1 : State := aboutOver below0
def p0 : Program := .bare "" "" ""
def e0 : Env := launch0.env 0 0 0
theorem w_frames : about1.frames = Frame.invoking theMethod args0 :: below0 := rfl
set_option maxRecDepth 65536 in
theorem w_args : argsFit about1.vm theMethod args0 = true := by decide +kernel
set_option maxRecDepth 65536 in
theorem w_heap : heapFits about1 = true := by decide +kernel
set_option maxRecDepth 65536 in
theorem w_runnable : about1.curStatus? = some .runnable := by decide +kernel
set_option maxRecDepth 65536 in
theorem w_alone : about1.alone = true := by decide +kernel
set_option maxRecDepth 65536 in
theorem w_named : about1.methodNamed? x = some theMethod := by decide +kernel
set_option maxRecDepth 65536 in
theorem w_hears : about1.hears theMethod below0 = true := by decide +kernel
set_option maxRecDepth 65536 in
theorem w_ripe : about1.ripe theMethod args0 below0 = true := by decide +kernel
theorem w_running : about1.status = .running := rfl
set_option maxRecDepth 65536 in
theorem w_room : about1.hasRoom e0.platform room_1 = true :=
  launch0.hasRoom_least _ room_1 (by decide +kernel) (by decide +kernel) (by decide +kernel) (by decide +kernel) (by decide +kernel) (by decide +kernel)
theorem allAtoms_all (ts : List Jvm.Cond) (a : Array Jvm.Value) (st : Jvm.State) : (allAtoms ts).before a st = ts.all (fun c => c.before a st) := by
  induction ts with
  | nil => rfl
  | cons c t ih =>
    show (Jvm.Cond.and c (allAtoms t)).before a st = _
    rw [Jvm.Cond.before_and, ih, List.all_cons]
def words1 : List Jvm.Cond := Jvm.Cond.code x code maxLocals ret :: tables_1
/-- a 'code' word, met by the world's own term for the bytes: nothing is compared byte by byte -/
theorem code_word {y : MethodName} {bytes : ByteArray} {mx : Nat} {rt : Option FieldType} {a : Array Value} {s : State} {m : MethodId} {meth : Method} {c : Code} (h1 : s.methodNamed? y = some m) (h2 : s.vm.method? m = some meth) (h3 : meth.code = some c) (h4 : c.code = bytes)
    (h5 : (c.maxLocals == mx && c.exceptionTable.isEmpty && decide (c.maxStack ≤ mostOperands) && decide (meth.sig.returnType = rt) && !meth.locks && decide (parseMethodDescriptor y.desc = some meth.sig)) = true) : (Jvm.Cond.code y bytes mx rt).before a s = true := by
  simp only [Bool.and_eq_true, beq_iff_eq, Bool.not_eq_true', decide_eq_true_eq] at h5
  obtain ⟨⟨⟨⟨⟨g1, g2⟩, g3⟩, g4⟩, g5⟩, g6⟩ := h5
  simp [Cond.before, Cond.holds, Cond.value, h1, h2, h3, h4, g1, g2, g3, g4, g5, g6]
def isCode : Jvm.Cond → Bool
  | .code _ _ _ _ => true
  | _ => false
theorem all_split {L : List Jvm.Cond} {P : Jvm.Cond → Bool} (h1 : L.all (fun c => isCode c || P c) = true) (h2 : ∀ c ∈ L.filter isCode, P c = true) : L.all P = true := by
  refine List.all_eq_true.mpr fun c hc => ?_
  have h := List.all_eq_true.mp h1 c hc
  rcases Bool.eq_false_or_eq_true (isCode c) with hi | hi
  · exact h2 c (List.mem_filter.mpr ⟨hc, hi⟩)
  · simpa [hi] using h
set_option maxRecDepth 65536 in
theorem w_c0 : (Jvm.Cond.code x code maxLocals ret).before args0 about1 = true := code_word (m := ⟨1, 1⟩) (meth := k1m1) (c := k1c1) (by decide +kernel) rfl rfl rfl (by decide +kernel)
set_option maxRecDepth 65536 in
theorem w_c1 : (Jvm.Cond.code ({ cls := "com/example/rowset_to_xml/rowsettoxml/XmlContent", name := "isSpace", desc := "(C)Z" } : Jvm.MethodName) prog_80_method_6_code (1 : Nat) (Option.some Jvm.ClassFile.FieldType.boolean)).before args0 about1 = true := code_word (m := ⟨2, 0⟩) (meth := k2m0) (c := k2c0) (by decide +kernel) rfl rfl rfl (by decide +kernel)
def codes1 : List Jvm.Cond := [Jvm.Cond.code x code maxLocals ret, Jvm.Cond.code ({ cls := "com/example/rowset_to_xml/rowsettoxml/XmlContent", name := "isSpace", desc := "(C)Z" } : Jvm.MethodName) prog_80_method_6_code (1 : Nat) (Option.some Jvm.ClassFile.FieldType.boolean)]
set_option maxRecDepth 65536 in
theorem codes_eq : words1.filter isCode = codes1 := rfl
theorem w_codes : ∀ c ∈ words1.filter isCode, c.before args0 about1 = true := by
  rw [codes_eq]
  intro c hc
  simp only [codes1, List.mem_cons, List.not_mem_nil, or_false] at hc
  rcases hc with rfl | rfl
  · exact w_c0
  · exact w_c1
set_option maxRecDepth 65536 in
theorem w_t1 : words1.all (fun c => isCode c || c.before args0 about1) = true := by decide +kernel
theorem w_tables : (allAtoms (Jvm.Cond.code x code maxLocals ret :: tables_1)).before args0 about1 = true := by
  rw [allAtoms_all]
  show words1.all (fun c => c.before args0 about1) = true
  refine all_split ?_ w_codes
  rw [w_t1]
set_option maxRecDepth 65536 in
theorem w_case : (Jvm.Cond.and given_1 narrow_1).before args0 about1 = true := by decide +kernel
theorem w_applies : (headSpec (Jvm.Cond.code x code maxLocals ret :: tables_1) room_1).applies x e0.platform about1 = true :=
  (Spec.applies_iff w_frames).mpr ⟨w_running, w_runnable, w_alone, w_named, w_hears, w_ripe, w_room, w_tables⟩
theorem atStart : AtStart classFile x code maxLocals ret World_1 tables_1 room_1 Calls_1 rest_1 Pre_1 launch0 p0 e0 about1 theMethod args0 below0 :=
  ⟨lists_1, trivial, launch0.admits_env _ _ _, launch0.least_env, fairChoices_fair.cas, fairChoices_fair.clock, w_frames, w_args, w_heap, w_applies, trivial, trivial, w_case⟩
end start1
theorem witness_1 : WitnessClaimed_1 := ⟨start1.p0, start1.e0, start1.about1, start1.theMethod, start1.args0, start1.below0, start1.atStart⟩
end Jvm.Pilot.@@N@@
