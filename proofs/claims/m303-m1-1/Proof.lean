import JvmDerived
import JvmDerived.Pilot.@@N@@Statement
import JvmDerived.Pilot.@@N@@Code
set_option linter.unusedVariables false
set_option linter.unusedSimpArgs false
@@BLOCK:NumsL.lean.txt@@
namespace Jvm.RoadKit
open Sem ClassFile Op Lib Jvm.Stand Jvm.Free Jvm.LawKit
section New
variable {p : Program} {l : Launch} {e : Env} {R : Room} {s : State} {m : MethodId} {args : Array Value} {below : List Frame} {meth : Method} {c : Code} {T : State} {locs : List Loc} {cells slots : Nat}
theorem retI (X : Stand p l e R s m args below meth c T locs cells slots) (hx : p.tables.exec = Jvm.exec) {pc : Nat} {Ls : Array Slot} {z : Int32} {rest : List Value} (hret : meth.sig.returnType = some .int) (hd : decode c.code pc = .ok (.ireturn, 1)) {fs : List Frame}
    (hl : ∀ (f : JFrame) (acts : List Action), f.method = m → f.locked = none → f.entered = [] → (doReturn e (T.setTop f) acts (some (.int z))).1 = T.setFrames fs) : Steps p.tables e below (T.setTop (mkF m pc Ls (.int z :: rest))) (T.setFrames fs) :=
  retOut X hx hret rfl (Or.inl ⟨rfl, Or.inl rfl, z, rfl⟩) hd hl
theorem retJ (X : Stand p l e R s m args below meth c T locs cells slots) (hx : p.tables.exec = Jvm.exec) {pc : Nat} {Ls : Array Slot} {z : Int64} {rest : List Value} (hret : meth.sig.returnType = some .long) (hd : decode c.code pc = .ok (.lreturn, 1)) {fs : List Frame}
    (hl : ∀ (f : JFrame) (acts : List Action), f.method = m → f.locked = none → f.entered = [] → (doReturn e (T.setTop f) acts (some (.long z))).1 = T.setFrames fs) : Steps p.tables e below (T.setTop (mkF m pc Ls (.long z :: rest))) (T.setFrames fs) :=
  retOut X hx hret rfl (Or.inr (Or.inl ⟨rfl, rfl, z, rfl⟩)) hd hl
theorem retA (X : Stand p l e R s m args below meth c T locs cells slots) (hx : p.tables.exec = Jvm.exec) {pc : Nat} {Ls : Array Slot} {w : Value} {t : FieldType} {rest : List Value} (hret : meth.sig.returnType = some t) (ht : t.isReference = true) (hn : narrow t w = w) (hw : w.isRef = true) (hd : decode c.code pc = .ok (.areturn, 1)) {fs : List Frame}
    (hl : ∀ (f : JFrame) (acts : List Action), f.method = m → f.locked = none → f.entered = [] → (doReturn e (T.setTop f) acts (some w)).1 = T.setFrames fs) : Steps p.tables e below (T.setTop (mkF m pc Ls (w :: rest))) (T.setFrames fs) :=
  retOut X hx hret hn (Or.inr (Or.inr (Or.inr (Or.inr ⟨rfl, ht, hw⟩)))) hd hl
/-- what an array of ints that is written down holds at a place -/
def own_at (vs : List Value) (d : Value) (j : Int32) : Int32 := match vs.getD j.toNatClampNeg d with | .int x => x | _ => 0
def own_ints (vs : List Value) : Bool := vs.all fun v => match v with | .int _ => true | _ => false
theorem own_at_eq {vs : List Value} {d : Value} (h : own_ints (d :: vs) = true) (j : Int32) : vs.getD j.toNatClampNeg d = .int (own_at vs d j) := by
  have q : vs.getD j.toNatClampNeg d ∈ d :: vs := by
    rw [List.getD_eq_getElem?_getD]
    cases e : vs[j.toNatClampNeg]? with
    | none => simp
    | some w => exact List.mem_cons_of_mem _ (List.mem_of_getElem? e)
  have r := List.all_eq_true.mp h _ q
  unfold own_at
  cases e : vs.getD j.toNatClampNeg d <;> rw [e] at r <;> first | rfl | cases r
/-- a piece of a road from the frame F to the frame G, by whatever states between -/
theorem own_seg (X : Stand p l e R s m args below meth c T locs cells slots) (h : Heap) (F G : JFrame)
    (k : ∃ T', Stand p l e R s m args below meth c T' locs cells slots ∧ T'.heap = h ∧ ∀ target, Steps p.tables e below (T'.setTop G) target → Steps p.tables e below (T.setTop F) target) :
    ∃ T', Stand p l e R s m args below meth c T' locs cells slots ∧ T'.heap = h ∧ ∀ target, Steps p.tables e below (T'.setTop G) target → Steps p.tables e below (T.setTop F) target := k
end New
end Jvm.RoadKit
namespace Jvm.Pilot.@@N@@
open Jvm Jvm.ClassFile Sem Op Lib Jvm.Free Jvm.Stand Jvm.LawKit Jvm.RoadKit Bundle Jvm.Pilot.@@N@@.Jvm.D
theorem d1_0 : decode prog_80_method_4_code 0 = .ok (.iload_n 0, 1) := by decide +kernel
theorem d1_1 : decode prog_80_method_4_code 1 = .ok (.bipush 32, 2) := by decide +kernel
theorem d1_3 : decode prog_80_method_4_code 3 = .ok (.if_icmp .lt 41, 3) := by decide +kernel
theorem d1_6 : decode prog_80_method_4_code 6 = .ok (.iload_n 0, 1) := by decide +kernel
theorem d1_7 : decode prog_80_method_4_code 7 = .ok (.ldc 78, 2) := by decide +kernel
theorem d1_9 : decode prog_80_method_4_code 9 = .ok (.if_icmp .lt 27, 3) := by decide +kernel
theorem d1_12 : decode prog_80_method_4_code 12 = .ok (.iload_n 0, 1) := by decide +kernel
theorem d1_13 : decode prog_80_method_4_code 13 = .ok (.ldc 79, 2) := by decide +kernel
theorem d1_15 : decode prog_80_method_4_code 15 = .ok (.if_icmp .le 9, 3) := by decide +kernel
theorem d1_18 : decode prog_80_method_4_code 18 = .ok (.iload_n 0, 1) := by decide +kernel
theorem d1_19 : decode prog_80_method_4_code 19 = .ok (.ldc 80, 2) := by decide +kernel
theorem d1_21 : decode prog_80_method_4_code 21 = .ok (.if_icmp .lt 15, 3) := by decide +kernel
theorem d1_24 : decode prog_80_method_4_code 24 = .ok (.iload_n 0, 1) := by decide +kernel
theorem d1_25 : decode prog_80_method_4_code 25 = .ok (.ldc 81, 2) := by decide +kernel
theorem d1_27 : decode prog_80_method_4_code 27 = .ok (.if_icmp .lt 13, 3) := by decide +kernel
theorem d1_30 : decode prog_80_method_4_code 30 = .ok (.iload_n 0, 1) := by decide +kernel
theorem d1_31 : decode prog_80_method_4_code 31 = .ok (.ldc 82, 2) := by decide +kernel
theorem d1_33 : decode prog_80_method_4_code 33 = .ok (.if_icmp .gt 7, 3) := by decide +kernel
theorem d1_36 : decode prog_80_method_4_code 36 = .ok (.iconst 1, 1) := by decide +kernel
theorem d1_37 : decode prog_80_method_4_code 37 = .ok (.goto 30, 3) := by decide +kernel
theorem d1_40 : decode prog_80_method_4_code 40 = .ok (.iconst 0, 1) := by decide +kernel
theorem d1_41 : decode prog_80_method_4_code 41 = .ok (.goto 26, 3) := by decide +kernel
theorem d1_44 : decode prog_80_method_4_code 44 = .ok (.iload_n 0, 1) := by decide +kernel
theorem d1_45 : decode prog_80_method_4_code 45 = .ok (.bipush 9, 2) := by decide +kernel
theorem d1_47 : decode prog_80_method_4_code 47 = .ok (.if_icmp .eq 15, 3) := by decide +kernel
theorem d1_50 : decode prog_80_method_4_code 50 = .ok (.iload_n 0, 1) := by decide +kernel
theorem d1_51 : decode prog_80_method_4_code 51 = .ok (.bipush 10, 2) := by decide +kernel
theorem d1_53 : decode prog_80_method_4_code 53 = .ok (.if_icmp .eq 9, 3) := by decide +kernel
theorem d1_56 : decode prog_80_method_4_code 56 = .ok (.iload_n 0, 1) := by decide +kernel
theorem d1_57 : decode prog_80_method_4_code 57 = .ok (.bipush 13, 2) := by decide +kernel
theorem d1_59 : decode prog_80_method_4_code 59 = .ok (.if_icmp .ne 7, 3) := by decide +kernel
theorem d1_62 : decode prog_80_method_4_code 62 = .ok (.iconst 1, 1) := by decide +kernel
theorem d1_63 : decode prog_80_method_4_code 63 = .ok (.goto 4, 3) := by decide +kernel
theorem d1_66 : decode prog_80_method_4_code 66 = .ok (.iconst 0, 1) := by decide +kernel
theorem d1_67 : decode prog_80_method_4_code 67 = .ok (.ireturn, 1) := by decide +kernel
theorem pn_1 : plainName "com/example/rowset_to_xml/rowsettoxml/XmlContent" = true := by first | (simp [plainName, overriddenIn]; done) | decide +kernel
theorem ef_1 (m : MethodId) (p0 : Int32) : entryFrame m #[(.int p0)] 1 = mkF m 0 #[.val (.int p0)] [] := by first | (simp [entryFrame, mkF, argsToLocals, Value.category]; done) | rfl
def F1 (p0 : Int32) : Int32 := (if p0 < (32 : Int32) then (if p0 = (9 : Int32) then (1 : Int32) else (if p0 = (10 : Int32) then (1 : Int32) else (if p0 = (13 : Int32) then (1 : Int32) else (0 : Int32)))) else (if p0 < (55296 : Int32) then (1 : Int32) else (if (57343 : Int32) < p0 then (if p0 < (65534 : Int32) then (1 : Int32) else (if p0 < (65536 : Int32) then (0 : Int32) else (if (1114111 : Int32) < p0 then (0 : Int32) else (1 : Int32)))) else (if p0 < (65536 : Int32) then (0 : Int32) else (if (1114111 : Int32) < p0 then (0 : Int32) else (1 : Int32))))))
def Q1 (Z : State) (p0 : Int32) (h0 : Heap) (n0 : Nat) (v : Option Value) (h : Heap) (L : List Loc) : Prop := v = some (.int (F1 p0)) ∧ L = [] ∧ h = h0
set_option maxRecDepth 65536 in
set_option maxHeartbeats 40000000 in
theorem rm1 (l : Launch) (Z : State) (a0 : Array Value) (hw : ∀ d ∈ tables_1, d.before a0 Z = true) (ws : List Jvm.Cond) (p0 : Int32) (h0 : Heap) (n0 : Nat) (Z0 : n0 ≤ h0.size) :
    MetFree l (⟨"com/example/rowset_to_xml/rowsettoxml/XmlContent", "isChar", "(I)Z"⟩ : MethodName) (head1 (Jvm.Cond.code (⟨"com/example/rowset_to_xml/rowsettoxml/XmlContent", "isChar", "(I)Z"⟩ : MethodName) prog_80_method_4_code 1 (some .boolean) :: ws) ({ frames := 0, cells := 0, slots := 0, locals := 0 } : Room)) (fun a U => a = #[(.int p0)] ∧ Z.Warmed39 U.vm ∧ U.heap = h0) (fun _ _ _ _ _ => True) (fun _ U o U' => ∃ v L, o = .returned v ∧ Q1 Z p0 h0 n0 v U'.heap L ∧ FrameEnd U o U' L ({ frames := 0, cells := 0, slots := 0, locals := 0 } : Room).cells ({ frames := 0, cells := 0, slots := 0, locals := 0 } : Room).slots) := by
  refine MetFree.of_bodySF (plainFor_of_name pn_1) hisR ?_
  intro p e s m args below meth c s₁ Bd hml0 hP hK
  obtain ⟨rfl, hZ, hh⟩ := hP
  have hx := Bd.exec
  have hby := Bd.bytes
  have hml : c.maxLocals = 1 := hml0
  have hown : s.vm.findClass "com/example/rowset_to_xml/rowsettoxml/XmlContent" = some m.cls := findClass_of_methodNamed Bd.named
  have hnm := (name_of_methodNamed Bd.named Bd.method).1
  have X0 : Stand p l e ({ frames := 0, cells := 0, slots := 0, locals := 0 } : Room) s m #[(.int p0)] below meth c s₁ [] 0 0 := Stand.of_body Bd
  have e0 : s₁.heap = h0 := by rw [← hh, Bd.state]; rfl
  have N0 := Fr.nil n0
  have pre0 : ∀ t, Steps p.tables e below (s₁.setTop (mkF m 0 #[.val (.int p0)] [])) t → Steps p.tables e below (s₁.setTop (entryFrame m #[(.int p0)] 1)) t := fun t k => castTop (ef_1 m p0) k
  obtain ⟨v12_s0, Hv12_s0⟩ : ∃ z : Int32, z = (if p0 < (32 : Int32) then (if p0 = (9 : Int32) then (1 : Int32) else (if p0 = (10 : Int32) then (1 : Int32) else (if p0 = (13 : Int32) then (1 : Int32) else (0 : Int32)))) else (if p0 < (55296 : Int32) then (1 : Int32) else (if (57343 : Int32) < p0 then (if p0 < (65534 : Int32) then (1 : Int32) else (if p0 < (65536 : Int32) then (0 : Int32) else (if (1114111 : Int32) < p0 then (0 : Int32) else (1 : Int32)))) else (if p0 < (65536 : Int32) then (0 : Int32) else (if (1114111 : Int32) < p0 then (0 : Int32) else (1 : Int32)))))) := ⟨_, rfl⟩
  obtain ⟨T12, X12, e12, st12⟩ := own_seg X0 h0 (mkF m 3 #[.val (.int p0)] [(.int (32 : Int32)), (.int p0)]) (mkF m 67 #[.val (.int p0)] [(.int v12_s0)]) (by
    by_cases hc1 : p0 < (32 : Int32)
    · by_cases hc2 : p0 = (9 : Int32)
      · rw [if_pos hc1, if_pos hc2] at Hv12_s0
        refine ⟨s₁, X0, e0, fun target kt => ?_⟩
        rw [Hv12_s0] at kt
        show Steps p.tables e below (s₁.setTop (mkF m 3 #[.val (.int p0)] [(.int (32 : Int32)), (.int p0)])) _
        refine XS.icmpYes X0.here hx rfl (pc0 := 3) (pc' := 44) rfl (hb hby d1_3) rfl (tlt hc1).1 (by decide) (by decide) ?_
        show Steps p.tables e below (s₁.setTop (mkF m 44 #[.val (.int p0)] [])) _
        refine XS.iloadN X0.here hx rfl (hb hby d1_44) rfl ?_
        show Steps p.tables e below (s₁.setTop (mkF m 45 #[.val (.int p0)] [(.int p0)])) _
        refine XS.bipush X0.here hx rfl (hb hby d1_45) ?_
        show Steps p.tables e below (s₁.setTop (mkF m 47 #[.val (.int p0)] [(.int (9 : Int32)), (.int p0)])) _
        refine XS.icmpYes X0.here hx rfl (pc0 := 47) (pc' := 62) rfl (hb hby d1_47) rfl (teq hc2).1 (by decide) (by decide) ?_
        show Steps p.tables e below (s₁.setTop (mkF m 62 #[.val (.int p0)] [])) _
        refine XS.iconst X0.here hx rfl (hb hby d1_62) ?_
        show Steps p.tables e below (s₁.setTop (mkF m 63 #[.val (.int p0)] [(.int (1 : Int32))])) _
        refine XS.goto X0.here hx rfl (pc0 := 63) (pc' := 67) rfl (hb hby d1_63) (by decide) (by decide) ?_
        exact kt
      · by_cases hc3 : p0 = (10 : Int32)
        · rw [if_pos hc1, if_neg hc2, if_pos hc3] at Hv12_s0
          refine ⟨s₁, X0, e0, fun target kt => ?_⟩
          rw [Hv12_s0] at kt
          show Steps p.tables e below (s₁.setTop (mkF m 3 #[.val (.int p0)] [(.int (32 : Int32)), (.int p0)])) _
          refine XS.icmpYes X0.here hx rfl (pc0 := 3) (pc' := 44) rfl (hb hby d1_3) rfl (tlt hc1).1 (by decide) (by decide) ?_
          show Steps p.tables e below (s₁.setTop (mkF m 44 #[.val (.int p0)] [])) _
          refine XS.iloadN X0.here hx rfl (hb hby d1_44) rfl ?_
          show Steps p.tables e below (s₁.setTop (mkF m 45 #[.val (.int p0)] [(.int p0)])) _
          refine XS.bipush X0.here hx rfl (hb hby d1_45) ?_
          show Steps p.tables e below (s₁.setTop (mkF m 47 #[.val (.int p0)] [(.int (9 : Int32)), (.int p0)])) _
          refine XS.icmpNo X0.here hx rfl (hb hby d1_47) rfl (feq hc2).1 ?_
          show Steps p.tables e below (s₁.setTop (mkF m 50 #[.val (.int p0)] [])) _
          refine XS.iloadN X0.here hx rfl (hb hby d1_50) rfl ?_
          show Steps p.tables e below (s₁.setTop (mkF m 51 #[.val (.int p0)] [(.int p0)])) _
          refine XS.bipush X0.here hx rfl (hb hby d1_51) ?_
          show Steps p.tables e below (s₁.setTop (mkF m 53 #[.val (.int p0)] [(.int (10 : Int32)), (.int p0)])) _
          refine XS.icmpYes X0.here hx rfl (pc0 := 53) (pc' := 62) rfl (hb hby d1_53) rfl (teq hc3).1 (by decide) (by decide) ?_
          show Steps p.tables e below (s₁.setTop (mkF m 62 #[.val (.int p0)] [])) _
          refine XS.iconst X0.here hx rfl (hb hby d1_62) ?_
          show Steps p.tables e below (s₁.setTop (mkF m 63 #[.val (.int p0)] [(.int (1 : Int32))])) _
          refine XS.goto X0.here hx rfl (pc0 := 63) (pc' := 67) rfl (hb hby d1_63) (by decide) (by decide) ?_
          exact kt
        · by_cases hc4 : p0 = (13 : Int32)
          · rw [if_pos hc1, if_neg hc2, if_neg hc3, if_pos hc4] at Hv12_s0
            refine ⟨s₁, X0, e0, fun target kt => ?_⟩
            rw [Hv12_s0] at kt
            show Steps p.tables e below (s₁.setTop (mkF m 3 #[.val (.int p0)] [(.int (32 : Int32)), (.int p0)])) _
            refine XS.icmpYes X0.here hx rfl (pc0 := 3) (pc' := 44) rfl (hb hby d1_3) rfl (tlt hc1).1 (by decide) (by decide) ?_
            show Steps p.tables e below (s₁.setTop (mkF m 44 #[.val (.int p0)] [])) _
            refine XS.iloadN X0.here hx rfl (hb hby d1_44) rfl ?_
            show Steps p.tables e below (s₁.setTop (mkF m 45 #[.val (.int p0)] [(.int p0)])) _
            refine XS.bipush X0.here hx rfl (hb hby d1_45) ?_
            show Steps p.tables e below (s₁.setTop (mkF m 47 #[.val (.int p0)] [(.int (9 : Int32)), (.int p0)])) _
            refine XS.icmpNo X0.here hx rfl (hb hby d1_47) rfl (feq hc2).1 ?_
            show Steps p.tables e below (s₁.setTop (mkF m 50 #[.val (.int p0)] [])) _
            refine XS.iloadN X0.here hx rfl (hb hby d1_50) rfl ?_
            show Steps p.tables e below (s₁.setTop (mkF m 51 #[.val (.int p0)] [(.int p0)])) _
            refine XS.bipush X0.here hx rfl (hb hby d1_51) ?_
            show Steps p.tables e below (s₁.setTop (mkF m 53 #[.val (.int p0)] [(.int (10 : Int32)), (.int p0)])) _
            refine XS.icmpNo X0.here hx rfl (hb hby d1_53) rfl (feq hc3).1 ?_
            show Steps p.tables e below (s₁.setTop (mkF m 56 #[.val (.int p0)] [])) _
            refine XS.iloadN X0.here hx rfl (hb hby d1_56) rfl ?_
            show Steps p.tables e below (s₁.setTop (mkF m 57 #[.val (.int p0)] [(.int p0)])) _
            refine XS.bipush X0.here hx rfl (hb hby d1_57) ?_
            show Steps p.tables e below (s₁.setTop (mkF m 59 #[.val (.int p0)] [(.int (13 : Int32)), (.int p0)])) _
            refine XS.icmpNo X0.here hx rfl (hb hby d1_59) rfl (teq hc4).2 ?_
            show Steps p.tables e below (s₁.setTop (mkF m 62 #[.val (.int p0)] [])) _
            refine XS.iconst X0.here hx rfl (hb hby d1_62) ?_
            show Steps p.tables e below (s₁.setTop (mkF m 63 #[.val (.int p0)] [(.int (1 : Int32))])) _
            refine XS.goto X0.here hx rfl (pc0 := 63) (pc' := 67) rfl (hb hby d1_63) (by decide) (by decide) ?_
            exact kt
          · rw [if_pos hc1, if_neg hc2, if_neg hc3, if_neg hc4] at Hv12_s0
            refine ⟨s₁, X0, e0, fun target kt => ?_⟩
            rw [Hv12_s0] at kt
            show Steps p.tables e below (s₁.setTop (mkF m 3 #[.val (.int p0)] [(.int (32 : Int32)), (.int p0)])) _
            refine XS.icmpYes X0.here hx rfl (pc0 := 3) (pc' := 44) rfl (hb hby d1_3) rfl (tlt hc1).1 (by decide) (by decide) ?_
            show Steps p.tables e below (s₁.setTop (mkF m 44 #[.val (.int p0)] [])) _
            refine XS.iloadN X0.here hx rfl (hb hby d1_44) rfl ?_
            show Steps p.tables e below (s₁.setTop (mkF m 45 #[.val (.int p0)] [(.int p0)])) _
            refine XS.bipush X0.here hx rfl (hb hby d1_45) ?_
            show Steps p.tables e below (s₁.setTop (mkF m 47 #[.val (.int p0)] [(.int (9 : Int32)), (.int p0)])) _
            refine XS.icmpNo X0.here hx rfl (hb hby d1_47) rfl (feq hc2).1 ?_
            show Steps p.tables e below (s₁.setTop (mkF m 50 #[.val (.int p0)] [])) _
            refine XS.iloadN X0.here hx rfl (hb hby d1_50) rfl ?_
            show Steps p.tables e below (s₁.setTop (mkF m 51 #[.val (.int p0)] [(.int p0)])) _
            refine XS.bipush X0.here hx rfl (hb hby d1_51) ?_
            show Steps p.tables e below (s₁.setTop (mkF m 53 #[.val (.int p0)] [(.int (10 : Int32)), (.int p0)])) _
            refine XS.icmpNo X0.here hx rfl (hb hby d1_53) rfl (feq hc3).1 ?_
            show Steps p.tables e below (s₁.setTop (mkF m 56 #[.val (.int p0)] [])) _
            refine XS.iloadN X0.here hx rfl (hb hby d1_56) rfl ?_
            show Steps p.tables e below (s₁.setTop (mkF m 57 #[.val (.int p0)] [(.int p0)])) _
            refine XS.bipush X0.here hx rfl (hb hby d1_57) ?_
            show Steps p.tables e below (s₁.setTop (mkF m 59 #[.val (.int p0)] [(.int (13 : Int32)), (.int p0)])) _
            refine XS.icmpYes X0.here hx rfl (pc0 := 59) (pc' := 66) rfl (hb hby d1_59) rfl (feq hc4).2 (by decide) (by decide) ?_
            show Steps p.tables e below (s₁.setTop (mkF m 66 #[.val (.int p0)] [])) _
            refine XS.iconst X0.here hx rfl (hb hby d1_66) ?_
            exact kt
    · by_cases hc5 : p0 < (55296 : Int32)
      · rw [if_neg hc1, if_pos hc5] at Hv12_s0
        refine ⟨s₁, X0, e0, fun target kt => ?_⟩
        rw [Hv12_s0] at kt
        show Steps p.tables e below (s₁.setTop (mkF m 3 #[.val (.int p0)] [(.int (32 : Int32)), (.int p0)])) _
        refine XS.icmpNo X0.here hx rfl (hb hby d1_3) rfl (flt hc1).1 ?_
        show Steps p.tables e below (s₁.setTop (mkF m 6 #[.val (.int p0)] [])) _
        refine XS.iloadN X0.here hx rfl (hb hby d1_6) rfl ?_
        show Steps p.tables e below (s₁.setTop (mkF m 7 #[.val (.int p0)] [(.int p0)])) _
        refine X0.ldcInt hx hown (mvT hZ (hw _ (List.mem_of_getElem? (i := 16) rfl))) (g := (mkF m 7 #[.val (.int p0)] [(.int p0)])) rfl (hb hby d1_7) _ ?_
        show Steps p.tables e below (s₁.setTop (mkF m 9 #[.val (.int p0)] [(.int (55296 : Int32)), (.int p0)])) _
        refine XS.icmpYes X0.here hx rfl (pc0 := 9) (pc' := 36) rfl (hb hby d1_9) rfl (tlt hc5).1 (by decide) (by decide) ?_
        show Steps p.tables e below (s₁.setTop (mkF m 36 #[.val (.int p0)] [])) _
        refine XS.iconst X0.here hx rfl (hb hby d1_36) ?_
        show Steps p.tables e below (s₁.setTop (mkF m 37 #[.val (.int p0)] [(.int (1 : Int32))])) _
        refine XS.goto X0.here hx rfl (pc0 := 37) (pc' := 67) rfl (hb hby d1_37) (by decide) (by decide) ?_
        exact kt
      · by_cases hc6 : (57343 : Int32) < p0
        · by_cases hc7 : p0 < (65534 : Int32)
          · rw [if_neg hc1, if_neg hc5, if_pos hc6, if_pos hc7] at Hv12_s0
            refine ⟨s₁, X0, e0, fun target kt => ?_⟩
            rw [Hv12_s0] at kt
            show Steps p.tables e below (s₁.setTop (mkF m 3 #[.val (.int p0)] [(.int (32 : Int32)), (.int p0)])) _
            refine XS.icmpNo X0.here hx rfl (hb hby d1_3) rfl (flt hc1).1 ?_
            show Steps p.tables e below (s₁.setTop (mkF m 6 #[.val (.int p0)] [])) _
            refine XS.iloadN X0.here hx rfl (hb hby d1_6) rfl ?_
            show Steps p.tables e below (s₁.setTop (mkF m 7 #[.val (.int p0)] [(.int p0)])) _
            refine X0.ldcInt hx hown (mvT hZ (hw _ (List.mem_of_getElem? (i := 16) rfl))) (g := (mkF m 7 #[.val (.int p0)] [(.int p0)])) rfl (hb hby d1_7) _ ?_
            show Steps p.tables e below (s₁.setTop (mkF m 9 #[.val (.int p0)] [(.int (55296 : Int32)), (.int p0)])) _
            refine XS.icmpNo X0.here hx rfl (hb hby d1_9) rfl (flt hc5).1 ?_
            show Steps p.tables e below (s₁.setTop (mkF m 12 #[.val (.int p0)] [])) _
            refine XS.iloadN X0.here hx rfl (hb hby d1_12) rfl ?_
            show Steps p.tables e below (s₁.setTop (mkF m 13 #[.val (.int p0)] [(.int p0)])) _
            refine X0.ldcInt hx hown (mvT hZ (hw _ (List.mem_of_getElem? (i := 17) rfl))) (g := (mkF m 13 #[.val (.int p0)] [(.int p0)])) rfl (hb hby d1_13) _ ?_
            show Steps p.tables e below (s₁.setTop (mkF m 15 #[.val (.int p0)] [(.int (57343 : Int32)), (.int p0)])) _
            refine XS.icmpNo X0.here hx rfl (hb hby d1_15) rfl (tlt hc6).2.2.2 ?_
            show Steps p.tables e below (s₁.setTop (mkF m 18 #[.val (.int p0)] [])) _
            refine XS.iloadN X0.here hx rfl (hb hby d1_18) rfl ?_
            show Steps p.tables e below (s₁.setTop (mkF m 19 #[.val (.int p0)] [(.int p0)])) _
            refine X0.ldcInt hx hown (mvT hZ (hw _ (List.mem_of_getElem? (i := 19) rfl))) (g := (mkF m 19 #[.val (.int p0)] [(.int p0)])) rfl (hb hby d1_19) _ ?_
            show Steps p.tables e below (s₁.setTop (mkF m 21 #[.val (.int p0)] [(.int (65534 : Int32)), (.int p0)])) _
            refine XS.icmpYes X0.here hx rfl (pc0 := 21) (pc' := 36) rfl (hb hby d1_21) rfl (tlt hc7).1 (by decide) (by decide) ?_
            show Steps p.tables e below (s₁.setTop (mkF m 36 #[.val (.int p0)] [])) _
            refine XS.iconst X0.here hx rfl (hb hby d1_36) ?_
            show Steps p.tables e below (s₁.setTop (mkF m 37 #[.val (.int p0)] [(.int (1 : Int32))])) _
            refine XS.goto X0.here hx rfl (pc0 := 37) (pc' := 67) rfl (hb hby d1_37) (by decide) (by decide) ?_
            exact kt
          · by_cases hc8 : p0 < (65536 : Int32)
            · rw [if_neg hc1, if_neg hc5, if_pos hc6, if_neg hc7, if_pos hc8] at Hv12_s0
              refine ⟨s₁, X0, e0, fun target kt => ?_⟩
              rw [Hv12_s0] at kt
              show Steps p.tables e below (s₁.setTop (mkF m 3 #[.val (.int p0)] [(.int (32 : Int32)), (.int p0)])) _
              refine XS.icmpNo X0.here hx rfl (hb hby d1_3) rfl (flt hc1).1 ?_
              show Steps p.tables e below (s₁.setTop (mkF m 6 #[.val (.int p0)] [])) _
              refine XS.iloadN X0.here hx rfl (hb hby d1_6) rfl ?_
              show Steps p.tables e below (s₁.setTop (mkF m 7 #[.val (.int p0)] [(.int p0)])) _
              refine X0.ldcInt hx hown (mvT hZ (hw _ (List.mem_of_getElem? (i := 16) rfl))) (g := (mkF m 7 #[.val (.int p0)] [(.int p0)])) rfl (hb hby d1_7) _ ?_
              show Steps p.tables e below (s₁.setTop (mkF m 9 #[.val (.int p0)] [(.int (55296 : Int32)), (.int p0)])) _
              refine XS.icmpNo X0.here hx rfl (hb hby d1_9) rfl (flt hc5).1 ?_
              show Steps p.tables e below (s₁.setTop (mkF m 12 #[.val (.int p0)] [])) _
              refine XS.iloadN X0.here hx rfl (hb hby d1_12) rfl ?_
              show Steps p.tables e below (s₁.setTop (mkF m 13 #[.val (.int p0)] [(.int p0)])) _
              refine X0.ldcInt hx hown (mvT hZ (hw _ (List.mem_of_getElem? (i := 17) rfl))) (g := (mkF m 13 #[.val (.int p0)] [(.int p0)])) rfl (hb hby d1_13) _ ?_
              show Steps p.tables e below (s₁.setTop (mkF m 15 #[.val (.int p0)] [(.int (57343 : Int32)), (.int p0)])) _
              refine XS.icmpNo X0.here hx rfl (hb hby d1_15) rfl (tlt hc6).2.2.2 ?_
              show Steps p.tables e below (s₁.setTop (mkF m 18 #[.val (.int p0)] [])) _
              refine XS.iloadN X0.here hx rfl (hb hby d1_18) rfl ?_
              show Steps p.tables e below (s₁.setTop (mkF m 19 #[.val (.int p0)] [(.int p0)])) _
              refine X0.ldcInt hx hown (mvT hZ (hw _ (List.mem_of_getElem? (i := 19) rfl))) (g := (mkF m 19 #[.val (.int p0)] [(.int p0)])) rfl (hb hby d1_19) _ ?_
              show Steps p.tables e below (s₁.setTop (mkF m 21 #[.val (.int p0)] [(.int (65534 : Int32)), (.int p0)])) _
              refine XS.icmpNo X0.here hx rfl (hb hby d1_21) rfl (flt hc7).1 ?_
              show Steps p.tables e below (s₁.setTop (mkF m 24 #[.val (.int p0)] [])) _
              refine XS.iloadN X0.here hx rfl (hb hby d1_24) rfl ?_
              show Steps p.tables e below (s₁.setTop (mkF m 25 #[.val (.int p0)] [(.int p0)])) _
              refine X0.ldcInt hx hown (mvT hZ (hw _ (List.mem_of_getElem? (i := 18) rfl))) (g := (mkF m 25 #[.val (.int p0)] [(.int p0)])) rfl (hb hby d1_25) _ ?_
              show Steps p.tables e below (s₁.setTop (mkF m 27 #[.val (.int p0)] [(.int (65536 : Int32)), (.int p0)])) _
              refine XS.icmpYes X0.here hx rfl (pc0 := 27) (pc' := 40) rfl (hb hby d1_27) rfl (tlt hc8).1 (by decide) (by decide) ?_
              show Steps p.tables e below (s₁.setTop (mkF m 40 #[.val (.int p0)] [])) _
              refine XS.iconst X0.here hx rfl (hb hby d1_40) ?_
              show Steps p.tables e below (s₁.setTop (mkF m 41 #[.val (.int p0)] [(.int (0 : Int32))])) _
              refine XS.goto X0.here hx rfl (pc0 := 41) (pc' := 67) rfl (hb hby d1_41) (by decide) (by decide) ?_
              exact kt
            · by_cases hc9 : (1114111 : Int32) < p0
              · rw [if_neg hc1, if_neg hc5, if_pos hc6, if_neg hc7, if_neg hc8, if_pos hc9] at Hv12_s0
                refine ⟨s₁, X0, e0, fun target kt => ?_⟩
                rw [Hv12_s0] at kt
                show Steps p.tables e below (s₁.setTop (mkF m 3 #[.val (.int p0)] [(.int (32 : Int32)), (.int p0)])) _
                refine XS.icmpNo X0.here hx rfl (hb hby d1_3) rfl (flt hc1).1 ?_
                show Steps p.tables e below (s₁.setTop (mkF m 6 #[.val (.int p0)] [])) _
                refine XS.iloadN X0.here hx rfl (hb hby d1_6) rfl ?_
                show Steps p.tables e below (s₁.setTop (mkF m 7 #[.val (.int p0)] [(.int p0)])) _
                refine X0.ldcInt hx hown (mvT hZ (hw _ (List.mem_of_getElem? (i := 16) rfl))) (g := (mkF m 7 #[.val (.int p0)] [(.int p0)])) rfl (hb hby d1_7) _ ?_
                show Steps p.tables e below (s₁.setTop (mkF m 9 #[.val (.int p0)] [(.int (55296 : Int32)), (.int p0)])) _
                refine XS.icmpNo X0.here hx rfl (hb hby d1_9) rfl (flt hc5).1 ?_
                show Steps p.tables e below (s₁.setTop (mkF m 12 #[.val (.int p0)] [])) _
                refine XS.iloadN X0.here hx rfl (hb hby d1_12) rfl ?_
                show Steps p.tables e below (s₁.setTop (mkF m 13 #[.val (.int p0)] [(.int p0)])) _
                refine X0.ldcInt hx hown (mvT hZ (hw _ (List.mem_of_getElem? (i := 17) rfl))) (g := (mkF m 13 #[.val (.int p0)] [(.int p0)])) rfl (hb hby d1_13) _ ?_
                show Steps p.tables e below (s₁.setTop (mkF m 15 #[.val (.int p0)] [(.int (57343 : Int32)), (.int p0)])) _
                refine XS.icmpNo X0.here hx rfl (hb hby d1_15) rfl (tlt hc6).2.2.2 ?_
                show Steps p.tables e below (s₁.setTop (mkF m 18 #[.val (.int p0)] [])) _
                refine XS.iloadN X0.here hx rfl (hb hby d1_18) rfl ?_
                show Steps p.tables e below (s₁.setTop (mkF m 19 #[.val (.int p0)] [(.int p0)])) _
                refine X0.ldcInt hx hown (mvT hZ (hw _ (List.mem_of_getElem? (i := 19) rfl))) (g := (mkF m 19 #[.val (.int p0)] [(.int p0)])) rfl (hb hby d1_19) _ ?_
                show Steps p.tables e below (s₁.setTop (mkF m 21 #[.val (.int p0)] [(.int (65534 : Int32)), (.int p0)])) _
                refine XS.icmpNo X0.here hx rfl (hb hby d1_21) rfl (flt hc7).1 ?_
                show Steps p.tables e below (s₁.setTop (mkF m 24 #[.val (.int p0)] [])) _
                refine XS.iloadN X0.here hx rfl (hb hby d1_24) rfl ?_
                show Steps p.tables e below (s₁.setTop (mkF m 25 #[.val (.int p0)] [(.int p0)])) _
                refine X0.ldcInt hx hown (mvT hZ (hw _ (List.mem_of_getElem? (i := 18) rfl))) (g := (mkF m 25 #[.val (.int p0)] [(.int p0)])) rfl (hb hby d1_25) _ ?_
                show Steps p.tables e below (s₁.setTop (mkF m 27 #[.val (.int p0)] [(.int (65536 : Int32)), (.int p0)])) _
                refine XS.icmpNo X0.here hx rfl (hb hby d1_27) rfl (flt hc8).1 ?_
                show Steps p.tables e below (s₁.setTop (mkF m 30 #[.val (.int p0)] [])) _
                refine XS.iloadN X0.here hx rfl (hb hby d1_30) rfl ?_
                show Steps p.tables e below (s₁.setTop (mkF m 31 #[.val (.int p0)] [(.int p0)])) _
                refine X0.ldcInt hx hown (mvT hZ (hw _ (List.mem_of_getElem? (i := 20) rfl))) (g := (mkF m 31 #[.val (.int p0)] [(.int p0)])) rfl (hb hby d1_31) _ ?_
                show Steps p.tables e below (s₁.setTop (mkF m 33 #[.val (.int p0)] [(.int (1114111 : Int32)), (.int p0)])) _
                refine XS.icmpYes X0.here hx rfl (pc0 := 33) (pc' := 40) rfl (hb hby d1_33) rfl (tlt hc9).2.2.1 (by decide) (by decide) ?_
                show Steps p.tables e below (s₁.setTop (mkF m 40 #[.val (.int p0)] [])) _
                refine XS.iconst X0.here hx rfl (hb hby d1_40) ?_
                show Steps p.tables e below (s₁.setTop (mkF m 41 #[.val (.int p0)] [(.int (0 : Int32))])) _
                refine XS.goto X0.here hx rfl (pc0 := 41) (pc' := 67) rfl (hb hby d1_41) (by decide) (by decide) ?_
                exact kt
              · rw [if_neg hc1, if_neg hc5, if_pos hc6, if_neg hc7, if_neg hc8, if_neg hc9] at Hv12_s0
                refine ⟨s₁, X0, e0, fun target kt => ?_⟩
                rw [Hv12_s0] at kt
                show Steps p.tables e below (s₁.setTop (mkF m 3 #[.val (.int p0)] [(.int (32 : Int32)), (.int p0)])) _
                refine XS.icmpNo X0.here hx rfl (hb hby d1_3) rfl (flt hc1).1 ?_
                show Steps p.tables e below (s₁.setTop (mkF m 6 #[.val (.int p0)] [])) _
                refine XS.iloadN X0.here hx rfl (hb hby d1_6) rfl ?_
                show Steps p.tables e below (s₁.setTop (mkF m 7 #[.val (.int p0)] [(.int p0)])) _
                refine X0.ldcInt hx hown (mvT hZ (hw _ (List.mem_of_getElem? (i := 16) rfl))) (g := (mkF m 7 #[.val (.int p0)] [(.int p0)])) rfl (hb hby d1_7) _ ?_
                show Steps p.tables e below (s₁.setTop (mkF m 9 #[.val (.int p0)] [(.int (55296 : Int32)), (.int p0)])) _
                refine XS.icmpNo X0.here hx rfl (hb hby d1_9) rfl (flt hc5).1 ?_
                show Steps p.tables e below (s₁.setTop (mkF m 12 #[.val (.int p0)] [])) _
                refine XS.iloadN X0.here hx rfl (hb hby d1_12) rfl ?_
                show Steps p.tables e below (s₁.setTop (mkF m 13 #[.val (.int p0)] [(.int p0)])) _
                refine X0.ldcInt hx hown (mvT hZ (hw _ (List.mem_of_getElem? (i := 17) rfl))) (g := (mkF m 13 #[.val (.int p0)] [(.int p0)])) rfl (hb hby d1_13) _ ?_
                show Steps p.tables e below (s₁.setTop (mkF m 15 #[.val (.int p0)] [(.int (57343 : Int32)), (.int p0)])) _
                refine XS.icmpNo X0.here hx rfl (hb hby d1_15) rfl (tlt hc6).2.2.2 ?_
                show Steps p.tables e below (s₁.setTop (mkF m 18 #[.val (.int p0)] [])) _
                refine XS.iloadN X0.here hx rfl (hb hby d1_18) rfl ?_
                show Steps p.tables e below (s₁.setTop (mkF m 19 #[.val (.int p0)] [(.int p0)])) _
                refine X0.ldcInt hx hown (mvT hZ (hw _ (List.mem_of_getElem? (i := 19) rfl))) (g := (mkF m 19 #[.val (.int p0)] [(.int p0)])) rfl (hb hby d1_19) _ ?_
                show Steps p.tables e below (s₁.setTop (mkF m 21 #[.val (.int p0)] [(.int (65534 : Int32)), (.int p0)])) _
                refine XS.icmpNo X0.here hx rfl (hb hby d1_21) rfl (flt hc7).1 ?_
                show Steps p.tables e below (s₁.setTop (mkF m 24 #[.val (.int p0)] [])) _
                refine XS.iloadN X0.here hx rfl (hb hby d1_24) rfl ?_
                show Steps p.tables e below (s₁.setTop (mkF m 25 #[.val (.int p0)] [(.int p0)])) _
                refine X0.ldcInt hx hown (mvT hZ (hw _ (List.mem_of_getElem? (i := 18) rfl))) (g := (mkF m 25 #[.val (.int p0)] [(.int p0)])) rfl (hb hby d1_25) _ ?_
                show Steps p.tables e below (s₁.setTop (mkF m 27 #[.val (.int p0)] [(.int (65536 : Int32)), (.int p0)])) _
                refine XS.icmpNo X0.here hx rfl (hb hby d1_27) rfl (flt hc8).1 ?_
                show Steps p.tables e below (s₁.setTop (mkF m 30 #[.val (.int p0)] [])) _
                refine XS.iloadN X0.here hx rfl (hb hby d1_30) rfl ?_
                show Steps p.tables e below (s₁.setTop (mkF m 31 #[.val (.int p0)] [(.int p0)])) _
                refine X0.ldcInt hx hown (mvT hZ (hw _ (List.mem_of_getElem? (i := 20) rfl))) (g := (mkF m 31 #[.val (.int p0)] [(.int p0)])) rfl (hb hby d1_31) _ ?_
                show Steps p.tables e below (s₁.setTop (mkF m 33 #[.val (.int p0)] [(.int (1114111 : Int32)), (.int p0)])) _
                refine XS.icmpNo X0.here hx rfl (hb hby d1_33) rfl (flt hc9).2.2.1 ?_
                show Steps p.tables e below (s₁.setTop (mkF m 36 #[.val (.int p0)] [])) _
                refine XS.iconst X0.here hx rfl (hb hby d1_36) ?_
                show Steps p.tables e below (s₁.setTop (mkF m 37 #[.val (.int p0)] [(.int (1 : Int32))])) _
                refine XS.goto X0.here hx rfl (pc0 := 37) (pc' := 67) rfl (hb hby d1_37) (by decide) (by decide) ?_
                exact kt
        · by_cases hc10 : p0 < (65536 : Int32)
          · rw [if_neg hc1, if_neg hc5, if_neg hc6, if_pos hc10] at Hv12_s0
            refine ⟨s₁, X0, e0, fun target kt => ?_⟩
            rw [Hv12_s0] at kt
            show Steps p.tables e below (s₁.setTop (mkF m 3 #[.val (.int p0)] [(.int (32 : Int32)), (.int p0)])) _
            refine XS.icmpNo X0.here hx rfl (hb hby d1_3) rfl (flt hc1).1 ?_
            show Steps p.tables e below (s₁.setTop (mkF m 6 #[.val (.int p0)] [])) _
            refine XS.iloadN X0.here hx rfl (hb hby d1_6) rfl ?_
            show Steps p.tables e below (s₁.setTop (mkF m 7 #[.val (.int p0)] [(.int p0)])) _
            refine X0.ldcInt hx hown (mvT hZ (hw _ (List.mem_of_getElem? (i := 16) rfl))) (g := (mkF m 7 #[.val (.int p0)] [(.int p0)])) rfl (hb hby d1_7) _ ?_
            show Steps p.tables e below (s₁.setTop (mkF m 9 #[.val (.int p0)] [(.int (55296 : Int32)), (.int p0)])) _
            refine XS.icmpNo X0.here hx rfl (hb hby d1_9) rfl (flt hc5).1 ?_
            show Steps p.tables e below (s₁.setTop (mkF m 12 #[.val (.int p0)] [])) _
            refine XS.iloadN X0.here hx rfl (hb hby d1_12) rfl ?_
            show Steps p.tables e below (s₁.setTop (mkF m 13 #[.val (.int p0)] [(.int p0)])) _
            refine X0.ldcInt hx hown (mvT hZ (hw _ (List.mem_of_getElem? (i := 17) rfl))) (g := (mkF m 13 #[.val (.int p0)] [(.int p0)])) rfl (hb hby d1_13) _ ?_
            show Steps p.tables e below (s₁.setTop (mkF m 15 #[.val (.int p0)] [(.int (57343 : Int32)), (.int p0)])) _
            refine XS.icmpYes X0.here hx rfl (pc0 := 15) (pc' := 24) rfl (hb hby d1_15) rfl (flt hc6).2.2.2 (by decide) (by decide) ?_
            show Steps p.tables e below (s₁.setTop (mkF m 24 #[.val (.int p0)] [])) _
            refine XS.iloadN X0.here hx rfl (hb hby d1_24) rfl ?_
            show Steps p.tables e below (s₁.setTop (mkF m 25 #[.val (.int p0)] [(.int p0)])) _
            refine X0.ldcInt hx hown (mvT hZ (hw _ (List.mem_of_getElem? (i := 18) rfl))) (g := (mkF m 25 #[.val (.int p0)] [(.int p0)])) rfl (hb hby d1_25) _ ?_
            show Steps p.tables e below (s₁.setTop (mkF m 27 #[.val (.int p0)] [(.int (65536 : Int32)), (.int p0)])) _
            refine XS.icmpYes X0.here hx rfl (pc0 := 27) (pc' := 40) rfl (hb hby d1_27) rfl (tlt hc10).1 (by decide) (by decide) ?_
            show Steps p.tables e below (s₁.setTop (mkF m 40 #[.val (.int p0)] [])) _
            refine XS.iconst X0.here hx rfl (hb hby d1_40) ?_
            show Steps p.tables e below (s₁.setTop (mkF m 41 #[.val (.int p0)] [(.int (0 : Int32))])) _
            refine XS.goto X0.here hx rfl (pc0 := 41) (pc' := 67) rfl (hb hby d1_41) (by decide) (by decide) ?_
            exact kt
          · by_cases hc11 : (1114111 : Int32) < p0
            · rw [if_neg hc1, if_neg hc5, if_neg hc6, if_neg hc10, if_pos hc11] at Hv12_s0
              refine ⟨s₁, X0, e0, fun target kt => ?_⟩
              rw [Hv12_s0] at kt
              show Steps p.tables e below (s₁.setTop (mkF m 3 #[.val (.int p0)] [(.int (32 : Int32)), (.int p0)])) _
              refine XS.icmpNo X0.here hx rfl (hb hby d1_3) rfl (flt hc1).1 ?_
              show Steps p.tables e below (s₁.setTop (mkF m 6 #[.val (.int p0)] [])) _
              refine XS.iloadN X0.here hx rfl (hb hby d1_6) rfl ?_
              show Steps p.tables e below (s₁.setTop (mkF m 7 #[.val (.int p0)] [(.int p0)])) _
              refine X0.ldcInt hx hown (mvT hZ (hw _ (List.mem_of_getElem? (i := 16) rfl))) (g := (mkF m 7 #[.val (.int p0)] [(.int p0)])) rfl (hb hby d1_7) _ ?_
              show Steps p.tables e below (s₁.setTop (mkF m 9 #[.val (.int p0)] [(.int (55296 : Int32)), (.int p0)])) _
              refine XS.icmpNo X0.here hx rfl (hb hby d1_9) rfl (flt hc5).1 ?_
              show Steps p.tables e below (s₁.setTop (mkF m 12 #[.val (.int p0)] [])) _
              refine XS.iloadN X0.here hx rfl (hb hby d1_12) rfl ?_
              show Steps p.tables e below (s₁.setTop (mkF m 13 #[.val (.int p0)] [(.int p0)])) _
              refine X0.ldcInt hx hown (mvT hZ (hw _ (List.mem_of_getElem? (i := 17) rfl))) (g := (mkF m 13 #[.val (.int p0)] [(.int p0)])) rfl (hb hby d1_13) _ ?_
              show Steps p.tables e below (s₁.setTop (mkF m 15 #[.val (.int p0)] [(.int (57343 : Int32)), (.int p0)])) _
              refine XS.icmpYes X0.here hx rfl (pc0 := 15) (pc' := 24) rfl (hb hby d1_15) rfl (flt hc6).2.2.2 (by decide) (by decide) ?_
              show Steps p.tables e below (s₁.setTop (mkF m 24 #[.val (.int p0)] [])) _
              refine XS.iloadN X0.here hx rfl (hb hby d1_24) rfl ?_
              show Steps p.tables e below (s₁.setTop (mkF m 25 #[.val (.int p0)] [(.int p0)])) _
              refine X0.ldcInt hx hown (mvT hZ (hw _ (List.mem_of_getElem? (i := 18) rfl))) (g := (mkF m 25 #[.val (.int p0)] [(.int p0)])) rfl (hb hby d1_25) _ ?_
              show Steps p.tables e below (s₁.setTop (mkF m 27 #[.val (.int p0)] [(.int (65536 : Int32)), (.int p0)])) _
              refine XS.icmpNo X0.here hx rfl (hb hby d1_27) rfl (flt hc10).1 ?_
              show Steps p.tables e below (s₁.setTop (mkF m 30 #[.val (.int p0)] [])) _
              refine XS.iloadN X0.here hx rfl (hb hby d1_30) rfl ?_
              show Steps p.tables e below (s₁.setTop (mkF m 31 #[.val (.int p0)] [(.int p0)])) _
              refine X0.ldcInt hx hown (mvT hZ (hw _ (List.mem_of_getElem? (i := 20) rfl))) (g := (mkF m 31 #[.val (.int p0)] [(.int p0)])) rfl (hb hby d1_31) _ ?_
              show Steps p.tables e below (s₁.setTop (mkF m 33 #[.val (.int p0)] [(.int (1114111 : Int32)), (.int p0)])) _
              refine XS.icmpYes X0.here hx rfl (pc0 := 33) (pc' := 40) rfl (hb hby d1_33) rfl (tlt hc11).2.2.1 (by decide) (by decide) ?_
              show Steps p.tables e below (s₁.setTop (mkF m 40 #[.val (.int p0)] [])) _
              refine XS.iconst X0.here hx rfl (hb hby d1_40) ?_
              show Steps p.tables e below (s₁.setTop (mkF m 41 #[.val (.int p0)] [(.int (0 : Int32))])) _
              refine XS.goto X0.here hx rfl (pc0 := 41) (pc' := 67) rfl (hb hby d1_41) (by decide) (by decide) ?_
              exact kt
            · rw [if_neg hc1, if_neg hc5, if_neg hc6, if_neg hc10, if_neg hc11] at Hv12_s0
              refine ⟨s₁, X0, e0, fun target kt => ?_⟩
              rw [Hv12_s0] at kt
              show Steps p.tables e below (s₁.setTop (mkF m 3 #[.val (.int p0)] [(.int (32 : Int32)), (.int p0)])) _
              refine XS.icmpNo X0.here hx rfl (hb hby d1_3) rfl (flt hc1).1 ?_
              show Steps p.tables e below (s₁.setTop (mkF m 6 #[.val (.int p0)] [])) _
              refine XS.iloadN X0.here hx rfl (hb hby d1_6) rfl ?_
              show Steps p.tables e below (s₁.setTop (mkF m 7 #[.val (.int p0)] [(.int p0)])) _
              refine X0.ldcInt hx hown (mvT hZ (hw _ (List.mem_of_getElem? (i := 16) rfl))) (g := (mkF m 7 #[.val (.int p0)] [(.int p0)])) rfl (hb hby d1_7) _ ?_
              show Steps p.tables e below (s₁.setTop (mkF m 9 #[.val (.int p0)] [(.int (55296 : Int32)), (.int p0)])) _
              refine XS.icmpNo X0.here hx rfl (hb hby d1_9) rfl (flt hc5).1 ?_
              show Steps p.tables e below (s₁.setTop (mkF m 12 #[.val (.int p0)] [])) _
              refine XS.iloadN X0.here hx rfl (hb hby d1_12) rfl ?_
              show Steps p.tables e below (s₁.setTop (mkF m 13 #[.val (.int p0)] [(.int p0)])) _
              refine X0.ldcInt hx hown (mvT hZ (hw _ (List.mem_of_getElem? (i := 17) rfl))) (g := (mkF m 13 #[.val (.int p0)] [(.int p0)])) rfl (hb hby d1_13) _ ?_
              show Steps p.tables e below (s₁.setTop (mkF m 15 #[.val (.int p0)] [(.int (57343 : Int32)), (.int p0)])) _
              refine XS.icmpYes X0.here hx rfl (pc0 := 15) (pc' := 24) rfl (hb hby d1_15) rfl (flt hc6).2.2.2 (by decide) (by decide) ?_
              show Steps p.tables e below (s₁.setTop (mkF m 24 #[.val (.int p0)] [])) _
              refine XS.iloadN X0.here hx rfl (hb hby d1_24) rfl ?_
              show Steps p.tables e below (s₁.setTop (mkF m 25 #[.val (.int p0)] [(.int p0)])) _
              refine X0.ldcInt hx hown (mvT hZ (hw _ (List.mem_of_getElem? (i := 18) rfl))) (g := (mkF m 25 #[.val (.int p0)] [(.int p0)])) rfl (hb hby d1_25) _ ?_
              show Steps p.tables e below (s₁.setTop (mkF m 27 #[.val (.int p0)] [(.int (65536 : Int32)), (.int p0)])) _
              refine XS.icmpNo X0.here hx rfl (hb hby d1_27) rfl (flt hc10).1 ?_
              show Steps p.tables e below (s₁.setTop (mkF m 30 #[.val (.int p0)] [])) _
              refine XS.iloadN X0.here hx rfl (hb hby d1_30) rfl ?_
              show Steps p.tables e below (s₁.setTop (mkF m 31 #[.val (.int p0)] [(.int p0)])) _
              refine X0.ldcInt hx hown (mvT hZ (hw _ (List.mem_of_getElem? (i := 20) rfl))) (g := (mkF m 31 #[.val (.int p0)] [(.int p0)])) rfl (hb hby d1_31) _ ?_
              show Steps p.tables e below (s₁.setTop (mkF m 33 #[.val (.int p0)] [(.int (1114111 : Int32)), (.int p0)])) _
              refine XS.icmpNo X0.here hx rfl (hb hby d1_33) rfl (flt hc11).2.2.1 ?_
              show Steps p.tables e below (s₁.setTop (mkF m 36 #[.val (.int p0)] [])) _
              refine XS.iconst X0.here hx rfl (hb hby d1_36) ?_
              show Steps p.tables e below (s₁.setTop (mkF m 37 #[.val (.int p0)] [(.int (1 : Int32))])) _
              refine XS.goto X0.here hx rfl (pc0 := 37) (pc' := 67) rfl (hb hby d1_37) (by decide) (by decide) ?_
              exact kt)
  have hfin : nar .boolean v12_s0 = F1 p0 := by
    rw [Hv12_s0]; unfold F1
    first | rfl | (repeat' split) <;> rfl
  obtain ⟨fs, hr, hrun, hended, hW, hsame⟩ := X12.leave (v := some (.int (nar .boolean v12_s0))) (fun h => by rw [Bd.returns] at h; cases h)
  refine ⟨_, _, pre0 _ ?_, hrun, hended, _, _, rfl, ?_, ⟨_, rfl⟩, hW, hsame.mono (by decide) (by decide)⟩
  · show Steps p.tables e below (s₁.setTop (mkF m 0 #[.val (.int p0)] [])) _
    refine XS.iloadN X0.here hx rfl (hb hby d1_0) rfl ?_
    show Steps p.tables e below (s₁.setTop (mkF m 1 #[.val (.int p0)] [(.int p0)])) _
    refine XS.bipush X0.here hx rfl (hb hby d1_1) ?_
    show Steps p.tables e below (s₁.setTop (mkF m 3 #[.val (.int p0)] [(.int (32 : Int32)), (.int p0)])) _
    refine st12 _ ?_
    show Steps p.tables e below (T12.setTop (mkF m 67 #[.val (.int p0)] [(.int v12_s0)])) _
    exact retN X12 hx (t := .boolean) Bd.returns (by simp) (hb hby d1_67) hr
  · show Q1 Z p0 h0 n0 _ T12.heap _
    exact ⟨congrArg (fun z => some (Value.int z)) hfin, rfl, e12⟩
theorem d2_0 : decode method_3_code 0 = .ok (.iload_n 0, 1) := by decide +kernel
theorem d2_1 : decode method_3_code 1 = .ok (.bipush 9, 2) := by decide +kernel
theorem d2_3 : decode method_3_code 3 = .ok (.if_icmp .eq 15, 3) := by decide +kernel
theorem d2_6 : decode method_3_code 6 = .ok (.iload_n 0, 1) := by decide +kernel
theorem d2_7 : decode method_3_code 7 = .ok (.bipush 10, 2) := by decide +kernel
theorem d2_9 : decode method_3_code 9 = .ok (.if_icmp .eq 9, 3) := by decide +kernel
theorem d2_12 : decode method_3_code 12 = .ok (.iload_n 0, 1) := by decide +kernel
theorem d2_13 : decode method_3_code 13 = .ok (.bipush 13, 2) := by decide +kernel
theorem d2_15 : decode method_3_code 15 = .ok (.if_icmp .ne 7, 3) := by decide +kernel
theorem d2_18 : decode method_3_code 18 = .ok (.iconst 1, 1) := by decide +kernel
theorem d2_19 : decode method_3_code 19 = .ok (.goto 4, 3) := by decide +kernel
theorem d2_22 : decode method_3_code 22 = .ok (.iconst 0, 1) := by decide +kernel
theorem d2_23 : decode method_3_code 23 = .ok (.istore_n 1, 1) := by decide +kernel
theorem d2_24 : decode method_3_code 24 = .ok (.bipush 32, 2) := by decide +kernel
theorem d2_26 : decode method_3_code 26 = .ok (.iload_n 0, 1) := by decide +kernel
theorem d2_27 : decode method_3_code 27 = .ok (.if_icmp .gt 13, 3) := by decide +kernel
theorem d2_30 : decode method_3_code 30 = .ok (.iload_n 0, 1) := by decide +kernel
theorem d2_31 : decode method_3_code 31 = .ok (.ldc 7, 2) := by decide +kernel
theorem d2_33 : decode method_3_code 33 = .ok (.if_icmp .gt 7, 3) := by decide +kernel
theorem d2_36 : decode method_3_code 36 = .ok (.iconst 1, 1) := by decide +kernel
theorem d2_37 : decode method_3_code 37 = .ok (.goto 4, 3) := by decide +kernel
theorem d2_40 : decode method_3_code 40 = .ok (.iconst 0, 1) := by decide +kernel
theorem d2_41 : decode method_3_code 41 = .ok (.istore_n 2, 1) := by decide +kernel
theorem d2_42 : decode method_3_code 42 = .ok (.ldc 8, 2) := by decide +kernel
theorem d2_44 : decode method_3_code 44 = .ok (.iload_n 0, 1) := by decide +kernel
theorem d2_45 : decode method_3_code 45 = .ok (.if_icmp .gt 13, 3) := by decide +kernel
theorem d2_48 : decode method_3_code 48 = .ok (.iload_n 0, 1) := by decide +kernel
theorem d2_49 : decode method_3_code 49 = .ok (.ldc 9, 2) := by decide +kernel
theorem d2_51 : decode method_3_code 51 = .ok (.if_icmp .gt 7, 3) := by decide +kernel
theorem d2_54 : decode method_3_code 54 = .ok (.iconst 1, 1) := by decide +kernel
theorem d2_55 : decode method_3_code 55 = .ok (.goto 4, 3) := by decide +kernel
theorem d2_58 : decode method_3_code 58 = .ok (.iconst 0, 1) := by decide +kernel
theorem d2_59 : decode method_3_code 59 = .ok (.istore_n 3, 1) := by decide +kernel
theorem d2_60 : decode method_3_code 60 = .ok (.ldc 10, 2) := by decide +kernel
theorem d2_62 : decode method_3_code 62 = .ok (.iload_n 0, 1) := by decide +kernel
theorem d2_63 : decode method_3_code 63 = .ok (.if_icmp .gt 13, 3) := by decide +kernel
theorem d2_66 : decode method_3_code 66 = .ok (.iload_n 0, 1) := by decide +kernel
theorem d2_67 : decode method_3_code 67 = .ok (.ldc 11, 2) := by decide +kernel
theorem d2_69 : decode method_3_code 69 = .ok (.if_icmp .gt 7, 3) := by decide +kernel
theorem d2_72 : decode method_3_code 72 = .ok (.iconst 1, 1) := by decide +kernel
theorem d2_73 : decode method_3_code 73 = .ok (.goto 4, 3) := by decide +kernel
theorem d2_76 : decode method_3_code 76 = .ok (.iconst 0, 1) := by decide +kernel
theorem d2_77 : decode method_3_code 77 = .ok (.istore 4, 2) := by decide +kernel
theorem d2_79 : decode method_3_code 79 = .ok (.iload_n 1, 1) := by decide +kernel
theorem d2_80 : decode method_3_code 80 = .ok (.ifCond .ne 16, 3) := by decide +kernel
theorem d2_83 : decode method_3_code 83 = .ok (.iload_n 2, 1) := by decide +kernel
theorem d2_84 : decode method_3_code 84 = .ok (.ifCond .ne 12, 3) := by decide +kernel
theorem d2_87 : decode method_3_code 87 = .ok (.iload_n 3, 1) := by decide +kernel
theorem d2_88 : decode method_3_code 88 = .ok (.ifCond .ne 8, 3) := by decide +kernel
theorem d2_91 : decode method_3_code 91 = .ok (.iload 4, 2) := by decide +kernel
theorem d2_93 : decode method_3_code 93 = .ok (.ifCond .eq 7, 3) := by decide +kernel
theorem d2_96 : decode method_3_code 96 = .ok (.iconst 1, 1) := by decide +kernel
theorem d2_97 : decode method_3_code 97 = .ok (.goto 4, 3) := by decide +kernel
theorem d2_100 : decode method_3_code 100 = .ok (.iconst 0, 1) := by decide +kernel
theorem d2_101 : decode method_3_code 101 = .ok (.ireturn, 1) := by decide +kernel
theorem pn_2 : plainName "com/example/rowset_to_xml/rowsettoxml/XmlContentIsCharPinLaw" = true := by first | (simp [plainName, overriddenIn]; done) | decide +kernel
theorem ef_2 (m : MethodId) (p0 : Int32) : entryFrame m #[(.int p0)] 5 = mkF m 0 #[.val (.int p0), .unset, .unset, .unset, .unset] [] := by first | (simp [entryFrame, mkF, argsToLocals, Value.category]; done) | rfl
def F2 (p0 : Int32) : Int32 := (if (if p0 = (9 : Int32) then (1 : Int32) else (if p0 = (10 : Int32) then (1 : Int32) else (if p0 = (13 : Int32) then (1 : Int32) else (0 : Int32)))) = (0 : Int32) then (if (if p0 < (32 : Int32) then (0 : Int32) else (if (55295 : Int32) < p0 then (0 : Int32) else (1 : Int32))) = (0 : Int32) then (if (if p0 < (57344 : Int32) then (0 : Int32) else (if (65533 : Int32) < p0 then (0 : Int32) else (1 : Int32))) = (0 : Int32) then (if (if p0 < (65536 : Int32) then (0 : Int32) else (if (1114111 : Int32) < p0 then (0 : Int32) else (1 : Int32))) = (0 : Int32) then (0 : Int32) else (1 : Int32)) else (1 : Int32)) else (1 : Int32)) else (1 : Int32))
def Q2 (Z : State) (p0 : Int32) (h0 : Heap) (n0 : Nat) (v : Option Value) (h : Heap) (L : List Loc) : Prop := v = some (.int (F2 p0)) ∧ L = [] ∧ h = h0
set_option maxRecDepth 65536 in
set_option maxHeartbeats 40000000 in
theorem rm2 (l : Launch) (Z : State) (a0 : Array Value) (hw : ∀ d ∈ tables_1, d.before a0 Z = true) (ws : List Jvm.Cond) (p0 : Int32) (h0 : Heap) (n0 : Nat) (Z0 : n0 ≤ h0.size) :
    MetFree l (⟨"com/example/rowset_to_xml/rowsettoxml/XmlContentIsCharPinLaw", "expected", "(I)Z"⟩ : MethodName) (head1 (Jvm.Cond.code (⟨"com/example/rowset_to_xml/rowsettoxml/XmlContentIsCharPinLaw", "expected", "(I)Z"⟩ : MethodName) method_3_code 5 (some .boolean) :: ws) ({ frames := 0, cells := 0, slots := 0, locals := 0 } : Room)) (fun a U => a = #[(.int p0)] ∧ Z.Warmed39 U.vm ∧ U.heap = h0) (fun _ _ _ _ _ => True) (fun _ U o U' => ∃ v L, o = .returned v ∧ Q2 Z p0 h0 n0 v U'.heap L ∧ FrameEnd U o U' L ({ frames := 0, cells := 0, slots := 0, locals := 0 } : Room).cells ({ frames := 0, cells := 0, slots := 0, locals := 0 } : Room).slots) := by
  refine MetFree.of_bodySF (plainFor_of_name pn_2) hisR ?_
  intro p e s m args below meth c s₁ Bd hml0 hP hK
  obtain ⟨rfl, hZ, hh⟩ := hP
  have hx := Bd.exec
  have hby := Bd.bytes
  have hml : c.maxLocals = 5 := hml0
  have hown : s.vm.findClass "com/example/rowset_to_xml/rowsettoxml/XmlContentIsCharPinLaw" = some m.cls := findClass_of_methodNamed Bd.named
  have hnm := (name_of_methodNamed Bd.named Bd.method).1
  have X0 : Stand p l e ({ frames := 0, cells := 0, slots := 0, locals := 0 } : Room) s m #[(.int p0)] below meth c s₁ [] 0 0 := Stand.of_body Bd
  have e0 : s₁.heap = h0 := by rw [← hh, Bd.state]; rfl
  have N0 := Fr.nil n0
  have pre0 : ∀ t, Steps p.tables e below (s₁.setTop (mkF m 0 #[.val (.int p0), .unset, .unset, .unset, .unset] [])) t → Steps p.tables e below (s₁.setTop (entryFrame m #[(.int p0)] 5)) t := fun t k => castTop (ef_2 m p0) k
  obtain ⟨v4_s0, Hv4_s0⟩ : ∃ z : Int32, z = (if p0 = (9 : Int32) then (1 : Int32) else (if p0 = (10 : Int32) then (1 : Int32) else (if p0 = (13 : Int32) then (1 : Int32) else (0 : Int32)))) := ⟨_, rfl⟩
  obtain ⟨T4, X4, e4, st4⟩ := own_seg X0 h0 (mkF m 3 #[.val (.int p0), .unset, .unset, .unset, .unset] [(.int (9 : Int32)), (.int p0)]) (mkF m 23 #[.val (.int p0), .unset, .unset, .unset, .unset] [(.int v4_s0)]) (by
    by_cases hc1 : p0 = (9 : Int32)
    · rw [if_pos hc1] at Hv4_s0
      refine ⟨s₁, X0, e0, fun target kt => ?_⟩
      rw [Hv4_s0] at kt
      show Steps p.tables e below (s₁.setTop (mkF m 3 #[.val (.int p0), .unset, .unset, .unset, .unset] [(.int (9 : Int32)), (.int p0)])) _
      refine XS.icmpYes X0.here hx rfl (pc0 := 3) (pc' := 18) rfl (hb hby d2_3) rfl (teq hc1).1 (by decide) (by decide) ?_
      show Steps p.tables e below (s₁.setTop (mkF m 18 #[.val (.int p0), .unset, .unset, .unset, .unset] [])) _
      refine XS.iconst X0.here hx rfl (hb hby d2_18) ?_
      show Steps p.tables e below (s₁.setTop (mkF m 19 #[.val (.int p0), .unset, .unset, .unset, .unset] [(.int (1 : Int32))])) _
      refine XS.goto X0.here hx rfl (pc0 := 19) (pc' := 23) rfl (hb hby d2_19) (by decide) (by decide) ?_
      exact kt
    · by_cases hc2 : p0 = (10 : Int32)
      · rw [if_neg hc1, if_pos hc2] at Hv4_s0
        refine ⟨s₁, X0, e0, fun target kt => ?_⟩
        rw [Hv4_s0] at kt
        show Steps p.tables e below (s₁.setTop (mkF m 3 #[.val (.int p0), .unset, .unset, .unset, .unset] [(.int (9 : Int32)), (.int p0)])) _
        refine XS.icmpNo X0.here hx rfl (hb hby d2_3) rfl (feq hc1).1 ?_
        show Steps p.tables e below (s₁.setTop (mkF m 6 #[.val (.int p0), .unset, .unset, .unset, .unset] [])) _
        refine XS.iloadN X0.here hx rfl (hb hby d2_6) rfl ?_
        show Steps p.tables e below (s₁.setTop (mkF m 7 #[.val (.int p0), .unset, .unset, .unset, .unset] [(.int p0)])) _
        refine XS.bipush X0.here hx rfl (hb hby d2_7) ?_
        show Steps p.tables e below (s₁.setTop (mkF m 9 #[.val (.int p0), .unset, .unset, .unset, .unset] [(.int (10 : Int32)), (.int p0)])) _
        refine XS.icmpYes X0.here hx rfl (pc0 := 9) (pc' := 18) rfl (hb hby d2_9) rfl (teq hc2).1 (by decide) (by decide) ?_
        show Steps p.tables e below (s₁.setTop (mkF m 18 #[.val (.int p0), .unset, .unset, .unset, .unset] [])) _
        refine XS.iconst X0.here hx rfl (hb hby d2_18) ?_
        show Steps p.tables e below (s₁.setTop (mkF m 19 #[.val (.int p0), .unset, .unset, .unset, .unset] [(.int (1 : Int32))])) _
        refine XS.goto X0.here hx rfl (pc0 := 19) (pc' := 23) rfl (hb hby d2_19) (by decide) (by decide) ?_
        exact kt
      · by_cases hc3 : p0 = (13 : Int32)
        · rw [if_neg hc1, if_neg hc2, if_pos hc3] at Hv4_s0
          refine ⟨s₁, X0, e0, fun target kt => ?_⟩
          rw [Hv4_s0] at kt
          show Steps p.tables e below (s₁.setTop (mkF m 3 #[.val (.int p0), .unset, .unset, .unset, .unset] [(.int (9 : Int32)), (.int p0)])) _
          refine XS.icmpNo X0.here hx rfl (hb hby d2_3) rfl (feq hc1).1 ?_
          show Steps p.tables e below (s₁.setTop (mkF m 6 #[.val (.int p0), .unset, .unset, .unset, .unset] [])) _
          refine XS.iloadN X0.here hx rfl (hb hby d2_6) rfl ?_
          show Steps p.tables e below (s₁.setTop (mkF m 7 #[.val (.int p0), .unset, .unset, .unset, .unset] [(.int p0)])) _
          refine XS.bipush X0.here hx rfl (hb hby d2_7) ?_
          show Steps p.tables e below (s₁.setTop (mkF m 9 #[.val (.int p0), .unset, .unset, .unset, .unset] [(.int (10 : Int32)), (.int p0)])) _
          refine XS.icmpNo X0.here hx rfl (hb hby d2_9) rfl (feq hc2).1 ?_
          show Steps p.tables e below (s₁.setTop (mkF m 12 #[.val (.int p0), .unset, .unset, .unset, .unset] [])) _
          refine XS.iloadN X0.here hx rfl (hb hby d2_12) rfl ?_
          show Steps p.tables e below (s₁.setTop (mkF m 13 #[.val (.int p0), .unset, .unset, .unset, .unset] [(.int p0)])) _
          refine XS.bipush X0.here hx rfl (hb hby d2_13) ?_
          show Steps p.tables e below (s₁.setTop (mkF m 15 #[.val (.int p0), .unset, .unset, .unset, .unset] [(.int (13 : Int32)), (.int p0)])) _
          refine XS.icmpNo X0.here hx rfl (hb hby d2_15) rfl (teq hc3).2 ?_
          show Steps p.tables e below (s₁.setTop (mkF m 18 #[.val (.int p0), .unset, .unset, .unset, .unset] [])) _
          refine XS.iconst X0.here hx rfl (hb hby d2_18) ?_
          show Steps p.tables e below (s₁.setTop (mkF m 19 #[.val (.int p0), .unset, .unset, .unset, .unset] [(.int (1 : Int32))])) _
          refine XS.goto X0.here hx rfl (pc0 := 19) (pc' := 23) rfl (hb hby d2_19) (by decide) (by decide) ?_
          exact kt
        · rw [if_neg hc1, if_neg hc2, if_neg hc3] at Hv4_s0
          refine ⟨s₁, X0, e0, fun target kt => ?_⟩
          rw [Hv4_s0] at kt
          show Steps p.tables e below (s₁.setTop (mkF m 3 #[.val (.int p0), .unset, .unset, .unset, .unset] [(.int (9 : Int32)), (.int p0)])) _
          refine XS.icmpNo X0.here hx rfl (hb hby d2_3) rfl (feq hc1).1 ?_
          show Steps p.tables e below (s₁.setTop (mkF m 6 #[.val (.int p0), .unset, .unset, .unset, .unset] [])) _
          refine XS.iloadN X0.here hx rfl (hb hby d2_6) rfl ?_
          show Steps p.tables e below (s₁.setTop (mkF m 7 #[.val (.int p0), .unset, .unset, .unset, .unset] [(.int p0)])) _
          refine XS.bipush X0.here hx rfl (hb hby d2_7) ?_
          show Steps p.tables e below (s₁.setTop (mkF m 9 #[.val (.int p0), .unset, .unset, .unset, .unset] [(.int (10 : Int32)), (.int p0)])) _
          refine XS.icmpNo X0.here hx rfl (hb hby d2_9) rfl (feq hc2).1 ?_
          show Steps p.tables e below (s₁.setTop (mkF m 12 #[.val (.int p0), .unset, .unset, .unset, .unset] [])) _
          refine XS.iloadN X0.here hx rfl (hb hby d2_12) rfl ?_
          show Steps p.tables e below (s₁.setTop (mkF m 13 #[.val (.int p0), .unset, .unset, .unset, .unset] [(.int p0)])) _
          refine XS.bipush X0.here hx rfl (hb hby d2_13) ?_
          show Steps p.tables e below (s₁.setTop (mkF m 15 #[.val (.int p0), .unset, .unset, .unset, .unset] [(.int (13 : Int32)), (.int p0)])) _
          refine XS.icmpYes X0.here hx rfl (pc0 := 15) (pc' := 22) rfl (hb hby d2_15) rfl (feq hc3).2 (by decide) (by decide) ?_
          show Steps p.tables e below (s₁.setTop (mkF m 22 #[.val (.int p0), .unset, .unset, .unset, .unset] [])) _
          refine XS.iconst X0.here hx rfl (hb hby d2_22) ?_
          exact kt)
  obtain ⟨v7_s0, Hv7_s0⟩ : ∃ z : Int32, z = (if p0 < (32 : Int32) then (0 : Int32) else (if (55295 : Int32) < p0 then (0 : Int32) else (1 : Int32))) := ⟨_, rfl⟩
  obtain ⟨T7, X7, e7, st7⟩ := own_seg X4 h0 (mkF m 27 #[.val (.int p0), .val (.int v4_s0), .unset, .unset, .unset] [(.int p0), (.int (32 : Int32))]) (mkF m 41 #[.val (.int p0), .val (.int v4_s0), .unset, .unset, .unset] [(.int v7_s0)]) (by
    by_cases hc5 : p0 < (32 : Int32)
    · rw [if_pos hc5] at Hv7_s0
      refine ⟨T4, X4, e4, fun target kt => ?_⟩
      rw [Hv7_s0] at kt
      show Steps p.tables e below (T4.setTop (mkF m 27 #[.val (.int p0), .val (.int v4_s0), .unset, .unset, .unset] [(.int p0), (.int (32 : Int32))])) _
      refine XS.icmpYes X4.here hx rfl (pc0 := 27) (pc' := 40) rfl (hb hby d2_27) rfl (tlt hc5).2.2.1 (by decide) (by decide) ?_
      show Steps p.tables e below (T4.setTop (mkF m 40 #[.val (.int p0), .val (.int v4_s0), .unset, .unset, .unset] [])) _
      refine XS.iconst X4.here hx rfl (hb hby d2_40) ?_
      exact kt
    · by_cases hc6 : (55295 : Int32) < p0
      · rw [if_neg hc5, if_pos hc6] at Hv7_s0
        refine ⟨T4, X4, e4, fun target kt => ?_⟩
        rw [Hv7_s0] at kt
        show Steps p.tables e below (T4.setTop (mkF m 27 #[.val (.int p0), .val (.int v4_s0), .unset, .unset, .unset] [(.int p0), (.int (32 : Int32))])) _
        refine XS.icmpNo X4.here hx rfl (hb hby d2_27) rfl (flt hc5).2.2.1 ?_
        show Steps p.tables e below (T4.setTop (mkF m 30 #[.val (.int p0), .val (.int v4_s0), .unset, .unset, .unset] [])) _
        refine XS.iloadN X4.here hx rfl (hb hby d2_30) rfl ?_
        show Steps p.tables e below (T4.setTop (mkF m 31 #[.val (.int p0), .val (.int v4_s0), .unset, .unset, .unset] [(.int p0)])) _
        refine X4.ldcInt hx hown (mvT hZ (hw _ (List.mem_of_getElem? (i := 1) rfl))) (g := (mkF m 31 #[.val (.int p0), .val (.int v4_s0), .unset, .unset, .unset] [(.int p0)])) rfl (hb hby d2_31) _ ?_
        show Steps p.tables e below (T4.setTop (mkF m 33 #[.val (.int p0), .val (.int v4_s0), .unset, .unset, .unset] [(.int (55295 : Int32)), (.int p0)])) _
        refine XS.icmpYes X4.here hx rfl (pc0 := 33) (pc' := 40) rfl (hb hby d2_33) rfl (tlt hc6).2.2.1 (by decide) (by decide) ?_
        show Steps p.tables e below (T4.setTop (mkF m 40 #[.val (.int p0), .val (.int v4_s0), .unset, .unset, .unset] [])) _
        refine XS.iconst X4.here hx rfl (hb hby d2_40) ?_
        exact kt
      · rw [if_neg hc5, if_neg hc6] at Hv7_s0
        refine ⟨T4, X4, e4, fun target kt => ?_⟩
        rw [Hv7_s0] at kt
        show Steps p.tables e below (T4.setTop (mkF m 27 #[.val (.int p0), .val (.int v4_s0), .unset, .unset, .unset] [(.int p0), (.int (32 : Int32))])) _
        refine XS.icmpNo X4.here hx rfl (hb hby d2_27) rfl (flt hc5).2.2.1 ?_
        show Steps p.tables e below (T4.setTop (mkF m 30 #[.val (.int p0), .val (.int v4_s0), .unset, .unset, .unset] [])) _
        refine XS.iloadN X4.here hx rfl (hb hby d2_30) rfl ?_
        show Steps p.tables e below (T4.setTop (mkF m 31 #[.val (.int p0), .val (.int v4_s0), .unset, .unset, .unset] [(.int p0)])) _
        refine X4.ldcInt hx hown (mvT hZ (hw _ (List.mem_of_getElem? (i := 1) rfl))) (g := (mkF m 31 #[.val (.int p0), .val (.int v4_s0), .unset, .unset, .unset] [(.int p0)])) rfl (hb hby d2_31) _ ?_
        show Steps p.tables e below (T4.setTop (mkF m 33 #[.val (.int p0), .val (.int v4_s0), .unset, .unset, .unset] [(.int (55295 : Int32)), (.int p0)])) _
        refine XS.icmpNo X4.here hx rfl (hb hby d2_33) rfl (flt hc6).2.2.1 ?_
        show Steps p.tables e below (T4.setTop (mkF m 36 #[.val (.int p0), .val (.int v4_s0), .unset, .unset, .unset] [])) _
        refine XS.iconst X4.here hx rfl (hb hby d2_36) ?_
        show Steps p.tables e below (T4.setTop (mkF m 37 #[.val (.int p0), .val (.int v4_s0), .unset, .unset, .unset] [(.int (1 : Int32))])) _
        refine XS.goto X4.here hx rfl (pc0 := 37) (pc' := 41) rfl (hb hby d2_37) (by decide) (by decide) ?_
        exact kt)
  obtain ⟨v10_s0, Hv10_s0⟩ : ∃ z : Int32, z = (if p0 < (57344 : Int32) then (0 : Int32) else (if (65533 : Int32) < p0 then (0 : Int32) else (1 : Int32))) := ⟨_, rfl⟩
  obtain ⟨T10, X10, e10, st10⟩ := own_seg X7 h0 (mkF m 45 #[.val (.int p0), .val (.int v4_s0), .val (.int v7_s0), .unset, .unset] [(.int p0), (.int (57344 : Int32))]) (mkF m 59 #[.val (.int p0), .val (.int v4_s0), .val (.int v7_s0), .unset, .unset] [(.int v10_s0)]) (by
    by_cases hc8 : p0 < (57344 : Int32)
    · rw [if_pos hc8] at Hv10_s0
      refine ⟨T7, X7, e7, fun target kt => ?_⟩
      rw [Hv10_s0] at kt
      show Steps p.tables e below (T7.setTop (mkF m 45 #[.val (.int p0), .val (.int v4_s0), .val (.int v7_s0), .unset, .unset] [(.int p0), (.int (57344 : Int32))])) _
      refine XS.icmpYes X7.here hx rfl (pc0 := 45) (pc' := 58) rfl (hb hby d2_45) rfl (tlt hc8).2.2.1 (by decide) (by decide) ?_
      show Steps p.tables e below (T7.setTop (mkF m 58 #[.val (.int p0), .val (.int v4_s0), .val (.int v7_s0), .unset, .unset] [])) _
      refine XS.iconst X7.here hx rfl (hb hby d2_58) ?_
      exact kt
    · by_cases hc9 : (65533 : Int32) < p0
      · rw [if_neg hc8, if_pos hc9] at Hv10_s0
        refine ⟨T7, X7, e7, fun target kt => ?_⟩
        rw [Hv10_s0] at kt
        show Steps p.tables e below (T7.setTop (mkF m 45 #[.val (.int p0), .val (.int v4_s0), .val (.int v7_s0), .unset, .unset] [(.int p0), (.int (57344 : Int32))])) _
        refine XS.icmpNo X7.here hx rfl (hb hby d2_45) rfl (flt hc8).2.2.1 ?_
        show Steps p.tables e below (T7.setTop (mkF m 48 #[.val (.int p0), .val (.int v4_s0), .val (.int v7_s0), .unset, .unset] [])) _
        refine XS.iloadN X7.here hx rfl (hb hby d2_48) rfl ?_
        show Steps p.tables e below (T7.setTop (mkF m 49 #[.val (.int p0), .val (.int v4_s0), .val (.int v7_s0), .unset, .unset] [(.int p0)])) _
        refine X7.ldcInt hx hown (mvT hZ (hw _ (List.mem_of_getElem? (i := 3) rfl))) (g := (mkF m 49 #[.val (.int p0), .val (.int v4_s0), .val (.int v7_s0), .unset, .unset] [(.int p0)])) rfl (hb hby d2_49) _ ?_
        show Steps p.tables e below (T7.setTop (mkF m 51 #[.val (.int p0), .val (.int v4_s0), .val (.int v7_s0), .unset, .unset] [(.int (65533 : Int32)), (.int p0)])) _
        refine XS.icmpYes X7.here hx rfl (pc0 := 51) (pc' := 58) rfl (hb hby d2_51) rfl (tlt hc9).2.2.1 (by decide) (by decide) ?_
        show Steps p.tables e below (T7.setTop (mkF m 58 #[.val (.int p0), .val (.int v4_s0), .val (.int v7_s0), .unset, .unset] [])) _
        refine XS.iconst X7.here hx rfl (hb hby d2_58) ?_
        exact kt
      · rw [if_neg hc8, if_neg hc9] at Hv10_s0
        refine ⟨T7, X7, e7, fun target kt => ?_⟩
        rw [Hv10_s0] at kt
        show Steps p.tables e below (T7.setTop (mkF m 45 #[.val (.int p0), .val (.int v4_s0), .val (.int v7_s0), .unset, .unset] [(.int p0), (.int (57344 : Int32))])) _
        refine XS.icmpNo X7.here hx rfl (hb hby d2_45) rfl (flt hc8).2.2.1 ?_
        show Steps p.tables e below (T7.setTop (mkF m 48 #[.val (.int p0), .val (.int v4_s0), .val (.int v7_s0), .unset, .unset] [])) _
        refine XS.iloadN X7.here hx rfl (hb hby d2_48) rfl ?_
        show Steps p.tables e below (T7.setTop (mkF m 49 #[.val (.int p0), .val (.int v4_s0), .val (.int v7_s0), .unset, .unset] [(.int p0)])) _
        refine X7.ldcInt hx hown (mvT hZ (hw _ (List.mem_of_getElem? (i := 3) rfl))) (g := (mkF m 49 #[.val (.int p0), .val (.int v4_s0), .val (.int v7_s0), .unset, .unset] [(.int p0)])) rfl (hb hby d2_49) _ ?_
        show Steps p.tables e below (T7.setTop (mkF m 51 #[.val (.int p0), .val (.int v4_s0), .val (.int v7_s0), .unset, .unset] [(.int (65533 : Int32)), (.int p0)])) _
        refine XS.icmpNo X7.here hx rfl (hb hby d2_51) rfl (flt hc9).2.2.1 ?_
        show Steps p.tables e below (T7.setTop (mkF m 54 #[.val (.int p0), .val (.int v4_s0), .val (.int v7_s0), .unset, .unset] [])) _
        refine XS.iconst X7.here hx rfl (hb hby d2_54) ?_
        show Steps p.tables e below (T7.setTop (mkF m 55 #[.val (.int p0), .val (.int v4_s0), .val (.int v7_s0), .unset, .unset] [(.int (1 : Int32))])) _
        refine XS.goto X7.here hx rfl (pc0 := 55) (pc' := 59) rfl (hb hby d2_55) (by decide) (by decide) ?_
        exact kt)
  obtain ⟨v13_s0, Hv13_s0⟩ : ∃ z : Int32, z = (if p0 < (65536 : Int32) then (0 : Int32) else (if (1114111 : Int32) < p0 then (0 : Int32) else (1 : Int32))) := ⟨_, rfl⟩
  obtain ⟨T13, X13, e13, st13⟩ := own_seg X10 h0 (mkF m 63 #[.val (.int p0), .val (.int v4_s0), .val (.int v7_s0), .val (.int v10_s0), .unset] [(.int p0), (.int (65536 : Int32))]) (mkF m 77 #[.val (.int p0), .val (.int v4_s0), .val (.int v7_s0), .val (.int v10_s0), .unset] [(.int v13_s0)]) (by
    by_cases hc11 : p0 < (65536 : Int32)
    · rw [if_pos hc11] at Hv13_s0
      refine ⟨T10, X10, e10, fun target kt => ?_⟩
      rw [Hv13_s0] at kt
      show Steps p.tables e below (T10.setTop (mkF m 63 #[.val (.int p0), .val (.int v4_s0), .val (.int v7_s0), .val (.int v10_s0), .unset] [(.int p0), (.int (65536 : Int32))])) _
      refine XS.icmpYes X10.here hx rfl (pc0 := 63) (pc' := 76) rfl (hb hby d2_63) rfl (tlt hc11).2.2.1 (by decide) (by decide) ?_
      show Steps p.tables e below (T10.setTop (mkF m 76 #[.val (.int p0), .val (.int v4_s0), .val (.int v7_s0), .val (.int v10_s0), .unset] [])) _
      refine XS.iconst X10.here hx rfl (hb hby d2_76) ?_
      exact kt
    · by_cases hc12 : (1114111 : Int32) < p0
      · rw [if_neg hc11, if_pos hc12] at Hv13_s0
        refine ⟨T10, X10, e10, fun target kt => ?_⟩
        rw [Hv13_s0] at kt
        show Steps p.tables e below (T10.setTop (mkF m 63 #[.val (.int p0), .val (.int v4_s0), .val (.int v7_s0), .val (.int v10_s0), .unset] [(.int p0), (.int (65536 : Int32))])) _
        refine XS.icmpNo X10.here hx rfl (hb hby d2_63) rfl (flt hc11).2.2.1 ?_
        show Steps p.tables e below (T10.setTop (mkF m 66 #[.val (.int p0), .val (.int v4_s0), .val (.int v7_s0), .val (.int v10_s0), .unset] [])) _
        refine XS.iloadN X10.here hx rfl (hb hby d2_66) rfl ?_
        show Steps p.tables e below (T10.setTop (mkF m 67 #[.val (.int p0), .val (.int v4_s0), .val (.int v7_s0), .val (.int v10_s0), .unset] [(.int p0)])) _
        refine X10.ldcInt hx hown (mvT hZ (hw _ (List.mem_of_getElem? (i := 5) rfl))) (g := (mkF m 67 #[.val (.int p0), .val (.int v4_s0), .val (.int v7_s0), .val (.int v10_s0), .unset] [(.int p0)])) rfl (hb hby d2_67) _ ?_
        show Steps p.tables e below (T10.setTop (mkF m 69 #[.val (.int p0), .val (.int v4_s0), .val (.int v7_s0), .val (.int v10_s0), .unset] [(.int (1114111 : Int32)), (.int p0)])) _
        refine XS.icmpYes X10.here hx rfl (pc0 := 69) (pc' := 76) rfl (hb hby d2_69) rfl (tlt hc12).2.2.1 (by decide) (by decide) ?_
        show Steps p.tables e below (T10.setTop (mkF m 76 #[.val (.int p0), .val (.int v4_s0), .val (.int v7_s0), .val (.int v10_s0), .unset] [])) _
        refine XS.iconst X10.here hx rfl (hb hby d2_76) ?_
        exact kt
      · rw [if_neg hc11, if_neg hc12] at Hv13_s0
        refine ⟨T10, X10, e10, fun target kt => ?_⟩
        rw [Hv13_s0] at kt
        show Steps p.tables e below (T10.setTop (mkF m 63 #[.val (.int p0), .val (.int v4_s0), .val (.int v7_s0), .val (.int v10_s0), .unset] [(.int p0), (.int (65536 : Int32))])) _
        refine XS.icmpNo X10.here hx rfl (hb hby d2_63) rfl (flt hc11).2.2.1 ?_
        show Steps p.tables e below (T10.setTop (mkF m 66 #[.val (.int p0), .val (.int v4_s0), .val (.int v7_s0), .val (.int v10_s0), .unset] [])) _
        refine XS.iloadN X10.here hx rfl (hb hby d2_66) rfl ?_
        show Steps p.tables e below (T10.setTop (mkF m 67 #[.val (.int p0), .val (.int v4_s0), .val (.int v7_s0), .val (.int v10_s0), .unset] [(.int p0)])) _
        refine X10.ldcInt hx hown (mvT hZ (hw _ (List.mem_of_getElem? (i := 5) rfl))) (g := (mkF m 67 #[.val (.int p0), .val (.int v4_s0), .val (.int v7_s0), .val (.int v10_s0), .unset] [(.int p0)])) rfl (hb hby d2_67) _ ?_
        show Steps p.tables e below (T10.setTop (mkF m 69 #[.val (.int p0), .val (.int v4_s0), .val (.int v7_s0), .val (.int v10_s0), .unset] [(.int (1114111 : Int32)), (.int p0)])) _
        refine XS.icmpNo X10.here hx rfl (hb hby d2_69) rfl (flt hc12).2.2.1 ?_
        show Steps p.tables e below (T10.setTop (mkF m 72 #[.val (.int p0), .val (.int v4_s0), .val (.int v7_s0), .val (.int v10_s0), .unset] [])) _
        refine XS.iconst X10.here hx rfl (hb hby d2_72) ?_
        show Steps p.tables e below (T10.setTop (mkF m 73 #[.val (.int p0), .val (.int v4_s0), .val (.int v7_s0), .val (.int v10_s0), .unset] [(.int (1 : Int32))])) _
        refine XS.goto X10.here hx rfl (pc0 := 73) (pc' := 77) rfl (hb hby d2_73) (by decide) (by decide) ?_
        exact kt)
  obtain ⟨v18_s0, Hv18_s0⟩ : ∃ z : Int32, z = (if v4_s0 = (0 : Int32) then (if v7_s0 = (0 : Int32) then (if v10_s0 = (0 : Int32) then (if v13_s0 = (0 : Int32) then (0 : Int32) else (1 : Int32)) else (1 : Int32)) else (1 : Int32)) else (1 : Int32)) := ⟨_, rfl⟩
  obtain ⟨T18, X18, e18, st18⟩ := own_seg X13 h0 (mkF m 80 #[.val (.int p0), .val (.int v4_s0), .val (.int v7_s0), .val (.int v10_s0), .val (.int v13_s0)] [(.int v4_s0)]) (mkF m 101 #[.val (.int p0), .val (.int v4_s0), .val (.int v7_s0), .val (.int v10_s0), .val (.int v13_s0)] [(.int v18_s0)]) (by
    by_cases hc14 : v4_s0 = (0 : Int32)
    · by_cases hc15 : v7_s0 = (0 : Int32)
      · by_cases hc16 : v10_s0 = (0 : Int32)
        · by_cases hc17 : v13_s0 = (0 : Int32)
          · rw [if_pos hc14, if_pos hc15, if_pos hc16, if_pos hc17] at Hv18_s0
            refine ⟨T13, X13, e13, fun target kt => ?_⟩
            rw [Hv18_s0] at kt
            show Steps p.tables e below (T13.setTop (mkF m 80 #[.val (.int p0), .val (.int v4_s0), .val (.int v7_s0), .val (.int v10_s0), .val (.int v13_s0)] [(.int v4_s0)])) _
            refine XS.ifNo X13.here hx rfl (hb hby d2_80) rfl ((if0 _ _).trans (teq hc14).2) ?_
            show Steps p.tables e below (T13.setTop (mkF m 83 #[.val (.int p0), .val (.int v4_s0), .val (.int v7_s0), .val (.int v10_s0), .val (.int v13_s0)] [])) _
            refine XS.iloadN X13.here hx rfl (hb hby d2_83) rfl ?_
            show Steps p.tables e below (T13.setTop (mkF m 84 #[.val (.int p0), .val (.int v4_s0), .val (.int v7_s0), .val (.int v10_s0), .val (.int v13_s0)] [(.int v7_s0)])) _
            refine XS.ifNo X13.here hx rfl (hb hby d2_84) rfl ((if0 _ _).trans (teq hc15).2) ?_
            show Steps p.tables e below (T13.setTop (mkF m 87 #[.val (.int p0), .val (.int v4_s0), .val (.int v7_s0), .val (.int v10_s0), .val (.int v13_s0)] [])) _
            refine XS.iloadN X13.here hx rfl (hb hby d2_87) rfl ?_
            show Steps p.tables e below (T13.setTop (mkF m 88 #[.val (.int p0), .val (.int v4_s0), .val (.int v7_s0), .val (.int v10_s0), .val (.int v13_s0)] [(.int v10_s0)])) _
            refine XS.ifNo X13.here hx rfl (hb hby d2_88) rfl ((if0 _ _).trans (teq hc16).2) ?_
            show Steps p.tables e below (T13.setTop (mkF m 91 #[.val (.int p0), .val (.int v4_s0), .val (.int v7_s0), .val (.int v10_s0), .val (.int v13_s0)] [])) _
            refine XS.iload X13.here hx rfl (hb hby d2_91) rfl ?_
            show Steps p.tables e below (T13.setTop (mkF m 93 #[.val (.int p0), .val (.int v4_s0), .val (.int v7_s0), .val (.int v10_s0), .val (.int v13_s0)] [(.int v13_s0)])) _
            refine XS.ifYes X13.here hx rfl (pc0 := 93) (pc' := 100) rfl (hb hby d2_93) rfl ((if0 _ _).trans (teq hc17).1) (by decide) (by decide) ?_
            show Steps p.tables e below (T13.setTop (mkF m 100 #[.val (.int p0), .val (.int v4_s0), .val (.int v7_s0), .val (.int v10_s0), .val (.int v13_s0)] [])) _
            refine XS.iconst X13.here hx rfl (hb hby d2_100) ?_
            exact kt
          · rw [if_pos hc14, if_pos hc15, if_pos hc16, if_neg hc17] at Hv18_s0
            refine ⟨T13, X13, e13, fun target kt => ?_⟩
            rw [Hv18_s0] at kt
            show Steps p.tables e below (T13.setTop (mkF m 80 #[.val (.int p0), .val (.int v4_s0), .val (.int v7_s0), .val (.int v10_s0), .val (.int v13_s0)] [(.int v4_s0)])) _
            refine XS.ifNo X13.here hx rfl (hb hby d2_80) rfl ((if0 _ _).trans (teq hc14).2) ?_
            show Steps p.tables e below (T13.setTop (mkF m 83 #[.val (.int p0), .val (.int v4_s0), .val (.int v7_s0), .val (.int v10_s0), .val (.int v13_s0)] [])) _
            refine XS.iloadN X13.here hx rfl (hb hby d2_83) rfl ?_
            show Steps p.tables e below (T13.setTop (mkF m 84 #[.val (.int p0), .val (.int v4_s0), .val (.int v7_s0), .val (.int v10_s0), .val (.int v13_s0)] [(.int v7_s0)])) _
            refine XS.ifNo X13.here hx rfl (hb hby d2_84) rfl ((if0 _ _).trans (teq hc15).2) ?_
            show Steps p.tables e below (T13.setTop (mkF m 87 #[.val (.int p0), .val (.int v4_s0), .val (.int v7_s0), .val (.int v10_s0), .val (.int v13_s0)] [])) _
            refine XS.iloadN X13.here hx rfl (hb hby d2_87) rfl ?_
            show Steps p.tables e below (T13.setTop (mkF m 88 #[.val (.int p0), .val (.int v4_s0), .val (.int v7_s0), .val (.int v10_s0), .val (.int v13_s0)] [(.int v10_s0)])) _
            refine XS.ifNo X13.here hx rfl (hb hby d2_88) rfl ((if0 _ _).trans (teq hc16).2) ?_
            show Steps p.tables e below (T13.setTop (mkF m 91 #[.val (.int p0), .val (.int v4_s0), .val (.int v7_s0), .val (.int v10_s0), .val (.int v13_s0)] [])) _
            refine XS.iload X13.here hx rfl (hb hby d2_91) rfl ?_
            show Steps p.tables e below (T13.setTop (mkF m 93 #[.val (.int p0), .val (.int v4_s0), .val (.int v7_s0), .val (.int v10_s0), .val (.int v13_s0)] [(.int v13_s0)])) _
            refine XS.ifNo X13.here hx rfl (hb hby d2_93) rfl ((if0 _ _).trans (feq hc17).1) ?_
            show Steps p.tables e below (T13.setTop (mkF m 96 #[.val (.int p0), .val (.int v4_s0), .val (.int v7_s0), .val (.int v10_s0), .val (.int v13_s0)] [])) _
            refine XS.iconst X13.here hx rfl (hb hby d2_96) ?_
            show Steps p.tables e below (T13.setTop (mkF m 97 #[.val (.int p0), .val (.int v4_s0), .val (.int v7_s0), .val (.int v10_s0), .val (.int v13_s0)] [(.int (1 : Int32))])) _
            refine XS.goto X13.here hx rfl (pc0 := 97) (pc' := 101) rfl (hb hby d2_97) (by decide) (by decide) ?_
            exact kt
        · rw [if_pos hc14, if_pos hc15, if_neg hc16] at Hv18_s0
          refine ⟨T13, X13, e13, fun target kt => ?_⟩
          rw [Hv18_s0] at kt
          show Steps p.tables e below (T13.setTop (mkF m 80 #[.val (.int p0), .val (.int v4_s0), .val (.int v7_s0), .val (.int v10_s0), .val (.int v13_s0)] [(.int v4_s0)])) _
          refine XS.ifNo X13.here hx rfl (hb hby d2_80) rfl ((if0 _ _).trans (teq hc14).2) ?_
          show Steps p.tables e below (T13.setTop (mkF m 83 #[.val (.int p0), .val (.int v4_s0), .val (.int v7_s0), .val (.int v10_s0), .val (.int v13_s0)] [])) _
          refine XS.iloadN X13.here hx rfl (hb hby d2_83) rfl ?_
          show Steps p.tables e below (T13.setTop (mkF m 84 #[.val (.int p0), .val (.int v4_s0), .val (.int v7_s0), .val (.int v10_s0), .val (.int v13_s0)] [(.int v7_s0)])) _
          refine XS.ifNo X13.here hx rfl (hb hby d2_84) rfl ((if0 _ _).trans (teq hc15).2) ?_
          show Steps p.tables e below (T13.setTop (mkF m 87 #[.val (.int p0), .val (.int v4_s0), .val (.int v7_s0), .val (.int v10_s0), .val (.int v13_s0)] [])) _
          refine XS.iloadN X13.here hx rfl (hb hby d2_87) rfl ?_
          show Steps p.tables e below (T13.setTop (mkF m 88 #[.val (.int p0), .val (.int v4_s0), .val (.int v7_s0), .val (.int v10_s0), .val (.int v13_s0)] [(.int v10_s0)])) _
          refine XS.ifYes X13.here hx rfl (pc0 := 88) (pc' := 96) rfl (hb hby d2_88) rfl ((if0 _ _).trans (feq hc16).2) (by decide) (by decide) ?_
          show Steps p.tables e below (T13.setTop (mkF m 96 #[.val (.int p0), .val (.int v4_s0), .val (.int v7_s0), .val (.int v10_s0), .val (.int v13_s0)] [])) _
          refine XS.iconst X13.here hx rfl (hb hby d2_96) ?_
          show Steps p.tables e below (T13.setTop (mkF m 97 #[.val (.int p0), .val (.int v4_s0), .val (.int v7_s0), .val (.int v10_s0), .val (.int v13_s0)] [(.int (1 : Int32))])) _
          refine XS.goto X13.here hx rfl (pc0 := 97) (pc' := 101) rfl (hb hby d2_97) (by decide) (by decide) ?_
          exact kt
      · rw [if_pos hc14, if_neg hc15] at Hv18_s0
        refine ⟨T13, X13, e13, fun target kt => ?_⟩
        rw [Hv18_s0] at kt
        show Steps p.tables e below (T13.setTop (mkF m 80 #[.val (.int p0), .val (.int v4_s0), .val (.int v7_s0), .val (.int v10_s0), .val (.int v13_s0)] [(.int v4_s0)])) _
        refine XS.ifNo X13.here hx rfl (hb hby d2_80) rfl ((if0 _ _).trans (teq hc14).2) ?_
        show Steps p.tables e below (T13.setTop (mkF m 83 #[.val (.int p0), .val (.int v4_s0), .val (.int v7_s0), .val (.int v10_s0), .val (.int v13_s0)] [])) _
        refine XS.iloadN X13.here hx rfl (hb hby d2_83) rfl ?_
        show Steps p.tables e below (T13.setTop (mkF m 84 #[.val (.int p0), .val (.int v4_s0), .val (.int v7_s0), .val (.int v10_s0), .val (.int v13_s0)] [(.int v7_s0)])) _
        refine XS.ifYes X13.here hx rfl (pc0 := 84) (pc' := 96) rfl (hb hby d2_84) rfl ((if0 _ _).trans (feq hc15).2) (by decide) (by decide) ?_
        show Steps p.tables e below (T13.setTop (mkF m 96 #[.val (.int p0), .val (.int v4_s0), .val (.int v7_s0), .val (.int v10_s0), .val (.int v13_s0)] [])) _
        refine XS.iconst X13.here hx rfl (hb hby d2_96) ?_
        show Steps p.tables e below (T13.setTop (mkF m 97 #[.val (.int p0), .val (.int v4_s0), .val (.int v7_s0), .val (.int v10_s0), .val (.int v13_s0)] [(.int (1 : Int32))])) _
        refine XS.goto X13.here hx rfl (pc0 := 97) (pc' := 101) rfl (hb hby d2_97) (by decide) (by decide) ?_
        exact kt
    · rw [if_neg hc14] at Hv18_s0
      refine ⟨T13, X13, e13, fun target kt => ?_⟩
      rw [Hv18_s0] at kt
      show Steps p.tables e below (T13.setTop (mkF m 80 #[.val (.int p0), .val (.int v4_s0), .val (.int v7_s0), .val (.int v10_s0), .val (.int v13_s0)] [(.int v4_s0)])) _
      refine XS.ifYes X13.here hx rfl (pc0 := 80) (pc' := 96) rfl (hb hby d2_80) rfl ((if0 _ _).trans (feq hc14).2) (by decide) (by decide) ?_
      show Steps p.tables e below (T13.setTop (mkF m 96 #[.val (.int p0), .val (.int v4_s0), .val (.int v7_s0), .val (.int v10_s0), .val (.int v13_s0)] [])) _
      refine XS.iconst X13.here hx rfl (hb hby d2_96) ?_
      show Steps p.tables e below (T13.setTop (mkF m 97 #[.val (.int p0), .val (.int v4_s0), .val (.int v7_s0), .val (.int v10_s0), .val (.int v13_s0)] [(.int (1 : Int32))])) _
      refine XS.goto X13.here hx rfl (pc0 := 97) (pc' := 101) rfl (hb hby d2_97) (by decide) (by decide) ?_
      exact kt)
  have hfin : nar .boolean v18_s0 = F2 p0 := by
    rw [Hv18_s0, Hv13_s0, Hv10_s0, Hv7_s0, Hv4_s0]; unfold F2
    first | rfl | (repeat' split) <;> rfl
  obtain ⟨fs, hr, hrun, hended, hW, hsame⟩ := X18.leave (v := some (.int (nar .boolean v18_s0))) (fun h => by rw [Bd.returns] at h; cases h)
  refine ⟨_, _, pre0 _ ?_, hrun, hended, _, _, rfl, ?_, ⟨_, rfl⟩, hW, hsame.mono (by decide) (by decide)⟩
  · show Steps p.tables e below (s₁.setTop (mkF m 0 #[.val (.int p0), .unset, .unset, .unset, .unset] [])) _
    refine XS.iloadN X0.here hx rfl (hb hby d2_0) rfl ?_
    show Steps p.tables e below (s₁.setTop (mkF m 1 #[.val (.int p0), .unset, .unset, .unset, .unset] [(.int p0)])) _
    refine XS.bipush X0.here hx rfl (hb hby d2_1) ?_
    show Steps p.tables e below (s₁.setTop (mkF m 3 #[.val (.int p0), .unset, .unset, .unset, .unset] [(.int (9 : Int32)), (.int p0)])) _
    refine st4 _ ?_
    show Steps p.tables e below (T4.setTop (mkF m 23 #[.val (.int p0), .unset, .unset, .unset, .unset] [(.int v4_s0)])) _
    refine XS.istoreN X4.here hx rfl (hb hby d2_23) rfl (l' := #[.val (.int p0), .val (.int v4_s0), .unset, .unset, .unset]) rfl ?_
    show Steps p.tables e below (T4.setTop (mkF m 24 #[.val (.int p0), .val (.int v4_s0), .unset, .unset, .unset] [])) _
    refine XS.bipush X4.here hx rfl (hb hby d2_24) ?_
    show Steps p.tables e below (T4.setTop (mkF m 26 #[.val (.int p0), .val (.int v4_s0), .unset, .unset, .unset] [(.int (32 : Int32))])) _
    refine XS.iloadN X4.here hx rfl (hb hby d2_26) rfl ?_
    show Steps p.tables e below (T4.setTop (mkF m 27 #[.val (.int p0), .val (.int v4_s0), .unset, .unset, .unset] [(.int p0), (.int (32 : Int32))])) _
    refine st7 _ ?_
    show Steps p.tables e below (T7.setTop (mkF m 41 #[.val (.int p0), .val (.int v4_s0), .unset, .unset, .unset] [(.int v7_s0)])) _
    refine XS.istoreN X7.here hx rfl (hb hby d2_41) rfl (l' := #[.val (.int p0), .val (.int v4_s0), .val (.int v7_s0), .unset, .unset]) rfl ?_
    show Steps p.tables e below (T7.setTop (mkF m 42 #[.val (.int p0), .val (.int v4_s0), .val (.int v7_s0), .unset, .unset] [])) _
    refine X7.ldcInt hx hown (mvT hZ (hw _ (List.mem_of_getElem? (i := 2) rfl))) (g := (mkF m 42 #[.val (.int p0), .val (.int v4_s0), .val (.int v7_s0), .unset, .unset] [])) rfl (hb hby d2_42) _ ?_
    show Steps p.tables e below (T7.setTop (mkF m 44 #[.val (.int p0), .val (.int v4_s0), .val (.int v7_s0), .unset, .unset] [(.int (57344 : Int32))])) _
    refine XS.iloadN X7.here hx rfl (hb hby d2_44) rfl ?_
    show Steps p.tables e below (T7.setTop (mkF m 45 #[.val (.int p0), .val (.int v4_s0), .val (.int v7_s0), .unset, .unset] [(.int p0), (.int (57344 : Int32))])) _
    refine st10 _ ?_
    show Steps p.tables e below (T10.setTop (mkF m 59 #[.val (.int p0), .val (.int v4_s0), .val (.int v7_s0), .unset, .unset] [(.int v10_s0)])) _
    refine XS.istoreN X10.here hx rfl (hb hby d2_59) rfl (l' := #[.val (.int p0), .val (.int v4_s0), .val (.int v7_s0), .val (.int v10_s0), .unset]) rfl ?_
    show Steps p.tables e below (T10.setTop (mkF m 60 #[.val (.int p0), .val (.int v4_s0), .val (.int v7_s0), .val (.int v10_s0), .unset] [])) _
    refine X10.ldcInt hx hown (mvT hZ (hw _ (List.mem_of_getElem? (i := 4) rfl))) (g := (mkF m 60 #[.val (.int p0), .val (.int v4_s0), .val (.int v7_s0), .val (.int v10_s0), .unset] [])) rfl (hb hby d2_60) _ ?_
    show Steps p.tables e below (T10.setTop (mkF m 62 #[.val (.int p0), .val (.int v4_s0), .val (.int v7_s0), .val (.int v10_s0), .unset] [(.int (65536 : Int32))])) _
    refine XS.iloadN X10.here hx rfl (hb hby d2_62) rfl ?_
    show Steps p.tables e below (T10.setTop (mkF m 63 #[.val (.int p0), .val (.int v4_s0), .val (.int v7_s0), .val (.int v10_s0), .unset] [(.int p0), (.int (65536 : Int32))])) _
    refine st13 _ ?_
    show Steps p.tables e below (T13.setTop (mkF m 77 #[.val (.int p0), .val (.int v4_s0), .val (.int v7_s0), .val (.int v10_s0), .unset] [(.int v13_s0)])) _
    refine XS.istore X13.here hx rfl (hb hby d2_77) rfl (l' := #[.val (.int p0), .val (.int v4_s0), .val (.int v7_s0), .val (.int v10_s0), .val (.int v13_s0)]) rfl ?_
    show Steps p.tables e below (T13.setTop (mkF m 79 #[.val (.int p0), .val (.int v4_s0), .val (.int v7_s0), .val (.int v10_s0), .val (.int v13_s0)] [])) _
    refine XS.iloadN X13.here hx rfl (hb hby d2_79) rfl ?_
    show Steps p.tables e below (T13.setTop (mkF m 80 #[.val (.int p0), .val (.int v4_s0), .val (.int v7_s0), .val (.int v10_s0), .val (.int v13_s0)] [(.int v4_s0)])) _
    refine st18 _ ?_
    show Steps p.tables e below (T18.setTop (mkF m 101 #[.val (.int p0), .val (.int v4_s0), .val (.int v7_s0), .val (.int v10_s0), .val (.int v13_s0)] [(.int v18_s0)])) _
    exact retN X18 hx (t := .boolean) Bd.returns (by simp) (hb hby d2_101) hr
  · show Q2 Z p0 h0 n0 _ T18.heap _
    exact ⟨congrArg (fun z => some (Value.int z)) hfin, rfl, e18⟩
theorem own_inb (p1 : Int32) (h : ¬ ((p1 &&& (2147483647 : Int32)) - ((p1 &&& (2147483647 : Int32)) / (12 : Int32)) * (12 : Int32)) = (11 : Int32)) : ¬ ((p1 &&& (2147483647 : Int32)) - ((p1 &&& (2147483647 : Int32)) / (12 : Int32)) * (12 : Int32)) < 0 ∧ ((p1 &&& (2147483647 : Int32)) - ((p1 &&& (2147483647 : Int32)) / (12 : Int32)) * (12 : Int32)) < (11 : Int32) := by
  have e : (p1 &&& (2147483647 : Int32)).toInt = p1.toInt % 2 ^ 31 := Jvm.Kit.i32_mask p1 2147483647 (k := 31) (by decide) (by decide)
  generalize (p1 &&& (2147483647 : Int32)) = x at *
  have m : (x - (x / 12) * 12).toInt = x.toInt % 12 := by
    rw [irem_eq_mod]; exact Jvm.Kit.i32_rem_nonneg (by omega)
  rw [← Int32.toInt_inj, m] at h
  rw [Int32.lt_iff_toInt_lt, Int32.lt_iff_toInt_lt, m]
  have a0 : (0 : Int32).toInt = 0 := rfl
  have a1 : (11 : Int32).toInt = 11 := rfl
  omega
theorem own_if (P : Prop) [Decidable P] (A B : Int32) : (if (if P then (0 : Int32) else (1 : Int32)) = (0 : Int32) then A else B) = if P then A else B := by
  by_cases h : P
  · rw [if_pos h, if_pos h, if_pos rfl]
  · rw [if_neg h, if_neg h, if_neg (by decide)]
theorem own_core (c : Int32) : F1 c = F2 c := by
  by_cases a1 : c = 9
  · subst a1; decide
  by_cases a2 : c = 10
  · subst a2; decide
  by_cases a3 : c = 13
  · subst a3; decide
  have n1 : (32 : Int32).toInt = 32 := rfl
  have n2 : (55296 : Int32).toInt = 55296 := rfl
  have n3 : (55295 : Int32).toInt = 55295 := rfl
  have n4 : (57343 : Int32).toInt = 57343 := rfl
  have n5 : (57344 : Int32).toInt = 57344 := rfl
  have n6 : (65533 : Int32).toInt = 65533 := rfl
  have n7 : (65534 : Int32).toInt = 65534 := rfl
  have n8 : (65536 : Int32).toInt = 65536 := rfl
  have n9 : (1114111 : Int32).toInt = 1114111 := rfl
  have z10 : ¬ (1 : Int32) = 0 := by decide
  unfold F1 F2
  rw [if_neg a1, if_neg a2, if_neg a3, if_pos rfl]
  by_cases b1 : c < 32
  · have c5 : c < 57344 := by rw [Int32.lt_iff_toInt_lt] at b1 ⊢; omega
    have c8 : c < 65536 := by rw [Int32.lt_iff_toInt_lt] at b1 ⊢; omega
    simp only [if_pos b1, if_pos c5, if_pos c8, if_true]
  · by_cases b2 : c < 55296
    · have c3 : ¬ 55295 < c := by rw [Int32.lt_iff_toInt_lt] at b2 ⊢; omega
      simp only [if_neg b1, if_pos b2, if_neg c3, z10, if_false]
    · have c3 : 55295 < c := by rw [Int32.lt_iff_toInt_lt] at b2 ⊢; omega
      simp only [if_neg b1, if_neg b2, if_pos c3, if_true]
      by_cases b4 : 57343 < c
      · have c5 : ¬ c < 57344 := by rw [Int32.lt_iff_toInt_lt] at b4 ⊢; omega
        by_cases b7 : c < 65534
        · have c6 : ¬ 65533 < c := by rw [Int32.lt_iff_toInt_lt] at b7 ⊢; omega
          simp only [if_pos b4, if_pos b7, if_neg c5, if_neg c6, z10, if_false]
        · have c6 : 65533 < c := by rw [Int32.lt_iff_toInt_lt] at b7 ⊢; omega
          simp only [if_pos b4, if_neg b7, if_neg c5, if_pos c6, if_true]
          by_cases b8 : c < 65536
          · simp only [if_pos b8, if_true]
          · by_cases b9 : 1114111 < c
            · simp only [if_neg b8, if_pos b9, if_true]
            · simp only [if_neg b8, if_neg b9, z10, if_false]
      · have c5 : c < 57344 := by rw [Int32.lt_iff_toInt_lt] at b4 ⊢; omega
        have c8 : c < 65536 := by rw [Int32.lt_iff_toInt_lt] at b4 ⊢; omega
        simp only [if_neg b4, if_pos c5, if_pos c8, if_true]
theorem plain_law (p0 : Int32) (p1 : Int32) (p2 : Int32) (v15_s0 : Int32) (Hv15_s0 : v15_s0 = (if ((p1 &&& (2147483647 : Int32)) - ((p1 &&& (2147483647 : Int32)) / (12 : Int32)) * (12 : Int32)) = (11 : Int32) then p0 else ((own_at [(.int (9 : Int32)), (.int (10 : Int32)), (.int (13 : Int32)), (.int (32 : Int32)), (.int (55295 : Int32)), (.int (57344 : Int32)), (.int (65533 : Int32)), (.int (65536 : Int32)), (.int (1114111 : Int32)), (.int (-2147483648 : Int32)), (.int (2147483647 : Int32))] (.int (0 : Int32)) ((p1 &&& (2147483647 : Int32)) - ((p1 &&& (2147483647 : Int32)) / (12 : Int32)) * (12 : Int32))) + ((p2 &&& (7 : Int32)) - (3 : Int32))))) (v19_s0 : Int32) (Hv19_s0 : v19_s0 = (if (F1 v15_s0) = (F2 v15_s0) then (1 : Int32) else (0 : Int32))) : v19_s0 = 1 := by
  rw [Hv19_s0]; exact if_pos (own_core _)

theorem pn_0 : plainName "com/example/rowset_to_xml/rowsettoxml/XmlContentIsCharPinLaw" = true := by first | (simp [plainName, overriddenIn]; done) | decide +kernel
theorem pd_0_0 : parseMethodDescriptor "(I)Z" = some ⟨[.int], some .boolean⟩ := by decide +kernel
theorem ef_0 (m : MethodId) (p0 : Int32) (p1 : Int32) (p2 : Int32) : entryFrame m #[(.int p0), (.int p1), (.int p2)] maxLocals = mkF m 0 #[.val (.int p0), .val (.int p1), .val (.int p2), .unset, .unset, .unset] [] := by first | (simp [entryFrame, mkF, argsToLocals, Value.category, maxLocals]; done) | rfl
set_option maxRecDepth 65536 in
set_option maxHeartbeats 40000000 in
theorem rm0 (l : Launch) (Z : State) (a0 : Array Value) (hw : ∀ d ∈ tables_1, d.before a0 Z = true) (ws : List Jvm.Cond) (p0 : Int32) (p1 : Int32) (p2 : Int32) (h0 : Heap) (n0 : Nat) (Z0 : n0 ≤ h0.size) :
    MetFree l x (head1 (Jvm.Cond.code x code maxLocals ret :: ws) room_1) (fun a U => a = #[(.int p0), (.int p1), (.int p2)] ∧ Z.Warmed39 U.vm ∧ U.heap = h0) (fun _ _ _ _ _ => True) (fun _ U o U' => ∃ v L, o = .returned v ∧ (v = some (.int 1) ∧ Fr n0 L) ∧ FrameEnd U o U' L room_1.cells room_1.slots) := by
  refine MetFree.of_bodySF (plainFor_of_name pn_0) hisR ?_
  intro p e s m args below meth c s₁ Bd hml0 hP hK
  obtain ⟨rfl, hZ, hh⟩ := hP
  have hx := Bd.exec
  have hby := Bd.bytes
  have hml : c.maxLocals = 6 := hml0
  have hown : s.vm.findClass "com/example/rowset_to_xml/rowsettoxml/XmlContentIsCharPinLaw" = some m.cls := findClass_of_methodNamed Bd.named
  have hnm := (name_of_methodNamed Bd.named Bd.method).1
  have X0 : Stand p l e room_1 s m #[(.int p0), (.int p1), (.int p2)] below meth c s₁ [] 0 0 := Stand.of_body Bd
  have e0 : s₁.heap = h0 := by rw [← hh, Bd.state]; rfl
  have N0 := Fr.nil n0
  have pre0 : ∀ t, Steps p.tables e below (s₁.setTop (mkF m 0 #[.val (.int p0), .val (.int p1), .val (.int p2), .unset, .unset, .unset] [])) t → Steps p.tables e below (s₁.setTop (entryFrame m #[(.int p0), (.int p1), (.int p2)] maxLocals)) t := fun t k => castTop (ef_0 m p0 p1 p2) k
  obtain ⟨T1, h1, k1, X1, e1, E1, A1, st1⟩ := newP X0 hx hZ (hw _ (List.mem_of_getElem? (i := 0) rfl)) e0 (g := (mkF m 2 #[.val (.int p0), .val (.int p1), .val (.int p2), .unset, .unset, .unset] [(.int (11 : Int32))])) rfl (hb hby at_2) rfl (by decide) (cap := 11) (by decide) (by decide) (by decide) (by decide)
  obtain ⟨b1, g1⟩ : ∃ z, z = h0.size := ⟨_, rfl⟩
  rw [← g1] at A1 st1
  have g_b1 : n0 ≤ b1 := Nat.le_trans Z0 (Nat.le_of_eq g1.symm)
  have sz_b1 : h0.size ≤ b1 := Nat.le_trans (Keep.refl h0 []).1 (Nat.le_of_eq g1.symm)
  have V1 : Arv Z h1 b1 k1 .int (11 : Int32) [(.int (0 : Int32)), (.int (0 : Int32)), (.int (0 : Int32)), (.int (0 : Int32)), (.int (0 : Int32)), (.int (0 : Int32)), (.int (0 : Int32)), (.int (0 : Int32)), (.int (0 : Int32)), (.int (0 : Int32)), (.int (0 : Int32))] (.int (0 : Int32)) := (Arv.new A1 (by decide)).pad (pad_rep [] (.int (0 : Int32)) 11)
  obtain ⟨cl2, Ar2, qk2, Sz2, M2, Hs2, G2⟩ := id V1
  have hin2 : ¬ ((0 : Int32) < 0 ∨ cl2.slots.size ≤ ((0 : Int32)).toNatClampNeg) := inb_of Sz2 ⟨by decide, by decide⟩
  obtain ⟨T2, h2, X2, e2, W2, st2⟩ := stI X1 hx hZ e1 Ar2 (j := (0 : Int32)) hin2 (g := (mkF m 8 #[.val (.int p0), .val (.int p1), .val (.int p2), .unset, .unset, .unset] [(.int (9 : Int32)), (.int (0 : Int32)), (.ref b1), (.ref b1)])) rfl rfl (hb hby at_8)
  have V2 : Arv Z h2 b1 k1 .int (11 : Int32) [(.int (9 : Int32)), (.int (0 : Int32)), (.int (0 : Int32)), (.int (0 : Int32)), (.int (0 : Int32)), (.int (0 : Int32)), (.int (0 : Int32)), (.int (0 : Int32)), (.int (0 : Int32)), (.int (0 : Int32)), (.int (0 : Int32))] (.int (0 : Int32)) := Arv.set Ar2 qk2 Sz2 M2 Hs2 G2 rfl W2 0 rfl (Nat.le_of_ble_eq_true rfl)
  have N2 := Fr.snoc X2 N0 g_b1
  obtain ⟨cl3, Ar3, qk3, Sz3, M3, Hs3, G3⟩ := id V2
  have hin3 : ¬ ((1 : Int32) < 0 ∨ cl3.slots.size ≤ ((1 : Int32)).toNatClampNeg) := inb_of Sz3 ⟨by decide, by decide⟩
  obtain ⟨T3, h3, X3, e3, W3, st3⟩ := stI X2 hx hZ e2 Ar3 (j := (1 : Int32)) hin3 (g := (mkF m 13 #[.val (.int p0), .val (.int p1), .val (.int p2), .unset, .unset, .unset] [(.int (10 : Int32)), (.int (1 : Int32)), (.ref b1), (.ref b1)])) rfl rfl (hb hby at_13)
  have V3 : Arv Z h3 b1 k1 .int (11 : Int32) [(.int (9 : Int32)), (.int (10 : Int32)), (.int (0 : Int32)), (.int (0 : Int32)), (.int (0 : Int32)), (.int (0 : Int32)), (.int (0 : Int32)), (.int (0 : Int32)), (.int (0 : Int32)), (.int (0 : Int32)), (.int (0 : Int32))] (.int (0 : Int32)) := Arv.set Ar3 qk3 Sz3 M3 Hs3 G3 rfl W3 1 rfl (Nat.le_of_ble_eq_true rfl)
  have N3 := Fr.snoc X3 N2 g_b1
  obtain ⟨cl4, Ar4, qk4, Sz4, M4, Hs4, G4⟩ := id V3
  have hin4 : ¬ ((2 : Int32) < 0 ∨ cl4.slots.size ≤ ((2 : Int32)).toNatClampNeg) := inb_of Sz4 ⟨by decide, by decide⟩
  obtain ⟨T4, h4, X4, e4, W4, st4⟩ := stI X3 hx hZ e3 Ar4 (j := (2 : Int32)) hin4 (g := (mkF m 18 #[.val (.int p0), .val (.int p1), .val (.int p2), .unset, .unset, .unset] [(.int (13 : Int32)), (.int (2 : Int32)), (.ref b1), (.ref b1)])) rfl rfl (hb hby at_18)
  have V4 : Arv Z h4 b1 k1 .int (11 : Int32) [(.int (9 : Int32)), (.int (10 : Int32)), (.int (13 : Int32)), (.int (0 : Int32)), (.int (0 : Int32)), (.int (0 : Int32)), (.int (0 : Int32)), (.int (0 : Int32)), (.int (0 : Int32)), (.int (0 : Int32)), (.int (0 : Int32))] (.int (0 : Int32)) := Arv.set Ar4 qk4 Sz4 M4 Hs4 G4 rfl W4 2 rfl (Nat.le_of_ble_eq_true rfl)
  have N4 := Fr.snoc X4 N3 g_b1
  obtain ⟨cl5, Ar5, qk5, Sz5, M5, Hs5, G5⟩ := id V4
  have hin5 : ¬ ((3 : Int32) < 0 ∨ cl5.slots.size ≤ ((3 : Int32)).toNatClampNeg) := inb_of Sz5 ⟨by decide, by decide⟩
  obtain ⟨T5, h5, X5, e5, W5, st5⟩ := stI X4 hx hZ e4 Ar5 (j := (3 : Int32)) hin5 (g := (mkF m 23 #[.val (.int p0), .val (.int p1), .val (.int p2), .unset, .unset, .unset] [(.int (32 : Int32)), (.int (3 : Int32)), (.ref b1), (.ref b1)])) rfl rfl (hb hby at_23)
  have V5 : Arv Z h5 b1 k1 .int (11 : Int32) [(.int (9 : Int32)), (.int (10 : Int32)), (.int (13 : Int32)), (.int (32 : Int32)), (.int (0 : Int32)), (.int (0 : Int32)), (.int (0 : Int32)), (.int (0 : Int32)), (.int (0 : Int32)), (.int (0 : Int32)), (.int (0 : Int32))] (.int (0 : Int32)) := Arv.set Ar5 qk5 Sz5 M5 Hs5 G5 rfl W5 3 rfl (Nat.le_of_ble_eq_true rfl)
  have N5 := Fr.snoc X5 N4 g_b1
  obtain ⟨cl6, Ar6, qk6, Sz6, M6, Hs6, G6⟩ := id V5
  have hin6 : ¬ ((4 : Int32) < 0 ∨ cl6.slots.size ≤ ((4 : Int32)).toNatClampNeg) := inb_of Sz6 ⟨by decide, by decide⟩
  obtain ⟨T6, h6, X6, e6, W6, st6⟩ := stI X5 hx hZ e5 Ar6 (j := (4 : Int32)) hin6 (g := (mkF m 28 #[.val (.int p0), .val (.int p1), .val (.int p2), .unset, .unset, .unset] [(.int (55295 : Int32)), (.int (4 : Int32)), (.ref b1), (.ref b1)])) rfl rfl (hb hby at_28)
  have V6 : Arv Z h6 b1 k1 .int (11 : Int32) [(.int (9 : Int32)), (.int (10 : Int32)), (.int (13 : Int32)), (.int (32 : Int32)), (.int (55295 : Int32)), (.int (0 : Int32)), (.int (0 : Int32)), (.int (0 : Int32)), (.int (0 : Int32)), (.int (0 : Int32)), (.int (0 : Int32))] (.int (0 : Int32)) := Arv.set Ar6 qk6 Sz6 M6 Hs6 G6 rfl W6 4 rfl (Nat.le_of_ble_eq_true rfl)
  have N6 := Fr.snoc X6 N5 g_b1
  obtain ⟨cl7, Ar7, qk7, Sz7, M7, Hs7, G7⟩ := id V6
  have hin7 : ¬ ((5 : Int32) < 0 ∨ cl7.slots.size ≤ ((5 : Int32)).toNatClampNeg) := inb_of Sz7 ⟨by decide, by decide⟩
  obtain ⟨T7, h7, X7, e7, W7, st7⟩ := stI X6 hx hZ e6 Ar7 (j := (5 : Int32)) hin7 (g := (mkF m 33 #[.val (.int p0), .val (.int p1), .val (.int p2), .unset, .unset, .unset] [(.int (57344 : Int32)), (.int (5 : Int32)), (.ref b1), (.ref b1)])) rfl rfl (hb hby at_33)
  have V7 : Arv Z h7 b1 k1 .int (11 : Int32) [(.int (9 : Int32)), (.int (10 : Int32)), (.int (13 : Int32)), (.int (32 : Int32)), (.int (55295 : Int32)), (.int (57344 : Int32)), (.int (0 : Int32)), (.int (0 : Int32)), (.int (0 : Int32)), (.int (0 : Int32)), (.int (0 : Int32))] (.int (0 : Int32)) := Arv.set Ar7 qk7 Sz7 M7 Hs7 G7 rfl W7 5 rfl (Nat.le_of_ble_eq_true rfl)
  have N7 := Fr.snoc X7 N6 g_b1
  obtain ⟨cl8, Ar8, qk8, Sz8, M8, Hs8, G8⟩ := id V7
  have hin8 : ¬ ((6 : Int32) < 0 ∨ cl8.slots.size ≤ ((6 : Int32)).toNatClampNeg) := inb_of Sz8 ⟨by decide, by decide⟩
  obtain ⟨T8, h8, X8, e8, W8, st8⟩ := stI X7 hx hZ e7 Ar8 (j := (6 : Int32)) hin8 (g := (mkF m 39 #[.val (.int p0), .val (.int p1), .val (.int p2), .unset, .unset, .unset] [(.int (65533 : Int32)), (.int (6 : Int32)), (.ref b1), (.ref b1)])) rfl rfl (hb hby at_39)
  have V8 : Arv Z h8 b1 k1 .int (11 : Int32) [(.int (9 : Int32)), (.int (10 : Int32)), (.int (13 : Int32)), (.int (32 : Int32)), (.int (55295 : Int32)), (.int (57344 : Int32)), (.int (65533 : Int32)), (.int (0 : Int32)), (.int (0 : Int32)), (.int (0 : Int32)), (.int (0 : Int32))] (.int (0 : Int32)) := Arv.set Ar8 qk8 Sz8 M8 Hs8 G8 rfl W8 6 rfl (Nat.le_of_ble_eq_true rfl)
  have N8 := Fr.snoc X8 N7 g_b1
  obtain ⟨cl9, Ar9, qk9, Sz9, M9, Hs9, G9⟩ := id V8
  have hin9 : ¬ ((7 : Int32) < 0 ∨ cl9.slots.size ≤ ((7 : Int32)).toNatClampNeg) := inb_of Sz9 ⟨by decide, by decide⟩
  obtain ⟨T9, h9, X9, e9, W9, st9⟩ := stI X8 hx hZ e8 Ar9 (j := (7 : Int32)) hin9 (g := (mkF m 45 #[.val (.int p0), .val (.int p1), .val (.int p2), .unset, .unset, .unset] [(.int (65536 : Int32)), (.int (7 : Int32)), (.ref b1), (.ref b1)])) rfl rfl (hb hby at_45)
  have V9 : Arv Z h9 b1 k1 .int (11 : Int32) [(.int (9 : Int32)), (.int (10 : Int32)), (.int (13 : Int32)), (.int (32 : Int32)), (.int (55295 : Int32)), (.int (57344 : Int32)), (.int (65533 : Int32)), (.int (65536 : Int32)), (.int (0 : Int32)), (.int (0 : Int32)), (.int (0 : Int32))] (.int (0 : Int32)) := Arv.set Ar9 qk9 Sz9 M9 Hs9 G9 rfl W9 7 rfl (Nat.le_of_ble_eq_true rfl)
  have N9 := Fr.snoc X9 N8 g_b1
  obtain ⟨cl10, Ar10, qk10, Sz10, M10, Hs10, G10⟩ := id V9
  have hin10 : ¬ ((8 : Int32) < 0 ∨ cl10.slots.size ≤ ((8 : Int32)).toNatClampNeg) := inb_of Sz10 ⟨by decide, by decide⟩
  obtain ⟨T10, h10, X10, e10, W10, st10⟩ := stI X9 hx hZ e9 Ar10 (j := (8 : Int32)) hin10 (g := (mkF m 51 #[.val (.int p0), .val (.int p1), .val (.int p2), .unset, .unset, .unset] [(.int (1114111 : Int32)), (.int (8 : Int32)), (.ref b1), (.ref b1)])) rfl rfl (hb hby at_51)
  have V10 : Arv Z h10 b1 k1 .int (11 : Int32) [(.int (9 : Int32)), (.int (10 : Int32)), (.int (13 : Int32)), (.int (32 : Int32)), (.int (55295 : Int32)), (.int (57344 : Int32)), (.int (65533 : Int32)), (.int (65536 : Int32)), (.int (1114111 : Int32)), (.int (0 : Int32)), (.int (0 : Int32))] (.int (0 : Int32)) := Arv.set Ar10 qk10 Sz10 M10 Hs10 G10 rfl W10 8 rfl (Nat.le_of_ble_eq_true rfl)
  have N10 := Fr.snoc X10 N9 g_b1
  obtain ⟨cl11, Ar11, qk11, Sz11, M11, Hs11, G11⟩ := id V10
  have hin11 : ¬ ((9 : Int32) < 0 ∨ cl11.slots.size ≤ ((9 : Int32)).toNatClampNeg) := inb_of Sz11 ⟨by decide, by decide⟩
  obtain ⟨T11, h11, X11, e11, W11, st11⟩ := stI X10 hx hZ e10 Ar11 (j := (9 : Int32)) hin11 (g := (mkF m 57 #[.val (.int p0), .val (.int p1), .val (.int p2), .unset, .unset, .unset] [(.int (-2147483648 : Int32)), (.int (9 : Int32)), (.ref b1), (.ref b1)])) rfl rfl (hb hby at_57)
  have V11 : Arv Z h11 b1 k1 .int (11 : Int32) [(.int (9 : Int32)), (.int (10 : Int32)), (.int (13 : Int32)), (.int (32 : Int32)), (.int (55295 : Int32)), (.int (57344 : Int32)), (.int (65533 : Int32)), (.int (65536 : Int32)), (.int (1114111 : Int32)), (.int (-2147483648 : Int32)), (.int (0 : Int32))] (.int (0 : Int32)) := Arv.set Ar11 qk11 Sz11 M11 Hs11 G11 rfl W11 9 rfl (Nat.le_of_ble_eq_true rfl)
  have N11 := Fr.snoc X11 N10 g_b1
  obtain ⟨cl12, Ar12, qk12, Sz12, M12, Hs12, G12⟩ := id V11
  have hin12 : ¬ ((10 : Int32) < 0 ∨ cl12.slots.size ≤ ((10 : Int32)).toNatClampNeg) := inb_of Sz12 ⟨by decide, by decide⟩
  obtain ⟨T12, h12, X12, e12, W12, st12⟩ := stI X11 hx hZ e11 Ar12 (j := (10 : Int32)) hin12 (g := (mkF m 63 #[.val (.int p0), .val (.int p1), .val (.int p2), .unset, .unset, .unset] [(.int (2147483647 : Int32)), (.int (10 : Int32)), (.ref b1), (.ref b1)])) rfl rfl (hb hby at_63)
  have V12 : Arv Z h12 b1 k1 .int (11 : Int32) [(.int (9 : Int32)), (.int (10 : Int32)), (.int (13 : Int32)), (.int (32 : Int32)), (.int (55295 : Int32)), (.int (57344 : Int32)), (.int (65533 : Int32)), (.int (65536 : Int32)), (.int (1114111 : Int32)), (.int (-2147483648 : Int32)), (.int (2147483647 : Int32))] (.int (0 : Int32)) := Arv.set Ar12 qk12 Sz12 M12 Hs12 G12 rfl W12 10 rfl (Nat.le_of_ble_eq_true rfl)
  have N12 := Fr.snoc X12 N11 g_b1
  obtain ⟨v15_s0, Hv15_s0⟩ : ∃ z : Int32, z = (if ((p1 &&& (2147483647 : Int32)) - ((p1 &&& (2147483647 : Int32)) / (12 : Int32)) * (12 : Int32)) = (11 : Int32) then p0 else ((own_at [(.int (9 : Int32)), (.int (10 : Int32)), (.int (13 : Int32)), (.int (32 : Int32)), (.int (55295 : Int32)), (.int (57344 : Int32)), (.int (65533 : Int32)), (.int (65536 : Int32)), (.int (1114111 : Int32)), (.int (-2147483648 : Int32)), (.int (2147483647 : Int32))] (.int (0 : Int32)) ((p1 &&& (2147483647 : Int32)) - ((p1 &&& (2147483647 : Int32)) / (12 : Int32)) * (12 : Int32))) + ((p2 &&& (7 : Int32)) - (3 : Int32)))) := ⟨_, rfl⟩
  obtain ⟨T15, X15, e15, st15⟩ := own_seg X12 h12 (mkF m 78 #[.val (.int p0), .val (.int p1), .val (.int p2), .val (.ref b1), .val (.int ((p1 &&& (2147483647 : Int32)) - ((p1 &&& (2147483647 : Int32)) / (12 : Int32)) * (12 : Int32))), .unset] [(.int (11 : Int32)), (.int ((p1 &&& (2147483647 : Int32)) - ((p1 &&& (2147483647 : Int32)) / (12 : Int32)) * (12 : Int32)))]) (mkF m 96 #[.val (.int p0), .val (.int p1), .val (.int p2), .val (.ref b1), .val (.int ((p1 &&& (2147483647 : Int32)) - ((p1 &&& (2147483647 : Int32)) / (12 : Int32)) * (12 : Int32))), .unset] [(.int v15_s0)]) (by
    by_cases hc13 : ((p1 &&& (2147483647 : Int32)) - ((p1 &&& (2147483647 : Int32)) / (12 : Int32)) * (12 : Int32)) = (11 : Int32)
    · rw [if_pos hc13] at Hv15_s0
      refine ⟨T12, X12, e12, fun target kt => ?_⟩
      rw [Hv15_s0] at kt
      show Steps p.tables e below (T12.setTop (mkF m 78 #[.val (.int p0), .val (.int p1), .val (.int p2), .val (.ref b1), .val (.int ((p1 &&& (2147483647 : Int32)) - ((p1 &&& (2147483647 : Int32)) / (12 : Int32)) * (12 : Int32))), .unset] [(.int (11 : Int32)), (.int ((p1 &&& (2147483647 : Int32)) - ((p1 &&& (2147483647 : Int32)) / (12 : Int32)) * (12 : Int32)))])) _
      refine XS.icmpNo X12.here hx rfl (hb hby at_78) rfl (teq hc13).2 ?_
      show Steps p.tables e below (T12.setTop (mkF m 81 #[.val (.int p0), .val (.int p1), .val (.int p2), .val (.ref b1), .val (.int ((p1 &&& (2147483647 : Int32)) - ((p1 &&& (2147483647 : Int32)) / (12 : Int32)) * (12 : Int32))), .unset] [])) _
      refine XS.iloadN X12.here hx rfl (hb hby at_81) rfl ?_
      show Steps p.tables e below (T12.setTop (mkF m 82 #[.val (.int p0), .val (.int p1), .val (.int p2), .val (.ref b1), .val (.int ((p1 &&& (2147483647 : Int32)) - ((p1 &&& (2147483647 : Int32)) / (12 : Int32)) * (12 : Int32))), .unset] [(.int p0)])) _
      refine XS.goto X12.here hx rfl (pc0 := 82) (pc' := 96) rfl (hb hby at_82) (by decide) (by decide) ?_
      exact kt
    · obtain ⟨cl14, Ar14, qk14, Sz14, M14, Hs14, G14⟩ := id V12
      have hin14 : ¬ (((p1 &&& (2147483647 : Int32)) - ((p1 &&& (2147483647 : Int32)) / (12 : Int32)) * (12 : Int32)) < 0 ∨ cl14.slots.size ≤ (((p1 &&& (2147483647 : Int32)) - ((p1 &&& (2147483647 : Int32)) / (12 : Int32)) * (12 : Int32))).toNatClampNeg) := inb_of Sz14 (own_inb p1 (by assumption))
      have hat14 : cl14.slots[(((p1 &&& (2147483647 : Int32)) - ((p1 &&& (2147483647 : Int32)) / (12 : Int32)) * (12 : Int32))).toNatClampNeg]? = some (.int (own_at [(.int (9 : Int32)), (.int (10 : Int32)), (.int (13 : Int32)), (.int (32 : Int32)), (.int (55295 : Int32)), (.int (57344 : Int32)), (.int (65533 : Int32)), (.int (65536 : Int32)), (.int (1114111 : Int32)), (.int (-2147483648 : Int32)), (.int (2147483647 : Int32))] (.int (0 : Int32)) ((p1 &&& (2147483647 : Int32)) - ((p1 &&& (2147483647 : Int32)) / (12 : Int32)) * (12 : Int32)))) := Hs14.at hin14 (own_at_eq (by decide) _)
      rw [if_neg hc13] at Hv15_s0
      refine ⟨T12, X12, e12, fun target kt => ?_⟩
      rw [Hv15_s0] at kt
      show Steps p.tables e below (T12.setTop (mkF m 78 #[.val (.int p0), .val (.int p1), .val (.int p2), .val (.ref b1), .val (.int ((p1 &&& (2147483647 : Int32)) - ((p1 &&& (2147483647 : Int32)) / (12 : Int32)) * (12 : Int32))), .unset] [(.int (11 : Int32)), (.int ((p1 &&& (2147483647 : Int32)) - ((p1 &&& (2147483647 : Int32)) / (12 : Int32)) * (12 : Int32)))])) _
      refine XS.icmpYes X12.here hx rfl (pc0 := 78) (pc' := 85) rfl (hb hby at_78) rfl (feq hc13).2 (by decide) (by decide) ?_
      show Steps p.tables e below (T12.setTop (mkF m 85 #[.val (.int p0), .val (.int p1), .val (.int p2), .val (.ref b1), .val (.int ((p1 &&& (2147483647 : Int32)) - ((p1 &&& (2147483647 : Int32)) / (12 : Int32)) * (12 : Int32))), .unset] [])) _
      refine XS.aloadN X12.here hx rfl (hb hby at_85) rfl rfl ?_
      show Steps p.tables e below (T12.setTop (mkF m 86 #[.val (.int p0), .val (.int p1), .val (.int p2), .val (.ref b1), .val (.int ((p1 &&& (2147483647 : Int32)) - ((p1 &&& (2147483647 : Int32)) / (12 : Int32)) * (12 : Int32))), .unset] [(.ref b1)])) _
      refine XS.iload X12.here hx rfl (hb hby at_86) rfl ?_
      show Steps p.tables e below (T12.setTop (mkF m 88 #[.val (.int p0), .val (.int p1), .val (.int p2), .val (.ref b1), .val (.int ((p1 &&& (2147483647 : Int32)) - ((p1 &&& (2147483647 : Int32)) / (12 : Int32)) * (12 : Int32))), .unset] [(.int ((p1 &&& (2147483647 : Int32)) - ((p1 &&& (2147483647 : Int32)) / (12 : Int32)) * (12 : Int32))), (.ref b1)])) _
      refine X12.iaload hx (j := ((p1 &&& (2147483647 : Int32)) - ((p1 &&& (2147483647 : Int32)) / (12 : Int32)) * (12 : Int32))) (v := (.int (own_at [(.int (9 : Int32)), (.int (10 : Int32)), (.int (13 : Int32)), (.int (32 : Int32)), (.int (55295 : Int32)), (.int (57344 : Int32)), (.int (65533 : Int32)), (.int (65536 : Int32)), (.int (1114111 : Int32)), (.int (-2147483648 : Int32)), (.int (2147483647 : Int32))] (.int (0 : Int32)) ((p1 &&& (2147483647 : Int32)) - ((p1 &&& (2147483647 : Int32)) / (12 : Int32)) * (12 : Int32))))) (by rw [e12]; exact Ar14.1) (State.isArrayOf_alike hZ.alike Ar14.2.1) Ar14.2.2 hin14 hat14 (g := (mkF m 88 #[.val (.int p0), .val (.int p1), .val (.int p2), .val (.ref b1), .val (.int ((p1 &&& (2147483647 : Int32)) - ((p1 &&& (2147483647 : Int32)) / (12 : Int32)) * (12 : Int32))), .unset] [(.int ((p1 &&& (2147483647 : Int32)) - ((p1 &&& (2147483647 : Int32)) / (12 : Int32)) * (12 : Int32))), (.ref b1)])) rfl rfl (hb hby at_88) _ ?_
      show Steps p.tables e below (T12.setTop (mkF m 89 #[.val (.int p0), .val (.int p1), .val (.int p2), .val (.ref b1), .val (.int ((p1 &&& (2147483647 : Int32)) - ((p1 &&& (2147483647 : Int32)) / (12 : Int32)) * (12 : Int32))), .unset] [(.int (own_at [(.int (9 : Int32)), (.int (10 : Int32)), (.int (13 : Int32)), (.int (32 : Int32)), (.int (55295 : Int32)), (.int (57344 : Int32)), (.int (65533 : Int32)), (.int (65536 : Int32)), (.int (1114111 : Int32)), (.int (-2147483648 : Int32)), (.int (2147483647 : Int32))] (.int (0 : Int32)) ((p1 &&& (2147483647 : Int32)) - ((p1 &&& (2147483647 : Int32)) / (12 : Int32)) * (12 : Int32))))])) _
      refine XS.iloadN X12.here hx rfl (hb hby at_89) rfl ?_
      show Steps p.tables e below (T12.setTop (mkF m 90 #[.val (.int p0), .val (.int p1), .val (.int p2), .val (.ref b1), .val (.int ((p1 &&& (2147483647 : Int32)) - ((p1 &&& (2147483647 : Int32)) / (12 : Int32)) * (12 : Int32))), .unset] [(.int p2), (.int (own_at [(.int (9 : Int32)), (.int (10 : Int32)), (.int (13 : Int32)), (.int (32 : Int32)), (.int (55295 : Int32)), (.int (57344 : Int32)), (.int (65533 : Int32)), (.int (65536 : Int32)), (.int (1114111 : Int32)), (.int (-2147483648 : Int32)), (.int (2147483647 : Int32))] (.int (0 : Int32)) ((p1 &&& (2147483647 : Int32)) - ((p1 &&& (2147483647 : Int32)) / (12 : Int32)) * (12 : Int32))))])) _
      refine XS.bipush X12.here hx rfl (hb hby at_90) ?_
      show Steps p.tables e below (T12.setTop (mkF m 92 #[.val (.int p0), .val (.int p1), .val (.int p2), .val (.ref b1), .val (.int ((p1 &&& (2147483647 : Int32)) - ((p1 &&& (2147483647 : Int32)) / (12 : Int32)) * (12 : Int32))), .unset] [(.int (7 : Int32)), (.int p2), (.int (own_at [(.int (9 : Int32)), (.int (10 : Int32)), (.int (13 : Int32)), (.int (32 : Int32)), (.int (55295 : Int32)), (.int (57344 : Int32)), (.int (65533 : Int32)), (.int (65536 : Int32)), (.int (1114111 : Int32)), (.int (-2147483648 : Int32)), (.int (2147483647 : Int32))] (.int (0 : Int32)) ((p1 &&& (2147483647 : Int32)) - ((p1 &&& (2147483647 : Int32)) / (12 : Int32)) * (12 : Int32))))])) _
      refine XS.iand X12.here hx rfl (hb hby at_92) rfl ?_
      show Steps p.tables e below (T12.setTop (mkF m 93 #[.val (.int p0), .val (.int p1), .val (.int p2), .val (.ref b1), .val (.int ((p1 &&& (2147483647 : Int32)) - ((p1 &&& (2147483647 : Int32)) / (12 : Int32)) * (12 : Int32))), .unset] [(.int (p2 &&& (7 : Int32))), (.int (own_at [(.int (9 : Int32)), (.int (10 : Int32)), (.int (13 : Int32)), (.int (32 : Int32)), (.int (55295 : Int32)), (.int (57344 : Int32)), (.int (65533 : Int32)), (.int (65536 : Int32)), (.int (1114111 : Int32)), (.int (-2147483648 : Int32)), (.int (2147483647 : Int32))] (.int (0 : Int32)) ((p1 &&& (2147483647 : Int32)) - ((p1 &&& (2147483647 : Int32)) / (12 : Int32)) * (12 : Int32))))])) _
      refine XS.iconst X12.here hx rfl (hb hby at_93) ?_
      show Steps p.tables e below (T12.setTop (mkF m 94 #[.val (.int p0), .val (.int p1), .val (.int p2), .val (.ref b1), .val (.int ((p1 &&& (2147483647 : Int32)) - ((p1 &&& (2147483647 : Int32)) / (12 : Int32)) * (12 : Int32))), .unset] [(.int (3 : Int32)), (.int (p2 &&& (7 : Int32))), (.int (own_at [(.int (9 : Int32)), (.int (10 : Int32)), (.int (13 : Int32)), (.int (32 : Int32)), (.int (55295 : Int32)), (.int (57344 : Int32)), (.int (65533 : Int32)), (.int (65536 : Int32)), (.int (1114111 : Int32)), (.int (-2147483648 : Int32)), (.int (2147483647 : Int32))] (.int (0 : Int32)) ((p1 &&& (2147483647 : Int32)) - ((p1 &&& (2147483647 : Int32)) / (12 : Int32)) * (12 : Int32))))])) _
      refine XS.isub X12.here hx rfl (hb hby at_94) rfl ?_
      show Steps p.tables e below (T12.setTop (mkF m 95 #[.val (.int p0), .val (.int p1), .val (.int p2), .val (.ref b1), .val (.int ((p1 &&& (2147483647 : Int32)) - ((p1 &&& (2147483647 : Int32)) / (12 : Int32)) * (12 : Int32))), .unset] [(.int ((p2 &&& (7 : Int32)) - (3 : Int32))), (.int (own_at [(.int (9 : Int32)), (.int (10 : Int32)), (.int (13 : Int32)), (.int (32 : Int32)), (.int (55295 : Int32)), (.int (57344 : Int32)), (.int (65533 : Int32)), (.int (65536 : Int32)), (.int (1114111 : Int32)), (.int (-2147483648 : Int32)), (.int (2147483647 : Int32))] (.int (0 : Int32)) ((p1 &&& (2147483647 : Int32)) - ((p1 &&& (2147483647 : Int32)) / (12 : Int32)) * (12 : Int32))))])) _
      refine XS.iadd X12.here hx rfl (hb hby at_95) rfl ?_
      exact kt)
  obtain ⟨_, _, ⟨T16, L16, k16, n16⟩, -, X16, ⟨Lc16, hQ16, l16, y16, z16⟩, st16⟩ := Jvm.LawKit.callS X15 hx (y := (⟨"com/example/rowset_to_xml/rowsettoxml/XmlContent", "isChar", "(I)Z"⟩ : MethodName)) hown (mvT hZ (hw _ (List.mem_of_getElem? (i := 8) rfl))) (mvT hZ (hw _ (List.mem_of_getElem? (i := 9) rfl))) (mvT hZ (hw _ (List.mem_of_getElem? (i := 10) rfl))) (mvT hZ (hw _ (List.mem_of_getElem? (i := 11) rfl))) (by decide) (backOf (W := 0) (rm1 l Z a0 hw [] v15_s0 h12 n0 (Nat.le_trans (Nat.le_trans (Nat.le_trans (Nat.le_trans (Nat.le_trans (Nat.le_trans (Nat.le_trans (Nat.le_trans (Nat.le_trans (Nat.le_trans (Nat.le_trans (Nat.le_trans Z0 E1.1) (Keep.of_wr W2).1) (Keep.of_wr W3).1) (Keep.of_wr W4).1) (Keep.of_wr W5).1) (Keep.of_wr W6).1) (Keep.of_wr W7).1) (Keep.of_wr W8).1) (Keep.of_wr W9).1) (Keep.of_wr W10).1) (Keep.of_wr W11).1) (Keep.of_wr W12).1)) hZ (hw _ (List.mem_of_getElem? (i := 11) rfl)) (hw _ (List.mem_of_getElem? (i := 10) rfl)) (by decide) (by decide)) (g := (mkF m 100 #[.val (.int p0), .val (.int p1), .val (.int p2), .val (.ref b1), .val (.int ((p1 &&& (2147483647 : Int32)) - ((p1 &&& (2147483647 : Int32)) / (12 : Int32)) * (12 : Int32))), .val (.int v15_s0)] [(.int v15_s0)])) rfl (by rw [hml]; rfl) (argsL := [(.int v15_s0)]) (rest := []) (lenOf pd_0_0 rfl) rfl (by show 2 * 0 + _ ≤ _; exact Nat.le_of_eq rfl) (hb hby at_100) (fun _ _ => ⟨rfl, e15, (by decide : 1 + 0 ≤ _), (by decide : 11 + 0 ≤ _)⟩)
  dsimp only [Pt.U, Pt.locs, Pt.cells, Pt.slots] at X16 l16 y16 z16 st16 hQ16
  subst l16 y16 z16
  obtain ⟨rfl, rfl, e16⟩ := hQ16
  try rw [List.append_nil] at X16
  obtain ⟨_, _, ⟨T17, L17, k17, n17⟩, -, X17, ⟨Lc17, hQ17, l17, y17, z17⟩, st17⟩ := Jvm.LawKit.callS X16 hx (y := (⟨"com/example/rowset_to_xml/rowsettoxml/XmlContentIsCharPinLaw", "expected", "(I)Z"⟩ : MethodName)) hown (mvT hZ (hw _ (List.mem_of_getElem? (i := 12) rfl))) (mvT hZ (hw _ (List.mem_of_getElem? (i := 13) rfl))) (mvT hZ (hw _ (List.mem_of_getElem? (i := 14) rfl))) (mvT hZ (hw _ (List.mem_of_getElem? (i := 15) rfl))) (by decide) (backOf (W := 1) (rm2 l Z a0 hw [] v15_s0 h12 n0 (Nat.le_trans (Nat.le_trans (Nat.le_trans (Nat.le_trans (Nat.le_trans (Nat.le_trans (Nat.le_trans (Nat.le_trans (Nat.le_trans (Nat.le_trans (Nat.le_trans (Nat.le_trans Z0 E1.1) (Keep.of_wr W2).1) (Keep.of_wr W3).1) (Keep.of_wr W4).1) (Keep.of_wr W5).1) (Keep.of_wr W6).1) (Keep.of_wr W7).1) (Keep.of_wr W8).1) (Keep.of_wr W9).1) (Keep.of_wr W10).1) (Keep.of_wr W11).1) (Keep.of_wr W12).1)) hZ (hw _ (List.mem_of_getElem? (i := 15) rfl)) (hw _ (List.mem_of_getElem? (i := 14) rfl)) (by decide) (by decide)) (g := (mkF m 105 #[.val (.int p0), .val (.int p1), .val (.int p2), .val (.ref b1), .val (.int ((p1 &&& (2147483647 : Int32)) - ((p1 &&& (2147483647 : Int32)) / (12 : Int32)) * (12 : Int32))), .val (.int v15_s0)] [(.int v15_s0), (.int (F1 v15_s0))])) rfl (by rw [hml]; rfl) (argsL := [(.int v15_s0)]) (rest := [(.int (F1 v15_s0))]) (lenOf pd_0_0 rfl) rfl (by show 2 * 0 + _ ≤ _; exact Nat.le_of_eq rfl) (hb hby at_105) (fun _ _ => ⟨rfl, e16, (by decide : 1 + 0 ≤ _), (by decide : 11 + 0 ≤ _)⟩)
  dsimp only [Pt.U, Pt.locs, Pt.cells, Pt.slots] at X17 l17 y17 z17 st17 hQ17
  subst l17 y17 z17
  obtain ⟨rfl, rfl, e17⟩ := hQ17
  try rw [List.append_nil] at X17
  obtain ⟨v19_s0, Hv19_s0⟩ : ∃ z : Int32, z = (if (F1 v15_s0) = (F2 v15_s0) then (1 : Int32) else (0 : Int32)) := ⟨_, rfl⟩
  obtain ⟨T19, X19, e19, st19⟩ := own_seg X17 h12 (mkF m 108 #[.val (.int p0), .val (.int p1), .val (.int p2), .val (.ref b1), .val (.int ((p1 &&& (2147483647 : Int32)) - ((p1 &&& (2147483647 : Int32)) / (12 : Int32)) * (12 : Int32))), .val (.int v15_s0)] [(.int (F2 v15_s0)), (.int (F1 v15_s0))]) (mkF m 116 #[.val (.int p0), .val (.int p1), .val (.int p2), .val (.ref b1), .val (.int ((p1 &&& (2147483647 : Int32)) - ((p1 &&& (2147483647 : Int32)) / (12 : Int32)) * (12 : Int32))), .val (.int v15_s0)] [(.int v19_s0)]) (by
    by_cases hc18 : (F1 v15_s0) = (F2 v15_s0)
    · rw [if_pos hc18] at Hv19_s0
      refine ⟨T17, X17, e17, fun target kt => ?_⟩
      rw [Hv19_s0] at kt
      show Steps p.tables e below (T17.setTop (mkF m 108 #[.val (.int p0), .val (.int p1), .val (.int p2), .val (.ref b1), .val (.int ((p1 &&& (2147483647 : Int32)) - ((p1 &&& (2147483647 : Int32)) / (12 : Int32)) * (12 : Int32))), .val (.int v15_s0)] [(.int (F2 v15_s0)), (.int (F1 v15_s0))])) _
      refine XS.icmpNo X17.here hx rfl (hb hby at_108) rfl (teq hc18).2 ?_
      show Steps p.tables e below (T17.setTop (mkF m 111 #[.val (.int p0), .val (.int p1), .val (.int p2), .val (.ref b1), .val (.int ((p1 &&& (2147483647 : Int32)) - ((p1 &&& (2147483647 : Int32)) / (12 : Int32)) * (12 : Int32))), .val (.int v15_s0)] [])) _
      refine XS.iconst X17.here hx rfl (hb hby at_111) ?_
      show Steps p.tables e below (T17.setTop (mkF m 112 #[.val (.int p0), .val (.int p1), .val (.int p2), .val (.ref b1), .val (.int ((p1 &&& (2147483647 : Int32)) - ((p1 &&& (2147483647 : Int32)) / (12 : Int32)) * (12 : Int32))), .val (.int v15_s0)] [(.int (1 : Int32))])) _
      refine XS.goto X17.here hx rfl (pc0 := 112) (pc' := 116) rfl (hb hby at_112) (by decide) (by decide) ?_
      exact kt
    · rw [if_neg hc18] at Hv19_s0
      refine ⟨T17, X17, e17, fun target kt => ?_⟩
      rw [Hv19_s0] at kt
      show Steps p.tables e below (T17.setTop (mkF m 108 #[.val (.int p0), .val (.int p1), .val (.int p2), .val (.ref b1), .val (.int ((p1 &&& (2147483647 : Int32)) - ((p1 &&& (2147483647 : Int32)) / (12 : Int32)) * (12 : Int32))), .val (.int v15_s0)] [(.int (F2 v15_s0)), (.int (F1 v15_s0))])) _
      refine XS.icmpYes X17.here hx rfl (pc0 := 108) (pc' := 115) rfl (hb hby at_108) rfl (feq hc18).2 (by decide) (by decide) ?_
      show Steps p.tables e below (T17.setTop (mkF m 115 #[.val (.int p0), .val (.int p1), .val (.int p2), .val (.ref b1), .val (.int ((p1 &&& (2147483647 : Int32)) - ((p1 &&& (2147483647 : Int32)) / (12 : Int32)) * (12 : Int32))), .val (.int v15_s0)] [])) _
      refine XS.iconst X17.here hx rfl (hb hby at_115) ?_
      exact kt)
  have hfin : nar .boolean v19_s0 = 1 := by rw [plain_law p0 p1 p2 v15_s0 Hv15_s0 v19_s0 Hv19_s0]; rfl
  obtain ⟨fs, hr, hrun, hended, hW, hsame⟩ := X19.leave (v := some (.int (nar .boolean v19_s0))) (fun h => by rw [Bd.returns] at h; cases h)
  refine ⟨_, _, pre0 _ ?_, hrun, hended, _, _, rfl, ?_, ⟨_, rfl⟩, hW, hsame.mono (by decide) (by decide)⟩
  · show Steps p.tables e below (s₁.setTop (mkF m 0 #[.val (.int p0), .val (.int p1), .val (.int p2), .unset, .unset, .unset] [])) _
    refine XS.bipush X0.here hx rfl (hb hby at_0) ?_
    show Steps p.tables e below (s₁.setTop (mkF m 2 #[.val (.int p0), .val (.int p1), .val (.int p2), .unset, .unset, .unset] [(.int (11 : Int32))])) _
    refine st1 _ ?_
    show Steps p.tables e below (T1.setTop (mkF m 4 #[.val (.int p0), .val (.int p1), .val (.int p2), .unset, .unset, .unset] [(.ref b1)])) _
    refine XS.dup X1.here hx rfl (hb hby at_4) rfl rfl ?_
    show Steps p.tables e below (T1.setTop (mkF m 5 #[.val (.int p0), .val (.int p1), .val (.int p2), .unset, .unset, .unset] [(.ref b1), (.ref b1)])) _
    refine XS.iconst X1.here hx rfl (hb hby at_5) ?_
    show Steps p.tables e below (T1.setTop (mkF m 6 #[.val (.int p0), .val (.int p1), .val (.int p2), .unset, .unset, .unset] [(.int (0 : Int32)), (.ref b1), (.ref b1)])) _
    refine XS.bipush X1.here hx rfl (hb hby at_6) ?_
    show Steps p.tables e below (T1.setTop (mkF m 8 #[.val (.int p0), .val (.int p1), .val (.int p2), .unset, .unset, .unset] [(.int (9 : Int32)), (.int (0 : Int32)), (.ref b1), (.ref b1)])) _
    refine st2 _ ?_
    show Steps p.tables e below (T2.setTop (mkF m 9 #[.val (.int p0), .val (.int p1), .val (.int p2), .unset, .unset, .unset] [(.ref b1)])) _
    refine XS.dup X2.here hx rfl (hb hby at_9) rfl rfl ?_
    show Steps p.tables e below (T2.setTop (mkF m 10 #[.val (.int p0), .val (.int p1), .val (.int p2), .unset, .unset, .unset] [(.ref b1), (.ref b1)])) _
    refine XS.iconst X2.here hx rfl (hb hby at_10) ?_
    show Steps p.tables e below (T2.setTop (mkF m 11 #[.val (.int p0), .val (.int p1), .val (.int p2), .unset, .unset, .unset] [(.int (1 : Int32)), (.ref b1), (.ref b1)])) _
    refine XS.bipush X2.here hx rfl (hb hby at_11) ?_
    show Steps p.tables e below (T2.setTop (mkF m 13 #[.val (.int p0), .val (.int p1), .val (.int p2), .unset, .unset, .unset] [(.int (10 : Int32)), (.int (1 : Int32)), (.ref b1), (.ref b1)])) _
    refine st3 _ ?_
    show Steps p.tables e below (T3.setTop (mkF m 14 #[.val (.int p0), .val (.int p1), .val (.int p2), .unset, .unset, .unset] [(.ref b1)])) _
    refine XS.dup X3.here hx rfl (hb hby at_14) rfl rfl ?_
    show Steps p.tables e below (T3.setTop (mkF m 15 #[.val (.int p0), .val (.int p1), .val (.int p2), .unset, .unset, .unset] [(.ref b1), (.ref b1)])) _
    refine XS.iconst X3.here hx rfl (hb hby at_15) ?_
    show Steps p.tables e below (T3.setTop (mkF m 16 #[.val (.int p0), .val (.int p1), .val (.int p2), .unset, .unset, .unset] [(.int (2 : Int32)), (.ref b1), (.ref b1)])) _
    refine XS.bipush X3.here hx rfl (hb hby at_16) ?_
    show Steps p.tables e below (T3.setTop (mkF m 18 #[.val (.int p0), .val (.int p1), .val (.int p2), .unset, .unset, .unset] [(.int (13 : Int32)), (.int (2 : Int32)), (.ref b1), (.ref b1)])) _
    refine st4 _ ?_
    show Steps p.tables e below (T4.setTop (mkF m 19 #[.val (.int p0), .val (.int p1), .val (.int p2), .unset, .unset, .unset] [(.ref b1)])) _
    refine XS.dup X4.here hx rfl (hb hby at_19) rfl rfl ?_
    show Steps p.tables e below (T4.setTop (mkF m 20 #[.val (.int p0), .val (.int p1), .val (.int p2), .unset, .unset, .unset] [(.ref b1), (.ref b1)])) _
    refine XS.iconst X4.here hx rfl (hb hby at_20) ?_
    show Steps p.tables e below (T4.setTop (mkF m 21 #[.val (.int p0), .val (.int p1), .val (.int p2), .unset, .unset, .unset] [(.int (3 : Int32)), (.ref b1), (.ref b1)])) _
    refine XS.bipush X4.here hx rfl (hb hby at_21) ?_
    show Steps p.tables e below (T4.setTop (mkF m 23 #[.val (.int p0), .val (.int p1), .val (.int p2), .unset, .unset, .unset] [(.int (32 : Int32)), (.int (3 : Int32)), (.ref b1), (.ref b1)])) _
    refine st5 _ ?_
    show Steps p.tables e below (T5.setTop (mkF m 24 #[.val (.int p0), .val (.int p1), .val (.int p2), .unset, .unset, .unset] [(.ref b1)])) _
    refine XS.dup X5.here hx rfl (hb hby at_24) rfl rfl ?_
    show Steps p.tables e below (T5.setTop (mkF m 25 #[.val (.int p0), .val (.int p1), .val (.int p2), .unset, .unset, .unset] [(.ref b1), (.ref b1)])) _
    refine XS.iconst X5.here hx rfl (hb hby at_25) ?_
    show Steps p.tables e below (T5.setTop (mkF m 26 #[.val (.int p0), .val (.int p1), .val (.int p2), .unset, .unset, .unset] [(.int (4 : Int32)), (.ref b1), (.ref b1)])) _
    refine X5.ldcInt hx hown (mvT hZ (hw _ (List.mem_of_getElem? (i := 1) rfl))) (g := (mkF m 26 #[.val (.int p0), .val (.int p1), .val (.int p2), .unset, .unset, .unset] [(.int (4 : Int32)), (.ref b1), (.ref b1)])) rfl (hb hby at_26) _ ?_
    show Steps p.tables e below (T5.setTop (mkF m 28 #[.val (.int p0), .val (.int p1), .val (.int p2), .unset, .unset, .unset] [(.int (55295 : Int32)), (.int (4 : Int32)), (.ref b1), (.ref b1)])) _
    refine st6 _ ?_
    show Steps p.tables e below (T6.setTop (mkF m 29 #[.val (.int p0), .val (.int p1), .val (.int p2), .unset, .unset, .unset] [(.ref b1)])) _
    refine XS.dup X6.here hx rfl (hb hby at_29) rfl rfl ?_
    show Steps p.tables e below (T6.setTop (mkF m 30 #[.val (.int p0), .val (.int p1), .val (.int p2), .unset, .unset, .unset] [(.ref b1), (.ref b1)])) _
    refine XS.iconst X6.here hx rfl (hb hby at_30) ?_
    show Steps p.tables e below (T6.setTop (mkF m 31 #[.val (.int p0), .val (.int p1), .val (.int p2), .unset, .unset, .unset] [(.int (5 : Int32)), (.ref b1), (.ref b1)])) _
    refine X6.ldcInt hx hown (mvT hZ (hw _ (List.mem_of_getElem? (i := 2) rfl))) (g := (mkF m 31 #[.val (.int p0), .val (.int p1), .val (.int p2), .unset, .unset, .unset] [(.int (5 : Int32)), (.ref b1), (.ref b1)])) rfl (hb hby at_31) _ ?_
    show Steps p.tables e below (T6.setTop (mkF m 33 #[.val (.int p0), .val (.int p1), .val (.int p2), .unset, .unset, .unset] [(.int (57344 : Int32)), (.int (5 : Int32)), (.ref b1), (.ref b1)])) _
    refine st7 _ ?_
    show Steps p.tables e below (T7.setTop (mkF m 34 #[.val (.int p0), .val (.int p1), .val (.int p2), .unset, .unset, .unset] [(.ref b1)])) _
    refine XS.dup X7.here hx rfl (hb hby at_34) rfl rfl ?_
    show Steps p.tables e below (T7.setTop (mkF m 35 #[.val (.int p0), .val (.int p1), .val (.int p2), .unset, .unset, .unset] [(.ref b1), (.ref b1)])) _
    refine XS.bipush X7.here hx rfl (hb hby at_35) ?_
    show Steps p.tables e below (T7.setTop (mkF m 37 #[.val (.int p0), .val (.int p1), .val (.int p2), .unset, .unset, .unset] [(.int (6 : Int32)), (.ref b1), (.ref b1)])) _
    refine X7.ldcInt hx hown (mvT hZ (hw _ (List.mem_of_getElem? (i := 3) rfl))) (g := (mkF m 37 #[.val (.int p0), .val (.int p1), .val (.int p2), .unset, .unset, .unset] [(.int (6 : Int32)), (.ref b1), (.ref b1)])) rfl (hb hby at_37) _ ?_
    show Steps p.tables e below (T7.setTop (mkF m 39 #[.val (.int p0), .val (.int p1), .val (.int p2), .unset, .unset, .unset] [(.int (65533 : Int32)), (.int (6 : Int32)), (.ref b1), (.ref b1)])) _
    refine st8 _ ?_
    show Steps p.tables e below (T8.setTop (mkF m 40 #[.val (.int p0), .val (.int p1), .val (.int p2), .unset, .unset, .unset] [(.ref b1)])) _
    refine XS.dup X8.here hx rfl (hb hby at_40) rfl rfl ?_
    show Steps p.tables e below (T8.setTop (mkF m 41 #[.val (.int p0), .val (.int p1), .val (.int p2), .unset, .unset, .unset] [(.ref b1), (.ref b1)])) _
    refine XS.bipush X8.here hx rfl (hb hby at_41) ?_
    show Steps p.tables e below (T8.setTop (mkF m 43 #[.val (.int p0), .val (.int p1), .val (.int p2), .unset, .unset, .unset] [(.int (7 : Int32)), (.ref b1), (.ref b1)])) _
    refine X8.ldcInt hx hown (mvT hZ (hw _ (List.mem_of_getElem? (i := 4) rfl))) (g := (mkF m 43 #[.val (.int p0), .val (.int p1), .val (.int p2), .unset, .unset, .unset] [(.int (7 : Int32)), (.ref b1), (.ref b1)])) rfl (hb hby at_43) _ ?_
    show Steps p.tables e below (T8.setTop (mkF m 45 #[.val (.int p0), .val (.int p1), .val (.int p2), .unset, .unset, .unset] [(.int (65536 : Int32)), (.int (7 : Int32)), (.ref b1), (.ref b1)])) _
    refine st9 _ ?_
    show Steps p.tables e below (T9.setTop (mkF m 46 #[.val (.int p0), .val (.int p1), .val (.int p2), .unset, .unset, .unset] [(.ref b1)])) _
    refine XS.dup X9.here hx rfl (hb hby at_46) rfl rfl ?_
    show Steps p.tables e below (T9.setTop (mkF m 47 #[.val (.int p0), .val (.int p1), .val (.int p2), .unset, .unset, .unset] [(.ref b1), (.ref b1)])) _
    refine XS.bipush X9.here hx rfl (hb hby at_47) ?_
    show Steps p.tables e below (T9.setTop (mkF m 49 #[.val (.int p0), .val (.int p1), .val (.int p2), .unset, .unset, .unset] [(.int (8 : Int32)), (.ref b1), (.ref b1)])) _
    refine X9.ldcInt hx hown (mvT hZ (hw _ (List.mem_of_getElem? (i := 5) rfl))) (g := (mkF m 49 #[.val (.int p0), .val (.int p1), .val (.int p2), .unset, .unset, .unset] [(.int (8 : Int32)), (.ref b1), (.ref b1)])) rfl (hb hby at_49) _ ?_
    show Steps p.tables e below (T9.setTop (mkF m 51 #[.val (.int p0), .val (.int p1), .val (.int p2), .unset, .unset, .unset] [(.int (1114111 : Int32)), (.int (8 : Int32)), (.ref b1), (.ref b1)])) _
    refine st10 _ ?_
    show Steps p.tables e below (T10.setTop (mkF m 52 #[.val (.int p0), .val (.int p1), .val (.int p2), .unset, .unset, .unset] [(.ref b1)])) _
    refine XS.dup X10.here hx rfl (hb hby at_52) rfl rfl ?_
    show Steps p.tables e below (T10.setTop (mkF m 53 #[.val (.int p0), .val (.int p1), .val (.int p2), .unset, .unset, .unset] [(.ref b1), (.ref b1)])) _
    refine XS.bipush X10.here hx rfl (hb hby at_53) ?_
    show Steps p.tables e below (T10.setTop (mkF m 55 #[.val (.int p0), .val (.int p1), .val (.int p2), .unset, .unset, .unset] [(.int (9 : Int32)), (.ref b1), (.ref b1)])) _
    refine X10.ldcInt hx hown (mvT hZ (hw _ (List.mem_of_getElem? (i := 6) rfl))) (g := (mkF m 55 #[.val (.int p0), .val (.int p1), .val (.int p2), .unset, .unset, .unset] [(.int (9 : Int32)), (.ref b1), (.ref b1)])) rfl (hb hby at_55) _ ?_
    show Steps p.tables e below (T10.setTop (mkF m 57 #[.val (.int p0), .val (.int p1), .val (.int p2), .unset, .unset, .unset] [(.int (-2147483648 : Int32)), (.int (9 : Int32)), (.ref b1), (.ref b1)])) _
    refine st11 _ ?_
    show Steps p.tables e below (T11.setTop (mkF m 58 #[.val (.int p0), .val (.int p1), .val (.int p2), .unset, .unset, .unset] [(.ref b1)])) _
    refine XS.dup X11.here hx rfl (hb hby at_58) rfl rfl ?_
    show Steps p.tables e below (T11.setTop (mkF m 59 #[.val (.int p0), .val (.int p1), .val (.int p2), .unset, .unset, .unset] [(.ref b1), (.ref b1)])) _
    refine XS.bipush X11.here hx rfl (hb hby at_59) ?_
    show Steps p.tables e below (T11.setTop (mkF m 61 #[.val (.int p0), .val (.int p1), .val (.int p2), .unset, .unset, .unset] [(.int (10 : Int32)), (.ref b1), (.ref b1)])) _
    refine X11.ldcInt hx hown (mvT hZ (hw _ (List.mem_of_getElem? (i := 7) rfl))) (g := (mkF m 61 #[.val (.int p0), .val (.int p1), .val (.int p2), .unset, .unset, .unset] [(.int (10 : Int32)), (.ref b1), (.ref b1)])) rfl (hb hby at_61) _ ?_
    show Steps p.tables e below (T11.setTop (mkF m 63 #[.val (.int p0), .val (.int p1), .val (.int p2), .unset, .unset, .unset] [(.int (2147483647 : Int32)), (.int (10 : Int32)), (.ref b1), (.ref b1)])) _
    refine st12 _ ?_
    show Steps p.tables e below (T12.setTop (mkF m 64 #[.val (.int p0), .val (.int p1), .val (.int p2), .unset, .unset, .unset] [(.ref b1)])) _
    refine XS.astoreN X12.here hx rfl (hb hby at_64) rfl rfl (l' := #[.val (.int p0), .val (.int p1), .val (.int p2), .val (.ref b1), .unset, .unset]) rfl ?_
    show Steps p.tables e below (T12.setTop (mkF m 65 #[.val (.int p0), .val (.int p1), .val (.int p2), .val (.ref b1), .unset, .unset] [])) _
    refine XS.iloadN X12.here hx rfl (hb hby at_65) rfl ?_
    show Steps p.tables e below (T12.setTop (mkF m 66 #[.val (.int p0), .val (.int p1), .val (.int p2), .val (.ref b1), .unset, .unset] [(.int p1)])) _
    refine X12.ldcInt hx hown (mvT hZ (hw _ (List.mem_of_getElem? (i := 7) rfl))) (g := (mkF m 66 #[.val (.int p0), .val (.int p1), .val (.int p2), .val (.ref b1), .unset, .unset] [(.int p1)])) rfl (hb hby at_66) _ ?_
    show Steps p.tables e below (T12.setTop (mkF m 68 #[.val (.int p0), .val (.int p1), .val (.int p2), .val (.ref b1), .unset, .unset] [(.int (2147483647 : Int32)), (.int p1)])) _
    refine XS.iand X12.here hx rfl (hb hby at_68) rfl ?_
    show Steps p.tables e below (T12.setTop (mkF m 69 #[.val (.int p0), .val (.int p1), .val (.int p2), .val (.ref b1), .unset, .unset] [(.int (p1 &&& (2147483647 : Int32)))])) _
    refine XS.bipush X12.here hx rfl (hb hby at_69) ?_
    show Steps p.tables e below (T12.setTop (mkF m 71 #[.val (.int p0), .val (.int p1), .val (.int p2), .val (.ref b1), .unset, .unset] [(.int (12 : Int32)), (.int (p1 &&& (2147483647 : Int32)))])) _
    refine XS.irem X12.here hx rfl (hb hby at_71) rfl (by decide) ?_
    show Steps p.tables e below (T12.setTop (mkF m 72 #[.val (.int p0), .val (.int p1), .val (.int p2), .val (.ref b1), .unset, .unset] [(.int ((p1 &&& (2147483647 : Int32)) - ((p1 &&& (2147483647 : Int32)) / (12 : Int32)) * (12 : Int32)))])) _
    refine XS.istore X12.here hx rfl (hb hby at_72) rfl (l' := #[.val (.int p0), .val (.int p1), .val (.int p2), .val (.ref b1), .val (.int ((p1 &&& (2147483647 : Int32)) - ((p1 &&& (2147483647 : Int32)) / (12 : Int32)) * (12 : Int32))), .unset]) rfl ?_
    show Steps p.tables e below (T12.setTop (mkF m 74 #[.val (.int p0), .val (.int p1), .val (.int p2), .val (.ref b1), .val (.int ((p1 &&& (2147483647 : Int32)) - ((p1 &&& (2147483647 : Int32)) / (12 : Int32)) * (12 : Int32))), .unset] [])) _
    refine XS.iload X12.here hx rfl (hb hby at_74) rfl ?_
    show Steps p.tables e below (T12.setTop (mkF m 76 #[.val (.int p0), .val (.int p1), .val (.int p2), .val (.ref b1), .val (.int ((p1 &&& (2147483647 : Int32)) - ((p1 &&& (2147483647 : Int32)) / (12 : Int32)) * (12 : Int32))), .unset] [(.int ((p1 &&& (2147483647 : Int32)) - ((p1 &&& (2147483647 : Int32)) / (12 : Int32)) * (12 : Int32)))])) _
    refine XS.bipush X12.here hx rfl (hb hby at_76) ?_
    show Steps p.tables e below (T12.setTop (mkF m 78 #[.val (.int p0), .val (.int p1), .val (.int p2), .val (.ref b1), .val (.int ((p1 &&& (2147483647 : Int32)) - ((p1 &&& (2147483647 : Int32)) / (12 : Int32)) * (12 : Int32))), .unset] [(.int (11 : Int32)), (.int ((p1 &&& (2147483647 : Int32)) - ((p1 &&& (2147483647 : Int32)) / (12 : Int32)) * (12 : Int32)))])) _
    refine st15 _ ?_
    show Steps p.tables e below (T15.setTop (mkF m 96 #[.val (.int p0), .val (.int p1), .val (.int p2), .val (.ref b1), .val (.int ((p1 &&& (2147483647 : Int32)) - ((p1 &&& (2147483647 : Int32)) / (12 : Int32)) * (12 : Int32))), .unset] [(.int v15_s0)])) _
    refine XS.istore X15.here hx rfl (hb hby at_96) rfl (l' := #[.val (.int p0), .val (.int p1), .val (.int p2), .val (.ref b1), .val (.int ((p1 &&& (2147483647 : Int32)) - ((p1 &&& (2147483647 : Int32)) / (12 : Int32)) * (12 : Int32))), .val (.int v15_s0)]) rfl ?_
    show Steps p.tables e below (T15.setTop (mkF m 98 #[.val (.int p0), .val (.int p1), .val (.int p2), .val (.ref b1), .val (.int ((p1 &&& (2147483647 : Int32)) - ((p1 &&& (2147483647 : Int32)) / (12 : Int32)) * (12 : Int32))), .val (.int v15_s0)] [])) _
    refine XS.iload X15.here hx rfl (hb hby at_98) rfl ?_
    show Steps p.tables e below (T15.setTop (mkF m 100 #[.val (.int p0), .val (.int p1), .val (.int p2), .val (.ref b1), .val (.int ((p1 &&& (2147483647 : Int32)) - ((p1 &&& (2147483647 : Int32)) / (12 : Int32)) * (12 : Int32))), .val (.int v15_s0)] [(.int v15_s0)])) _
    refine st16 _ ?_
    show Steps p.tables e below (T16.setTop (mkF m 103 #[.val (.int p0), .val (.int p1), .val (.int p2), .val (.ref b1), .val (.int ((p1 &&& (2147483647 : Int32)) - ((p1 &&& (2147483647 : Int32)) / (12 : Int32)) * (12 : Int32))), .val (.int v15_s0)] [(.int (F1 v15_s0))])) _
    refine XS.iload X16.here hx rfl (hb hby at_103) rfl ?_
    show Steps p.tables e below (T16.setTop (mkF m 105 #[.val (.int p0), .val (.int p1), .val (.int p2), .val (.ref b1), .val (.int ((p1 &&& (2147483647 : Int32)) - ((p1 &&& (2147483647 : Int32)) / (12 : Int32)) * (12 : Int32))), .val (.int v15_s0)] [(.int v15_s0), (.int (F1 v15_s0))])) _
    refine st17 _ ?_
    show Steps p.tables e below (T17.setTop (mkF m 108 #[.val (.int p0), .val (.int p1), .val (.int p2), .val (.ref b1), .val (.int ((p1 &&& (2147483647 : Int32)) - ((p1 &&& (2147483647 : Int32)) / (12 : Int32)) * (12 : Int32))), .val (.int v15_s0)] [(.int (F2 v15_s0)), (.int (F1 v15_s0))])) _
    refine st19 _ ?_
    show Steps p.tables e below (T19.setTop (mkF m 116 #[.val (.int p0), .val (.int p1), .val (.int p2), .val (.ref b1), .val (.int ((p1 &&& (2147483647 : Int32)) - ((p1 &&& (2147483647 : Int32)) / (12 : Int32)) * (12 : Int32))), .val (.int v15_s0)] [(.int v19_s0)])) _
    exact retN X19 hx (t := .boolean) Bd.returns (by simp) (hb hby at_116) hr
  · exact ⟨congrArg (fun z => some (Value.int z)) hfin, N12⟩
set_option maxRecDepth 65536 in
set_option maxHeartbeats 40000000 in
theorem comes_1 {Post : Tables → Env → Array Value → State → Outcome → State → Prop} (hpost : ∀ tb e args s v u, (limb_1_1.after args s (.returned v) u = true ∧ limb_1_2.after args s (.returned v) u = true ∧ True) → FrameEnd s (.returned v) u (Jvm.fieldLocs frame_1_writes args s ++ Jvm.arrayLocs frame_1_arrays args s ++ Jvm.staticLocs frame_1_statics s) 16 128 → Post tb e args s (.returned v) u) :
    ArmFor flags0 classFile x code maxLocals ret World_1 tables_1 room_1 Calls_1 rest_1 Pre_1 Post := by
  intro l hfl _ _ p e ha hc hk s m args below hf hA hF happ hP
  obtain ⟨hcalls, hrest, hpre⟩ := hP
  obtain ⟨-, -, -, hnamed, -, -, -, hat⟩ := (Spec.applies_iff hf).mp happ
  obtain ⟨hg, hn⟩ := and_e (Cond.before_iff.mp (show (Jvm.Cond.and given_1 narrow_1).before args s = true from hpre))
  obtain ⟨gg1, gg2⟩ := and_e hg
  obtain ⟨gg3, gg4⟩ := and_e gg2
  obtain ⟨gg5, gg6⟩ := and_e gg4
  obtain ⟨w0, w1, w2, rfl⟩ : ∃ w0 w1 w2 : Value, args = #[w0, w1, w2] := by
    have hs : args.size = 3 := by simpa [Cond.value, given_1] using gg1
    obtain ⟨L⟩ := args
    match L, hs with
    | [w0, w1, w2], _ => exact ⟨w0, w1, w2, rfl⟩
  have hw := fun d (hd : d ∈ tables_1) => atoms_spec (ws := Jvm.Cond.code x code maxLocals ret :: tables_1) hat d (List.mem_cons_of_mem _ hd)
  obtain ⟨i0, ei0⟩ := is_v gg3
  obtain rfl : w0 = (.int i0) := Option.some.inj ei0
  obtain ⟨i1, ei1⟩ := is_v gg5
  obtain rfl : w1 = (.int i1) := Option.some.inj ei1
  obtain ⟨i2, ei2⟩ := is_v gg6
  obtain rfl : w2 = (.int i2) := Option.some.inj ei2
  obtain ⟨n, o, h1, h2, h3, _, L, rfl, ⟨rfl, N⟩, hq⟩ := rm0 l s _ hw tables_1 i0 i1 i2 s.heap s.heap.size (Nat.le_refl _) p e ha hc hk s m _ below hf ((Spec.applies_iff_loose hf).mp happ).1 ⟨rfl, State.Warmed39.refl s, rfl⟩ trivial
  refine ⟨n, _, h1, h2, h3, hpost _ _ _ _ _ _ ⟨Cond.after_iff.mpr rfl, Cond.after_iff.mpr (eq_i res_at (Term.int_eval (1)) rfl), trivial⟩ ⟨hq.1, hq.2.1, (hq.2.2.sift fun y hy => Or.inr (N y hy)).mono (by decide) (by decide)⟩⟩
theorem main_1_1 : Claimed_1_1 := comes_1 fun _ _ _ _ _ _ h hF => ⟨h.1, hF⟩
theorem main_1_2 : Claimed_1_2 := comes_1 fun _ _ _ _ _ _ h hF => ⟨h.2.1, hF⟩
end Jvm.Pilot.@@N@@
namespace Jvm.Pilot.@@N@@
open Jvm Jvm.ClassFile Sem Op Lib Jvm.Free Jvm.Stand Jvm.Pilot.@@N@@.Jvm.D
/-! MADE BY PROGRAM (witnessworld.py) out of the Statement's table words and the real class files: 9 classes; the members and pool entries that the words name. The judged class is class 1, her method 1. -/
namespace start1
open Jvm.ClassFile
def u (s : String) : CpInfo := .utf8 (stringToUtf16 s)
/-- a pool by its gaps: so many unusable entries, then the entry; so many at the end -/
def gap : Nat → List CpInfo → List CpInfo
  | 0, r => r
  | n + 1, r => .unusable :: gap n r
def poolList (es : List (Nat × CpInfo)) (last : Nat) : List CpInfo := es.foldr (fun e r => gap e.1 (e.2 :: r)) (gap last [])
def pool (es : List (Nat × CpInfo)) (last : Nat) : Array CpInfo := ⟨poolList es last⟩
def fileOf (pool : Array CpInfo) (this : Nat) (attrs : Array Attribute := #[]) (ms : Array MethodInfo := #[]) (fl : Nat := 33) (sup : Nat := 0) (ifs : Array Nat := #[]) (fds : Array FieldInfo := #[]) : ClassFile where
  minorVersion := 0
  majorVersion := 65
  constantPool := pool
  accessFlags := fl
  thisClass := this
  superClass := sup
  interfaces := ifs
  fields := fds
  methods := ms
  attributes := attrs
def plain (name : String) (sup : Option ClassId) : Class where
  name := name
  kind := .ordinary
  loader := none
  accessFlags := 33
  super := sup
  interfaces := #[]
  cf := none
  fields := #[]
  methods := #[]
  instanceTypes := #[]
  staticTypes := #[]
  resolved := #[]
  callSites := []
  init := .initialized
  statics := none
  mirror := none

def pool0 : Array CpInfo := pool [(5, u "<init>"), (0, u "()V"), (1, .class_ 10), (1, u "java/lang/Object")] 113

def k0m0 : Method := { name := "<init>", desc := "()V", sig := { parameters := [], returnType := none }, accessFlags := 1, code := none }
/-- java/lang/Object -/
def k0 : Class := { plain "java/lang/Object" none with
  accessFlags := 33
  interfaces := #[]
  cf := some (fileOf pool0 8 #[] #[{ accessFlags := 1, nameIndex := 5, descriptorIndex := 6, attributes := #[] }] 33 0 #[] #[])
  fields := #[]
  methods := #[k0m0]
  instanceTypes := #[]
  staticTypes := #[]
  resolved := Array.replicate 124 none
  statics := none }

def pool1 : Array CpInfo := pool [(2, .class_ 4), (1, u "java/lang/Object"), (0, u "<init>"), (0, u "()V"), (0, .integer 55295), (0, .integer 57344), (0, .integer 65533), (0, .integer 65536), (0, .integer 1114111), (2, .integer 2147483648), (0, .integer 2147483647), (0, .methodref 17 18), (0, .class_ 19), (0, .nameAndType 20 21), (0, u "com/example/rowset_to_xml/rowsettoxml/XmlContent"), (0, u "isChar"), (0, u "(I)Z"), (0, .methodref 23 24), (0, .class_ 25), (0, .nameAndType 26 21), (0, u "com/example/rowset_to_xml/rowsettoxml/XmlContentIsCharPinLaw"), (0, u "expected"), (2, u "law"), (0, u "(III)Z")] 5

def k1m0 : Method := { name := "<init>", desc := "()V", sig := { parameters := [], returnType := none }, accessFlags := 2, code := none }
def k1c1 : Code := { maxStack := 4, maxLocals := 6, code := code, exceptionTable := #[], attributes := #[] }
def k1m1 : Method := { name := "law", desc := "(III)Z", sig := { parameters := [.int, .int, .int], returnType := some .boolean }, accessFlags := 9, code := some k1c1 }
def k1c2 : Code := { maxStack := 2, maxLocals := 5, code := method_3_code, exceptionTable := #[], attributes := #[] }
def k1m2 : Method := { name := "expected", desc := "(I)Z", sig := { parameters := [.int], returnType := some .boolean }, accessFlags := 10, code := some k1c2 }
/-- com/example/rowset_to_xml/rowsettoxml/XmlContentIsCharPinLaw -/
def k1 : Class := { plain "com/example/rowset_to_xml/rowsettoxml/XmlContentIsCharPinLaw" (some 0) with
  accessFlags := 49
  interfaces := #[]
  cf := some (fileOf pool1 23 #[] #[{ accessFlags := 2, nameIndex := 5, descriptorIndex := 6, attributes := #[] }, { accessFlags := 9, nameIndex := 29, descriptorIndex := 30, attributes := #[] }, { accessFlags := 10, nameIndex := 26, descriptorIndex := 21, attributes := #[] }] 49 2 #[] #[])
  fields := #[]
  methods := #[k1m0, k1m1, k1m2]
  instanceTypes := #[]
  staticTypes := #[]
  resolved := Array.replicate 36 none
  statics := none }

def pool2 : Array CpInfo := pool [(2, .class_ 4), (1, u "java/lang/Object"), (3, .class_ 10), (1, u "com/example/rowset_to_xml/rowsettoxml/XmlContent"), (0, u "open"), (0, u "[I"), (2, u "attributes"), (4, u "attributeNamespaces"), (0, u "[Ljava/lang/String;"), (2, u "value"), (0, u "Ljava/lang/String;"), (16, u "at"), (0, u "I"), (19, u "depth"), (14, .integer 55296), (0, .integer 57343), (0, .integer 65534), (0, .integer 65536), (0, .integer 1114111), (101, u "attributeCount"), (65, u "namespaces"), (0, u "Ljava/util/Map;"), (8, u "declared"), (0, u "Ljava/util/List;"), (2, u "shadowed"), (96, u "PREDEFINED"), (10, u "isChar"), (0, u "(I)Z"), (46, .class_ 421), (0, u "com/example/rowset_to_xml/rowsettoxml/XmlContent$NotContentException"), (20, u "DECLARATION_START"), (1, u "DECLARATION_END"), (0, u "VERSION"), (0, u "END_TAG_START"), (0, u "EMPTY_TAG_END"), (0, u "COMMENT_START"), (0, u "COMMENT_END"), (0, u "CDATA_START"), (0, u "CDATA_END"), (0, u "RESERVED_TARGET"), (2, u "PAIRED_ATTRIBUTES")] 58

def k2c0 : Code := { maxStack := 2, maxLocals := 1, code := prog_80_method_4_code, exceptionTable := #[], attributes := #[] }
def k2m0 : Method := { name := "isChar", desc := "(I)Z", sig := { parameters := [.int], returnType := some .boolean }, accessFlags := 8, code := some k2c0 }
/-- com/example/rowset_to_xml/rowsettoxml/XmlContent -/
def k2 : Class := { plain "com/example/rowset_to_xml/rowsettoxml/XmlContent" (some 0) with
  accessFlags := 48
  interfaces := #[]
  cf := some (fileOf pool2 8 #[.nestMembers #[420]] #[{ accessFlags := 8, nameIndex := 372, descriptorIndex := 373, attributes := #[] }] 48 2 #[] #[{ accessFlags := 26, nameIndex := 442, descriptorIndex := 25, attributes := #[] }, { accessFlags := 26, nameIndex := 444, descriptorIndex := 25, attributes := #[] }, { accessFlags := 26, nameIndex := 445, descriptorIndex := 25, attributes := #[] }, { accessFlags := 26, nameIndex := 446, descriptorIndex := 25, attributes := #[] }, { accessFlags := 26, nameIndex := 447, descriptorIndex := 25, attributes := #[] }, { accessFlags := 26, nameIndex := 448, descriptorIndex := 25, attributes := #[] }, { accessFlags := 26, nameIndex := 449, descriptorIndex := 25, attributes := #[] }, { accessFlags := 26, nameIndex := 450, descriptorIndex := 25, attributes := #[] }, { accessFlags := 26, nameIndex := 451, descriptorIndex := 25, attributes := #[] }, { accessFlags := 26, nameIndex := 452, descriptorIndex := 25, attributes := #[] }, { accessFlags := 26, nameIndex := 361, descriptorIndex := 251, attributes := #[] }, { accessFlags := 26, nameIndex := 455, descriptorIndex := 43, attributes := #[] }, { accessFlags := 18, nameIndex := 24, descriptorIndex := 25, attributes := #[] }, { accessFlags := 2, nameIndex := 42, descriptorIndex := 43, attributes := #[] }, { accessFlags := 2, nameIndex := 11, descriptorIndex := 12, attributes := #[] }, { accessFlags := 2, nameIndex := 63, descriptorIndex := 43, attributes := #[] }, { accessFlags := 2, nameIndex := 250, descriptorIndex := 251, attributes := #[] }, { accessFlags := 2, nameIndex := 260, descriptorIndex := 261, attributes := #[] }, { accessFlags := 2, nameIndex := 264, descriptorIndex := 261, attributes := #[] }, { accessFlags := 2, nameIndex := 15, descriptorIndex := 12, attributes := #[] }, { accessFlags := 2, nameIndex := 20, descriptorIndex := 21, attributes := #[] }, { accessFlags := 2, nameIndex := 184, descriptorIndex := 43, attributes := #[] }])
  fields := #[{ name := "DECLARATION_START", type := (.object "java/lang/String"), accessFlags := 26, slot := 0, constantValue := 0 }, { name := "DECLARATION_END", type := (.object "java/lang/String"), accessFlags := 26, slot := 1, constantValue := 0 }, { name := "VERSION", type := (.object "java/lang/String"), accessFlags := 26, slot := 2, constantValue := 0 }, { name := "END_TAG_START", type := (.object "java/lang/String"), accessFlags := 26, slot := 3, constantValue := 0 }, { name := "EMPTY_TAG_END", type := (.object "java/lang/String"), accessFlags := 26, slot := 4, constantValue := 0 }, { name := "COMMENT_START", type := (.object "java/lang/String"), accessFlags := 26, slot := 5, constantValue := 0 }, { name := "COMMENT_END", type := (.object "java/lang/String"), accessFlags := 26, slot := 6, constantValue := 0 }, { name := "CDATA_START", type := (.object "java/lang/String"), accessFlags := 26, slot := 7, constantValue := 0 }, { name := "CDATA_END", type := (.object "java/lang/String"), accessFlags := 26, slot := 8, constantValue := 0 }, { name := "RESERVED_TARGET", type := (.object "java/lang/String"), accessFlags := 26, slot := 9, constantValue := 0 }, { name := "PREDEFINED", type := (.object "java/util/Map"), accessFlags := 26, slot := 10, constantValue := 0 }, { name := "PAIRED_ATTRIBUTES", type := .int, accessFlags := 26, slot := 11, constantValue := 0 }, { name := "value", type := (.object "java/lang/String"), accessFlags := 18, slot := 0, constantValue := 0 }, { name := "at", type := .int, accessFlags := 2, slot := 1, constantValue := 0 }, { name := "open", type := (.array .int), accessFlags := 2, slot := 2, constantValue := 0 }, { name := "depth", type := .int, accessFlags := 2, slot := 3, constantValue := 0 }, { name := "namespaces", type := (.object "java/util/Map"), accessFlags := 2, slot := 4, constantValue := 0 }, { name := "declared", type := (.object "java/util/List"), accessFlags := 2, slot := 5, constantValue := 0 }, { name := "shadowed", type := (.object "java/util/List"), accessFlags := 2, slot := 6, constantValue := 0 }, { name := "attributes", type := (.array .int), accessFlags := 2, slot := 7, constantValue := 0 }, { name := "attributeNamespaces", type := (.array (.object "java/lang/String")), accessFlags := 2, slot := 8, constantValue := 0 }, { name := "attributeCount", type := .int, accessFlags := 2, slot := 9, constantValue := 0 }]
  methods := #[k2m0]
  instanceTypes := #[(.object "java/lang/String"), .int, (.array .int), .int, (.object "java/util/Map"), (.object "java/util/List"), (.object "java/util/List"), (.array .int), (.array (.object "java/lang/String")), .int]
  staticTypes := #[(.object "java/lang/String"), (.object "java/lang/String"), (.object "java/lang/String"), (.object "java/lang/String"), (.object "java/lang/String"), (.object "java/lang/String"), (.object "java/lang/String"), (.object "java/lang/String"), (.object "java/lang/String"), (.object "java/lang/String"), (.object "java/util/Map"), .int]
  resolved := Array.replicate 514 none
  statics := none }

def pool3 : Array CpInfo := pool [(1, u "java/lang/Cloneable"), (0, .class_ 1), (0, u "java/lang/Object"), (0, .class_ 3)] 3

/-- java/lang/Cloneable -/
def k3 : Class := { plain "java/lang/Cloneable" (some 0) with
  accessFlags := 1537
  interfaces := #[]
  cf := some (fileOf pool3 2 #[] #[] 1537 4 #[] #[])
  fields := #[]
  methods := #[]
  instanceTypes := #[]
  staticTypes := #[]
  resolved := Array.replicate 8 none
  statics := none }

def pool4 : Array CpInfo := pool [(1, u "java/io/Serializable"), (0, .class_ 1), (0, u "java/lang/Object"), (0, .class_ 3)] 3

/-- java/io/Serializable -/
def k4 : Class := { plain "java/io/Serializable" (some 0) with
  accessFlags := 1537
  interfaces := #[]
  cf := some (fileOf pool4 2 #[] #[] 1537 4 #[] #[])
  fields := #[]
  methods := #[]
  instanceTypes := #[]
  staticTypes := #[]
  resolved := Array.replicate 8 none
  statics := none }

/-- the primitive byte -/
def k5 : Class := { plain "byte" none with kind := .primitive 'B', accessFlags := 0x411 }
/-- [B -/
def k6 : Class := { plain "[B" (some 0) with kind := .array 5 .byte, interfaces := #[3, 4], accessFlags := 1041 }

/-- the primitive int -/
def k7 : Class := { plain "int" none with kind := .primitive 'I', accessFlags := 0x411 }
/-- [I -/
def k8 : Class := { plain "[I" (some 0) with kind := .array 7 .int, interfaces := #[3, 4], accessFlags := 1041 }

def heap : Heap := #[]
def classes : Array Class := #[k0, k1, k2, k3, k4, k5, k6, k7, k8]
def interned : List (Array UInt16 × Addr) := []
def slotsUsed : Nat := 0
def theMethod : MethodId := ⟨1, 1⟩
def args0 : Array Value := #[.int 5, .int 5, .int 5]
def aboutOver (below : List Frame) : State where
  vm := { classes := classes, interned := interned.toArray }
  heap := heap
  slotsUsed := slotsUsed
  threads := #[{ frames := .invoking theMethod args0 :: below }]
def below0 : List Frame := [.native { method := ⟨0, 0⟩, args := #[] }]
def about1 : State := aboutOver below0
def p0 : Program := .bare "" "" ""
def e0 : Env := launch0.env 0 0 0
theorem w_frames : about1.frames = Frame.invoking theMethod args0 :: below0 := rfl
set_option maxRecDepth 65536 in
theorem w_args : argsFit about1.vm theMethod args0 = true := by decide +kernel
set_option maxRecDepth 65536 in
theorem w_heap : heapFits about1 = true := by decide +kernel
set_option maxRecDepth 65536 in
theorem w_runnable : about1.curStatus? = some .runnable := by decide +kernel
set_option maxRecDepth 65536 in
theorem w_alone : about1.alone = true := by decide +kernel
set_option maxRecDepth 65536 in
theorem w_named : about1.methodNamed? x = some theMethod := by decide +kernel
set_option maxRecDepth 65536 in
theorem w_hears : about1.hears theMethod below0 = true := by decide +kernel
set_option maxRecDepth 65536 in
theorem w_ripe : about1.ripe theMethod args0 below0 = true := by decide +kernel
theorem w_running : about1.status = .running := rfl
set_option maxRecDepth 65536 in
theorem w_room : about1.hasRoom e0.platform room_1 = true :=
  launch0.hasRoom_least _ room_1 (by decide +kernel) (by decide +kernel) (by decide +kernel) (by decide +kernel) (by decide +kernel) (by decide +kernel)
theorem allAtoms_all (ts : List Jvm.Cond) (a : Array Jvm.Value) (st : Jvm.State) : (allAtoms ts).before a st = ts.all (fun c => c.before a st) := by
  induction ts with
  | nil => rfl
  | cons c t ih =>
    show (Jvm.Cond.and c (allAtoms t)).before a st = _
    rw [Jvm.Cond.before_and, ih, List.all_cons]
def words1 : List Jvm.Cond := Jvm.Cond.code x code maxLocals ret :: tables_1
/-- a 'code' word, met by the world's own term for the bytes: nothing is compared byte by byte -/
theorem code_word {y : MethodName} {bytes : ByteArray} {mx : Nat} {rt : Option FieldType} {a : Array Value} {s : State} {m : MethodId} {meth : Method} {c : Code} (h1 : s.methodNamed? y = some m) (h2 : s.vm.method? m = some meth) (h3 : meth.code = some c) (h4 : c.code = bytes)
    (h5 : (c.maxLocals == mx && c.exceptionTable.isEmpty && decide (c.maxStack ≤ mostOperands) && decide (meth.sig.returnType = rt) && !meth.locks && decide (parseMethodDescriptor y.desc = some meth.sig)) = true) : (Jvm.Cond.code y bytes mx rt).before a s = true := by
  simp only [Bool.and_eq_true, beq_iff_eq, Bool.not_eq_true', decide_eq_true_eq] at h5
  obtain ⟨⟨⟨⟨⟨g1, g2⟩, g3⟩, g4⟩, g5⟩, g6⟩ := h5
  simp [Cond.before, Cond.holds, Cond.value, h1, h2, h3, h4, g1, g2, g3, g4, g5, g6]
def isCode : Jvm.Cond → Bool
  | .code _ _ _ _ => true
  | _ => false
theorem all_split {L : List Jvm.Cond} {P : Jvm.Cond → Bool} (h1 : L.all (fun c => isCode c || P c) = true) (h2 : ∀ c ∈ L.filter isCode, P c = true) : L.all P = true := by
  refine List.all_eq_true.mpr fun c hc => ?_
  have h := List.all_eq_true.mp h1 c hc
  rcases Bool.eq_false_or_eq_true (isCode c) with hi | hi
  · exact h2 c (List.mem_filter.mpr ⟨hc, hi⟩)
  · simpa [hi] using h
set_option maxRecDepth 65536 in
theorem w_c0 : (Jvm.Cond.code x code maxLocals ret).before args0 about1 = true := code_word (m := ⟨1, 1⟩) (meth := k1m1) (c := k1c1) (by decide +kernel) rfl rfl rfl (by decide +kernel)
set_option maxRecDepth 65536 in
theorem w_c1 : (Jvm.Cond.code ({ cls := "com/example/rowset_to_xml/rowsettoxml/XmlContent", name := "isChar", desc := "(I)Z" } : Jvm.MethodName) prog_80_method_4_code (1 : Nat) (Option.some Jvm.ClassFile.FieldType.boolean)).before args0 about1 = true := code_word (m := ⟨2, 0⟩) (meth := k2m0) (c := k2c0) (by decide +kernel) rfl rfl rfl (by decide +kernel)
set_option maxRecDepth 65536 in
theorem w_c2 : (Jvm.Cond.code ({ cls := "com/example/rowset_to_xml/rowsettoxml/XmlContentIsCharPinLaw", name := "expected", desc := "(I)Z" } : Jvm.MethodName) method_3_code (5 : Nat) (Option.some Jvm.ClassFile.FieldType.boolean)).before args0 about1 = true := code_word (m := ⟨1, 2⟩) (meth := k1m2) (c := k1c2) (by decide +kernel) rfl rfl rfl (by decide +kernel)
def codes1 : List Jvm.Cond := [Jvm.Cond.code x code maxLocals ret, Jvm.Cond.code ({ cls := "com/example/rowset_to_xml/rowsettoxml/XmlContent", name := "isChar", desc := "(I)Z" } : Jvm.MethodName) prog_80_method_4_code (1 : Nat) (Option.some Jvm.ClassFile.FieldType.boolean), Jvm.Cond.code ({ cls := "com/example/rowset_to_xml/rowsettoxml/XmlContentIsCharPinLaw", name := "expected", desc := "(I)Z" } : Jvm.MethodName) method_3_code (5 : Nat) (Option.some Jvm.ClassFile.FieldType.boolean)]
set_option maxRecDepth 65536 in
theorem codes_eq : words1.filter isCode = codes1 := rfl
theorem w_codes : ∀ c ∈ words1.filter isCode, c.before args0 about1 = true := by
  rw [codes_eq]
  intro c hc
  simp only [codes1, List.mem_cons, List.not_mem_nil, or_false] at hc
  rcases hc with rfl | rfl | rfl
  · exact w_c0
  · exact w_c1
  · exact w_c2
set_option maxRecDepth 65536 in
theorem w_t1 : words1.all (fun c => isCode c || c.before args0 about1) = true := by decide +kernel
theorem w_tables : (allAtoms (Jvm.Cond.code x code maxLocals ret :: tables_1)).before args0 about1 = true := by
  rw [allAtoms_all]
  show words1.all (fun c => c.before args0 about1) = true
  refine all_split ?_ w_codes
  rw [w_t1]
set_option maxRecDepth 65536 in
theorem w_case : (Jvm.Cond.and given_1 narrow_1).before args0 about1 = true := by decide +kernel
theorem w_applies : (headSpec (Jvm.Cond.code x code maxLocals ret :: tables_1) room_1).applies x e0.platform about1 = true :=
  (Spec.applies_iff w_frames).mpr ⟨w_running, w_runnable, w_alone, w_named, w_hears, w_ripe, w_room, w_tables⟩
theorem atStart : AtStart classFile x code maxLocals ret World_1 tables_1 room_1 Calls_1 rest_1 Pre_1 launch0 p0 e0 about1 theMethod args0 below0 :=
  ⟨lists_1, trivial, launch0.admits_env _ _ _, launch0.least_env, fairChoices_fair.cas, fairChoices_fair.clock, w_frames, w_args, w_heap, w_applies, trivial, trivial, w_case⟩
end start1
theorem witness_1 : WitnessClaimed_1 := ⟨start1.p0, start1.e0, start1.about1, start1.theMethod, start1.args0, start1.below0, start1.atStart⟩
end Jvm.Pilot.@@N@@
