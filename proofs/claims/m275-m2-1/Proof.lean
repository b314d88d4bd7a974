import JvmDerived
import JvmDerived.Pilot.@@N@@Statement
import JvmDerived.Pilot.@@N@@Code
set_option linter.unusedVariables false
set_option linter.unusedSimpArgs false
@@BLOCK:NumsL.lean.txt@@
namespace Jvm.RoadKit
open Sem ClassFile Op Lib Jvm.Stand Jvm.Free Jvm.LawKit
section New
variable {p : Program} {l : Launch} {e : Env} {R : Room} {s : State} {m : MethodId} {args : Array Value} {below : List Frame} {meth : Method} {c : Code} {T : State} {locs : List Loc} {cells slots : Nat}
theorem retI (X : Stand p l e R s m args below meth c T locs cells slots) (hx : p.tables.exec = Jvm.exec) {pc : Nat} {Ls : Array Slot} {z : Int32} {rest : List Value} (hret : meth.sig.returnType = some .int) (hd : decode c.code pc = .ok (.ireturn, 1)) {fs : List Frame}
    (hl : ∀ (f : JFrame) (acts : List Action), f.method = m → f.locked = none → f.entered = [] → (doReturn e (T.setTop f) acts (some (.int z))).1 = T.setFrames fs) : Steps p.tables e below (T.setTop (mkF m pc Ls (.int z :: rest))) (T.setFrames fs) :=
  retOut X hx hret rfl (Or.inl ⟨rfl, Or.inl rfl, z, rfl⟩) hd hl
theorem retJ (X : Stand p l e R s m args below meth c T locs cells slots) (hx : p.tables.exec = Jvm.exec) {pc : Nat} {Ls : Array Slot} {z : Int64} {rest : List Value} (hret : meth.sig.returnType = some .long) (hd : decode c.code pc = .ok (.lreturn, 1)) {fs : List Frame}
    (hl : ∀ (f : JFrame) (acts : List Action), f.method = m → f.locked = none → f.entered = [] → (doReturn e (T.setTop f) acts (some (.long z))).1 = T.setFrames fs) : Steps p.tables e below (T.setTop (mkF m pc Ls (.long z :: rest))) (T.setFrames fs) :=
  retOut X hx hret rfl (Or.inr (Or.inl ⟨rfl, rfl, z, rfl⟩)) hd hl
theorem retA (X : Stand p l e R s m args below meth c T locs cells slots) (hx : p.tables.exec = Jvm.exec) {pc : Nat} {Ls : Array Slot} {w : Value} {t : FieldType} {rest : List Value} (hret : meth.sig.returnType = some t) (ht : t.isReference = true) (hn : narrow t w = w) (hw : w.isRef = true) (hd : decode c.code pc = .ok (.areturn, 1)) {fs : List Frame}
    (hl : ∀ (f : JFrame) (acts : List Action), f.method = m → f.locked = none → f.entered = [] → (doReturn e (T.setTop f) acts (some w)).1 = T.setFrames fs) : Steps p.tables e below (T.setTop (mkF m pc Ls (w :: rest))) (T.setFrames fs) :=
  retOut X hx hret hn (Or.inr (Or.inr (Or.inr (Or.inr ⟨rfl, ht, hw⟩)))) hd hl
/-- what an array of ints that is written down holds at a place -/
def own_at (vs : List Value) (d : Value) (j : Int32) : Int32 := match vs.getD j.toNatClampNeg d with | .int x => x | _ => 0
def own_ints (vs : List Value) : Bool := vs.all fun v => match v with | .int _ => true | _ => false
theorem own_at_eq {vs : List Value} {d : Value} (h : own_ints (d :: vs) = true) (j : Int32) : vs.getD j.toNatClampNeg d = .int (own_at vs d j) := by
  have q : vs.getD j.toNatClampNeg d ∈ d :: vs := by
    rw [List.getD_eq_getElem?_getD]
    cases e : vs[j.toNatClampNeg]? with
    | none => simp
    | some w => exact List.mem_cons_of_mem _ (List.mem_of_getElem? e)
  have r := List.all_eq_true.mp h _ q
  unfold own_at
  cases e : vs.getD j.toNatClampNeg d <;> rw [e] at r <;> first | rfl | cases r
/-- a piece of a road from the frame F to the frame G, by whatever states between -/
theorem own_seg (X : Stand p l e R s m args below meth c T locs cells slots) (h : Heap) (F G : JFrame)
    (k : ∃ T', Stand p l e R s m args below meth c T' locs cells slots ∧ T'.heap = h ∧ ∀ target, Steps p.tables e below (T'.setTop G) target → Steps p.tables e below (T.setTop F) target) :
    ∃ T', Stand p l e R s m args below meth c T' locs cells slots ∧ T'.heap = h ∧ ∀ target, Steps p.tables e below (T'.setTop G) target → Steps p.tables e below (T.setTop F) target := k
end New
end Jvm.RoadKit
namespace Jvm.Pilot.@@N@@
open Jvm Jvm.ClassFile Sem Op Lib Jvm.Free Jvm.Stand Jvm.LawKit Jvm.RoadKit Bundle Jvm.Pilot.@@N@@.Jvm.D
theorem d1_0 : decode prog_23_method_3_code 0 = .ok (.iload_n 0, 1) := by decide +kernel
theorem d1_1 : decode prog_23_method_3_code 1 = .ok (.bipush 100, 2) := by decide +kernel
theorem d1_3 : decode prog_23_method_3_code 3 = .ok (.if_icmp .lt 14, 3) := by decide +kernel
theorem d1_6 : decode prog_23_method_3_code 6 = .ok (.iload_n 0, 1) := by decide +kernel
theorem d1_7 : decode prog_23_method_3_code 7 = .ok (.sipush 599, 3) := by decide +kernel
theorem d1_10 : decode prog_23_method_3_code 10 = .ok (.if_icmp .gt 7, 3) := by decide +kernel
theorem d1_13 : decode prog_23_method_3_code 13 = .ok (.iconst 1, 1) := by decide +kernel
theorem d1_14 : decode prog_23_method_3_code 14 = .ok (.goto 4, 3) := by decide +kernel
theorem d1_17 : decode prog_23_method_3_code 17 = .ok (.iconst 0, 1) := by decide +kernel
theorem d1_18 : decode prog_23_method_3_code 18 = .ok (.ireturn, 1) := by decide +kernel
theorem pn_1 : plainName "com/example/uptime_tally/uptimetally/Request" = true := by first | (simp [plainName, overriddenIn]; done) | decide +kernel
theorem ef_1 (m : MethodId) (p0 : Int32) : entryFrame m #[(.int p0)] 1 = mkF m 0 #[.val (.int p0)] [] := by first | (simp [entryFrame, mkF, argsToLocals, Value.category]; done) | rfl
def F1 (p0 : Int32) : Int32 := (if p0 < (100 : Int32) then (0 : Int32) else (if (599 : Int32) < p0 then (0 : Int32) else (1 : Int32)))
def Q1 (Z : State) (p0 : Int32) (h0 : Heap) (n0 : Nat) (v : Option Value) (h : Heap) (L : List Loc) : Prop := v = some (.int (F1 p0)) ∧ L = [] ∧ h = h0
set_option maxRecDepth 65536 in
set_option maxHeartbeats 40000000 in
theorem rm1 (l : Launch) (Z : State) (a0 : Array Value) (hw : ∀ d ∈ tables_1, d.before a0 Z = true) (ws : List Jvm.Cond) (p0 : Int32) (h0 : Heap) (n0 : Nat) (Z0 : n0 ≤ h0.size) :
    MetFree l (⟨"com/example/uptime_tally/uptimetally/Request", "isStatus", "(I)Z"⟩ : MethodName) (head1 (Jvm.Cond.code (⟨"com/example/uptime_tally/uptimetally/Request", "isStatus", "(I)Z"⟩ : MethodName) prog_23_method_3_code 1 (some .boolean) :: ws) ({ frames := 0, cells := 0, slots := 0, locals := 0 } : Room)) (fun a U => a = #[(.int p0)] ∧ Z.Warmed39 U.vm ∧ U.heap = h0) (fun _ _ _ _ _ => True) (fun _ U o U' => ∃ v L, o = .returned v ∧ Q1 Z p0 h0 n0 v U'.heap L ∧ FrameEnd U o U' L ({ frames := 0, cells := 0, slots := 0, locals := 0 } : Room).cells ({ frames := 0, cells := 0, slots := 0, locals := 0 } : Room).slots) := by
  refine MetFree.of_bodySF (plainFor_of_name pn_1) hisR ?_
  intro p e s m args below meth c s₁ Bd hml0 hP hK
  obtain ⟨rfl, hZ, hh⟩ := hP
  have hx := Bd.exec
  have hby := Bd.bytes
  have hml : c.maxLocals = 1 := hml0
  have hown : s.vm.findClass "com/example/uptime_tally/uptimetally/Request" = some m.cls := findClass_of_methodNamed Bd.named
  have hnm := (name_of_methodNamed Bd.named Bd.method).1
  have X0 : Stand p l e ({ frames := 0, cells := 0, slots := 0, locals := 0 } : Room) s m #[(.int p0)] below meth c s₁ [] 0 0 := Stand.of_body Bd
  have e0 : s₁.heap = h0 := by rw [← hh, Bd.state]; rfl
  have N0 := Fr.nil n0
  have pre0 : ∀ t, Steps p.tables e below (s₁.setTop (mkF m 0 #[.val (.int p0)] [])) t → Steps p.tables e below (s₁.setTop (entryFrame m #[(.int p0)] 1)) t := fun t k => castTop (ef_1 m p0) k
  obtain ⟨v3_s0, Hv3_s0⟩ : ∃ z : Int32, z = (if p0 < (100 : Int32) then (0 : Int32) else (if (599 : Int32) < p0 then (0 : Int32) else (1 : Int32))) := ⟨_, rfl⟩
  obtain ⟨T3, X3, e3, st3⟩ := own_seg X0 h0 (mkF m 3 #[.val (.int p0)] [(.int (100 : Int32)), (.int p0)]) (mkF m 18 #[.val (.int p0)] [(.int v3_s0)]) (by
    by_cases hc1 : p0 < (100 : Int32)
    · rw [if_pos hc1] at Hv3_s0
      refine ⟨s₁, X0, e0, fun target kt => ?_⟩
      rw [Hv3_s0] at kt
      show Steps p.tables e below (s₁.setTop (mkF m 3 #[.val (.int p0)] [(.int (100 : Int32)), (.int p0)])) _
      refine XS.icmpYes X0.here hx rfl (pc0 := 3) (pc' := 17) rfl (hb hby d1_3) rfl (tlt hc1).1 (by decide) (by decide) ?_
      show Steps p.tables e below (s₁.setTop (mkF m 17 #[.val (.int p0)] [])) _
      refine XS.iconst X0.here hx rfl (hb hby d1_17) ?_
      exact kt
    · by_cases hc2 : (599 : Int32) < p0
      · rw [if_neg hc1, if_pos hc2] at Hv3_s0
        refine ⟨s₁, X0, e0, fun target kt => ?_⟩
        rw [Hv3_s0] at kt
        show Steps p.tables e below (s₁.setTop (mkF m 3 #[.val (.int p0)] [(.int (100 : Int32)), (.int p0)])) _
        refine XS.icmpNo X0.here hx rfl (hb hby d1_3) rfl (flt hc1).1 ?_
        show Steps p.tables e below (s₁.setTop (mkF m 6 #[.val (.int p0)] [])) _
        refine XS.iloadN X0.here hx rfl (hb hby d1_6) rfl ?_
        show Steps p.tables e below (s₁.setTop (mkF m 7 #[.val (.int p0)] [(.int p0)])) _
        refine XS.sipush X0.here hx rfl (hb hby d1_7) ?_
        show Steps p.tables e below (s₁.setTop (mkF m 10 #[.val (.int p0)] [(.int (599 : Int32)), (.int p0)])) _
        refine XS.icmpYes X0.here hx rfl (pc0 := 10) (pc' := 17) rfl (hb hby d1_10) rfl (tlt hc2).2.2.1 (by decide) (by decide) ?_
        show Steps p.tables e below (s₁.setTop (mkF m 17 #[.val (.int p0)] [])) _
        refine XS.iconst X0.here hx rfl (hb hby d1_17) ?_
        exact kt
      · rw [if_neg hc1, if_neg hc2] at Hv3_s0
        refine ⟨s₁, X0, e0, fun target kt => ?_⟩
        rw [Hv3_s0] at kt
        show Steps p.tables e below (s₁.setTop (mkF m 3 #[.val (.int p0)] [(.int (100 : Int32)), (.int p0)])) _
        refine XS.icmpNo X0.here hx rfl (hb hby d1_3) rfl (flt hc1).1 ?_
        show Steps p.tables e below (s₁.setTop (mkF m 6 #[.val (.int p0)] [])) _
        refine XS.iloadN X0.here hx rfl (hb hby d1_6) rfl ?_
        show Steps p.tables e below (s₁.setTop (mkF m 7 #[.val (.int p0)] [(.int p0)])) _
        refine XS.sipush X0.here hx rfl (hb hby d1_7) ?_
        show Steps p.tables e below (s₁.setTop (mkF m 10 #[.val (.int p0)] [(.int (599 : Int32)), (.int p0)])) _
        refine XS.icmpNo X0.here hx rfl (hb hby d1_10) rfl (flt hc2).2.2.1 ?_
        show Steps p.tables e below (s₁.setTop (mkF m 13 #[.val (.int p0)] [])) _
        refine XS.iconst X0.here hx rfl (hb hby d1_13) ?_
        show Steps p.tables e below (s₁.setTop (mkF m 14 #[.val (.int p0)] [(.int (1 : Int32))])) _
        refine XS.goto X0.here hx rfl (pc0 := 14) (pc' := 18) rfl (hb hby d1_14) (by decide) (by decide) ?_
        exact kt)
  have hfin : nar .boolean v3_s0 = F1 p0 := by
    rw [Hv3_s0]; unfold F1
    first | rfl | (repeat' split) <;> rfl
  obtain ⟨fs, hr, hrun, hended, hW, hsame⟩ := X3.leave (v := some (.int (nar .boolean v3_s0))) (fun h => by rw [Bd.returns] at h; cases h)
  refine ⟨_, _, pre0 _ ?_, hrun, hended, _, _, rfl, ?_, ⟨_, rfl⟩, hW, hsame.mono (by decide) (by decide)⟩
  · show Steps p.tables e below (s₁.setTop (mkF m 0 #[.val (.int p0)] [])) _
    refine XS.iloadN X0.here hx rfl (hb hby d1_0) rfl ?_
    show Steps p.tables e below (s₁.setTop (mkF m 1 #[.val (.int p0)] [(.int p0)])) _
    refine XS.bipush X0.here hx rfl (hb hby d1_1) ?_
    show Steps p.tables e below (s₁.setTop (mkF m 3 #[.val (.int p0)] [(.int (100 : Int32)), (.int p0)])) _
    refine st3 _ ?_
    show Steps p.tables e below (T3.setTop (mkF m 18 #[.val (.int p0)] [(.int v3_s0)])) _
    exact retN X3 hx (t := .boolean) Bd.returns (by simp) (hb hby d1_18) hr
  · show Q1 Z p0 h0 n0 _ T3.heap _
    exact ⟨congrArg (fun z => some (Value.int z)) hfin, rfl, e3⟩
theorem d2_0 : decode method_2_code 0 = .ok (.iload_n 0, 1) := by decide +kernel
theorem d2_1 : decode method_2_code 1 = .ok (.bipush 100, 2) := by decide +kernel
theorem d2_3 : decode method_2_code 3 = .ok (.idiv, 1) := by decide +kernel
theorem d2_4 : decode method_2_code 4 = .ok (.istore_n 1, 1) := by decide +kernel
theorem d2_5 : decode method_2_code 5 = .ok (.iload_n 0, 1) := by decide +kernel
theorem d2_6 : decode method_2_code 6 = .ok (.ifCond .lt 17, 3) := by decide +kernel
theorem d2_9 : decode method_2_code 9 = .ok (.iload_n 1, 1) := by decide +kernel
theorem d2_10 : decode method_2_code 10 = .ok (.iconst 1, 1) := by decide +kernel
theorem d2_11 : decode method_2_code 11 = .ok (.if_icmp .lt 12, 3) := by decide +kernel
theorem d2_14 : decode method_2_code 14 = .ok (.iload_n 1, 1) := by decide +kernel
theorem d2_15 : decode method_2_code 15 = .ok (.iconst 5, 1) := by decide +kernel
theorem d2_16 : decode method_2_code 16 = .ok (.if_icmp .gt 7, 3) := by decide +kernel
theorem d2_19 : decode method_2_code 19 = .ok (.iconst 1, 1) := by decide +kernel
theorem d2_20 : decode method_2_code 20 = .ok (.goto 4, 3) := by decide +kernel
theorem d2_23 : decode method_2_code 23 = .ok (.iconst 0, 1) := by decide +kernel
theorem d2_24 : decode method_2_code 24 = .ok (.ireturn, 1) := by decide +kernel
theorem pn_2 : plainName "com/example/uptime_tally/uptimetally/RequestIsStatusPinLaw" = true := by first | (simp [plainName, overriddenIn]; done) | decide +kernel
theorem ef_2 (m : MethodId) (p0 : Int32) : entryFrame m #[(.int p0)] 2 = mkF m 0 #[.val (.int p0), .unset] [] := by first | (simp [entryFrame, mkF, argsToLocals, Value.category]; done) | rfl
def F2 (p0 : Int32) : Int32 := (if p0 < (0 : Int32) then (0 : Int32) else (if (p0 / (100 : Int32)) < (1 : Int32) then (0 : Int32) else (if (5 : Int32) < (p0 / (100 : Int32)) then (0 : Int32) else (1 : Int32))))
def Q2 (Z : State) (p0 : Int32) (h0 : Heap) (n0 : Nat) (v : Option Value) (h : Heap) (L : List Loc) : Prop := v = some (.int (F2 p0)) ∧ L = [] ∧ h = h0
set_option maxRecDepth 65536 in
set_option maxHeartbeats 40000000 in
theorem rm2 (l : Launch) (Z : State) (a0 : Array Value) (hw : ∀ d ∈ tables_1, d.before a0 Z = true) (ws : List Jvm.Cond) (p0 : Int32) (h0 : Heap) (n0 : Nat) (Z0 : n0 ≤ h0.size) :
    MetFree l (⟨"com/example/uptime_tally/uptimetally/RequestIsStatusPinLaw", "ref", "(I)Z"⟩ : MethodName) (head1 (Jvm.Cond.code (⟨"com/example/uptime_tally/uptimetally/RequestIsStatusPinLaw", "ref", "(I)Z"⟩ : MethodName) method_2_code 2 (some .boolean) :: ws) ({ frames := 0, cells := 0, slots := 0, locals := 0 } : Room)) (fun a U => a = #[(.int p0)] ∧ Z.Warmed39 U.vm ∧ U.heap = h0) (fun _ _ _ _ _ => True) (fun _ U o U' => ∃ v L, o = .returned v ∧ Q2 Z p0 h0 n0 v U'.heap L ∧ FrameEnd U o U' L ({ frames := 0, cells := 0, slots := 0, locals := 0 } : Room).cells ({ frames := 0, cells := 0, slots := 0, locals := 0 } : Room).slots) := by
  refine MetFree.of_bodySF (plainFor_of_name pn_2) hisR ?_
  intro p e s m args below meth c s₁ Bd hml0 hP hK
  obtain ⟨rfl, hZ, hh⟩ := hP
  have hx := Bd.exec
  have hby := Bd.bytes
  have hml : c.maxLocals = 2 := hml0
  have hown : s.vm.findClass "com/example/uptime_tally/uptimetally/RequestIsStatusPinLaw" = some m.cls := findClass_of_methodNamed Bd.named
  have hnm := (name_of_methodNamed Bd.named Bd.method).1
  have X0 : Stand p l e ({ frames := 0, cells := 0, slots := 0, locals := 0 } : Room) s m #[(.int p0)] below meth c s₁ [] 0 0 := Stand.of_body Bd
  have e0 : s₁.heap = h0 := by rw [← hh, Bd.state]; rfl
  have N0 := Fr.nil n0
  have pre0 : ∀ t, Steps p.tables e below (s₁.setTop (mkF m 0 #[.val (.int p0), .unset] [])) t → Steps p.tables e below (s₁.setTop (entryFrame m #[(.int p0)] 2)) t := fun t k => castTop (ef_2 m p0) k
  obtain ⟨v4_s0, Hv4_s0⟩ : ∃ z : Int32, z = (if p0 < (0 : Int32) then (0 : Int32) else (if (p0 / (100 : Int32)) < (1 : Int32) then (0 : Int32) else (if (5 : Int32) < (p0 / (100 : Int32)) then (0 : Int32) else (1 : Int32)))) := ⟨_, rfl⟩
  obtain ⟨T4, X4, e4, st4⟩ := own_seg X0 h0 (mkF m 6 #[.val (.int p0), .val (.int (p0 / (100 : Int32)))] [(.int p0)]) (mkF m 24 #[.val (.int p0), .val (.int (p0 / (100 : Int32)))] [(.int v4_s0)]) (by
    by_cases hc1 : p0 < (0 : Int32)
    · rw [if_pos hc1] at Hv4_s0
      refine ⟨s₁, X0, e0, fun target kt => ?_⟩
      rw [Hv4_s0] at kt
      show Steps p.tables e below (s₁.setTop (mkF m 6 #[.val (.int p0), .val (.int (p0 / (100 : Int32)))] [(.int p0)])) _
      refine XS.ifYes X0.here hx rfl (pc0 := 6) (pc' := 23) rfl (hb hby d2_6) rfl ((if0 _ _).trans (tlt hc1).1) (by decide) (by decide) ?_
      show Steps p.tables e below (s₁.setTop (mkF m 23 #[.val (.int p0), .val (.int (p0 / (100 : Int32)))] [])) _
      refine XS.iconst X0.here hx rfl (hb hby d2_23) ?_
      exact kt
    · by_cases hc2 : (p0 / (100 : Int32)) < (1 : Int32)
      · rw [if_neg hc1, if_pos hc2] at Hv4_s0
        refine ⟨s₁, X0, e0, fun target kt => ?_⟩
        rw [Hv4_s0] at kt
        show Steps p.tables e below (s₁.setTop (mkF m 6 #[.val (.int p0), .val (.int (p0 / (100 : Int32)))] [(.int p0)])) _
        refine XS.ifNo X0.here hx rfl (hb hby d2_6) rfl ((if0 _ _).trans (flt hc1).1) ?_
        show Steps p.tables e below (s₁.setTop (mkF m 9 #[.val (.int p0), .val (.int (p0 / (100 : Int32)))] [])) _
        refine XS.iloadN X0.here hx rfl (hb hby d2_9) rfl ?_
        show Steps p.tables e below (s₁.setTop (mkF m 10 #[.val (.int p0), .val (.int (p0 / (100 : Int32)))] [(.int (p0 / (100 : Int32)))])) _
        refine XS.iconst X0.here hx rfl (hb hby d2_10) ?_
        show Steps p.tables e below (s₁.setTop (mkF m 11 #[.val (.int p0), .val (.int (p0 / (100 : Int32)))] [(.int (1 : Int32)), (.int (p0 / (100 : Int32)))])) _
        refine XS.icmpYes X0.here hx rfl (pc0 := 11) (pc' := 23) rfl (hb hby d2_11) rfl (tlt hc2).1 (by decide) (by decide) ?_
        show Steps p.tables e below (s₁.setTop (mkF m 23 #[.val (.int p0), .val (.int (p0 / (100 : Int32)))] [])) _
        refine XS.iconst X0.here hx rfl (hb hby d2_23) ?_
        exact kt
      · by_cases hc3 : (5 : Int32) < (p0 / (100 : Int32))
        · rw [if_neg hc1, if_neg hc2, if_pos hc3] at Hv4_s0
          refine ⟨s₁, X0, e0, fun target kt => ?_⟩
          rw [Hv4_s0] at kt
          show Steps p.tables e below (s₁.setTop (mkF m 6 #[.val (.int p0), .val (.int (p0 / (100 : Int32)))] [(.int p0)])) _
          refine XS.ifNo X0.here hx rfl (hb hby d2_6) rfl ((if0 _ _).trans (flt hc1).1) ?_
          show Steps p.tables e below (s₁.setTop (mkF m 9 #[.val (.int p0), .val (.int (p0 / (100 : Int32)))] [])) _
          refine XS.iloadN X0.here hx rfl (hb hby d2_9) rfl ?_
          show Steps p.tables e below (s₁.setTop (mkF m 10 #[.val (.int p0), .val (.int (p0 / (100 : Int32)))] [(.int (p0 / (100 : Int32)))])) _
          refine XS.iconst X0.here hx rfl (hb hby d2_10) ?_
          show Steps p.tables e below (s₁.setTop (mkF m 11 #[.val (.int p0), .val (.int (p0 / (100 : Int32)))] [(.int (1 : Int32)), (.int (p0 / (100 : Int32)))])) _
          refine XS.icmpNo X0.here hx rfl (hb hby d2_11) rfl (flt hc2).1 ?_
          show Steps p.tables e below (s₁.setTop (mkF m 14 #[.val (.int p0), .val (.int (p0 / (100 : Int32)))] [])) _
          refine XS.iloadN X0.here hx rfl (hb hby d2_14) rfl ?_
          show Steps p.tables e below (s₁.setTop (mkF m 15 #[.val (.int p0), .val (.int (p0 / (100 : Int32)))] [(.int (p0 / (100 : Int32)))])) _
          refine XS.iconst X0.here hx rfl (hb hby d2_15) ?_
          show Steps p.tables e below (s₁.setTop (mkF m 16 #[.val (.int p0), .val (.int (p0 / (100 : Int32)))] [(.int (5 : Int32)), (.int (p0 / (100 : Int32)))])) _
          refine XS.icmpYes X0.here hx rfl (pc0 := 16) (pc' := 23) rfl (hb hby d2_16) rfl (tlt hc3).2.2.1 (by decide) (by decide) ?_
          show Steps p.tables e below (s₁.setTop (mkF m 23 #[.val (.int p0), .val (.int (p0 / (100 : Int32)))] [])) _
          refine XS.iconst X0.here hx rfl (hb hby d2_23) ?_
          exact kt
        · rw [if_neg hc1, if_neg hc2, if_neg hc3] at Hv4_s0
          refine ⟨s₁, X0, e0, fun target kt => ?_⟩
          rw [Hv4_s0] at kt
          show Steps p.tables e below (s₁.setTop (mkF m 6 #[.val (.int p0), .val (.int (p0 / (100 : Int32)))] [(.int p0)])) _
          refine XS.ifNo X0.here hx rfl (hb hby d2_6) rfl ((if0 _ _).trans (flt hc1).1) ?_
          show Steps p.tables e below (s₁.setTop (mkF m 9 #[.val (.int p0), .val (.int (p0 / (100 : Int32)))] [])) _
          refine XS.iloadN X0.here hx rfl (hb hby d2_9) rfl ?_
          show Steps p.tables e below (s₁.setTop (mkF m 10 #[.val (.int p0), .val (.int (p0 / (100 : Int32)))] [(.int (p0 / (100 : Int32)))])) _
          refine XS.iconst X0.here hx rfl (hb hby d2_10) ?_
          show Steps p.tables e below (s₁.setTop (mkF m 11 #[.val (.int p0), .val (.int (p0 / (100 : Int32)))] [(.int (1 : Int32)), (.int (p0 / (100 : Int32)))])) _
          refine XS.icmpNo X0.here hx rfl (hb hby d2_11) rfl (flt hc2).1 ?_
          show Steps p.tables e below (s₁.setTop (mkF m 14 #[.val (.int p0), .val (.int (p0 / (100 : Int32)))] [])) _
          refine XS.iloadN X0.here hx rfl (hb hby d2_14) rfl ?_
          show Steps p.tables e below (s₁.setTop (mkF m 15 #[.val (.int p0), .val (.int (p0 / (100 : Int32)))] [(.int (p0 / (100 : Int32)))])) _
          refine XS.iconst X0.here hx rfl (hb hby d2_15) ?_
          show Steps p.tables e below (s₁.setTop (mkF m 16 #[.val (.int p0), .val (.int (p0 / (100 : Int32)))] [(.int (5 : Int32)), (.int (p0 / (100 : Int32)))])) _
          refine XS.icmpNo X0.here hx rfl (hb hby d2_16) rfl (flt hc3).2.2.1 ?_
          show Steps p.tables e below (s₁.setTop (mkF m 19 #[.val (.int p0), .val (.int (p0 / (100 : Int32)))] [])) _
          refine XS.iconst X0.here hx rfl (hb hby d2_19) ?_
          show Steps p.tables e below (s₁.setTop (mkF m 20 #[.val (.int p0), .val (.int (p0 / (100 : Int32)))] [(.int (1 : Int32))])) _
          refine XS.goto X0.here hx rfl (pc0 := 20) (pc' := 24) rfl (hb hby d2_20) (by decide) (by decide) ?_
          exact kt)
  have hfin : nar .boolean v4_s0 = F2 p0 := by
    rw [Hv4_s0]; unfold F2
    first | rfl | (repeat' split) <;> rfl
  obtain ⟨fs, hr, hrun, hended, hW, hsame⟩ := X4.leave (v := some (.int (nar .boolean v4_s0))) (fun h => by rw [Bd.returns] at h; cases h)
  refine ⟨_, _, pre0 _ ?_, hrun, hended, _, _, rfl, ?_, ⟨_, rfl⟩, hW, hsame.mono (by decide) (by decide)⟩
  · show Steps p.tables e below (s₁.setTop (mkF m 0 #[.val (.int p0), .unset] [])) _
    refine XS.iloadN X0.here hx rfl (hb hby d2_0) rfl ?_
    show Steps p.tables e below (s₁.setTop (mkF m 1 #[.val (.int p0), .unset] [(.int p0)])) _
    refine XS.bipush X0.here hx rfl (hb hby d2_1) ?_
    show Steps p.tables e below (s₁.setTop (mkF m 3 #[.val (.int p0), .unset] [(.int (100 : Int32)), (.int p0)])) _
    refine XS.idiv X0.here hx rfl (hb hby d2_3) rfl (by decide) ?_
    show Steps p.tables e below (s₁.setTop (mkF m 4 #[.val (.int p0), .unset] [(.int (p0 / (100 : Int32)))])) _
    refine XS.istoreN X0.here hx rfl (hb hby d2_4) rfl (l' := #[.val (.int p0), .val (.int (p0 / (100 : Int32)))]) rfl ?_
    show Steps p.tables e below (s₁.setTop (mkF m 5 #[.val (.int p0), .val (.int (p0 / (100 : Int32)))] [])) _
    refine XS.iloadN X0.here hx rfl (hb hby d2_5) rfl ?_
    show Steps p.tables e below (s₁.setTop (mkF m 6 #[.val (.int p0), .val (.int (p0 / (100 : Int32)))] [(.int p0)])) _
    refine st4 _ ?_
    show Steps p.tables e below (T4.setTop (mkF m 24 #[.val (.int p0), .val (.int (p0 / (100 : Int32)))] [(.int v4_s0)])) _
    exact retN X4 hx (t := .boolean) Bd.returns (by simp) (hb hby d2_24) hr
  · show Q2 Z p0 h0 n0 _ T4.heap _
    exact ⟨congrArg (fun z => some (Value.int z)) hfin, rfl, e4⟩
theorem own_div (c : Int32) : (c / 100).toInt = c.toInt.tdiv 100 := Jvm.Kit.i32_div (fun h => absurd h.2 (by decide))
theorem own_core (c : Int32) : F1 c = F2 c := by
  have h1 := own_div c
  rw [Int.tdiv_eq_ediv, show Int.sign 100 = 1 from rfl] at h1
  have a0 : (0 : Int32).toInt = 0 := rfl
  have a1 : (1 : Int32).toInt = 1 := rfl
  have a5 : (5 : Int32).toInt = 5 := rfl
  have a6 : (599 : Int32).toInt = 599 := rfl
  have a7 : (100 : Int32).toInt = 100 := rfl
  have hr : (c.toInt / 100 = (c / 100).toInt ∧ 0 ≤ c.toInt) ∨ c.toInt < 0 := by split at h1 <;> omega
  unfold F1 F2
  by_cases x1 : c < 100
  · rw [if_pos x1]
    by_cases y1 : c < 0
    · rw [if_pos y1]
    · rw [if_neg y1, if_pos]
      rw [Int32.lt_iff_toInt_lt] at x1 y1 ⊢; omega
  · by_cases x2 : 599 < c
    · have y1 : ¬ c < 0 := by rw [Int32.lt_iff_toInt_lt] at x1 x2 ⊢; omega
      have y2 : ¬ c / 100 < 1 := by rw [Int32.lt_iff_toInt_lt] at x1 x2 y1 ⊢; omega
      have y3 : 5 < c / 100 := by rw [Int32.lt_iff_toInt_lt] at x1 x2 y1 ⊢; omega
      rw [if_neg x1, if_pos x2, if_neg y1, if_neg y2, if_pos y3]
    · have y1 : ¬ c < 0 := by rw [Int32.lt_iff_toInt_lt] at x1 x2 ⊢; omega
      have y2 : ¬ c / 100 < 1 := by rw [Int32.lt_iff_toInt_lt] at x1 x2 y1 ⊢; omega
      have y3 : ¬ 5 < c / 100 := by rw [Int32.lt_iff_toInt_lt] at x1 x2 y1 ⊢; omega
      rw [if_neg x1, if_neg x2, if_neg y1, if_neg y2, if_neg y3]
theorem plain_law (p0 : Int32) (p1 : Int32) (v13_s0 : Int32) (Hv13_s0 : v13_s0 = (if (F1 (99 : Int32)) = (0 : Int32) then (if (F1 (100 : Int32)) = (0 : Int32) then (0 : Int32) else (if (F1 (599 : Int32)) = (0 : Int32) then (0 : Int32) else (if (F1 (600 : Int32)) = (0 : Int32) then (if (F1 (-2147483648 : Int32)) = (0 : Int32) then (if (F1 (2147483647 : Int32)) = (0 : Int32) then (1 : Int32) else (0 : Int32)) else (0 : Int32)) else (0 : Int32)))) else (0 : Int32))) (v24_s0 : Int32) (Hv24_s0 : v24_s0 = (if v13_s0 = (0 : Int32) then (0 : Int32) else (if (F1 p0) = (F2 p0) then (if (F1 ((95 : Int32) + (p1 &&& (7 : Int32)))) = (F2 ((95 : Int32) + (p1 &&& (7 : Int32)))) then (if (F1 ((595 : Int32) + (((p1.toUInt32 >>> ((3 : Int32) &&& 31).toUInt32).toInt32) &&& (7 : Int32)))) = (F2 ((595 : Int32) + (((p1.toUInt32 >>> ((3 : Int32) &&& 31).toUInt32).toInt32) &&& (7 : Int32)))) then (1 : Int32) else (0 : Int32)) else (0 : Int32)) else (0 : Int32)))) : v24_s0 = 1 := by
  have h13 : v13_s0 = 1 := by rw [Hv13_s0]; decide
  rw [Hv24_s0, h13, if_neg (by decide), if_pos (own_core _), if_pos (own_core _), if_pos (own_core _)]

theorem pn_0 : plainName "com/example/uptime_tally/uptimetally/RequestIsStatusPinLaw" = true := by first | (simp [plainName, overriddenIn]; done) | decide +kernel
theorem pd_0_0 : parseMethodDescriptor "(I)Z" = some ⟨[.int], some .boolean⟩ := by decide +kernel
theorem ef_0 (m : MethodId) (p0 : Int32) (p1 : Int32) : entryFrame m #[(.int p0), (.int p1)] maxLocals = mkF m 0 #[.val (.int p0), .val (.int p1), .unset, .unset, .unset] [] := by first | (simp [entryFrame, mkF, argsToLocals, Value.category, maxLocals]; done) | rfl
set_option maxRecDepth 65536 in
set_option maxHeartbeats 40000000 in
theorem rm0 (l : Launch) (Z : State) (a0 : Array Value) (hw : ∀ d ∈ tables_1, d.before a0 Z = true) (ws : List Jvm.Cond) (p0 : Int32) (p1 : Int32) (h0 : Heap) (n0 : Nat) (Z0 : n0 ≤ h0.size) :
    MetFree l x (head1 (Jvm.Cond.code x code maxLocals ret :: ws) room_1) (fun a U => a = #[(.int p0), (.int p1)] ∧ Z.Warmed39 U.vm ∧ U.heap = h0) (fun _ _ _ _ _ => True) (fun _ U o U' => ∃ v L, o = .returned v ∧ (v = some (.int 1) ∧ Fr n0 L) ∧ FrameEnd U o U' L room_1.cells room_1.slots) := by
  refine MetFree.of_bodySF (plainFor_of_name pn_0) hisR ?_
  intro p e s m args below meth c s₁ Bd hml0 hP hK
  obtain ⟨rfl, hZ, hh⟩ := hP
  have hx := Bd.exec
  have hby := Bd.bytes
  have hml : c.maxLocals = 5 := hml0
  have hown : s.vm.findClass "com/example/uptime_tally/uptimetally/RequestIsStatusPinLaw" = some m.cls := findClass_of_methodNamed Bd.named
  have hnm := (name_of_methodNamed Bd.named Bd.method).1
  have X0 : Stand p l e room_1 s m #[(.int p0), (.int p1)] below meth c s₁ [] 0 0 := Stand.of_body Bd
  have e0 : s₁.heap = h0 := by rw [← hh, Bd.state]; rfl
  have N0 := Fr.nil n0
  have pre0 : ∀ t, Steps p.tables e below (s₁.setTop (mkF m 0 #[.val (.int p0), .val (.int p1), .unset, .unset, .unset] [])) t → Steps p.tables e below (s₁.setTop (entryFrame m #[(.int p0), (.int p1)] maxLocals)) t := fun t k => castTop (ef_0 m p0 p1) k
  obtain ⟨_, _, ⟨T1, L1, k1, n1⟩, -, X1, ⟨Lc1, hQ1, l1, y1, z1⟩, st1⟩ := Jvm.LawKit.callS X0 hx (y := (⟨"com/example/uptime_tally/uptimetally/Request", "isStatus", "(I)Z"⟩ : MethodName)) hown (mvT hZ (hw _ (List.mem_of_getElem? (i := 0) rfl))) (mvT hZ (hw _ (List.mem_of_getElem? (i := 1) rfl))) (mvT hZ (hw _ (List.mem_of_getElem? (i := 2) rfl))) (mvT hZ (hw _ (List.mem_of_getElem? (i := 3) rfl))) (by decide) (backOf (W := 0) (rm1 l Z a0 hw [] (99 : Int32) h0 n0 Z0) hZ (hw _ (List.mem_of_getElem? (i := 3) rfl)) (hw _ (List.mem_of_getElem? (i := 2) rfl)) (by decide) (by decide)) (g := (mkF m 21 #[.val (.int p0), .val (.int p1), .val (.int ((95 : Int32) + (p1 &&& (7 : Int32)))), .val (.int ((595 : Int32) + (((p1.toUInt32 >>> ((3 : Int32) &&& 31).toUInt32).toInt32) &&& (7 : Int32)))), .unset] [(.int (99 : Int32))])) rfl (by rw [hml]; rfl) (argsL := [(.int (99 : Int32))]) (rest := []) (lenOf pd_0_0 rfl) rfl (by show 2 * 0 + _ ≤ _; exact Nat.le_of_eq rfl) (hb hby at_21) (fun _ _ => ⟨rfl, e0, (by decide : 0 + 0 ≤ _), (by decide : 0 + 0 ≤ _)⟩)
  dsimp only [Pt.U, Pt.locs, Pt.cells, Pt.slots] at X1 l1 y1 z1 st1 hQ1
  subst l1 y1 z1
  obtain ⟨rfl, rfl, e1⟩ := hQ1
  try rw [List.append_nil] at X1
  obtain ⟨v13_s0, Hv13_s0⟩ : ∃ z : Int32, z = (if (F1 (99 : Int32)) = (0 : Int32) then (if (F1 (100 : Int32)) = (0 : Int32) then (0 : Int32) else (if (F1 (599 : Int32)) = (0 : Int32) then (0 : Int32) else (if (F1 (600 : Int32)) = (0 : Int32) then (if (F1 (-2147483648 : Int32)) = (0 : Int32) then (if (F1 (2147483647 : Int32)) = (0 : Int32) then (1 : Int32) else (0 : Int32)) else (0 : Int32)) else (0 : Int32)))) else (0 : Int32)) := ⟨_, rfl⟩
  obtain ⟨T13, X13, e13, st13⟩ := own_seg X1 h0 (mkF m 24 #[.val (.int p0), .val (.int p1), .val (.int ((95 : Int32) + (p1 &&& (7 : Int32)))), .val (.int ((595 : Int32) + (((p1.toUInt32 >>> ((3 : Int32) &&& 31).toUInt32).toInt32) &&& (7 : Int32)))), .unset] [(.int (F1 (99 : Int32)))]) (mkF m 74 #[.val (.int p0), .val (.int p1), .val (.int ((95 : Int32) + (p1 &&& (7 : Int32)))), .val (.int ((595 : Int32) + (((p1.toUInt32 >>> ((3 : Int32) &&& 31).toUInt32).toInt32) &&& (7 : Int32)))), .unset] [(.int v13_s0)]) (by
    by_cases hc2 : (F1 (99 : Int32)) = (0 : Int32)
    · obtain ⟨_, _, ⟨T3, L3, k3, n3⟩, -, X3, ⟨Lc3, hQ3, l3, y3, z3⟩, st3⟩ := Jvm.LawKit.callS X1 hx (y := (⟨"com/example/uptime_tally/uptimetally/Request", "isStatus", "(I)Z"⟩ : MethodName)) hown (mvT hZ (hw _ (List.mem_of_getElem? (i := 0) rfl))) (mvT hZ (hw _ (List.mem_of_getElem? (i := 1) rfl))) (mvT hZ (hw _ (List.mem_of_getElem? (i := 2) rfl))) (mvT hZ (hw _ (List.mem_of_getElem? (i := 3) rfl))) (by decide) (backOf (W := 0) (rm1 l Z a0 hw [] (100 : Int32) h0 n0 Z0) hZ (hw _ (List.mem_of_getElem? (i := 3) rfl)) (hw _ (List.mem_of_getElem? (i := 2) rfl)) (by decide) (by decide)) (g := (mkF m 29 #[.val (.int p0), .val (.int p1), .val (.int ((95 : Int32) + (p1 &&& (7 : Int32)))), .val (.int ((595 : Int32) + (((p1.toUInt32 >>> ((3 : Int32) &&& 31).toUInt32).toInt32) &&& (7 : Int32)))), .unset] [(.int (100 : Int32))])) rfl (by rw [hml]; rfl) (argsL := [(.int (100 : Int32))]) (rest := []) (lenOf pd_0_0 rfl) rfl (by show 2 * 0 + _ ≤ _; exact Nat.le_of_eq rfl) (hb hby at_29) (fun _ _ => ⟨rfl, e1, (by decide : 0 + 0 ≤ _), (by decide : 0 + 0 ≤ _)⟩)
      dsimp only [Pt.U, Pt.locs, Pt.cells, Pt.slots] at X3 l3 y3 z3 st3 hQ3
      subst l3 y3 z3
      obtain ⟨rfl, rfl, e3⟩ := hQ3
      try rw [List.append_nil] at X3
      by_cases hc4 : (F1 (100 : Int32)) = (0 : Int32)
      · rw [if_pos hc2, if_pos hc4] at Hv13_s0
        refine ⟨T3, X3, e3, fun target kt => ?_⟩
        rw [Hv13_s0] at kt
        show Steps p.tables e below (T1.setTop (mkF m 24 #[.val (.int p0), .val (.int p1), .val (.int ((95 : Int32) + (p1 &&& (7 : Int32)))), .val (.int ((595 : Int32) + (((p1.toUInt32 >>> ((3 : Int32) &&& 31).toUInt32).toInt32) &&& (7 : Int32)))), .unset] [(.int (F1 (99 : Int32)))])) _
        refine XS.ifNo X1.here hx rfl (hb hby at_24) rfl ((if0 _ _).trans (teq hc2).2) ?_
        show Steps p.tables e below (T1.setTop (mkF m 27 #[.val (.int p0), .val (.int p1), .val (.int ((95 : Int32) + (p1 &&& (7 : Int32)))), .val (.int ((595 : Int32) + (((p1.toUInt32 >>> ((3 : Int32) &&& 31).toUInt32).toInt32) &&& (7 : Int32)))), .unset] [])) _
        refine XS.bipush X1.here hx rfl (hb hby at_27) ?_
        show Steps p.tables e below (T1.setTop (mkF m 29 #[.val (.int p0), .val (.int p1), .val (.int ((95 : Int32) + (p1 &&& (7 : Int32)))), .val (.int ((595 : Int32) + (((p1.toUInt32 >>> ((3 : Int32) &&& 31).toUInt32).toInt32) &&& (7 : Int32)))), .unset] [(.int (100 : Int32))])) _
        refine st3 _ ?_
        show Steps p.tables e below (T3.setTop (mkF m 32 #[.val (.int p0), .val (.int p1), .val (.int ((95 : Int32) + (p1 &&& (7 : Int32)))), .val (.int ((595 : Int32) + (((p1.toUInt32 >>> ((3 : Int32) &&& 31).toUInt32).toInt32) &&& (7 : Int32)))), .unset] [(.int (F1 (100 : Int32)))])) _
        refine XS.ifYes X3.here hx rfl (pc0 := 32) (pc' := 73) rfl (hb hby at_32) rfl ((if0 _ _).trans (teq hc4).1) (by decide) (by decide) ?_
        show Steps p.tables e below (T3.setTop (mkF m 73 #[.val (.int p0), .val (.int p1), .val (.int ((95 : Int32) + (p1 &&& (7 : Int32)))), .val (.int ((595 : Int32) + (((p1.toUInt32 >>> ((3 : Int32) &&& 31).toUInt32).toInt32) &&& (7 : Int32)))), .unset] [])) _
        refine XS.iconst X3.here hx rfl (hb hby at_73) ?_
        exact kt
      · obtain ⟨_, _, ⟨T5, L5, k5, n5⟩, -, X5, ⟨Lc5, hQ5, l5, y5, z5⟩, st5⟩ := Jvm.LawKit.callS X3 hx (y := (⟨"com/example/uptime_tally/uptimetally/Request", "isStatus", "(I)Z"⟩ : MethodName)) hown (mvT hZ (hw _ (List.mem_of_getElem? (i := 0) rfl))) (mvT hZ (hw _ (List.mem_of_getElem? (i := 1) rfl))) (mvT hZ (hw _ (List.mem_of_getElem? (i := 2) rfl))) (mvT hZ (hw _ (List.mem_of_getElem? (i := 3) rfl))) (by decide) (backOf (W := 0) (rm1 l Z a0 hw [] (599 : Int32) h0 n0 Z0) hZ (hw _ (List.mem_of_getElem? (i := 3) rfl)) (hw _ (List.mem_of_getElem? (i := 2) rfl)) (by decide) (by decide)) (g := (mkF m 38 #[.val (.int p0), .val (.int p1), .val (.int ((95 : Int32) + (p1 &&& (7 : Int32)))), .val (.int ((595 : Int32) + (((p1.toUInt32 >>> ((3 : Int32) &&& 31).toUInt32).toInt32) &&& (7 : Int32)))), .unset] [(.int (599 : Int32))])) rfl (by rw [hml]; rfl) (argsL := [(.int (599 : Int32))]) (rest := []) (lenOf pd_0_0 rfl) rfl (by show 2 * 0 + _ ≤ _; exact Nat.le_of_eq rfl) (hb hby at_38) (fun _ _ => ⟨rfl, e3, (by decide : 0 + 0 ≤ _), (by decide : 0 + 0 ≤ _)⟩)
        dsimp only [Pt.U, Pt.locs, Pt.cells, Pt.slots] at X5 l5 y5 z5 st5 hQ5
        subst l5 y5 z5
        obtain ⟨rfl, rfl, e5⟩ := hQ5
        try rw [List.append_nil] at X5
        by_cases hc6 : (F1 (599 : Int32)) = (0 : Int32)
        · rw [if_pos hc2, if_neg hc4, if_pos hc6] at Hv13_s0
          refine ⟨T5, X5, e5, fun target kt => ?_⟩
          rw [Hv13_s0] at kt
          show Steps p.tables e below (T1.setTop (mkF m 24 #[.val (.int p0), .val (.int p1), .val (.int ((95 : Int32) + (p1 &&& (7 : Int32)))), .val (.int ((595 : Int32) + (((p1.toUInt32 >>> ((3 : Int32) &&& 31).toUInt32).toInt32) &&& (7 : Int32)))), .unset] [(.int (F1 (99 : Int32)))])) _
          refine XS.ifNo X1.here hx rfl (hb hby at_24) rfl ((if0 _ _).trans (teq hc2).2) ?_
          show Steps p.tables e below (T1.setTop (mkF m 27 #[.val (.int p0), .val (.int p1), .val (.int ((95 : Int32) + (p1 &&& (7 : Int32)))), .val (.int ((595 : Int32) + (((p1.toUInt32 >>> ((3 : Int32) &&& 31).toUInt32).toInt32) &&& (7 : Int32)))), .unset] [])) _
          refine XS.bipush X1.here hx rfl (hb hby at_27) ?_
          show Steps p.tables e below (T1.setTop (mkF m 29 #[.val (.int p0), .val (.int p1), .val (.int ((95 : Int32) + (p1 &&& (7 : Int32)))), .val (.int ((595 : Int32) + (((p1.toUInt32 >>> ((3 : Int32) &&& 31).toUInt32).toInt32) &&& (7 : Int32)))), .unset] [(.int (100 : Int32))])) _
          refine st3 _ ?_
          show Steps p.tables e below (T3.setTop (mkF m 32 #[.val (.int p0), .val (.int p1), .val (.int ((95 : Int32) + (p1 &&& (7 : Int32)))), .val (.int ((595 : Int32) + (((p1.toUInt32 >>> ((3 : Int32) &&& 31).toUInt32).toInt32) &&& (7 : Int32)))), .unset] [(.int (F1 (100 : Int32)))])) _
          refine XS.ifNo X3.here hx rfl (hb hby at_32) rfl ((if0 _ _).trans (feq hc4).1) ?_
          show Steps p.tables e below (T3.setTop (mkF m 35 #[.val (.int p0), .val (.int p1), .val (.int ((95 : Int32) + (p1 &&& (7 : Int32)))), .val (.int ((595 : Int32) + (((p1.toUInt32 >>> ((3 : Int32) &&& 31).toUInt32).toInt32) &&& (7 : Int32)))), .unset] [])) _
          refine XS.sipush X3.here hx rfl (hb hby at_35) ?_
          show Steps p.tables e below (T3.setTop (mkF m 38 #[.val (.int p0), .val (.int p1), .val (.int ((95 : Int32) + (p1 &&& (7 : Int32)))), .val (.int ((595 : Int32) + (((p1.toUInt32 >>> ((3 : Int32) &&& 31).toUInt32).toInt32) &&& (7 : Int32)))), .unset] [(.int (599 : Int32))])) _
          refine st5 _ ?_
          show Steps p.tables e below (T5.setTop (mkF m 41 #[.val (.int p0), .val (.int p1), .val (.int ((95 : Int32) + (p1 &&& (7 : Int32)))), .val (.int ((595 : Int32) + (((p1.toUInt32 >>> ((3 : Int32) &&& 31).toUInt32).toInt32) &&& (7 : Int32)))), .unset] [(.int (F1 (599 : Int32)))])) _
          refine XS.ifYes X5.here hx rfl (pc0 := 41) (pc' := 73) rfl (hb hby at_41) rfl ((if0 _ _).trans (teq hc6).1) (by decide) (by decide) ?_
          show Steps p.tables e below (T5.setTop (mkF m 73 #[.val (.int p0), .val (.int p1), .val (.int ((95 : Int32) + (p1 &&& (7 : Int32)))), .val (.int ((595 : Int32) + (((p1.toUInt32 >>> ((3 : Int32) &&& 31).toUInt32).toInt32) &&& (7 : Int32)))), .unset] [])) _
          refine XS.iconst X5.here hx rfl (hb hby at_73) ?_
          exact kt
        · obtain ⟨_, _, ⟨T7, L7, k7, n7⟩, -, X7, ⟨Lc7, hQ7, l7, y7, z7⟩, st7⟩ := Jvm.LawKit.callS X5 hx (y := (⟨"com/example/uptime_tally/uptimetally/Request", "isStatus", "(I)Z"⟩ : MethodName)) hown (mvT hZ (hw _ (List.mem_of_getElem? (i := 0) rfl))) (mvT hZ (hw _ (List.mem_of_getElem? (i := 1) rfl))) (mvT hZ (hw _ (List.mem_of_getElem? (i := 2) rfl))) (mvT hZ (hw _ (List.mem_of_getElem? (i := 3) rfl))) (by decide) (backOf (W := 0) (rm1 l Z a0 hw [] (600 : Int32) h0 n0 Z0) hZ (hw _ (List.mem_of_getElem? (i := 3) rfl)) (hw _ (List.mem_of_getElem? (i := 2) rfl)) (by decide) (by decide)) (g := (mkF m 47 #[.val (.int p0), .val (.int p1), .val (.int ((95 : Int32) + (p1 &&& (7 : Int32)))), .val (.int ((595 : Int32) + (((p1.toUInt32 >>> ((3 : Int32) &&& 31).toUInt32).toInt32) &&& (7 : Int32)))), .unset] [(.int (600 : Int32))])) rfl (by rw [hml]; rfl) (argsL := [(.int (600 : Int32))]) (rest := []) (lenOf pd_0_0 rfl) rfl (by show 2 * 0 + _ ≤ _; exact Nat.le_of_eq rfl) (hb hby at_47) (fun _ _ => ⟨rfl, e5, (by decide : 0 + 0 ≤ _), (by decide : 0 + 0 ≤ _)⟩)
          dsimp only [Pt.U, Pt.locs, Pt.cells, Pt.slots] at X7 l7 y7 z7 st7 hQ7
          subst l7 y7 z7
          obtain ⟨rfl, rfl, e7⟩ := hQ7
          try rw [List.append_nil] at X7
          by_cases hc8 : (F1 (600 : Int32)) = (0 : Int32)
          · obtain ⟨_, _, ⟨T9, L9, k9, n9⟩, -, X9, ⟨Lc9, hQ9, l9, y9, z9⟩, st9⟩ := Jvm.LawKit.callS X7 hx (y := (⟨"com/example/uptime_tally/uptimetally/Request", "isStatus", "(I)Z"⟩ : MethodName)) hown (mvT hZ (hw _ (List.mem_of_getElem? (i := 0) rfl))) (mvT hZ (hw _ (List.mem_of_getElem? (i := 1) rfl))) (mvT hZ (hw _ (List.mem_of_getElem? (i := 2) rfl))) (mvT hZ (hw _ (List.mem_of_getElem? (i := 3) rfl))) (by decide) (backOf (W := 0) (rm1 l Z a0 hw [] (-2147483648 : Int32) h0 n0 Z0) hZ (hw _ (List.mem_of_getElem? (i := 3) rfl)) (hw _ (List.mem_of_getElem? (i := 2) rfl)) (by decide) (by decide)) (g := (mkF m 55 #[.val (.int p0), .val (.int p1), .val (.int ((95 : Int32) + (p1 &&& (7 : Int32)))), .val (.int ((595 : Int32) + (((p1.toUInt32 >>> ((3 : Int32) &&& 31).toUInt32).toInt32) &&& (7 : Int32)))), .unset] [(.int (-2147483648 : Int32))])) rfl (by rw [hml]; rfl) (argsL := [(.int (-2147483648 : Int32))]) (rest := []) (lenOf pd_0_0 rfl) rfl (by show 2 * 0 + _ ≤ _; exact Nat.le_of_eq rfl) (hb hby at_55) (fun _ _ => ⟨rfl, e7, (by decide : 0 + 0 ≤ _), (by decide : 0 + 0 ≤ _)⟩)
            dsimp only [Pt.U, Pt.locs, Pt.cells, Pt.slots] at X9 l9 y9 z9 st9 hQ9
            subst l9 y9 z9
            obtain ⟨rfl, rfl, e9⟩ := hQ9
            try rw [List.append_nil] at X9
            by_cases hc10 : (F1 (-2147483648 : Int32)) = (0 : Int32)
            · obtain ⟨_, _, ⟨T11, L11, k11, n11⟩, -, X11, ⟨Lc11, hQ11, l11, y11, z11⟩, st11⟩ := Jvm.LawKit.callS X9 hx (y := (⟨"com/example/uptime_tally/uptimetally/Request", "isStatus", "(I)Z"⟩ : MethodName)) hown (mvT hZ (hw _ (List.mem_of_getElem? (i := 0) rfl))) (mvT hZ (hw _ (List.mem_of_getElem? (i := 1) rfl))) (mvT hZ (hw _ (List.mem_of_getElem? (i := 2) rfl))) (mvT hZ (hw _ (List.mem_of_getElem? (i := 3) rfl))) (by decide) (backOf (W := 0) (rm1 l Z a0 hw [] (2147483647 : Int32) h0 n0 Z0) hZ (hw _ (List.mem_of_getElem? (i := 3) rfl)) (hw _ (List.mem_of_getElem? (i := 2) rfl)) (by decide) (by decide)) (g := (mkF m 63 #[.val (.int p0), .val (.int p1), .val (.int ((95 : Int32) + (p1 &&& (7 : Int32)))), .val (.int ((595 : Int32) + (((p1.toUInt32 >>> ((3 : Int32) &&& 31).toUInt32).toInt32) &&& (7 : Int32)))), .unset] [(.int (2147483647 : Int32))])) rfl (by rw [hml]; rfl) (argsL := [(.int (2147483647 : Int32))]) (rest := []) (lenOf pd_0_0 rfl) rfl (by show 2 * 0 + _ ≤ _; exact Nat.le_of_eq rfl) (hb hby at_63) (fun _ _ => ⟨rfl, e9, (by decide : 0 + 0 ≤ _), (by decide : 0 + 0 ≤ _)⟩)
              dsimp only [Pt.U, Pt.locs, Pt.cells, Pt.slots] at X11 l11 y11 z11 st11 hQ11
              subst l11 y11 z11
              obtain ⟨rfl, rfl, e11⟩ := hQ11
              try rw [List.append_nil] at X11
              by_cases hc12 : (F1 (2147483647 : Int32)) = (0 : Int32)
              · rw [if_pos hc2, if_neg hc4, if_neg hc6, if_pos hc8, if_pos hc10, if_pos hc12] at Hv13_s0
                refine ⟨T11, X11, e11, fun target kt => ?_⟩
                rw [Hv13_s0] at kt
                show Steps p.tables e below (T1.setTop (mkF m 24 #[.val (.int p0), .val (.int p1), .val (.int ((95 : Int32) + (p1 &&& (7 : Int32)))), .val (.int ((595 : Int32) + (((p1.toUInt32 >>> ((3 : Int32) &&& 31).toUInt32).toInt32) &&& (7 : Int32)))), .unset] [(.int (F1 (99 : Int32)))])) _
                refine XS.ifNo X1.here hx rfl (hb hby at_24) rfl ((if0 _ _).trans (teq hc2).2) ?_
                show Steps p.tables e below (T1.setTop (mkF m 27 #[.val (.int p0), .val (.int p1), .val (.int ((95 : Int32) + (p1 &&& (7 : Int32)))), .val (.int ((595 : Int32) + (((p1.toUInt32 >>> ((3 : Int32) &&& 31).toUInt32).toInt32) &&& (7 : Int32)))), .unset] [])) _
                refine XS.bipush X1.here hx rfl (hb hby at_27) ?_
                show Steps p.tables e below (T1.setTop (mkF m 29 #[.val (.int p0), .val (.int p1), .val (.int ((95 : Int32) + (p1 &&& (7 : Int32)))), .val (.int ((595 : Int32) + (((p1.toUInt32 >>> ((3 : Int32) &&& 31).toUInt32).toInt32) &&& (7 : Int32)))), .unset] [(.int (100 : Int32))])) _
                refine st3 _ ?_
                show Steps p.tables e below (T3.setTop (mkF m 32 #[.val (.int p0), .val (.int p1), .val (.int ((95 : Int32) + (p1 &&& (7 : Int32)))), .val (.int ((595 : Int32) + (((p1.toUInt32 >>> ((3 : Int32) &&& 31).toUInt32).toInt32) &&& (7 : Int32)))), .unset] [(.int (F1 (100 : Int32)))])) _
                refine XS.ifNo X3.here hx rfl (hb hby at_32) rfl ((if0 _ _).trans (feq hc4).1) ?_
                show Steps p.tables e below (T3.setTop (mkF m 35 #[.val (.int p0), .val (.int p1), .val (.int ((95 : Int32) + (p1 &&& (7 : Int32)))), .val (.int ((595 : Int32) + (((p1.toUInt32 >>> ((3 : Int32) &&& 31).toUInt32).toInt32) &&& (7 : Int32)))), .unset] [])) _
                refine XS.sipush X3.here hx rfl (hb hby at_35) ?_
                show Steps p.tables e below (T3.setTop (mkF m 38 #[.val (.int p0), .val (.int p1), .val (.int ((95 : Int32) + (p1 &&& (7 : Int32)))), .val (.int ((595 : Int32) + (((p1.toUInt32 >>> ((3 : Int32) &&& 31).toUInt32).toInt32) &&& (7 : Int32)))), .unset] [(.int (599 : Int32))])) _
                refine st5 _ ?_
                show Steps p.tables e below (T5.setTop (mkF m 41 #[.val (.int p0), .val (.int p1), .val (.int ((95 : Int32) + (p1 &&& (7 : Int32)))), .val (.int ((595 : Int32) + (((p1.toUInt32 >>> ((3 : Int32) &&& 31).toUInt32).toInt32) &&& (7 : Int32)))), .unset] [(.int (F1 (599 : Int32)))])) _
                refine XS.ifNo X5.here hx rfl (hb hby at_41) rfl ((if0 _ _).trans (feq hc6).1) ?_
                show Steps p.tables e below (T5.setTop (mkF m 44 #[.val (.int p0), .val (.int p1), .val (.int ((95 : Int32) + (p1 &&& (7 : Int32)))), .val (.int ((595 : Int32) + (((p1.toUInt32 >>> ((3 : Int32) &&& 31).toUInt32).toInt32) &&& (7 : Int32)))), .unset] [])) _
                refine XS.sipush X5.here hx rfl (hb hby at_44) ?_
                show Steps p.tables e below (T5.setTop (mkF m 47 #[.val (.int p0), .val (.int p1), .val (.int ((95 : Int32) + (p1 &&& (7 : Int32)))), .val (.int ((595 : Int32) + (((p1.toUInt32 >>> ((3 : Int32) &&& 31).toUInt32).toInt32) &&& (7 : Int32)))), .unset] [(.int (600 : Int32))])) _
                refine st7 _ ?_
                show Steps p.tables e below (T7.setTop (mkF m 50 #[.val (.int p0), .val (.int p1), .val (.int ((95 : Int32) + (p1 &&& (7 : Int32)))), .val (.int ((595 : Int32) + (((p1.toUInt32 >>> ((3 : Int32) &&& 31).toUInt32).toInt32) &&& (7 : Int32)))), .unset] [(.int (F1 (600 : Int32)))])) _
                refine XS.ifNo X7.here hx rfl (hb hby at_50) rfl ((if0 _ _).trans (teq hc8).2) ?_
                show Steps p.tables e below (T7.setTop (mkF m 53 #[.val (.int p0), .val (.int p1), .val (.int ((95 : Int32) + (p1 &&& (7 : Int32)))), .val (.int ((595 : Int32) + (((p1.toUInt32 >>> ((3 : Int32) &&& 31).toUInt32).toInt32) &&& (7 : Int32)))), .unset] [])) _
                refine X7.ldcInt hx hown (mvT hZ (hw _ (List.mem_of_getElem? (i := 4) rfl))) (g := (mkF m 53 #[.val (.int p0), .val (.int p1), .val (.int ((95 : Int32) + (p1 &&& (7 : Int32)))), .val (.int ((595 : Int32) + (((p1.toUInt32 >>> ((3 : Int32) &&& 31).toUInt32).toInt32) &&& (7 : Int32)))), .unset] [])) rfl (hb hby at_53) _ ?_
                show Steps p.tables e below (T7.setTop (mkF m 55 #[.val (.int p0), .val (.int p1), .val (.int ((95 : Int32) + (p1 &&& (7 : Int32)))), .val (.int ((595 : Int32) + (((p1.toUInt32 >>> ((3 : Int32) &&& 31).toUInt32).toInt32) &&& (7 : Int32)))), .unset] [(.int (-2147483648 : Int32))])) _
                refine st9 _ ?_
                show Steps p.tables e below (T9.setTop (mkF m 58 #[.val (.int p0), .val (.int p1), .val (.int ((95 : Int32) + (p1 &&& (7 : Int32)))), .val (.int ((595 : Int32) + (((p1.toUInt32 >>> ((3 : Int32) &&& 31).toUInt32).toInt32) &&& (7 : Int32)))), .unset] [(.int (F1 (-2147483648 : Int32)))])) _
                refine XS.ifNo X9.here hx rfl (hb hby at_58) rfl ((if0 _ _).trans (teq hc10).2) ?_
                show Steps p.tables e below (T9.setTop (mkF m 61 #[.val (.int p0), .val (.int p1), .val (.int ((95 : Int32) + (p1 &&& (7 : Int32)))), .val (.int ((595 : Int32) + (((p1.toUInt32 >>> ((3 : Int32) &&& 31).toUInt32).toInt32) &&& (7 : Int32)))), .unset] [])) _
                refine X9.ldcInt hx hown (mvT hZ (hw _ (List.mem_of_getElem? (i := 5) rfl))) (g := (mkF m 61 #[.val (.int p0), .val (.int p1), .val (.int ((95 : Int32) + (p1 &&& (7 : Int32)))), .val (.int ((595 : Int32) + (((p1.toUInt32 >>> ((3 : Int32) &&& 31).toUInt32).toInt32) &&& (7 : Int32)))), .unset] [])) rfl (hb hby at_61) _ ?_
                show Steps p.tables e below (T9.setTop (mkF m 63 #[.val (.int p0), .val (.int p1), .val (.int ((95 : Int32) + (p1 &&& (7 : Int32)))), .val (.int ((595 : Int32) + (((p1.toUInt32 >>> ((3 : Int32) &&& 31).toUInt32).toInt32) &&& (7 : Int32)))), .unset] [(.int (2147483647 : Int32))])) _
                refine st11 _ ?_
                show Steps p.tables e below (T11.setTop (mkF m 66 #[.val (.int p0), .val (.int p1), .val (.int ((95 : Int32) + (p1 &&& (7 : Int32)))), .val (.int ((595 : Int32) + (((p1.toUInt32 >>> ((3 : Int32) &&& 31).toUInt32).toInt32) &&& (7 : Int32)))), .unset] [(.int (F1 (2147483647 : Int32)))])) _
                refine XS.ifNo X11.here hx rfl (hb hby at_66) rfl ((if0 _ _).trans (teq hc12).2) ?_
                show Steps p.tables e below (T11.setTop (mkF m 69 #[.val (.int p0), .val (.int p1), .val (.int ((95 : Int32) + (p1 &&& (7 : Int32)))), .val (.int ((595 : Int32) + (((p1.toUInt32 >>> ((3 : Int32) &&& 31).toUInt32).toInt32) &&& (7 : Int32)))), .unset] [])) _
                refine XS.iconst X11.here hx rfl (hb hby at_69) ?_
                show Steps p.tables e below (T11.setTop (mkF m 70 #[.val (.int p0), .val (.int p1), .val (.int ((95 : Int32) + (p1 &&& (7 : Int32)))), .val (.int ((595 : Int32) + (((p1.toUInt32 >>> ((3 : Int32) &&& 31).toUInt32).toInt32) &&& (7 : Int32)))), .unset] [(.int (1 : Int32))])) _
                refine XS.goto X11.here hx rfl (pc0 := 70) (pc' := 74) rfl (hb hby at_70) (by decide) (by decide) ?_
                exact kt
              · rw [if_pos hc2, if_neg hc4, if_neg hc6, if_pos hc8, if_pos hc10, if_neg hc12] at Hv13_s0
                refine ⟨T11, X11, e11, fun target kt => ?_⟩
                rw [Hv13_s0] at kt
                show Steps p.tables e below (T1.setTop (mkF m 24 #[.val (.int p0), .val (.int p1), .val (.int ((95 : Int32) + (p1 &&& (7 : Int32)))), .val (.int ((595 : Int32) + (((p1.toUInt32 >>> ((3 : Int32) &&& 31).toUInt32).toInt32) &&& (7 : Int32)))), .unset] [(.int (F1 (99 : Int32)))])) _
                refine XS.ifNo X1.here hx rfl (hb hby at_24) rfl ((if0 _ _).trans (teq hc2).2) ?_
                show Steps p.tables e below (T1.setTop (mkF m 27 #[.val (.int p0), .val (.int p1), .val (.int ((95 : Int32) + (p1 &&& (7 : Int32)))), .val (.int ((595 : Int32) + (((p1.toUInt32 >>> ((3 : Int32) &&& 31).toUInt32).toInt32) &&& (7 : Int32)))), .unset] [])) _
                refine XS.bipush X1.here hx rfl (hb hby at_27) ?_
                show Steps p.tables e below (T1.setTop (mkF m 29 #[.val (.int p0), .val (.int p1), .val (.int ((95 : Int32) + (p1 &&& (7 : Int32)))), .val (.int ((595 : Int32) + (((p1.toUInt32 >>> ((3 : Int32) &&& 31).toUInt32).toInt32) &&& (7 : Int32)))), .unset] [(.int (100 : Int32))])) _
                refine st3 _ ?_
                show Steps p.tables e below (T3.setTop (mkF m 32 #[.val (.int p0), .val (.int p1), .val (.int ((95 : Int32) + (p1 &&& (7 : Int32)))), .val (.int ((595 : Int32) + (((p1.toUInt32 >>> ((3 : Int32) &&& 31).toUInt32).toInt32) &&& (7 : Int32)))), .unset] [(.int (F1 (100 : Int32)))])) _
                refine XS.ifNo X3.here hx rfl (hb hby at_32) rfl ((if0 _ _).trans (feq hc4).1) ?_
                show Steps p.tables e below (T3.setTop (mkF m 35 #[.val (.int p0), .val (.int p1), .val (.int ((95 : Int32) + (p1 &&& (7 : Int32)))), .val (.int ((595 : Int32) + (((p1.toUInt32 >>> ((3 : Int32) &&& 31).toUInt32).toInt32) &&& (7 : Int32)))), .unset] [])) _
                refine XS.sipush X3.here hx rfl (hb hby at_35) ?_
                show Steps p.tables e below (T3.setTop (mkF m 38 #[.val (.int p0), .val (.int p1), .val (.int ((95 : Int32) + (p1 &&& (7 : Int32)))), .val (.int ((595 : Int32) + (((p1.toUInt32 >>> ((3 : Int32) &&& 31).toUInt32).toInt32) &&& (7 : Int32)))), .unset] [(.int (599 : Int32))])) _
                refine st5 _ ?_
                show Steps p.tables e below (T5.setTop (mkF m 41 #[.val (.int p0), .val (.int p1), .val (.int ((95 : Int32) + (p1 &&& (7 : Int32)))), .val (.int ((595 : Int32) + (((p1.toUInt32 >>> ((3 : Int32) &&& 31).toUInt32).toInt32) &&& (7 : Int32)))), .unset] [(.int (F1 (599 : Int32)))])) _
                refine XS.ifNo X5.here hx rfl (hb hby at_41) rfl ((if0 _ _).trans (feq hc6).1) ?_
                show Steps p.tables e below (T5.setTop (mkF m 44 #[.val (.int p0), .val (.int p1), .val (.int ((95 : Int32) + (p1 &&& (7 : Int32)))), .val (.int ((595 : Int32) + (((p1.toUInt32 >>> ((3 : Int32) &&& 31).toUInt32).toInt32) &&& (7 : Int32)))), .unset] [])) _
                refine XS.sipush X5.here hx rfl (hb hby at_44) ?_
                show Steps p.tables e below (T5.setTop (mkF m 47 #[.val (.int p0), .val (.int p1), .val (.int ((95 : Int32) + (p1 &&& (7 : Int32)))), .val (.int ((595 : Int32) + (((p1.toUInt32 >>> ((3 : Int32) &&& 31).toUInt32).toInt32) &&& (7 : Int32)))), .unset] [(.int (600 : Int32))])) _
                refine st7 _ ?_
                show Steps p.tables e below (T7.setTop (mkF m 50 #[.val (.int p0), .val (.int p1), .val (.int ((95 : Int32) + (p1 &&& (7 : Int32)))), .val (.int ((595 : Int32) + (((p1.toUInt32 >>> ((3 : Int32) &&& 31).toUInt32).toInt32) &&& (7 : Int32)))), .unset] [(.int (F1 (600 : Int32)))])) _
                refine XS.ifNo X7.here hx rfl (hb hby at_50) rfl ((if0 _ _).trans (teq hc8).2) ?_
                show Steps p.tables e below (T7.setTop (mkF m 53 #[.val (.int p0), .val (.int p1), .val (.int ((95 : Int32) + (p1 &&& (7 : Int32)))), .val (.int ((595 : Int32) + (((p1.toUInt32 >>> ((3 : Int32) &&& 31).toUInt32).toInt32) &&& (7 : Int32)))), .unset] [])) _
                refine X7.ldcInt hx hown (mvT hZ (hw _ (List.mem_of_getElem? (i := 4) rfl))) (g := (mkF m 53 #[.val (.int p0), .val (.int p1), .val (.int ((95 : Int32) + (p1 &&& (7 : Int32)))), .val (.int ((595 : Int32) + (((p1.toUInt32 >>> ((3 : Int32) &&& 31).toUInt32).toInt32) &&& (7 : Int32)))), .unset] [])) rfl (hb hby at_53) _ ?_
                show Steps p.tables e below (T7.setTop (mkF m 55 #[.val (.int p0), .val (.int p1), .val (.int ((95 : Int32) + (p1 &&& (7 : Int32)))), .val (.int ((595 : Int32) + (((p1.toUInt32 >>> ((3 : Int32) &&& 31).toUInt32).toInt32) &&& (7 : Int32)))), .unset] [(.int (-2147483648 : Int32))])) _
                refine st9 _ ?_
                show Steps p.tables e below (T9.setTop (mkF m 58 #[.val (.int p0), .val (.int p1), .val (.int ((95 : Int32) + (p1 &&& (7 : Int32)))), .val (.int ((595 : Int32) + (((p1.toUInt32 >>> ((3 : Int32) &&& 31).toUInt32).toInt32) &&& (7 : Int32)))), .unset] [(.int (F1 (-2147483648 : Int32)))])) _
                refine XS.ifNo X9.here hx rfl (hb hby at_58) rfl ((if0 _ _).trans (teq hc10).2) ?_
                show Steps p.tables e below (T9.setTop (mkF m 61 #[.val (.int p0), .val (.int p1), .val (.int ((95 : Int32) + (p1 &&& (7 : Int32)))), .val (.int ((595 : Int32) + (((p1.toUInt32 >>> ((3 : Int32) &&& 31).toUInt32).toInt32) &&& (7 : Int32)))), .unset] [])) _
                refine X9.ldcInt hx hown (mvT hZ (hw _ (List.mem_of_getElem? (i := 5) rfl))) (g := (mkF m 61 #[.val (.int p0), .val (.int p1), .val (.int ((95 : Int32) + (p1 &&& (7 : Int32)))), .val (.int ((595 : Int32) + (((p1.toUInt32 >>> ((3 : Int32) &&& 31).toUInt32).toInt32) &&& (7 : Int32)))), .unset] [])) rfl (hb hby at_61) _ ?_
                show Steps p.tables e below (T9.setTop (mkF m 63 #[.val (.int p0), .val (.int p1), .val (.int ((95 : Int32) + (p1 &&& (7 : Int32)))), .val (.int ((595 : Int32) + (((p1.toUInt32 >>> ((3 : Int32) &&& 31).toUInt32).toInt32) &&& (7 : Int32)))), .unset] [(.int (2147483647 : Int32))])) _
                refine st11 _ ?_
                show Steps p.tables e below (T11.setTop (mkF m 66 #[.val (.int p0), .val (.int p1), .val (.int ((95 : Int32) + (p1 &&& (7 : Int32)))), .val (.int ((595 : Int32) + (((p1.toUInt32 >>> ((3 : Int32) &&& 31).toUInt32).toInt32) &&& (7 : Int32)))), .unset] [(.int (F1 (2147483647 : Int32)))])) _
                refine XS.ifYes X11.here hx rfl (pc0 := 66) (pc' := 73) rfl (hb hby at_66) rfl ((if0 _ _).trans (feq hc12).2) (by decide) (by decide) ?_
                show Steps p.tables e below (T11.setTop (mkF m 73 #[.val (.int p0), .val (.int p1), .val (.int ((95 : Int32) + (p1 &&& (7 : Int32)))), .val (.int ((595 : Int32) + (((p1.toUInt32 >>> ((3 : Int32) &&& 31).toUInt32).toInt32) &&& (7 : Int32)))), .unset] [])) _
                refine XS.iconst X11.here hx rfl (hb hby at_73) ?_
                exact kt
            · rw [if_pos hc2, if_neg hc4, if_neg hc6, if_pos hc8, if_neg hc10] at Hv13_s0
              refine ⟨T9, X9, e9, fun target kt => ?_⟩
              rw [Hv13_s0] at kt
              show Steps p.tables e below (T1.setTop (mkF m 24 #[.val (.int p0), .val (.int p1), .val (.int ((95 : Int32) + (p1 &&& (7 : Int32)))), .val (.int ((595 : Int32) + (((p1.toUInt32 >>> ((3 : Int32) &&& 31).toUInt32).toInt32) &&& (7 : Int32)))), .unset] [(.int (F1 (99 : Int32)))])) _
              refine XS.ifNo X1.here hx rfl (hb hby at_24) rfl ((if0 _ _).trans (teq hc2).2) ?_
              show Steps p.tables e below (T1.setTop (mkF m 27 #[.val (.int p0), .val (.int p1), .val (.int ((95 : Int32) + (p1 &&& (7 : Int32)))), .val (.int ((595 : Int32) + (((p1.toUInt32 >>> ((3 : Int32) &&& 31).toUInt32).toInt32) &&& (7 : Int32)))), .unset] [])) _
              refine XS.bipush X1.here hx rfl (hb hby at_27) ?_
              show Steps p.tables e below (T1.setTop (mkF m 29 #[.val (.int p0), .val (.int p1), .val (.int ((95 : Int32) + (p1 &&& (7 : Int32)))), .val (.int ((595 : Int32) + (((p1.toUInt32 >>> ((3 : Int32) &&& 31).toUInt32).toInt32) &&& (7 : Int32)))), .unset] [(.int (100 : Int32))])) _
              refine st3 _ ?_
              show Steps p.tables e below (T3.setTop (mkF m 32 #[.val (.int p0), .val (.int p1), .val (.int ((95 : Int32) + (p1 &&& (7 : Int32)))), .val (.int ((595 : Int32) + (((p1.toUInt32 >>> ((3 : Int32) &&& 31).toUInt32).toInt32) &&& (7 : Int32)))), .unset] [(.int (F1 (100 : Int32)))])) _
              refine XS.ifNo X3.here hx rfl (hb hby at_32) rfl ((if0 _ _).trans (feq hc4).1) ?_
              show Steps p.tables e below (T3.setTop (mkF m 35 #[.val (.int p0), .val (.int p1), .val (.int ((95 : Int32) + (p1 &&& (7 : Int32)))), .val (.int ((595 : Int32) + (((p1.toUInt32 >>> ((3 : Int32) &&& 31).toUInt32).toInt32) &&& (7 : Int32)))), .unset] [])) _
              refine XS.sipush X3.here hx rfl (hb hby at_35) ?_
              show Steps p.tables e below (T3.setTop (mkF m 38 #[.val (.int p0), .val (.int p1), .val (.int ((95 : Int32) + (p1 &&& (7 : Int32)))), .val (.int ((595 : Int32) + (((p1.toUInt32 >>> ((3 : Int32) &&& 31).toUInt32).toInt32) &&& (7 : Int32)))), .unset] [(.int (599 : Int32))])) _
              refine st5 _ ?_
              show Steps p.tables e below (T5.setTop (mkF m 41 #[.val (.int p0), .val (.int p1), .val (.int ((95 : Int32) + (p1 &&& (7 : Int32)))), .val (.int ((595 : Int32) + (((p1.toUInt32 >>> ((3 : Int32) &&& 31).toUInt32).toInt32) &&& (7 : Int32)))), .unset] [(.int (F1 (599 : Int32)))])) _
              refine XS.ifNo X5.here hx rfl (hb hby at_41) rfl ((if0 _ _).trans (feq hc6).1) ?_
              show Steps p.tables e below (T5.setTop (mkF m 44 #[.val (.int p0), .val (.int p1), .val (.int ((95 : Int32) + (p1 &&& (7 : Int32)))), .val (.int ((595 : Int32) + (((p1.toUInt32 >>> ((3 : Int32) &&& 31).toUInt32).toInt32) &&& (7 : Int32)))), .unset] [])) _
              refine XS.sipush X5.here hx rfl (hb hby at_44) ?_
              show Steps p.tables e below (T5.setTop (mkF m 47 #[.val (.int p0), .val (.int p1), .val (.int ((95 : Int32) + (p1 &&& (7 : Int32)))), .val (.int ((595 : Int32) + (((p1.toUInt32 >>> ((3 : Int32) &&& 31).toUInt32).toInt32) &&& (7 : Int32)))), .unset] [(.int (600 : Int32))])) _
              refine st7 _ ?_
              show Steps p.tables e below (T7.setTop (mkF m 50 #[.val (.int p0), .val (.int p1), .val (.int ((95 : Int32) + (p1 &&& (7 : Int32)))), .val (.int ((595 : Int32) + (((p1.toUInt32 >>> ((3 : Int32) &&& 31).toUInt32).toInt32) &&& (7 : Int32)))), .unset] [(.int (F1 (600 : Int32)))])) _
              refine XS.ifNo X7.here hx rfl (hb hby at_50) rfl ((if0 _ _).trans (teq hc8).2) ?_
              show Steps p.tables e below (T7.setTop (mkF m 53 #[.val (.int p0), .val (.int p1), .val (.int ((95 : Int32) + (p1 &&& (7 : Int32)))), .val (.int ((595 : Int32) + (((p1.toUInt32 >>> ((3 : Int32) &&& 31).toUInt32).toInt32) &&& (7 : Int32)))), .unset] [])) _
              refine X7.ldcInt hx hown (mvT hZ (hw _ (List.mem_of_getElem? (i := 4) rfl))) (g := (mkF m 53 #[.val (.int p0), .val (.int p1), .val (.int ((95 : Int32) + (p1 &&& (7 : Int32)))), .val (.int ((595 : Int32) + (((p1.toUInt32 >>> ((3 : Int32) &&& 31).toUInt32).toInt32) &&& (7 : Int32)))), .unset] [])) rfl (hb hby at_53) _ ?_
              show Steps p.tables e below (T7.setTop (mkF m 55 #[.val (.int p0), .val (.int p1), .val (.int ((95 : Int32) + (p1 &&& (7 : Int32)))), .val (.int ((595 : Int32) + (((p1.toUInt32 >>> ((3 : Int32) &&& 31).toUInt32).toInt32) &&& (7 : Int32)))), .unset] [(.int (-2147483648 : Int32))])) _
              refine st9 _ ?_
              show Steps p.tables e below (T9.setTop (mkF m 58 #[.val (.int p0), .val (.int p1), .val (.int ((95 : Int32) + (p1 &&& (7 : Int32)))), .val (.int ((595 : Int32) + (((p1.toUInt32 >>> ((3 : Int32) &&& 31).toUInt32).toInt32) &&& (7 : Int32)))), .unset] [(.int (F1 (-2147483648 : Int32)))])) _
              refine XS.ifYes X9.here hx rfl (pc0 := 58) (pc' := 73) rfl (hb hby at_58) rfl ((if0 _ _).trans (feq hc10).2) (by decide) (by decide) ?_
              show Steps p.tables e below (T9.setTop (mkF m 73 #[.val (.int p0), .val (.int p1), .val (.int ((95 : Int32) + (p1 &&& (7 : Int32)))), .val (.int ((595 : Int32) + (((p1.toUInt32 >>> ((3 : Int32) &&& 31).toUInt32).toInt32) &&& (7 : Int32)))), .unset] [])) _
              refine XS.iconst X9.here hx rfl (hb hby at_73) ?_
              exact kt
          · rw [if_pos hc2, if_neg hc4, if_neg hc6, if_neg hc8] at Hv13_s0
            refine ⟨T7, X7, e7, fun target kt => ?_⟩
            rw [Hv13_s0] at kt
            show Steps p.tables e below (T1.setTop (mkF m 24 #[.val (.int p0), .val (.int p1), .val (.int ((95 : Int32) + (p1 &&& (7 : Int32)))), .val (.int ((595 : Int32) + (((p1.toUInt32 >>> ((3 : Int32) &&& 31).toUInt32).toInt32) &&& (7 : Int32)))), .unset] [(.int (F1 (99 : Int32)))])) _
            refine XS.ifNo X1.here hx rfl (hb hby at_24) rfl ((if0 _ _).trans (teq hc2).2) ?_
            show Steps p.tables e below (T1.setTop (mkF m 27 #[.val (.int p0), .val (.int p1), .val (.int ((95 : Int32) + (p1 &&& (7 : Int32)))), .val (.int ((595 : Int32) + (((p1.toUInt32 >>> ((3 : Int32) &&& 31).toUInt32).toInt32) &&& (7 : Int32)))), .unset] [])) _
            refine XS.bipush X1.here hx rfl (hb hby at_27) ?_
            show Steps p.tables e below (T1.setTop (mkF m 29 #[.val (.int p0), .val (.int p1), .val (.int ((95 : Int32) + (p1 &&& (7 : Int32)))), .val (.int ((595 : Int32) + (((p1.toUInt32 >>> ((3 : Int32) &&& 31).toUInt32).toInt32) &&& (7 : Int32)))), .unset] [(.int (100 : Int32))])) _
            refine st3 _ ?_
            show Steps p.tables e below (T3.setTop (mkF m 32 #[.val (.int p0), .val (.int p1), .val (.int ((95 : Int32) + (p1 &&& (7 : Int32)))), .val (.int ((595 : Int32) + (((p1.toUInt32 >>> ((3 : Int32) &&& 31).toUInt32).toInt32) &&& (7 : Int32)))), .unset] [(.int (F1 (100 : Int32)))])) _
            refine XS.ifNo X3.here hx rfl (hb hby at_32) rfl ((if0 _ _).trans (feq hc4).1) ?_
            show Steps p.tables e below (T3.setTop (mkF m 35 #[.val (.int p0), .val (.int p1), .val (.int ((95 : Int32) + (p1 &&& (7 : Int32)))), .val (.int ((595 : Int32) + (((p1.toUInt32 >>> ((3 : Int32) &&& 31).toUInt32).toInt32) &&& (7 : Int32)))), .unset] [])) _
            refine XS.sipush X3.here hx rfl (hb hby at_35) ?_
            show Steps p.tables e below (T3.setTop (mkF m 38 #[.val (.int p0), .val (.int p1), .val (.int ((95 : Int32) + (p1 &&& (7 : Int32)))), .val (.int ((595 : Int32) + (((p1.toUInt32 >>> ((3 : Int32) &&& 31).toUInt32).toInt32) &&& (7 : Int32)))), .unset] [(.int (599 : Int32))])) _
            refine st5 _ ?_
            show Steps p.tables e below (T5.setTop (mkF m 41 #[.val (.int p0), .val (.int p1), .val (.int ((95 : Int32) + (p1 &&& (7 : Int32)))), .val (.int ((595 : Int32) + (((p1.toUInt32 >>> ((3 : Int32) &&& 31).toUInt32).toInt32) &&& (7 : Int32)))), .unset] [(.int (F1 (599 : Int32)))])) _
            refine XS.ifNo X5.here hx rfl (hb hby at_41) rfl ((if0 _ _).trans (feq hc6).1) ?_
            show Steps p.tables e below (T5.setTop (mkF m 44 #[.val (.int p0), .val (.int p1), .val (.int ((95 : Int32) + (p1 &&& (7 : Int32)))), .val (.int ((595 : Int32) + (((p1.toUInt32 >>> ((3 : Int32) &&& 31).toUInt32).toInt32) &&& (7 : Int32)))), .unset] [])) _
            refine XS.sipush X5.here hx rfl (hb hby at_44) ?_
            show Steps p.tables e below (T5.setTop (mkF m 47 #[.val (.int p0), .val (.int p1), .val (.int ((95 : Int32) + (p1 &&& (7 : Int32)))), .val (.int ((595 : Int32) + (((p1.toUInt32 >>> ((3 : Int32) &&& 31).toUInt32).toInt32) &&& (7 : Int32)))), .unset] [(.int (600 : Int32))])) _
            refine st7 _ ?_
            show Steps p.tables e below (T7.setTop (mkF m 50 #[.val (.int p0), .val (.int p1), .val (.int ((95 : Int32) + (p1 &&& (7 : Int32)))), .val (.int ((595 : Int32) + (((p1.toUInt32 >>> ((3 : Int32) &&& 31).toUInt32).toInt32) &&& (7 : Int32)))), .unset] [(.int (F1 (600 : Int32)))])) _
            refine XS.ifYes X7.here hx rfl (pc0 := 50) (pc' := 73) rfl (hb hby at_50) rfl ((if0 _ _).trans (feq hc8).2) (by decide) (by decide) ?_
            show Steps p.tables e below (T7.setTop (mkF m 73 #[.val (.int p0), .val (.int p1), .val (.int ((95 : Int32) + (p1 &&& (7 : Int32)))), .val (.int ((595 : Int32) + (((p1.toUInt32 >>> ((3 : Int32) &&& 31).toUInt32).toInt32) &&& (7 : Int32)))), .unset] [])) _
            refine XS.iconst X7.here hx rfl (hb hby at_73) ?_
            exact kt
    · rw [if_neg hc2] at Hv13_s0
      refine ⟨T1, X1, e1, fun target kt => ?_⟩
      rw [Hv13_s0] at kt
      show Steps p.tables e below (T1.setTop (mkF m 24 #[.val (.int p0), .val (.int p1), .val (.int ((95 : Int32) + (p1 &&& (7 : Int32)))), .val (.int ((595 : Int32) + (((p1.toUInt32 >>> ((3 : Int32) &&& 31).toUInt32).toInt32) &&& (7 : Int32)))), .unset] [(.int (F1 (99 : Int32)))])) _
      refine XS.ifYes X1.here hx rfl (pc0 := 24) (pc' := 73) rfl (hb hby at_24) rfl ((if0 _ _).trans (feq hc2).2) (by decide) (by decide) ?_
      show Steps p.tables e below (T1.setTop (mkF m 73 #[.val (.int p0), .val (.int p1), .val (.int ((95 : Int32) + (p1 &&& (7 : Int32)))), .val (.int ((595 : Int32) + (((p1.toUInt32 >>> ((3 : Int32) &&& 31).toUInt32).toInt32) &&& (7 : Int32)))), .unset] [])) _
      refine XS.iconst X1.here hx rfl (hb hby at_73) ?_
      exact kt)
  obtain ⟨v24_s0, Hv24_s0⟩ : ∃ z : Int32, z = (if v13_s0 = (0 : Int32) then (0 : Int32) else (if (F1 p0) = (F2 p0) then (if (F1 ((95 : Int32) + (p1 &&& (7 : Int32)))) = (F2 ((95 : Int32) + (p1 &&& (7 : Int32)))) then (if (F1 ((595 : Int32) + (((p1.toUInt32 >>> ((3 : Int32) &&& 31).toUInt32).toInt32) &&& (7 : Int32)))) = (F2 ((595 : Int32) + (((p1.toUInt32 >>> ((3 : Int32) &&& 31).toUInt32).toInt32) &&& (7 : Int32)))) then (1 : Int32) else (0 : Int32)) else (0 : Int32)) else (0 : Int32))) := ⟨_, rfl⟩
  obtain ⟨T24, X24, e24, st24⟩ := own_seg X13 h0 (mkF m 78 #[.val (.int p0), .val (.int p1), .val (.int ((95 : Int32) + (p1 &&& (7 : Int32)))), .val (.int ((595 : Int32) + (((p1.toUInt32 >>> ((3 : Int32) &&& 31).toUInt32).toInt32) &&& (7 : Int32)))), .val (.int v13_s0)] [(.int v13_s0)]) (mkF m 119 #[.val (.int p0), .val (.int p1), .val (.int ((95 : Int32) + (p1 &&& (7 : Int32)))), .val (.int ((595 : Int32) + (((p1.toUInt32 >>> ((3 : Int32) &&& 31).toUInt32).toInt32) &&& (7 : Int32)))), .val (.int v13_s0)] [(.int v24_s0)]) (by
    by_cases hc14 : v13_s0 = (0 : Int32)
    · rw [if_pos hc14] at Hv24_s0
      refine ⟨T13, X13, e13, fun target kt => ?_⟩
      rw [Hv24_s0] at kt
      show Steps p.tables e below (T13.setTop (mkF m 78 #[.val (.int p0), .val (.int p1), .val (.int ((95 : Int32) + (p1 &&& (7 : Int32)))), .val (.int ((595 : Int32) + (((p1.toUInt32 >>> ((3 : Int32) &&& 31).toUInt32).toInt32) &&& (7 : Int32)))), .val (.int v13_s0)] [(.int v13_s0)])) _
      refine XS.ifYes X13.here hx rfl (pc0 := 78) (pc' := 118) rfl (hb hby at_78) rfl ((if0 _ _).trans (teq hc14).1) (by decide) (by decide) ?_
      show Steps p.tables e below (T13.setTop (mkF m 118 #[.val (.int p0), .val (.int p1), .val (.int ((95 : Int32) + (p1 &&& (7 : Int32)))), .val (.int ((595 : Int32) + (((p1.toUInt32 >>> ((3 : Int32) &&& 31).toUInt32).toInt32) &&& (7 : Int32)))), .val (.int v13_s0)] [])) _
      refine XS.iconst X13.here hx rfl (hb hby at_118) ?_
      exact kt
    · obtain ⟨_, _, ⟨T15, L15, k15, n15⟩, -, X15, ⟨Lc15, hQ15, l15, y15, z15⟩, st15⟩ := Jvm.LawKit.callS X13 hx (y := (⟨"com/example/uptime_tally/uptimetally/Request", "isStatus", "(I)Z"⟩ : MethodName)) hown (mvT hZ (hw _ (List.mem_of_getElem? (i := 0) rfl))) (mvT hZ (hw _ (List.mem_of_getElem? (i := 1) rfl))) (mvT hZ (hw _ (List.mem_of_getElem? (i := 2) rfl))) (mvT hZ (hw _ (List.mem_of_getElem? (i := 3) rfl))) (by decide) (backOf (W := 0) (rm1 l Z a0 hw [] p0 h0 n0 Z0) hZ (hw _ (List.mem_of_getElem? (i := 3) rfl)) (hw _ (List.mem_of_getElem? (i := 2) rfl)) (by decide) (by decide)) (g := (mkF m 82 #[.val (.int p0), .val (.int p1), .val (.int ((95 : Int32) + (p1 &&& (7 : Int32)))), .val (.int ((595 : Int32) + (((p1.toUInt32 >>> ((3 : Int32) &&& 31).toUInt32).toInt32) &&& (7 : Int32)))), .val (.int v13_s0)] [(.int p0)])) rfl (by rw [hml]; rfl) (argsL := [(.int p0)]) (rest := []) (lenOf pd_0_0 rfl) rfl (by show 2 * 0 + _ ≤ _; exact Nat.le_of_eq rfl) (hb hby at_82) (fun _ _ => ⟨rfl, e13, (by decide : 0 + 0 ≤ _), (by decide : 0 + 0 ≤ _)⟩)
      dsimp only [Pt.U, Pt.locs, Pt.cells, Pt.slots] at X15 l15 y15 z15 st15 hQ15
      subst l15 y15 z15
      obtain ⟨rfl, rfl, e15⟩ := hQ15
      try rw [List.append_nil] at X15
      obtain ⟨_, _, ⟨T16, L16, k16, n16⟩, -, X16, ⟨Lc16, hQ16, l16, y16, z16⟩, st16⟩ := Jvm.LawKit.callS X15 hx (y := (⟨"com/example/uptime_tally/uptimetally/RequestIsStatusPinLaw", "ref", "(I)Z"⟩ : MethodName)) hown (mvT hZ (hw _ (List.mem_of_getElem? (i := 6) rfl))) (mvT hZ (hw _ (List.mem_of_getElem? (i := 7) rfl))) (mvT hZ (hw _ (List.mem_of_getElem? (i := 8) rfl))) (mvT hZ (hw _ (List.mem_of_getElem? (i := 9) rfl))) (by decide) (backOf (W := 1) (rm2 l Z a0 hw [] p0 h0 n0 Z0) hZ (hw _ (List.mem_of_getElem? (i := 9) rfl)) (hw _ (List.mem_of_getElem? (i := 8) rfl)) (by decide) (by decide)) (g := (mkF m 86 #[.val (.int p0), .val (.int p1), .val (.int ((95 : Int32) + (p1 &&& (7 : Int32)))), .val (.int ((595 : Int32) + (((p1.toUInt32 >>> ((3 : Int32) &&& 31).toUInt32).toInt32) &&& (7 : Int32)))), .val (.int v13_s0)] [(.int p0), (.int (F1 p0))])) rfl (by rw [hml]; rfl) (argsL := [(.int p0)]) (rest := [(.int (F1 p0))]) (lenOf pd_0_0 rfl) rfl (by show 2 * 0 + _ ≤ _; exact Nat.le_of_eq rfl) (hb hby at_86) (fun _ _ => ⟨rfl, e15, (by decide : 0 + 0 ≤ _), (by decide : 0 + 0 ≤ _)⟩)
      dsimp only [Pt.U, Pt.locs, Pt.cells, Pt.slots] at X16 l16 y16 z16 st16 hQ16
      subst l16 y16 z16
      obtain ⟨rfl, rfl, e16⟩ := hQ16
      try rw [List.append_nil] at X16
      by_cases hc17 : (F1 p0) = (F2 p0)
      · obtain ⟨_, _, ⟨T18, L18, k18, n18⟩, -, X18, ⟨Lc18, hQ18, l18, y18, z18⟩, st18⟩ := Jvm.LawKit.callS X16 hx (y := (⟨"com/example/uptime_tally/uptimetally/Request", "isStatus", "(I)Z"⟩ : MethodName)) hown (mvT hZ (hw _ (List.mem_of_getElem? (i := 0) rfl))) (mvT hZ (hw _ (List.mem_of_getElem? (i := 1) rfl))) (mvT hZ (hw _ (List.mem_of_getElem? (i := 2) rfl))) (mvT hZ (hw _ (List.mem_of_getElem? (i := 3) rfl))) (by decide) (backOf (W := 0) (rm1 l Z a0 hw [] ((95 : Int32) + (p1 &&& (7 : Int32))) h0 n0 Z0) hZ (hw _ (List.mem_of_getElem? (i := 3) rfl)) (hw _ (List.mem_of_getElem? (i := 2) rfl)) (by decide) (by decide)) (g := (mkF m 93 #[.val (.int p0), .val (.int p1), .val (.int ((95 : Int32) + (p1 &&& (7 : Int32)))), .val (.int ((595 : Int32) + (((p1.toUInt32 >>> ((3 : Int32) &&& 31).toUInt32).toInt32) &&& (7 : Int32)))), .val (.int v13_s0)] [(.int ((95 : Int32) + (p1 &&& (7 : Int32))))])) rfl (by rw [hml]; rfl) (argsL := [(.int ((95 : Int32) + (p1 &&& (7 : Int32))))]) (rest := []) (lenOf pd_0_0 rfl) rfl (by show 2 * 0 + _ ≤ _; exact Nat.le_of_eq rfl) (hb hby at_93) (fun _ _ => ⟨rfl, e16, (by decide : 0 + 0 ≤ _), (by decide : 0 + 0 ≤ _)⟩)
        dsimp only [Pt.U, Pt.locs, Pt.cells, Pt.slots] at X18 l18 y18 z18 st18 hQ18
        subst l18 y18 z18
        obtain ⟨rfl, rfl, e18⟩ := hQ18
        try rw [List.append_nil] at X18
        obtain ⟨_, _, ⟨T19, L19, k19, n19⟩, -, X19, ⟨Lc19, hQ19, l19, y19, z19⟩, st19⟩ := Jvm.LawKit.callS X18 hx (y := (⟨"com/example/uptime_tally/uptimetally/RequestIsStatusPinLaw", "ref", "(I)Z"⟩ : MethodName)) hown (mvT hZ (hw _ (List.mem_of_getElem? (i := 6) rfl))) (mvT hZ (hw _ (List.mem_of_getElem? (i := 7) rfl))) (mvT hZ (hw _ (List.mem_of_getElem? (i := 8) rfl))) (mvT hZ (hw _ (List.mem_of_getElem? (i := 9) rfl))) (by decide) (backOf (W := 1) (rm2 l Z a0 hw [] ((95 : Int32) + (p1 &&& (7 : Int32))) h0 n0 Z0) hZ (hw _ (List.mem_of_getElem? (i := 9) rfl)) (hw _ (List.mem_of_getElem? (i := 8) rfl)) (by decide) (by decide)) (g := (mkF m 97 #[.val (.int p0), .val (.int p1), .val (.int ((95 : Int32) + (p1 &&& (7 : Int32)))), .val (.int ((595 : Int32) + (((p1.toUInt32 >>> ((3 : Int32) &&& 31).toUInt32).toInt32) &&& (7 : Int32)))), .val (.int v13_s0)] [(.int ((95 : Int32) + (p1 &&& (7 : Int32)))), (.int (F1 ((95 : Int32) + (p1 &&& (7 : Int32)))))])) rfl (by rw [hml]; rfl) (argsL := [(.int ((95 : Int32) + (p1 &&& (7 : Int32))))]) (rest := [(.int (F1 ((95 : Int32) + (p1 &&& (7 : Int32)))))]) (lenOf pd_0_0 rfl) rfl (by show 2 * 0 + _ ≤ _; exact Nat.le_of_eq rfl) (hb hby at_97) (fun _ _ => ⟨rfl, e18, (by decide : 0 + 0 ≤ _), (by decide : 0 + 0 ≤ _)⟩)
        dsimp only [Pt.U, Pt.locs, Pt.cells, Pt.slots] at X19 l19 y19 z19 st19 hQ19
        subst l19 y19 z19
        obtain ⟨rfl, rfl, e19⟩ := hQ19
        try rw [List.append_nil] at X19
        by_cases hc20 : (F1 ((95 : Int32) + (p1 &&& (7 : Int32)))) = (F2 ((95 : Int32) + (p1 &&& (7 : Int32))))
        · obtain ⟨_, _, ⟨T21, L21, k21, n21⟩, -, X21, ⟨Lc21, hQ21, l21, y21, z21⟩, st21⟩ := Jvm.LawKit.callS X19 hx (y := (⟨"com/example/uptime_tally/uptimetally/Request", "isStatus", "(I)Z"⟩ : MethodName)) hown (mvT hZ (hw _ (List.mem_of_getElem? (i := 0) rfl))) (mvT hZ (hw _ (List.mem_of_getElem? (i := 1) rfl))) (mvT hZ (hw _ (List.mem_of_getElem? (i := 2) rfl))) (mvT hZ (hw _ (List.mem_of_getElem? (i := 3) rfl))) (by decide) (backOf (W := 0) (rm1 l Z a0 hw [] ((595 : Int32) + (((p1.toUInt32 >>> ((3 : Int32) &&& 31).toUInt32).toInt32) &&& (7 : Int32))) h0 n0 Z0) hZ (hw _ (List.mem_of_getElem? (i := 3) rfl)) (hw _ (List.mem_of_getElem? (i := 2) rfl)) (by decide) (by decide)) (g := (mkF m 104 #[.val (.int p0), .val (.int p1), .val (.int ((95 : Int32) + (p1 &&& (7 : Int32)))), .val (.int ((595 : Int32) + (((p1.toUInt32 >>> ((3 : Int32) &&& 31).toUInt32).toInt32) &&& (7 : Int32)))), .val (.int v13_s0)] [(.int ((595 : Int32) + (((p1.toUInt32 >>> ((3 : Int32) &&& 31).toUInt32).toInt32) &&& (7 : Int32))))])) rfl (by rw [hml]; rfl) (argsL := [(.int ((595 : Int32) + (((p1.toUInt32 >>> ((3 : Int32) &&& 31).toUInt32).toInt32) &&& (7 : Int32))))]) (rest := []) (lenOf pd_0_0 rfl) rfl (by show 2 * 0 + _ ≤ _; exact Nat.le_of_eq rfl) (hb hby at_104) (fun _ _ => ⟨rfl, e19, (by decide : 0 + 0 ≤ _), (by decide : 0 + 0 ≤ _)⟩)
          dsimp only [Pt.U, Pt.locs, Pt.cells, Pt.slots] at X21 l21 y21 z21 st21 hQ21
          subst l21 y21 z21
          obtain ⟨rfl, rfl, e21⟩ := hQ21
          try rw [List.append_nil] at X21
          obtain ⟨_, _, ⟨T22, L22, k22, n22⟩, -, X22, ⟨Lc22, hQ22, l22, y22, z22⟩, st22⟩ := Jvm.LawKit.callS X21 hx (y := (⟨"com/example/uptime_tally/uptimetally/RequestIsStatusPinLaw", "ref", "(I)Z"⟩ : MethodName)) hown (mvT hZ (hw _ (List.mem_of_getElem? (i := 6) rfl))) (mvT hZ (hw _ (List.mem_of_getElem? (i := 7) rfl))) (mvT hZ (hw _ (List.mem_of_getElem? (i := 8) rfl))) (mvT hZ (hw _ (List.mem_of_getElem? (i := 9) rfl))) (by decide) (backOf (W := 1) (rm2 l Z a0 hw [] ((595 : Int32) + (((p1.toUInt32 >>> ((3 : Int32) &&& 31).toUInt32).toInt32) &&& (7 : Int32))) h0 n0 Z0) hZ (hw _ (List.mem_of_getElem? (i := 9) rfl)) (hw _ (List.mem_of_getElem? (i := 8) rfl)) (by decide) (by decide)) (g := (mkF m 108 #[.val (.int p0), .val (.int p1), .val (.int ((95 : Int32) + (p1 &&& (7 : Int32)))), .val (.int ((595 : Int32) + (((p1.toUInt32 >>> ((3 : Int32) &&& 31).toUInt32).toInt32) &&& (7 : Int32)))), .val (.int v13_s0)] [(.int ((595 : Int32) + (((p1.toUInt32 >>> ((3 : Int32) &&& 31).toUInt32).toInt32) &&& (7 : Int32)))), (.int (F1 ((595 : Int32) + (((p1.toUInt32 >>> ((3 : Int32) &&& 31).toUInt32).toInt32) &&& (7 : Int32)))))])) rfl (by rw [hml]; rfl) (argsL := [(.int ((595 : Int32) + (((p1.toUInt32 >>> ((3 : Int32) &&& 31).toUInt32).toInt32) &&& (7 : Int32))))]) (rest := [(.int (F1 ((595 : Int32) + (((p1.toUInt32 >>> ((3 : Int32) &&& 31).toUInt32).toInt32) &&& (7 : Int32)))))]) (lenOf pd_0_0 rfl) rfl (by show 2 * 0 + _ ≤ _; exact Nat.le_of_eq rfl) (hb hby at_108) (fun _ _ => ⟨rfl, e21, (by decide : 0 + 0 ≤ _), (by decide : 0 + 0 ≤ _)⟩)
          dsimp only [Pt.U, Pt.locs, Pt.cells, Pt.slots] at X22 l22 y22 z22 st22 hQ22
          subst l22 y22 z22
          obtain ⟨rfl, rfl, e22⟩ := hQ22
          try rw [List.append_nil] at X22
          by_cases hc23 : (F1 ((595 : Int32) + (((p1.toUInt32 >>> ((3 : Int32) &&& 31).toUInt32).toInt32) &&& (7 : Int32)))) = (F2 ((595 : Int32) + (((p1.toUInt32 >>> ((3 : Int32) &&& 31).toUInt32).toInt32) &&& (7 : Int32))))
          · rw [if_neg hc14, if_pos hc17, if_pos hc20, if_pos hc23] at Hv24_s0
            refine ⟨T22, X22, e22, fun target kt => ?_⟩
            rw [Hv24_s0] at kt
            show Steps p.tables e below (T13.setTop (mkF m 78 #[.val (.int p0), .val (.int p1), .val (.int ((95 : Int32) + (p1 &&& (7 : Int32)))), .val (.int ((595 : Int32) + (((p1.toUInt32 >>> ((3 : Int32) &&& 31).toUInt32).toInt32) &&& (7 : Int32)))), .val (.int v13_s0)] [(.int v13_s0)])) _
            refine XS.ifNo X13.here hx rfl (hb hby at_78) rfl ((if0 _ _).trans (feq hc14).1) ?_
            show Steps p.tables e below (T13.setTop (mkF m 81 #[.val (.int p0), .val (.int p1), .val (.int ((95 : Int32) + (p1 &&& (7 : Int32)))), .val (.int ((595 : Int32) + (((p1.toUInt32 >>> ((3 : Int32) &&& 31).toUInt32).toInt32) &&& (7 : Int32)))), .val (.int v13_s0)] [])) _
            refine XS.iloadN X13.here hx rfl (hb hby at_81) rfl ?_
            show Steps p.tables e below (T13.setTop (mkF m 82 #[.val (.int p0), .val (.int p1), .val (.int ((95 : Int32) + (p1 &&& (7 : Int32)))), .val (.int ((595 : Int32) + (((p1.toUInt32 >>> ((3 : Int32) &&& 31).toUInt32).toInt32) &&& (7 : Int32)))), .val (.int v13_s0)] [(.int p0)])) _
            refine st15 _ ?_
            show Steps p.tables e below (T15.setTop (mkF m 85 #[.val (.int p0), .val (.int p1), .val (.int ((95 : Int32) + (p1 &&& (7 : Int32)))), .val (.int ((595 : Int32) + (((p1.toUInt32 >>> ((3 : Int32) &&& 31).toUInt32).toInt32) &&& (7 : Int32)))), .val (.int v13_s0)] [(.int (F1 p0))])) _
            refine XS.iloadN X15.here hx rfl (hb hby at_85) rfl ?_
            show Steps p.tables e below (T15.setTop (mkF m 86 #[.val (.int p0), .val (.int p1), .val (.int ((95 : Int32) + (p1 &&& (7 : Int32)))), .val (.int ((595 : Int32) + (((p1.toUInt32 >>> ((3 : Int32) &&& 31).toUInt32).toInt32) &&& (7 : Int32)))), .val (.int v13_s0)] [(.int p0), (.int (F1 p0))])) _
            refine st16 _ ?_
            show Steps p.tables e below (T16.setTop (mkF m 89 #[.val (.int p0), .val (.int p1), .val (.int ((95 : Int32) + (p1 &&& (7 : Int32)))), .val (.int ((595 : Int32) + (((p1.toUInt32 >>> ((3 : Int32) &&& 31).toUInt32).toInt32) &&& (7 : Int32)))), .val (.int v13_s0)] [(.int (F2 p0)), (.int (F1 p0))])) _
            refine XS.icmpNo X16.here hx rfl (hb hby at_89) rfl (teq hc17).2 ?_
            show Steps p.tables e below (T16.setTop (mkF m 92 #[.val (.int p0), .val (.int p1), .val (.int ((95 : Int32) + (p1 &&& (7 : Int32)))), .val (.int ((595 : Int32) + (((p1.toUInt32 >>> ((3 : Int32) &&& 31).toUInt32).toInt32) &&& (7 : Int32)))), .val (.int v13_s0)] [])) _
            refine XS.iloadN X16.here hx rfl (hb hby at_92) rfl ?_
            show Steps p.tables e below (T16.setTop (mkF m 93 #[.val (.int p0), .val (.int p1), .val (.int ((95 : Int32) + (p1 &&& (7 : Int32)))), .val (.int ((595 : Int32) + (((p1.toUInt32 >>> ((3 : Int32) &&& 31).toUInt32).toInt32) &&& (7 : Int32)))), .val (.int v13_s0)] [(.int ((95 : Int32) + (p1 &&& (7 : Int32))))])) _
            refine st18 _ ?_
            show Steps p.tables e below (T18.setTop (mkF m 96 #[.val (.int p0), .val (.int p1), .val (.int ((95 : Int32) + (p1 &&& (7 : Int32)))), .val (.int ((595 : Int32) + (((p1.toUInt32 >>> ((3 : Int32) &&& 31).toUInt32).toInt32) &&& (7 : Int32)))), .val (.int v13_s0)] [(.int (F1 ((95 : Int32) + (p1 &&& (7 : Int32)))))])) _
            refine XS.iloadN X18.here hx rfl (hb hby at_96) rfl ?_
            show Steps p.tables e below (T18.setTop (mkF m 97 #[.val (.int p0), .val (.int p1), .val (.int ((95 : Int32) + (p1 &&& (7 : Int32)))), .val (.int ((595 : Int32) + (((p1.toUInt32 >>> ((3 : Int32) &&& 31).toUInt32).toInt32) &&& (7 : Int32)))), .val (.int v13_s0)] [(.int ((95 : Int32) + (p1 &&& (7 : Int32)))), (.int (F1 ((95 : Int32) + (p1 &&& (7 : Int32)))))])) _
            refine st19 _ ?_
            show Steps p.tables e below (T19.setTop (mkF m 100 #[.val (.int p0), .val (.int p1), .val (.int ((95 : Int32) + (p1 &&& (7 : Int32)))), .val (.int ((595 : Int32) + (((p1.toUInt32 >>> ((3 : Int32) &&& 31).toUInt32).toInt32) &&& (7 : Int32)))), .val (.int v13_s0)] [(.int (F2 ((95 : Int32) + (p1 &&& (7 : Int32))))), (.int (F1 ((95 : Int32) + (p1 &&& (7 : Int32)))))])) _
            refine XS.icmpNo X19.here hx rfl (hb hby at_100) rfl (teq hc20).2 ?_
            show Steps p.tables e below (T19.setTop (mkF m 103 #[.val (.int p0), .val (.int p1), .val (.int ((95 : Int32) + (p1 &&& (7 : Int32)))), .val (.int ((595 : Int32) + (((p1.toUInt32 >>> ((3 : Int32) &&& 31).toUInt32).toInt32) &&& (7 : Int32)))), .val (.int v13_s0)] [])) _
            refine XS.iloadN X19.here hx rfl (hb hby at_103) rfl ?_
            show Steps p.tables e below (T19.setTop (mkF m 104 #[.val (.int p0), .val (.int p1), .val (.int ((95 : Int32) + (p1 &&& (7 : Int32)))), .val (.int ((595 : Int32) + (((p1.toUInt32 >>> ((3 : Int32) &&& 31).toUInt32).toInt32) &&& (7 : Int32)))), .val (.int v13_s0)] [(.int ((595 : Int32) + (((p1.toUInt32 >>> ((3 : Int32) &&& 31).toUInt32).toInt32) &&& (7 : Int32))))])) _
            refine st21 _ ?_
            show Steps p.tables e below (T21.setTop (mkF m 107 #[.val (.int p0), .val (.int p1), .val (.int ((95 : Int32) + (p1 &&& (7 : Int32)))), .val (.int ((595 : Int32) + (((p1.toUInt32 >>> ((3 : Int32) &&& 31).toUInt32).toInt32) &&& (7 : Int32)))), .val (.int v13_s0)] [(.int (F1 ((595 : Int32) + (((p1.toUInt32 >>> ((3 : Int32) &&& 31).toUInt32).toInt32) &&& (7 : Int32)))))])) _
            refine XS.iloadN X21.here hx rfl (hb hby at_107) rfl ?_
            show Steps p.tables e below (T21.setTop (mkF m 108 #[.val (.int p0), .val (.int p1), .val (.int ((95 : Int32) + (p1 &&& (7 : Int32)))), .val (.int ((595 : Int32) + (((p1.toUInt32 >>> ((3 : Int32) &&& 31).toUInt32).toInt32) &&& (7 : Int32)))), .val (.int v13_s0)] [(.int ((595 : Int32) + (((p1.toUInt32 >>> ((3 : Int32) &&& 31).toUInt32).toInt32) &&& (7 : Int32)))), (.int (F1 ((595 : Int32) + (((p1.toUInt32 >>> ((3 : Int32) &&& 31).toUInt32).toInt32) &&& (7 : Int32)))))])) _
            refine st22 _ ?_
            show Steps p.tables e below (T22.setTop (mkF m 111 #[.val (.int p0), .val (.int p1), .val (.int ((95 : Int32) + (p1 &&& (7 : Int32)))), .val (.int ((595 : Int32) + (((p1.toUInt32 >>> ((3 : Int32) &&& 31).toUInt32).toInt32) &&& (7 : Int32)))), .val (.int v13_s0)] [(.int (F2 ((595 : Int32) + (((p1.toUInt32 >>> ((3 : Int32) &&& 31).toUInt32).toInt32) &&& (7 : Int32))))), (.int (F1 ((595 : Int32) + (((p1.toUInt32 >>> ((3 : Int32) &&& 31).toUInt32).toInt32) &&& (7 : Int32)))))])) _
            refine XS.icmpNo X22.here hx rfl (hb hby at_111) rfl (teq hc23).2 ?_
            show Steps p.tables e below (T22.setTop (mkF m 114 #[.val (.int p0), .val (.int p1), .val (.int ((95 : Int32) + (p1 &&& (7 : Int32)))), .val (.int ((595 : Int32) + (((p1.toUInt32 >>> ((3 : Int32) &&& 31).toUInt32).toInt32) &&& (7 : Int32)))), .val (.int v13_s0)] [])) _
            refine XS.iconst X22.here hx rfl (hb hby at_114) ?_
            show Steps p.tables e below (T22.setTop (mkF m 115 #[.val (.int p0), .val (.int p1), .val (.int ((95 : Int32) + (p1 &&& (7 : Int32)))), .val (.int ((595 : Int32) + (((p1.toUInt32 >>> ((3 : Int32) &&& 31).toUInt32).toInt32) &&& (7 : Int32)))), .val (.int v13_s0)] [(.int (1 : Int32))])) _
            refine XS.goto X22.here hx rfl (pc0 := 115) (pc' := 119) rfl (hb hby at_115) (by decide) (by decide) ?_
            exact kt
          · rw [if_neg hc14, if_pos hc17, if_pos hc20, if_neg hc23] at Hv24_s0
            refine ⟨T22, X22, e22, fun target kt => ?_⟩
            rw [Hv24_s0] at kt
            show Steps p.tables e below (T13.setTop (mkF m 78 #[.val (.int p0), .val (.int p1), .val (.int ((95 : Int32) + (p1 &&& (7 : Int32)))), .val (.int ((595 : Int32) + (((p1.toUInt32 >>> ((3 : Int32) &&& 31).toUInt32).toInt32) &&& (7 : Int32)))), .val (.int v13_s0)] [(.int v13_s0)])) _
            refine XS.ifNo X13.here hx rfl (hb hby at_78) rfl ((if0 _ _).trans (feq hc14).1) ?_
            show Steps p.tables e below (T13.setTop (mkF m 81 #[.val (.int p0), .val (.int p1), .val (.int ((95 : Int32) + (p1 &&& (7 : Int32)))), .val (.int ((595 : Int32) + (((p1.toUInt32 >>> ((3 : Int32) &&& 31).toUInt32).toInt32) &&& (7 : Int32)))), .val (.int v13_s0)] [])) _
            refine XS.iloadN X13.here hx rfl (hb hby at_81) rfl ?_
            show Steps p.tables e below (T13.setTop (mkF m 82 #[.val (.int p0), .val (.int p1), .val (.int ((95 : Int32) + (p1 &&& (7 : Int32)))), .val (.int ((595 : Int32) + (((p1.toUInt32 >>> ((3 : Int32) &&& 31).toUInt32).toInt32) &&& (7 : Int32)))), .val (.int v13_s0)] [(.int p0)])) _
            refine st15 _ ?_
            show Steps p.tables e below (T15.setTop (mkF m 85 #[.val (.int p0), .val (.int p1), .val (.int ((95 : Int32) + (p1 &&& (7 : Int32)))), .val (.int ((595 : Int32) + (((p1.toUInt32 >>> ((3 : Int32) &&& 31).toUInt32).toInt32) &&& (7 : Int32)))), .val (.int v13_s0)] [(.int (F1 p0))])) _
            refine XS.iloadN X15.here hx rfl (hb hby at_85) rfl ?_
            show Steps p.tables e below (T15.setTop (mkF m 86 #[.val (.int p0), .val (.int p1), .val (.int ((95 : Int32) + (p1 &&& (7 : Int32)))), .val (.int ((595 : Int32) + (((p1.toUInt32 >>> ((3 : Int32) &&& 31).toUInt32).toInt32) &&& (7 : Int32)))), .val (.int v13_s0)] [(.int p0), (.int (F1 p0))])) _
            refine st16 _ ?_
            show Steps p.tables e below (T16.setTop (mkF m 89 #[.val (.int p0), .val (.int p1), .val (.int ((95 : Int32) + (p1 &&& (7 : Int32)))), .val (.int ((595 : Int32) + (((p1.toUInt32 >>> ((3 : Int32) &&& 31).toUInt32).toInt32) &&& (7 : Int32)))), .val (.int v13_s0)] [(.int (F2 p0)), (.int (F1 p0))])) _
            refine XS.icmpNo X16.here hx rfl (hb hby at_89) rfl (teq hc17).2 ?_
            show Steps p.tables e below (T16.setTop (mkF m 92 #[.val (.int p0), .val (.int p1), .val (.int ((95 : Int32) + (p1 &&& (7 : Int32)))), .val (.int ((595 : Int32) + (((p1.toUInt32 >>> ((3 : Int32) &&& 31).toUInt32).toInt32) &&& (7 : Int32)))), .val (.int v13_s0)] [])) _
            refine XS.iloadN X16.here hx rfl (hb hby at_92) rfl ?_
            show Steps p.tables e below (T16.setTop (mkF m 93 #[.val (.int p0), .val (.int p1), .val (.int ((95 : Int32) + (p1 &&& (7 : Int32)))), .val (.int ((595 : Int32) + (((p1.toUInt32 >>> ((3 : Int32) &&& 31).toUInt32).toInt32) &&& (7 : Int32)))), .val (.int v13_s0)] [(.int ((95 : Int32) + (p1 &&& (7 : Int32))))])) _
            refine st18 _ ?_
            show Steps p.tables e below (T18.setTop (mkF m 96 #[.val (.int p0), .val (.int p1), .val (.int ((95 : Int32) + (p1 &&& (7 : Int32)))), .val (.int ((595 : Int32) + (((p1.toUInt32 >>> ((3 : Int32) &&& 31).toUInt32).toInt32) &&& (7 : Int32)))), .val (.int v13_s0)] [(.int (F1 ((95 : Int32) + (p1 &&& (7 : Int32)))))])) _
            refine XS.iloadN X18.here hx rfl (hb hby at_96) rfl ?_
            show Steps p.tables e below (T18.setTop (mkF m 97 #[.val (.int p0), .val (.int p1), .val (.int ((95 : Int32) + (p1 &&& (7 : Int32)))), .val (.int ((595 : Int32) + (((p1.toUInt32 >>> ((3 : Int32) &&& 31).toUInt32).toInt32) &&& (7 : Int32)))), .val (.int v13_s0)] [(.int ((95 : Int32) + (p1 &&& (7 : Int32)))), (.int (F1 ((95 : Int32) + (p1 &&& (7 : Int32)))))])) _
            refine st19 _ ?_
            show Steps p.tables e below (T19.setTop (mkF m 100 #[.val (.int p0), .val (.int p1), .val (.int ((95 : Int32) + (p1 &&& (7 : Int32)))), .val (.int ((595 : Int32) + (((p1.toUInt32 >>> ((3 : Int32) &&& 31).toUInt32).toInt32) &&& (7 : Int32)))), .val (.int v13_s0)] [(.int (F2 ((95 : Int32) + (p1 &&& (7 : Int32))))), (.int (F1 ((95 : Int32) + (p1 &&& (7 : Int32)))))])) _
            refine XS.icmpNo X19.here hx rfl (hb hby at_100) rfl (teq hc20).2 ?_
            show Steps p.tables e below (T19.setTop (mkF m 103 #[.val (.int p0), .val (.int p1), .val (.int ((95 : Int32) + (p1 &&& (7 : Int32)))), .val (.int ((595 : Int32) + (((p1.toUInt32 >>> ((3 : Int32) &&& 31).toUInt32).toInt32) &&& (7 : Int32)))), .val (.int v13_s0)] [])) _
            refine XS.iloadN X19.here hx rfl (hb hby at_103) rfl ?_
            show Steps p.tables e below (T19.setTop (mkF m 104 #[.val (.int p0), .val (.int p1), .val (.int ((95 : Int32) + (p1 &&& (7 : Int32)))), .val (.int ((595 : Int32) + (((p1.toUInt32 >>> ((3 : Int32) &&& 31).toUInt32).toInt32) &&& (7 : Int32)))), .val (.int v13_s0)] [(.int ((595 : Int32) + (((p1.toUInt32 >>> ((3 : Int32) &&& 31).toUInt32).toInt32) &&& (7 : Int32))))])) _
            refine st21 _ ?_
            show Steps p.tables e below (T21.setTop (mkF m 107 #[.val (.int p0), .val (.int p1), .val (.int ((95 : Int32) + (p1 &&& (7 : Int32)))), .val (.int ((595 : Int32) + (((p1.toUInt32 >>> ((3 : Int32) &&& 31).toUInt32).toInt32) &&& (7 : Int32)))), .val (.int v13_s0)] [(.int (F1 ((595 : Int32) + (((p1.toUInt32 >>> ((3 : Int32) &&& 31).toUInt32).toInt32) &&& (7 : Int32)))))])) _
            refine XS.iloadN X21.here hx rfl (hb hby at_107) rfl ?_
            show Steps p.tables e below (T21.setTop (mkF m 108 #[.val (.int p0), .val (.int p1), .val (.int ((95 : Int32) + (p1 &&& (7 : Int32)))), .val (.int ((595 : Int32) + (((p1.toUInt32 >>> ((3 : Int32) &&& 31).toUInt32).toInt32) &&& (7 : Int32)))), .val (.int v13_s0)] [(.int ((595 : Int32) + (((p1.toUInt32 >>> ((3 : Int32) &&& 31).toUInt32).toInt32) &&& (7 : Int32)))), (.int (F1 ((595 : Int32) + (((p1.toUInt32 >>> ((3 : Int32) &&& 31).toUInt32).toInt32) &&& (7 : Int32)))))])) _
            refine st22 _ ?_
            show Steps p.tables e below (T22.setTop (mkF m 111 #[.val (.int p0), .val (.int p1), .val (.int ((95 : Int32) + (p1 &&& (7 : Int32)))), .val (.int ((595 : Int32) + (((p1.toUInt32 >>> ((3 : Int32) &&& 31).toUInt32).toInt32) &&& (7 : Int32)))), .val (.int v13_s0)] [(.int (F2 ((595 : Int32) + (((p1.toUInt32 >>> ((3 : Int32) &&& 31).toUInt32).toInt32) &&& (7 : Int32))))), (.int (F1 ((595 : Int32) + (((p1.toUInt32 >>> ((3 : Int32) &&& 31).toUInt32).toInt32) &&& (7 : Int32)))))])) _
            refine XS.icmpYes X22.here hx rfl (pc0 := 111) (pc' := 118) rfl (hb hby at_111) rfl (feq hc23).2 (by decide) (by decide) ?_
            show Steps p.tables e below (T22.setTop (mkF m 118 #[.val (.int p0), .val (.int p1), .val (.int ((95 : Int32) + (p1 &&& (7 : Int32)))), .val (.int ((595 : Int32) + (((p1.toUInt32 >>> ((3 : Int32) &&& 31).toUInt32).toInt32) &&& (7 : Int32)))), .val (.int v13_s0)] [])) _
            refine XS.iconst X22.here hx rfl (hb hby at_118) ?_
            exact kt
        · rw [if_neg hc14, if_pos hc17, if_neg hc20] at Hv24_s0
          refine ⟨T19, X19, e19, fun target kt => ?_⟩
          rw [Hv24_s0] at kt
          show Steps p.tables e below (T13.setTop (mkF m 78 #[.val (.int p0), .val (.int p1), .val (.int ((95 : Int32) + (p1 &&& (7 : Int32)))), .val (.int ((595 : Int32) + (((p1.toUInt32 >>> ((3 : Int32) &&& 31).toUInt32).toInt32) &&& (7 : Int32)))), .val (.int v13_s0)] [(.int v13_s0)])) _
          refine XS.ifNo X13.here hx rfl (hb hby at_78) rfl ((if0 _ _).trans (feq hc14).1) ?_
          show Steps p.tables e below (T13.setTop (mkF m 81 #[.val (.int p0), .val (.int p1), .val (.int ((95 : Int32) + (p1 &&& (7 : Int32)))), .val (.int ((595 : Int32) + (((p1.toUInt32 >>> ((3 : Int32) &&& 31).toUInt32).toInt32) &&& (7 : Int32)))), .val (.int v13_s0)] [])) _
          refine XS.iloadN X13.here hx rfl (hb hby at_81) rfl ?_
          show Steps p.tables e below (T13.setTop (mkF m 82 #[.val (.int p0), .val (.int p1), .val (.int ((95 : Int32) + (p1 &&& (7 : Int32)))), .val (.int ((595 : Int32) + (((p1.toUInt32 >>> ((3 : Int32) &&& 31).toUInt32).toInt32) &&& (7 : Int32)))), .val (.int v13_s0)] [(.int p0)])) _
          refine st15 _ ?_
          show Steps p.tables e below (T15.setTop (mkF m 85 #[.val (.int p0), .val (.int p1), .val (.int ((95 : Int32) + (p1 &&& (7 : Int32)))), .val (.int ((595 : Int32) + (((p1.toUInt32 >>> ((3 : Int32) &&& 31).toUInt32).toInt32) &&& (7 : Int32)))), .val (.int v13_s0)] [(.int (F1 p0))])) _
          refine XS.iloadN X15.here hx rfl (hb hby at_85) rfl ?_
          show Steps p.tables e below (T15.setTop (mkF m 86 #[.val (.int p0), .val (.int p1), .val (.int ((95 : Int32) + (p1 &&& (7 : Int32)))), .val (.int ((595 : Int32) + (((p1.toUInt32 >>> ((3 : Int32) &&& 31).toUInt32).toInt32) &&& (7 : Int32)))), .val (.int v13_s0)] [(.int p0), (.int (F1 p0))])) _
          refine st16 _ ?_
          show Steps p.tables e below (T16.setTop (mkF m 89 #[.val (.int p0), .val (.int p1), .val (.int ((95 : Int32) + (p1 &&& (7 : Int32)))), .val (.int ((595 : Int32) + (((p1.toUInt32 >>> ((3 : Int32) &&& 31).toUInt32).toInt32) &&& (7 : Int32)))), .val (.int v13_s0)] [(.int (F2 p0)), (.int (F1 p0))])) _
          refine XS.icmpNo X16.here hx rfl (hb hby at_89) rfl (teq hc17).2 ?_
          show Steps p.tables e below (T16.setTop (mkF m 92 #[.val (.int p0), .val (.int p1), .val (.int ((95 : Int32) + (p1 &&& (7 : Int32)))), .val (.int ((595 : Int32) + (((p1.toUInt32 >>> ((3 : Int32) &&& 31).toUInt32).toInt32) &&& (7 : Int32)))), .val (.int v13_s0)] [])) _
          refine XS.iloadN X16.here hx rfl (hb hby at_92) rfl ?_
          show Steps p.tables e below (T16.setTop (mkF m 93 #[.val (.int p0), .val (.int p1), .val (.int ((95 : Int32) + (p1 &&& (7 : Int32)))), .val (.int ((595 : Int32) + (((p1.toUInt32 >>> ((3 : Int32) &&& 31).toUInt32).toInt32) &&& (7 : Int32)))), .val (.int v13_s0)] [(.int ((95 : Int32) + (p1 &&& (7 : Int32))))])) _
          refine st18 _ ?_
          show Steps p.tables e below (T18.setTop (mkF m 96 #[.val (.int p0), .val (.int p1), .val (.int ((95 : Int32) + (p1 &&& (7 : Int32)))), .val (.int ((595 : Int32) + (((p1.toUInt32 >>> ((3 : Int32) &&& 31).toUInt32).toInt32) &&& (7 : Int32)))), .val (.int v13_s0)] [(.int (F1 ((95 : Int32) + (p1 &&& (7 : Int32)))))])) _
          refine XS.iloadN X18.here hx rfl (hb hby at_96) rfl ?_
          show Steps p.tables e below (T18.setTop (mkF m 97 #[.val (.int p0), .val (.int p1), .val (.int ((95 : Int32) + (p1 &&& (7 : Int32)))), .val (.int ((595 : Int32) + (((p1.toUInt32 >>> ((3 : Int32) &&& 31).toUInt32).toInt32) &&& (7 : Int32)))), .val (.int v13_s0)] [(.int ((95 : Int32) + (p1 &&& (7 : Int32)))), (.int (F1 ((95 : Int32) + (p1 &&& (7 : Int32)))))])) _
          refine st19 _ ?_
          show Steps p.tables e below (T19.setTop (mkF m 100 #[.val (.int p0), .val (.int p1), .val (.int ((95 : Int32) + (p1 &&& (7 : Int32)))), .val (.int ((595 : Int32) + (((p1.toUInt32 >>> ((3 : Int32) &&& 31).toUInt32).toInt32) &&& (7 : Int32)))), .val (.int v13_s0)] [(.int (F2 ((95 : Int32) + (p1 &&& (7 : Int32))))), (.int (F1 ((95 : Int32) + (p1 &&& (7 : Int32)))))])) _
          refine XS.icmpYes X19.here hx rfl (pc0 := 100) (pc' := 118) rfl (hb hby at_100) rfl (feq hc20).2 (by decide) (by decide) ?_
          show Steps p.tables e below (T19.setTop (mkF m 118 #[.val (.int p0), .val (.int p1), .val (.int ((95 : Int32) + (p1 &&& (7 : Int32)))), .val (.int ((595 : Int32) + (((p1.toUInt32 >>> ((3 : Int32) &&& 31).toUInt32).toInt32) &&& (7 : Int32)))), .val (.int v13_s0)] [])) _
          refine XS.iconst X19.here hx rfl (hb hby at_118) ?_
          exact kt
      · rw [if_neg hc14, if_neg hc17] at Hv24_s0
        refine ⟨T16, X16, e16, fun target kt => ?_⟩
        rw [Hv24_s0] at kt
        show Steps p.tables e below (T13.setTop (mkF m 78 #[.val (.int p0), .val (.int p1), .val (.int ((95 : Int32) + (p1 &&& (7 : Int32)))), .val (.int ((595 : Int32) + (((p1.toUInt32 >>> ((3 : Int32) &&& 31).toUInt32).toInt32) &&& (7 : Int32)))), .val (.int v13_s0)] [(.int v13_s0)])) _
        refine XS.ifNo X13.here hx rfl (hb hby at_78) rfl ((if0 _ _).trans (feq hc14).1) ?_
        show Steps p.tables e below (T13.setTop (mkF m 81 #[.val (.int p0), .val (.int p1), .val (.int ((95 : Int32) + (p1 &&& (7 : Int32)))), .val (.int ((595 : Int32) + (((p1.toUInt32 >>> ((3 : Int32) &&& 31).toUInt32).toInt32) &&& (7 : Int32)))), .val (.int v13_s0)] [])) _
        refine XS.iloadN X13.here hx rfl (hb hby at_81) rfl ?_
        show Steps p.tables e below (T13.setTop (mkF m 82 #[.val (.int p0), .val (.int p1), .val (.int ((95 : Int32) + (p1 &&& (7 : Int32)))), .val (.int ((595 : Int32) + (((p1.toUInt32 >>> ((3 : Int32) &&& 31).toUInt32).toInt32) &&& (7 : Int32)))), .val (.int v13_s0)] [(.int p0)])) _
        refine st15 _ ?_
        show Steps p.tables e below (T15.setTop (mkF m 85 #[.val (.int p0), .val (.int p1), .val (.int ((95 : Int32) + (p1 &&& (7 : Int32)))), .val (.int ((595 : Int32) + (((p1.toUInt32 >>> ((3 : Int32) &&& 31).toUInt32).toInt32) &&& (7 : Int32)))), .val (.int v13_s0)] [(.int (F1 p0))])) _
        refine XS.iloadN X15.here hx rfl (hb hby at_85) rfl ?_
        show Steps p.tables e below (T15.setTop (mkF m 86 #[.val (.int p0), .val (.int p1), .val (.int ((95 : Int32) + (p1 &&& (7 : Int32)))), .val (.int ((595 : Int32) + (((p1.toUInt32 >>> ((3 : Int32) &&& 31).toUInt32).toInt32) &&& (7 : Int32)))), .val (.int v13_s0)] [(.int p0), (.int (F1 p0))])) _
        refine st16 _ ?_
        show Steps p.tables e below (T16.setTop (mkF m 89 #[.val (.int p0), .val (.int p1), .val (.int ((95 : Int32) + (p1 &&& (7 : Int32)))), .val (.int ((595 : Int32) + (((p1.toUInt32 >>> ((3 : Int32) &&& 31).toUInt32).toInt32) &&& (7 : Int32)))), .val (.int v13_s0)] [(.int (F2 p0)), (.int (F1 p0))])) _
        refine XS.icmpYes X16.here hx rfl (pc0 := 89) (pc' := 118) rfl (hb hby at_89) rfl (feq hc17).2 (by decide) (by decide) ?_
        show Steps p.tables e below (T16.setTop (mkF m 118 #[.val (.int p0), .val (.int p1), .val (.int ((95 : Int32) + (p1 &&& (7 : Int32)))), .val (.int ((595 : Int32) + (((p1.toUInt32 >>> ((3 : Int32) &&& 31).toUInt32).toInt32) &&& (7 : Int32)))), .val (.int v13_s0)] [])) _
        refine XS.iconst X16.here hx rfl (hb hby at_118) ?_
        exact kt)
  have hfin : nar .boolean v24_s0 = 1 := by rw [plain_law p0 p1 v13_s0 Hv13_s0 v24_s0 Hv24_s0]; rfl
  obtain ⟨fs, hr, hrun, hended, hW, hsame⟩ := X24.leave (v := some (.int (nar .boolean v24_s0))) (fun h => by rw [Bd.returns] at h; cases h)
  refine ⟨_, _, pre0 _ ?_, hrun, hended, _, _, rfl, ?_, ⟨_, rfl⟩, hW, hsame.mono (by decide) (by decide)⟩
  · show Steps p.tables e below (s₁.setTop (mkF m 0 #[.val (.int p0), .val (.int p1), .unset, .unset, .unset] [])) _
    refine XS.bipush X0.here hx rfl (hb hby at_0) ?_
    show Steps p.tables e below (s₁.setTop (mkF m 2 #[.val (.int p0), .val (.int p1), .unset, .unset, .unset] [(.int (95 : Int32))])) _
    refine XS.iloadN X0.here hx rfl (hb hby at_2) rfl ?_
    show Steps p.tables e below (s₁.setTop (mkF m 3 #[.val (.int p0), .val (.int p1), .unset, .unset, .unset] [(.int p1), (.int (95 : Int32))])) _
    refine XS.bipush X0.here hx rfl (hb hby at_3) ?_
    show Steps p.tables e below (s₁.setTop (mkF m 5 #[.val (.int p0), .val (.int p1), .unset, .unset, .unset] [(.int (7 : Int32)), (.int p1), (.int (95 : Int32))])) _
    refine XS.iand X0.here hx rfl (hb hby at_5) rfl ?_
    show Steps p.tables e below (s₁.setTop (mkF m 6 #[.val (.int p0), .val (.int p1), .unset, .unset, .unset] [(.int (p1 &&& (7 : Int32))), (.int (95 : Int32))])) _
    refine XS.iadd X0.here hx rfl (hb hby at_6) rfl ?_
    show Steps p.tables e below (s₁.setTop (mkF m 7 #[.val (.int p0), .val (.int p1), .unset, .unset, .unset] [(.int ((95 : Int32) + (p1 &&& (7 : Int32))))])) _
    refine XS.istoreN X0.here hx rfl (hb hby at_7) rfl (l' := #[.val (.int p0), .val (.int p1), .val (.int ((95 : Int32) + (p1 &&& (7 : Int32)))), .unset, .unset]) rfl ?_
    show Steps p.tables e below (s₁.setTop (mkF m 8 #[.val (.int p0), .val (.int p1), .val (.int ((95 : Int32) + (p1 &&& (7 : Int32)))), .unset, .unset] [])) _
    refine XS.sipush X0.here hx rfl (hb hby at_8) ?_
    show Steps p.tables e below (s₁.setTop (mkF m 11 #[.val (.int p0), .val (.int p1), .val (.int ((95 : Int32) + (p1 &&& (7 : Int32)))), .unset, .unset] [(.int (595 : Int32))])) _
    refine XS.iloadN X0.here hx rfl (hb hby at_11) rfl ?_
    show Steps p.tables e below (s₁.setTop (mkF m 12 #[.val (.int p0), .val (.int p1), .val (.int ((95 : Int32) + (p1 &&& (7 : Int32)))), .unset, .unset] [(.int p1), (.int (595 : Int32))])) _
    refine XS.iconst X0.here hx rfl (hb hby at_12) ?_
    show Steps p.tables e below (s₁.setTop (mkF m 13 #[.val (.int p0), .val (.int p1), .val (.int ((95 : Int32) + (p1 &&& (7 : Int32)))), .unset, .unset] [(.int (3 : Int32)), (.int p1), (.int (595 : Int32))])) _
    refine XS.iushr X0.here hx rfl (hb hby at_13) rfl ?_
    show Steps p.tables e below (s₁.setTop (mkF m 14 #[.val (.int p0), .val (.int p1), .val (.int ((95 : Int32) + (p1 &&& (7 : Int32)))), .unset, .unset] [(.int ((p1.toUInt32 >>> ((3 : Int32) &&& 31).toUInt32).toInt32)), (.int (595 : Int32))])) _
    refine XS.bipush X0.here hx rfl (hb hby at_14) ?_
    show Steps p.tables e below (s₁.setTop (mkF m 16 #[.val (.int p0), .val (.int p1), .val (.int ((95 : Int32) + (p1 &&& (7 : Int32)))), .unset, .unset] [(.int (7 : Int32)), (.int ((p1.toUInt32 >>> ((3 : Int32) &&& 31).toUInt32).toInt32)), (.int (595 : Int32))])) _
    refine XS.iand X0.here hx rfl (hb hby at_16) rfl ?_
    show Steps p.tables e below (s₁.setTop (mkF m 17 #[.val (.int p0), .val (.int p1), .val (.int ((95 : Int32) + (p1 &&& (7 : Int32)))), .unset, .unset] [(.int (((p1.toUInt32 >>> ((3 : Int32) &&& 31).toUInt32).toInt32) &&& (7 : Int32))), (.int (595 : Int32))])) _
    refine XS.iadd X0.here hx rfl (hb hby at_17) rfl ?_
    show Steps p.tables e below (s₁.setTop (mkF m 18 #[.val (.int p0), .val (.int p1), .val (.int ((95 : Int32) + (p1 &&& (7 : Int32)))), .unset, .unset] [(.int ((595 : Int32) + (((p1.toUInt32 >>> ((3 : Int32) &&& 31).toUInt32).toInt32) &&& (7 : Int32))))])) _
    refine XS.istoreN X0.here hx rfl (hb hby at_18) rfl (l' := #[.val (.int p0), .val (.int p1), .val (.int ((95 : Int32) + (p1 &&& (7 : Int32)))), .val (.int ((595 : Int32) + (((p1.toUInt32 >>> ((3 : Int32) &&& 31).toUInt32).toInt32) &&& (7 : Int32)))), .unset]) rfl ?_
    show Steps p.tables e below (s₁.setTop (mkF m 19 #[.val (.int p0), .val (.int p1), .val (.int ((95 : Int32) + (p1 &&& (7 : Int32)))), .val (.int ((595 : Int32) + (((p1.toUInt32 >>> ((3 : Int32) &&& 31).toUInt32).toInt32) &&& (7 : Int32)))), .unset] [])) _
    refine XS.bipush X0.here hx rfl (hb hby at_19) ?_
    show Steps p.tables e below (s₁.setTop (mkF m 21 #[.val (.int p0), .val (.int p1), .val (.int ((95 : Int32) + (p1 &&& (7 : Int32)))), .val (.int ((595 : Int32) + (((p1.toUInt32 >>> ((3 : Int32) &&& 31).toUInt32).toInt32) &&& (7 : Int32)))), .unset] [(.int (99 : Int32))])) _
    refine st1 _ ?_
    show Steps p.tables e below (T1.setTop (mkF m 24 #[.val (.int p0), .val (.int p1), .val (.int ((95 : Int32) + (p1 &&& (7 : Int32)))), .val (.int ((595 : Int32) + (((p1.toUInt32 >>> ((3 : Int32) &&& 31).toUInt32).toInt32) &&& (7 : Int32)))), .unset] [(.int (F1 (99 : Int32)))])) _
    refine st13 _ ?_
    show Steps p.tables e below (T13.setTop (mkF m 74 #[.val (.int p0), .val (.int p1), .val (.int ((95 : Int32) + (p1 &&& (7 : Int32)))), .val (.int ((595 : Int32) + (((p1.toUInt32 >>> ((3 : Int32) &&& 31).toUInt32).toInt32) &&& (7 : Int32)))), .unset] [(.int v13_s0)])) _
    refine XS.istore X13.here hx rfl (hb hby at_74) rfl (l' := #[.val (.int p0), .val (.int p1), .val (.int ((95 : Int32) + (p1 &&& (7 : Int32)))), .val (.int ((595 : Int32) + (((p1.toUInt32 >>> ((3 : Int32) &&& 31).toUInt32).toInt32) &&& (7 : Int32)))), .val (.int v13_s0)]) rfl ?_
    show Steps p.tables e below (T13.setTop (mkF m 76 #[.val (.int p0), .val (.int p1), .val (.int ((95 : Int32) + (p1 &&& (7 : Int32)))), .val (.int ((595 : Int32) + (((p1.toUInt32 >>> ((3 : Int32) &&& 31).toUInt32).toInt32) &&& (7 : Int32)))), .val (.int v13_s0)] [])) _
    refine XS.iload X13.here hx rfl (hb hby at_76) rfl ?_
    show Steps p.tables e below (T13.setTop (mkF m 78 #[.val (.int p0), .val (.int p1), .val (.int ((95 : Int32) + (p1 &&& (7 : Int32)))), .val (.int ((595 : Int32) + (((p1.toUInt32 >>> ((3 : Int32) &&& 31).toUInt32).toInt32) &&& (7 : Int32)))), .val (.int v13_s0)] [(.int v13_s0)])) _
    refine st24 _ ?_
    show Steps p.tables e below (T24.setTop (mkF m 119 #[.val (.int p0), .val (.int p1), .val (.int ((95 : Int32) + (p1 &&& (7 : Int32)))), .val (.int ((595 : Int32) + (((p1.toUInt32 >>> ((3 : Int32) &&& 31).toUInt32).toInt32) &&& (7 : Int32)))), .val (.int v13_s0)] [(.int v24_s0)])) _
    exact retN X24 hx (t := .boolean) Bd.returns (by simp) (hb hby at_119) hr
  · exact ⟨congrArg (fun z => some (Value.int z)) hfin, N0⟩
set_option maxRecDepth 65536 in
set_option maxHeartbeats 40000000 in
theorem comes_1 {Post : Tables → Env → Array Value → State → Outcome → State → Prop} (hpost : ∀ tb e args s v u, (limb_1_1.after args s (.returned v) u = true ∧ limb_1_2.after args s (.returned v) u = true ∧ True) → FrameEnd s (.returned v) u (Jvm.fieldLocs frame_1_writes args s ++ Jvm.arrayLocs frame_1_arrays args s ++ Jvm.staticLocs frame_1_statics s) 0 0 → Post tb e args s (.returned v) u) :
    ArmFor flags0 classFile x code maxLocals ret World_1 tables_1 room_1 Calls_1 rest_1 Pre_1 Post := by
  intro l hfl _ _ p e ha hc hk s m args below hf hA hF happ hP
  obtain ⟨hcalls, hrest, hpre⟩ := hP
  obtain ⟨-, -, -, hnamed, -, -, -, hat⟩ := (Spec.applies_iff hf).mp happ
  obtain ⟨hg, hn⟩ := and_e (Cond.before_iff.mp (show (Jvm.Cond.and given_1 narrow_1).before args s = true from hpre))
  obtain ⟨gg1, gg2⟩ := and_e hg
  obtain ⟨gg3, gg4⟩ := and_e gg2
  obtain ⟨w0, w1, rfl⟩ : ∃ w0 w1 : Value, args = #[w0, w1] := by
    have hs : args.size = 2 := by simpa [Cond.value, given_1] using gg1
    obtain ⟨L⟩ := args
    match L, hs with
    | [w0, w1], _ => exact ⟨w0, w1, rfl⟩
  have hw := fun d (hd : d ∈ tables_1) => atoms_spec (ws := Jvm.Cond.code x code maxLocals ret :: tables_1) hat d (List.mem_cons_of_mem _ hd)
  obtain ⟨i0, ei0⟩ := is_v gg3
  obtain rfl : w0 = (.int i0) := Option.some.inj ei0
  obtain ⟨i1, ei1⟩ := is_v gg4
  obtain rfl : w1 = (.int i1) := Option.some.inj ei1
  obtain ⟨n, o, h1, h2, h3, _, L, rfl, ⟨rfl, N⟩, hq⟩ := rm0 l s _ hw tables_1 i0 i1 s.heap s.heap.size (Nat.le_refl _) p e ha hc hk s m _ below hf ((Spec.applies_iff_loose hf).mp happ).1 ⟨rfl, State.Warmed39.refl s, rfl⟩ trivial
  refine ⟨n, _, h1, h2, h3, hpost _ _ _ _ _ _ ⟨Cond.after_iff.mpr rfl, Cond.after_iff.mpr (eq_i res_at (Term.int_eval (1)) rfl), trivial⟩ ⟨hq.1, hq.2.1, (hq.2.2.sift fun y hy => Or.inr (N y hy)).mono (by decide) (by decide)⟩⟩
theorem main_1_1 : Claimed_1_1 := comes_1 fun _ _ _ _ _ _ h hF => ⟨h.1, hF⟩
theorem main_1_2 : Claimed_1_2 := comes_1 fun _ _ _ _ _ _ h hF => ⟨h.2.1, hF⟩
end Jvm.Pilot.@@N@@
namespace Jvm.Pilot.@@N@@
open Jvm Jvm.ClassFile Sem Op Lib Jvm.Free Jvm.Stand Jvm.Pilot.@@N@@.Jvm.D
/-! MADE BY PROGRAM (witnessworld.py) out of the Statement's table words and the real class files: 10 classes; the members and pool entries that the words name. The judged class is class 1, her method 2. -/
namespace start1
open Jvm.ClassFile
def u (s : String) : CpInfo := .utf8 (stringToUtf16 s)
/-- a pool by its gaps: so many unusable entries, then the entry; so many at the end -/
def gap : Nat → List CpInfo → List CpInfo
  | 0, r => r
  | n + 1, r => .unusable :: gap n r
def poolList (es : List (Nat × CpInfo)) (last : Nat) : List CpInfo := es.foldr (fun e r => gap e.1 (e.2 :: r)) (gap last [])
def pool (es : List (Nat × CpInfo)) (last : Nat) : Array CpInfo := ⟨poolList es last⟩
def fileOf (pool : Array CpInfo) (this : Nat) (attrs : Array Attribute := #[]) (ms : Array MethodInfo := #[]) (fl : Nat := 33) (sup : Nat := 0) (ifs : Array Nat := #[]) (fds : Array FieldInfo := #[]) : ClassFile where
  minorVersion := 0
  majorVersion := 65
  constantPool := pool
  accessFlags := fl
  thisClass := this
  superClass := sup
  interfaces := ifs
  fields := fds
  methods := ms
  attributes := attrs
def plain (name : String) (sup : Option ClassId) : Class where
  name := name
  kind := .ordinary
  loader := none
  accessFlags := 33
  super := sup
  interfaces := #[]
  cf := none
  fields := #[]
  methods := #[]
  instanceTypes := #[]
  staticTypes := #[]
  resolved := #[]
  callSites := []
  init := .initialized
  statics := none
  mirror := none

def pool0 : Array CpInfo := pool [(5, u "<init>"), (0, u "()V"), (1, .class_ 10), (1, u "java/lang/Object")] 113

def k0m0 : Method := { name := "<init>", desc := "()V", sig := { parameters := [], returnType := none }, accessFlags := 1, code := none }
/-- java/lang/Object -/
def k0 : Class := { plain "java/lang/Object" none with
  accessFlags := 33
  interfaces := #[]
  cf := some (fileOf pool0 8 #[] #[{ accessFlags := 1, nameIndex := 5, descriptorIndex := 6, attributes := #[] }] 33 0 #[] #[])
  fields := #[]
  methods := #[k0m0]
  instanceTypes := #[]
  staticTypes := #[]
  resolved := Array.replicate 124 none
  statics := none }

def pool1 : Array CpInfo := pool [(2, .class_ 4), (1, u "java/lang/Object"), (0, u "<init>"), (0, u "()V"), (0, .methodref 8 9), (0, .class_ 10), (0, .nameAndType 11 12), (0, u "com/example/uptime_tally/uptimetally/Request"), (0, u "isStatus"), (0, u "(I)Z"), (2, .integer 2147483648), (0, .integer 2147483647), (0, .methodref 18 19), (0, .class_ 20), (0, .nameAndType 21 12), (0, u "com/example/uptime_tally/uptimetally/RequestIsStatusPinLaw"), (0, u "ref"), (3, u "law"), (0, u "(II)Z")] 2

def k1m0 : Method := { name := "<init>", desc := "()V", sig := { parameters := [], returnType := none }, accessFlags := 2, code := none }
def k1c1 : Code := { maxStack := 2, maxLocals := 2, code := method_2_code, exceptionTable := #[], attributes := #[] }
def k1m1 : Method := { name := "ref", desc := "(I)Z", sig := { parameters := [.int], returnType := some .boolean }, accessFlags := 10, code := some k1c1 }
def k1c2 : Code := { maxStack := 3, maxLocals := 5, code := code, exceptionTable := #[], attributes := #[] }
def k1m2 : Method := { name := "law", desc := "(II)Z", sig := { parameters := [.int, .int], returnType := some .boolean }, accessFlags := 9, code := some k1c2 }
/-- com/example/uptime_tally/uptimetally/RequestIsStatusPinLaw -/
def k1 : Class := { plain "com/example/uptime_tally/uptimetally/RequestIsStatusPinLaw" (some 0) with
  accessFlags := 49
  interfaces := #[]
  cf := some (fileOf pool1 18 #[] #[{ accessFlags := 2, nameIndex := 5, descriptorIndex := 6, attributes := #[] }, { accessFlags := 10, nameIndex := 21, descriptorIndex := 12, attributes := #[] }, { accessFlags := 9, nameIndex := 25, descriptorIndex := 26, attributes := #[] }] 49 2 #[] #[])
  fields := #[]
  methods := #[k1m0, k1m1, k1m2]
  instanceTypes := #[]
  staticTypes := #[]
  resolved := Array.replicate 29 none
  statics := none }

def pool2 : Array CpInfo := pool [(2, .class_ 4), (1, u "java/lang/Object"), (0, u "<init>"), (0, u "()V"), (0, .class_ 8), (0, u "java/lang/Record")] 13

def k2m0 : Method := { name := "<init>", desc := "()V", sig := { parameters := [], returnType := none }, accessFlags := 4, code := none }
/-- java/lang/Record -/
def k2 : Class := { plain "java/lang/Record" (some 0) with
  accessFlags := 1057
  interfaces := #[]
  cf := some (fileOf pool2 7 #[] #[{ accessFlags := 4, nameIndex := 5, descriptorIndex := 6, attributes := #[] }] 1057 2 #[] #[])
  fields := #[]
  methods := #[k2m0]
  instanceTypes := #[]
  staticTypes := #[]
  resolved := Array.replicate 22 none
  statics := none }

def pool3 : Array CpInfo := pool [(2, .class_ 4), (1, u "java/lang/Record"), (3, .class_ 10), (1, u "com/example/uptime_tally/uptimetally/Request"), (56, u "epochSecond"), (0, u "J"), (2, u "status"), (0, u "I"), (2, u "region"), (0, u "Ljava/lang/String;"), (2, u "tenant"), (2, u "endpoint"), (2, u "payloadBytes"), (0, u "Ljava/lang/Long;"), (2, u "upstreams"), (0, u "Ljava/lang/Integer;"), (2, u "upstreamConnections"), (0, u "Lcom/example/uptime_tally/uptimetally/UpstreamConnections;"), (5, u "isStatus"), (0, u "(I)Z"), (5, u "REGION"), (0, u "Ljava/util/regex/Pattern;")] 128

def k3c0 : Code := { maxStack := 2, maxLocals := 1, code := prog_23_method_3_code, exceptionTable := #[], attributes := #[] }
def k3m0 : Method := { name := "isStatus", desc := "(I)Z", sig := { parameters := [.int], returnType := some .boolean }, accessFlags := 9, code := some k3c0 }
/-- com/example/uptime_tally/uptimetally/Request -/
def k3 : Class := { plain "com/example/uptime_tally/uptimetally/Request" (some 2) with
  accessFlags := 49
  interfaces := #[]
  cf := some (fileOf pool3 8 #[] #[{ accessFlags := 9, nameIndex := 100, descriptorIndex := 101, attributes := #[] }] 49 2 #[] #[{ accessFlags := 18, nameIndex := 67, descriptorIndex := 68, attributes := #[] }, { accessFlags := 18, nameIndex := 71, descriptorIndex := 72, attributes := #[] }, { accessFlags := 18, nameIndex := 75, descriptorIndex := 76, attributes := #[] }, { accessFlags := 18, nameIndex := 79, descriptorIndex := 76, attributes := #[] }, { accessFlags := 18, nameIndex := 82, descriptorIndex := 76, attributes := #[] }, { accessFlags := 18, nameIndex := 85, descriptorIndex := 86, attributes := #[] }, { accessFlags := 18, nameIndex := 89, descriptorIndex := 90, attributes := #[] }, { accessFlags := 18, nameIndex := 93, descriptorIndex := 94, attributes := #[] }, { accessFlags := 26, nameIndex := 107, descriptorIndex := 108, attributes := #[] }])
  fields := #[{ name := "epochSecond", type := .long, accessFlags := 18, slot := 0, constantValue := 0 }, { name := "status", type := .int, accessFlags := 18, slot := 1, constantValue := 0 }, { name := "region", type := (.object "java/lang/String"), accessFlags := 18, slot := 2, constantValue := 0 }, { name := "tenant", type := (.object "java/lang/String"), accessFlags := 18, slot := 3, constantValue := 0 }, { name := "endpoint", type := (.object "java/lang/String"), accessFlags := 18, slot := 4, constantValue := 0 }, { name := "payloadBytes", type := (.object "java/lang/Long"), accessFlags := 18, slot := 5, constantValue := 0 }, { name := "upstreams", type := (.object "java/lang/Integer"), accessFlags := 18, slot := 6, constantValue := 0 }, { name := "upstreamConnections", type := (.object "com/example/uptime_tally/uptimetally/UpstreamConnections"), accessFlags := 18, slot := 7, constantValue := 0 }, { name := "REGION", type := (.object "java/util/regex/Pattern"), accessFlags := 26, slot := 0, constantValue := 0 }]
  methods := #[k3m0]
  instanceTypes := #[.long, .int, (.object "java/lang/String"), (.object "java/lang/String"), (.object "java/lang/String"), (.object "java/lang/Long"), (.object "java/lang/Integer"), (.object "com/example/uptime_tally/uptimetally/UpstreamConnections")]
  staticTypes := #[(.object "java/util/regex/Pattern")]
  resolved := Array.replicate 237 none
  statics := none }

def pool4 : Array CpInfo := pool [(1, u "java/lang/Cloneable"), (0, .class_ 1), (0, u "java/lang/Object"), (0, .class_ 3)] 3

/-- java/lang/Cloneable -/
def k4 : Class := { plain "java/lang/Cloneable" (some 0) with
  accessFlags := 1537
  interfaces := #[]
  cf := some (fileOf pool4 2 #[] #[] 1537 4 #[] #[])
  fields := #[]
  methods := #[]
  instanceTypes := #[]
  staticTypes := #[]
  resolved := Array.replicate 8 none
  statics := none }

def pool5 : Array CpInfo := pool [(1, u "java/io/Serializable"), (0, .class_ 1), (0, u "java/lang/Object"), (0, .class_ 3)] 3

/-- java/io/Serializable -/
def k5 : Class := { plain "java/io/Serializable" (some 0) with
  accessFlags := 1537
  interfaces := #[]
  cf := some (fileOf pool5 2 #[] #[] 1537 4 #[] #[])
  fields := #[]
  methods := #[]
  instanceTypes := #[]
  staticTypes := #[]
  resolved := Array.replicate 8 none
  statics := none }

/-- the primitive byte -/
def k6 : Class := { plain "byte" none with kind := .primitive 'B', accessFlags := 0x411 }
/-- [B -/
def k7 : Class := { plain "[B" (some 0) with kind := .array 6 .byte, interfaces := #[4, 5], accessFlags := 1041 }

/-- the primitive int -/
def k8 : Class := { plain "int" none with kind := .primitive 'I', accessFlags := 0x411 }
/-- [I -/
def k9 : Class := { plain "[I" (some 0) with kind := .array 8 .int, interfaces := #[4, 5], accessFlags := 1041 }

def heap : Heap := #[]
def classes : Array Class := #[k0, k1, k2, k3, k4, k5, k6, k7, k8, k9]
def interned : List (Array UInt16 × Addr) := []
def slotsUsed : Nat := 0
def theMethod : MethodId := ⟨1, 2⟩
def args0 : Array Value := #[.int 5, .int 5]
def aboutOver (below : List Frame) : State where
  vm := { classes := classes, interned := interned.toArray }
  heap := heap
  slotsUsed := slotsUsed
  threads := #[{ frames := .invoking theMethod args0 :: below }]
def below0 : List Frame := [.native { method := ⟨0, 0⟩, args := #[] }]
def about1 : State := aboutOver below0
def p0 : Program := .bare "" "" ""
def e0 : Env := launch0.env 0 0 0
theorem w_frames : about1.frames = Frame.invoking theMethod args0 :: below0 := rfl
set_option maxRecDepth 65536 in
theorem w_args : argsFit about1.vm theMethod args0 = true := by decide +kernel
set_option maxRecDepth 65536 in
theorem w_heap : heapFits about1 = true := by decide +kernel
set_option maxRecDepth 65536 in
theorem w_runnable : about1.curStatus? = some .runnable := by decide +kernel
set_option maxRecDepth 65536 in
theorem w_alone : about1.alone = true := by decide +kernel
set_option maxRecDepth 65536 in
theorem w_named : about1.methodNamed? x = some theMethod := by decide +kernel
set_option maxRecDepth 65536 in
theorem w_hears : about1.hears theMethod below0 = true := by decide +kernel
set_option maxRecDepth 65536 in
theorem w_ripe : about1.ripe theMethod args0 below0 = true := by decide +kernel
theorem w_running : about1.status = .running := rfl
set_option maxRecDepth 65536 in
theorem w_room : about1.hasRoom e0.platform room_1 = true :=
  launch0.hasRoom_least _ room_1 (by decide +kernel) (by decide +kernel) (by decide +kernel) (by decide +kernel) (by decide +kernel) (by decide +kernel)
theorem allAtoms_all (ts : List Jvm.Cond) (a : Array Jvm.Value) (st : Jvm.State) : (allAtoms ts).before a st = ts.all (fun c => c.before a st) := by
  induction ts with
  | nil => rfl
  | cons c t ih =>
    show (Jvm.Cond.and c (allAtoms t)).before a st = _
    rw [Jvm.Cond.before_and, ih, List.all_cons]
def words1 : List Jvm.Cond := Jvm.Cond.code x code maxLocals ret :: tables_1
/-- a 'code' word, met by the world's own term for the bytes: nothing is compared byte by byte -/
theorem code_word {y : MethodName} {bytes : ByteArray} {mx : Nat} {rt : Option FieldType} {a : Array Value} {s : State} {m : MethodId} {meth : Method} {c : Code} (h1 : s.methodNamed? y = some m) (h2 : s.vm.method? m = some meth) (h3 : meth.code = some c) (h4 : c.code = bytes)
    (h5 : (c.maxLocals == mx && c.exceptionTable.isEmpty && decide (c.maxStack ≤ mostOperands) && decide (meth.sig.returnType = rt) && !meth.locks && decide (parseMethodDescriptor y.desc = some meth.sig)) = true) : (Jvm.Cond.code y bytes mx rt).before a s = true := by
  simp only [Bool.and_eq_true, beq_iff_eq, Bool.not_eq_true', decide_eq_true_eq] at h5
  obtain ⟨⟨⟨⟨⟨g1, g2⟩, g3⟩, g4⟩, g5⟩, g6⟩ := h5
  simp [Cond.before, Cond.holds, Cond.value, h1, h2, h3, h4, g1, g2, g3, g4, g5, g6]
def isCode : Jvm.Cond → Bool
  | .code _ _ _ _ => true
  | _ => false
theorem all_split {L : List Jvm.Cond} {P : Jvm.Cond → Bool} (h1 : L.all (fun c => isCode c || P c) = true) (h2 : ∀ c ∈ L.filter isCode, P c = true) : L.all P = true := by
  refine List.all_eq_true.mpr fun c hc => ?_
  have h := List.all_eq_true.mp h1 c hc
  rcases Bool.eq_false_or_eq_true (isCode c) with hi | hi
  · exact h2 c (List.mem_filter.mpr ⟨hc, hi⟩)
  · simpa [hi] using h
set_option maxRecDepth 65536 in
theorem w_c0 : (Jvm.Cond.code x code maxLocals ret).before args0 about1 = true := code_word (m := ⟨1, 2⟩) (meth := k1m2) (c := k1c2) (by decide +kernel) rfl rfl rfl (by decide +kernel)
set_option maxRecDepth 65536 in
theorem w_c1 : (Jvm.Cond.code ({ cls := "com/example/uptime_tally/uptimetally/Request", name := "isStatus", desc := "(I)Z" } : Jvm.MethodName) prog_23_method_3_code (1 : Nat) (Option.some Jvm.ClassFile.FieldType.boolean)).before args0 about1 = true := code_word (m := ⟨3, 0⟩) (meth := k3m0) (c := k3c0) (by decide +kernel) rfl rfl rfl (by decide +kernel)
set_option maxRecDepth 65536 in
theorem w_c2 : (Jvm.Cond.code ({ cls := "com/example/uptime_tally/uptimetally/RequestIsStatusPinLaw", name := "ref", desc := "(I)Z" } : Jvm.MethodName) method_2_code (2 : Nat) (Option.some Jvm.ClassFile.FieldType.boolean)).before args0 about1 = true := code_word (m := ⟨1, 1⟩) (meth := k1m1) (c := k1c1) (by decide +kernel) rfl rfl rfl (by decide +kernel)
def codes1 : List Jvm.Cond := [Jvm.Cond.code x code maxLocals ret, Jvm.Cond.code ({ cls := "com/example/uptime_tally/uptimetally/Request", name := "isStatus", desc := "(I)Z" } : Jvm.MethodName) prog_23_method_3_code (1 : Nat) (Option.some Jvm.ClassFile.FieldType.boolean), Jvm.Cond.code ({ cls := "com/example/uptime_tally/uptimetally/RequestIsStatusPinLaw", name := "ref", desc := "(I)Z" } : Jvm.MethodName) method_2_code (2 : Nat) (Option.some Jvm.ClassFile.FieldType.boolean)]
set_option maxRecDepth 65536 in
theorem codes_eq : words1.filter isCode = codes1 := rfl
theorem w_codes : ∀ c ∈ words1.filter isCode, c.before args0 about1 = true := by
  rw [codes_eq]
  intro c hc
  simp only [codes1, List.mem_cons, List.not_mem_nil, or_false] at hc
  rcases hc with rfl | rfl | rfl
  · exact w_c0
  · exact w_c1
  · exact w_c2
set_option maxRecDepth 65536 in
theorem w_t1 : words1.all (fun c => isCode c || c.before args0 about1) = true := by decide +kernel
theorem w_tables : (allAtoms (Jvm.Cond.code x code maxLocals ret :: tables_1)).before args0 about1 = true := by
  rw [allAtoms_all]
  show words1.all (fun c => c.before args0 about1) = true
  refine all_split ?_ w_codes
  rw [w_t1]
set_option maxRecDepth 65536 in
theorem w_case : (Jvm.Cond.and given_1 narrow_1).before args0 about1 = true := by decide +kernel
theorem w_applies : (headSpec (Jvm.Cond.code x code maxLocals ret :: tables_1) room_1).applies x e0.platform about1 = true :=
  (Spec.applies_iff w_frames).mpr ⟨w_running, w_runnable, w_alone, w_named, w_hears, w_ripe, w_room, w_tables⟩
theorem atStart : AtStart classFile x code maxLocals ret World_1 tables_1 room_1 Calls_1 rest_1 Pre_1 launch0 p0 e0 about1 theMethod args0 below0 :=
  ⟨lists_1, trivial, launch0.admits_env _ _ _, launch0.least_env, fairChoices_fair.cas, fairChoices_fair.clock, w_frames, w_args, w_heap, w_applies, trivial, trivial, w_case⟩
end start1
theorem witness_1 : WitnessClaimed_1 := ⟨start1.p0, start1.e0, start1.about1, start1.theMethod, start1.args0, start1.below0, start1.atStart⟩
end Jvm.Pilot.@@N@@
