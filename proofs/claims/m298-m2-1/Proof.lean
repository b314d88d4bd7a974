import JvmDerived
import JvmDerived.Pilot.@@N@@Statement
import JvmDerived.Pilot.@@N@@Code
set_option linter.unusedVariables false
set_option linter.unusedSimpArgs false
@@BLOCK:NumsL.lean.txt@@
namespace Jvm.RoadKit
open Sem ClassFile Op Lib Jvm.Stand Jvm.Free Jvm.LawKit
section New
variable {p : Program} {l : Launch} {e : Env} {R : Room} {s : State} {m : MethodId} {args : Array Value} {below : List Frame} {meth : Method} {c : Code} {T : State} {locs : List Loc} {cells slots : Nat}
theorem retI (X : Stand p l e R s m args below meth c T locs cells slots) (hx : p.tables.exec = Jvm.exec) {pc : Nat} {Ls : Array Slot} {z : Int32} {rest : List Value} (hret : meth.sig.returnType = some .int) (hd : decode c.code pc = .ok (.ireturn, 1)) {fs : List Frame}
    (hl : ∀ (f : JFrame) (acts : List Action), f.method = m → f.locked = none → f.entered = [] → (doReturn e (T.setTop f) acts (some (.int z))).1 = T.setFrames fs) : Steps p.tables e below (T.setTop (mkF m pc Ls (.int z :: rest))) (T.setFrames fs) :=
  retOut X hx hret rfl (Or.inl ⟨rfl, Or.inl rfl, z, rfl⟩) hd hl
theorem retJ (X : Stand p l e R s m args below meth c T locs cells slots) (hx : p.tables.exec = Jvm.exec) {pc : Nat} {Ls : Array Slot} {z : Int64} {rest : List Value} (hret : meth.sig.returnType = some .long) (hd : decode c.code pc = .ok (.lreturn, 1)) {fs : List Frame}
    (hl : ∀ (f : JFrame) (acts : List Action), f.method = m → f.locked = none → f.entered = [] → (doReturn e (T.setTop f) acts (some (.long z))).1 = T.setFrames fs) : Steps p.tables e below (T.setTop (mkF m pc Ls (.long z :: rest))) (T.setFrames fs) :=
  retOut X hx hret rfl (Or.inr (Or.inl ⟨rfl, rfl, z, rfl⟩)) hd hl
theorem retA (X : Stand p l e R s m args below meth c T locs cells slots) (hx : p.tables.exec = Jvm.exec) {pc : Nat} {Ls : Array Slot} {w : Value} {t : FieldType} {rest : List Value} (hret : meth.sig.returnType = some t) (ht : t.isReference = true) (hn : narrow t w = w) (hw : w.isRef = true) (hd : decode c.code pc = .ok (.areturn, 1)) {fs : List Frame}
    (hl : ∀ (f : JFrame) (acts : List Action), f.method = m → f.locked = none → f.entered = [] → (doReturn e (T.setTop f) acts (some w)).1 = T.setFrames fs) : Steps p.tables e below (T.setTop (mkF m pc Ls (w :: rest))) (T.setFrames fs) :=
  retOut X hx hret hn (Or.inr (Or.inr (Or.inr (Or.inr ⟨rfl, ht, hw⟩)))) hd hl
/-- what an array of ints that is written down holds at a place -/
def own_at (vs : List Value) (d : Value) (j : Int32) : Int32 := match vs.getD j.toNatClampNeg d with | .int x => x | _ => 0
def own_ints (vs : List Value) : Bool := vs.all fun v => match v with | .int _ => true | _ => false
theorem own_at_eq {vs : List Value} {d : Value} (h : own_ints (d :: vs) = true) (j : Int32) : vs.getD j.toNatClampNeg d = .int (own_at vs d j) := by
  have q : vs.getD j.toNatClampNeg d ∈ d :: vs := by
    rw [List.getD_eq_getElem?_getD]
    cases e : vs[j.toNatClampNeg]? with
    | none => simp
    | some w => exact List.mem_cons_of_mem _ (List.mem_of_getElem? e)
  have r := List.all_eq_true.mp h _ q
  unfold own_at
  cases e : vs.getD j.toNatClampNeg d <;> rw [e] at r <;> first | rfl | cases r
/-- a piece of a road from the frame F to the frame G, by whatever states between -/
theorem own_seg (X : Stand p l e R s m args below meth c T locs cells slots) (h : Heap) (F G : JFrame)
    (k : ∃ T', Stand p l e R s m args below meth c T' locs cells slots ∧ T'.heap = h ∧ ∀ target, Steps p.tables e below (T'.setTop G) target → Steps p.tables e below (T.setTop F) target) :
    ∃ T', Stand p l e R s m args below meth c T' locs cells slots ∧ T'.heap = h ∧ ∀ target, Steps p.tables e below (T'.setTop G) target → Steps p.tables e below (T.setTop F) target := k
end New
end Jvm.RoadKit
namespace Jvm.Pilot.@@N@@
open Jvm Jvm.ClassFile Sem Op Lib Jvm.Free Jvm.Stand Jvm.LawKit Jvm.RoadKit Bundle Jvm.Pilot.@@N@@.Jvm.D
theorem d1_0 : decode jdk_29_method_65_code 0 = .ok (.iload_n 0, 1) := by decide +kernel
theorem d1_1 : decode jdk_29_method_65_code 1 = .ok (.iload_n 1, 1) := by decide +kernel
theorem d1_2 : decode jdk_29_method_65_code 2 = .ok (.if_icmp .lt 7, 3) := by decide +kernel
theorem d1_5 : decode jdk_29_method_65_code 5 = .ok (.iload_n 0, 1) := by decide +kernel
theorem d1_6 : decode jdk_29_method_65_code 6 = .ok (.goto 4, 3) := by decide +kernel
theorem d1_9 : decode jdk_29_method_65_code 9 = .ok (.iload_n 1, 1) := by decide +kernel
theorem d1_10 : decode jdk_29_method_65_code 10 = .ok (.ireturn, 1) := by decide +kernel
theorem ef_1 (m : MethodId) (p0 : Int32) (p1 : Int32) : entryFrame m #[(.int p0), (.int p1)] 2 = mkF m 0 #[.val (.int p0), .val (.int p1)] [] := by first | (simp [entryFrame, mkF, argsToLocals, Value.category]; done) | rfl
def F1 (p0 : Int32) (p1 : Int32) : Int32 := (if p0 < p1 then p1 else p0)
def Q1 (Z : State) (p0 : Int32) (p1 : Int32) (h0 : Heap) (n0 : Nat) (v : Option Value) (h : Heap) (L : List Loc) : Prop := v = some (.int (F1 p0 p1)) ∧ L = [] ∧ h = h0
set_option maxRecDepth 65536 in
set_option maxHeartbeats 40000000 in
theorem rm1 (l : Launch) (Z : State) (a0 : Array Value) (hw : ∀ d ∈ tables_1, d.before a0 Z = true) (ws : List Jvm.Cond) (p0 : Int32) (p1 : Int32) (h0 : Heap) (n0 : Nat) (Z0 : n0 ≤ h0.size) :
    MetFree l (⟨"java/lang/Math", "max", "(II)I"⟩ : MethodName) (head1 (Jvm.Cond.code (⟨"java/lang/Math", "max", "(II)I"⟩ : MethodName) jdk_29_method_65_code 2 (some .int) :: ws) ({ frames := 0, cells := 0, slots := 0, locals := 0 } : Room)) (fun a U => a = #[(.int p0), (.int p1)] ∧ Z.Warmed39 U.vm ∧ U.heap = h0) (fun _ _ _ _ _ => True) (fun _ U o U' => ∃ v L, o = .returned v ∧ Q1 Z p0 p1 h0 n0 v U'.heap L ∧ FrameEnd U o U' L ({ frames := 0, cells := 0, slots := 0, locals := 0 } : Room).cells ({ frames := 0, cells := 0, slots := 0, locals := 0 } : Room).slots) := by
  refine MetFree.of_bodySF (Jvm.Free.JP.mathPlain rfl (by decide +kernel)) hisR ?_
  intro p e s m args below meth c s₁ Bd hml0 hP hK
  obtain ⟨rfl, hZ, hh⟩ := hP
  have hx := Bd.exec
  have hby := Bd.bytes
  have hml : c.maxLocals = 2 := hml0
  have hown : s.vm.findClass "java/lang/Math" = some m.cls := findClass_of_methodNamed Bd.named
  have hnm := (name_of_methodNamed Bd.named Bd.method).1
  have X0 : Stand p l e ({ frames := 0, cells := 0, slots := 0, locals := 0 } : Room) s m #[(.int p0), (.int p1)] below meth c s₁ [] 0 0 := Stand.of_body Bd
  have e0 : s₁.heap = h0 := by rw [← hh, Bd.state]; rfl
  have N0 := Fr.nil n0
  have pre0 : ∀ t, Steps p.tables e below (s₁.setTop (mkF m 0 #[.val (.int p0), .val (.int p1)] [])) t → Steps p.tables e below (s₁.setTop (entryFrame m #[(.int p0), (.int p1)] 2)) t := fun t k => castTop (ef_1 m p0 p1) k
  obtain ⟨v2_s0, Hv2_s0⟩ : ∃ z : Int32, z = (if p0 < p1 then p1 else p0) := ⟨_, rfl⟩
  obtain ⟨T2, X2, e2, st2⟩ := own_seg X0 h0 (mkF m 2 #[.val (.int p0), .val (.int p1)] [(.int p1), (.int p0)]) (mkF m 10 #[.val (.int p0), .val (.int p1)] [(.int v2_s0)]) (by
    by_cases hc1 : p0 < p1
    · rw [if_pos hc1] at Hv2_s0
      refine ⟨s₁, X0, e0, fun target kt => ?_⟩
      rw [Hv2_s0] at kt
      show Steps p.tables e below (s₁.setTop (mkF m 2 #[.val (.int p0), .val (.int p1)] [(.int p1), (.int p0)])) _
      refine XS.icmpYes X0.here hx rfl (pc0 := 2) (pc' := 9) rfl (hb hby d1_2) rfl (tlt hc1).1 (by decide) (by decide) ?_
      show Steps p.tables e below (s₁.setTop (mkF m 9 #[.val (.int p0), .val (.int p1)] [])) _
      refine XS.iloadN X0.here hx rfl (hb hby d1_9) rfl ?_
      exact kt
    · rw [if_neg hc1] at Hv2_s0
      refine ⟨s₁, X0, e0, fun target kt => ?_⟩
      rw [Hv2_s0] at kt
      show Steps p.tables e below (s₁.setTop (mkF m 2 #[.val (.int p0), .val (.int p1)] [(.int p1), (.int p0)])) _
      refine XS.icmpNo X0.here hx rfl (hb hby d1_2) rfl (flt hc1).1 ?_
      show Steps p.tables e below (s₁.setTop (mkF m 5 #[.val (.int p0), .val (.int p1)] [])) _
      refine XS.iloadN X0.here hx rfl (hb hby d1_5) rfl ?_
      show Steps p.tables e below (s₁.setTop (mkF m 6 #[.val (.int p0), .val (.int p1)] [(.int p0)])) _
      refine XS.goto X0.here hx rfl (pc0 := 6) (pc' := 10) rfl (hb hby d1_6) (by decide) (by decide) ?_
      exact kt)
  have hfin : v2_s0 = F1 p0 p1 := by
    rw [Hv2_s0]; unfold F1
    first | rfl | (repeat' split) <;> rfl
  obtain ⟨fs, hr, hrun, hended, hW, hsame⟩ := X2.leave (v := some (.int v2_s0)) (fun h => by rw [Bd.returns] at h; cases h)
  refine ⟨_, _, pre0 _ ?_, hrun, hended, _, _, rfl, ?_, ⟨_, rfl⟩, hW, hsame.mono (by decide) (by decide)⟩
  · show Steps p.tables e below (s₁.setTop (mkF m 0 #[.val (.int p0), .val (.int p1)] [])) _
    refine XS.iloadN X0.here hx rfl (hb hby d1_0) rfl ?_
    show Steps p.tables e below (s₁.setTop (mkF m 1 #[.val (.int p0), .val (.int p1)] [(.int p0)])) _
    refine XS.iloadN X0.here hx rfl (hb hby d1_1) rfl ?_
    show Steps p.tables e below (s₁.setTop (mkF m 2 #[.val (.int p0), .val (.int p1)] [(.int p1), (.int p0)])) _
    refine st2 _ ?_
    show Steps p.tables e below (T2.setTop (mkF m 10 #[.val (.int p0), .val (.int p1)] [(.int v2_s0)])) _
    exact retI X2 hx Bd.returns (hb hby d1_10) hr
  · show Q1 Z p0 p1 h0 n0 _ T2.heap _
    exact ⟨congrArg (fun z => some (Value.int z)) hfin, rfl, e2⟩
theorem d2_0 : decode jdk_29_method_66_code 0 = .ok (.lload_n 0, 1) := by decide +kernel
theorem d2_1 : decode jdk_29_method_66_code 1 = .ok (.lload_n 2, 1) := by decide +kernel
theorem d2_2 : decode jdk_29_method_66_code 2 = .ok (.lcmp, 1) := by decide +kernel
theorem d2_3 : decode jdk_29_method_66_code 3 = .ok (.ifCond .lt 7, 3) := by decide +kernel
theorem d2_6 : decode jdk_29_method_66_code 6 = .ok (.lload_n 0, 1) := by decide +kernel
theorem d2_7 : decode jdk_29_method_66_code 7 = .ok (.goto 4, 3) := by decide +kernel
theorem d2_10 : decode jdk_29_method_66_code 10 = .ok (.lload_n 2, 1) := by decide +kernel
theorem d2_11 : decode jdk_29_method_66_code 11 = .ok (.lreturn, 1) := by decide +kernel
theorem ef_2 (m : MethodId) (q0 : Int64) (q1 : Int64) : entryFrame m #[(.long q0), (.long q1)] 4 = mkF m 0 #[.val (.long q0), .second, .val (.long q1), .second] [] := by first | (simp [entryFrame, mkF, argsToLocals, Value.category]; done) | rfl
def F2 (q0 : Int64) (q1 : Int64) : Int64 := (if q0 < q1 then q1 else q0)
def Q2 (Z : State) (q0 : Int64) (q1 : Int64) (h0 : Heap) (n0 : Nat) (v : Option Value) (h : Heap) (L : List Loc) : Prop := v = some (.long (F2 q0 q1)) ∧ L = [] ∧ h = h0
set_option maxRecDepth 65536 in
set_option maxHeartbeats 40000000 in
theorem rm2 (l : Launch) (Z : State) (a0 : Array Value) (hw : ∀ d ∈ tables_1, d.before a0 Z = true) (ws : List Jvm.Cond) (q0 : Int64) (q1 : Int64) (h0 : Heap) (n0 : Nat) (Z0 : n0 ≤ h0.size) :
    MetFree l (⟨"java/lang/Math", "max", "(JJ)J"⟩ : MethodName) (head1 (Jvm.Cond.code (⟨"java/lang/Math", "max", "(JJ)J"⟩ : MethodName) jdk_29_method_66_code 4 (some .long) :: ws) ({ frames := 0, cells := 0, slots := 0, locals := 0 } : Room)) (fun a U => a = #[(.long q0), (.long q1)] ∧ Z.Warmed39 U.vm ∧ U.heap = h0) (fun _ _ _ _ _ => True) (fun _ U o U' => ∃ v L, o = .returned v ∧ Q2 Z q0 q1 h0 n0 v U'.heap L ∧ FrameEnd U o U' L ({ frames := 0, cells := 0, slots := 0, locals := 0 } : Room).cells ({ frames := 0, cells := 0, slots := 0, locals := 0 } : Room).slots) := by
  refine MetFree.of_bodySF (Jvm.Free.JP.mathPlain rfl (by decide +kernel)) hisR ?_
  intro p e s m args below meth c s₁ Bd hml0 hP hK
  obtain ⟨rfl, hZ, hh⟩ := hP
  have hx := Bd.exec
  have hby := Bd.bytes
  have hml : c.maxLocals = 4 := hml0
  have hown : s.vm.findClass "java/lang/Math" = some m.cls := findClass_of_methodNamed Bd.named
  have hnm := (name_of_methodNamed Bd.named Bd.method).1
  have X0 : Stand p l e ({ frames := 0, cells := 0, slots := 0, locals := 0 } : Room) s m #[(.long q0), (.long q1)] below meth c s₁ [] 0 0 := Stand.of_body Bd
  have e0 : s₁.heap = h0 := by rw [← hh, Bd.state]; rfl
  have N0 := Fr.nil n0
  have pre0 : ∀ t, Steps p.tables e below (s₁.setTop (mkF m 0 #[.val (.long q0), .second, .val (.long q1), .second] [])) t → Steps p.tables e below (s₁.setTop (entryFrame m #[(.long q0), (.long q1)] 4)) t := fun t k => castTop (ef_2 m q0 q1) k
  obtain ⟨v2_s0, Hv2_s0⟩ : ∃ z : Int64, z = (if q0 < q1 then q1 else q0) := ⟨_, rfl⟩
  obtain ⟨T2, X2, e2, st2⟩ := own_seg X0 h0 (mkF m 3 #[.val (.long q0), .second, .val (.long q1), .second] [(.int (lcmpW q0 q1))]) (mkF m 11 #[.val (.long q0), .second, .val (.long q1), .second] [(.long v2_s0)]) (by
    by_cases hc1 : q0 < q1
    · rw [if_pos hc1] at Hv2_s0
      refine ⟨s₁, X0, e0, fun target kt => ?_⟩
      rw [Hv2_s0] at kt
      show Steps p.tables e below (s₁.setTop (mkF m 3 #[.val (.long q0), .second, .val (.long q1), .second] [(.int (lcmpW q0 q1))])) _
      refine XS.ifYes X0.here hx rfl (pc0 := 3) (pc' := 10) rfl (hb hby d2_3) rfl ((if0 _ _).trans (tlt ((lw_lt _ _).mpr hc1)).1) (by decide) (by decide) ?_
      show Steps p.tables e below (s₁.setTop (mkF m 10 #[.val (.long q0), .second, .val (.long q1), .second] [])) _
      refine XS.lloadN X0.here hx rfl (hb hby d2_10) rfl ?_
      exact kt
    · rw [if_neg hc1] at Hv2_s0
      refine ⟨s₁, X0, e0, fun target kt => ?_⟩
      rw [Hv2_s0] at kt
      show Steps p.tables e below (s₁.setTop (mkF m 3 #[.val (.long q0), .second, .val (.long q1), .second] [(.int (lcmpW q0 q1))])) _
      refine XS.ifNo X0.here hx rfl (hb hby d2_3) rfl ((if0 _ _).trans (flt (fun q => hc1 ((lw_lt _ _).mp q))).1) ?_
      show Steps p.tables e below (s₁.setTop (mkF m 6 #[.val (.long q0), .second, .val (.long q1), .second] [])) _
      refine XS.lloadN X0.here hx rfl (hb hby d2_6) rfl ?_
      show Steps p.tables e below (s₁.setTop (mkF m 7 #[.val (.long q0), .second, .val (.long q1), .second] [(.long q0)])) _
      refine XS.goto X0.here hx rfl (pc0 := 7) (pc' := 11) rfl (hb hby d2_7) (by decide) (by decide) ?_
      exact kt)
  have hfin : v2_s0 = F2 q0 q1 := by
    rw [Hv2_s0]; unfold F2
    first | rfl | (repeat' split) <;> rfl
  obtain ⟨fs, hr, hrun, hended, hW, hsame⟩ := X2.leave (v := some (.long v2_s0)) (fun h => by rw [Bd.returns] at h; cases h)
  refine ⟨_, _, pre0 _ ?_, hrun, hended, _, _, rfl, ?_, ⟨_, rfl⟩, hW, hsame.mono (by decide) (by decide)⟩
  · show Steps p.tables e below (s₁.setTop (mkF m 0 #[.val (.long q0), .second, .val (.long q1), .second] [])) _
    refine XS.lloadN X0.here hx rfl (hb hby d2_0) rfl ?_
    show Steps p.tables e below (s₁.setTop (mkF m 1 #[.val (.long q0), .second, .val (.long q1), .second] [(.long q0)])) _
    refine XS.lloadN X0.here hx rfl (hb hby d2_1) rfl ?_
    show Steps p.tables e below (s₁.setTop (mkF m 2 #[.val (.long q0), .second, .val (.long q1), .second] [(.long q1), (.long q0)])) _
    refine XS.lcmp X0.here hx rfl (hb hby d2_2) rfl ?_
    show Steps p.tables e below (s₁.setTop (mkF m 3 #[.val (.long q0), .second, .val (.long q1), .second] [(.int (lcmpW q0 q1))])) _
    refine st2 _ ?_
    show Steps p.tables e below (T2.setTop (mkF m 11 #[.val (.long q0), .second, .val (.long q1), .second] [(.long v2_s0)])) _
    exact retJ X2 hx Bd.returns (hb hby d2_11) hr
  · show Q2 Z q0 q1 h0 n0 _ T2.heap _
    exact ⟨congrArg (fun z => some (Value.long z)) hfin, rfl, e2⟩
theorem d4_0 : decode prog_19_method_2_code 0 = .ok (.lconst 1, 1) := by decide +kernel
theorem d4_1 : decode prog_19_method_2_code 1 = .ok (.lload_n 0, 1) := by decide +kernel
theorem d4_2 : decode prog_19_method_2_code 2 = .ok (.lcmp, 1) := by decide +kernel
theorem d4_3 : decode prog_19_method_2_code 3 = .ok (.ifCond .gt 15, 3) := by decide +kernel
theorem d4_6 : decode prog_19_method_2_code 6 = .ok (.lload_n 0, 1) := by decide +kernel
theorem d4_7 : decode prog_19_method_2_code 7 = .ok (.ldc2_w 70, 3) := by decide +kernel
theorem d4_10 : decode prog_19_method_2_code 10 = .ok (.lcmp, 1) := by decide +kernel
theorem d4_11 : decode prog_19_method_2_code 11 = .ok (.ifCond .gt 7, 3) := by decide +kernel
theorem d4_14 : decode prog_19_method_2_code 14 = .ok (.iconst 1, 1) := by decide +kernel
theorem d4_15 : decode prog_19_method_2_code 15 = .ok (.goto 4, 3) := by decide +kernel
theorem d4_18 : decode prog_19_method_2_code 18 = .ok (.iconst 0, 1) := by decide +kernel
theorem d4_19 : decode prog_19_method_2_code 19 = .ok (.ireturn, 1) := by decide +kernel
theorem pn_4 : plainName "com/example/holdfast/holdfast/core/LeaseRenewals" = true := by first | (simp [plainName, overriddenIn]; done) | decide +kernel
theorem ef_4 (m : MethodId) (q0 : Int64) : entryFrame m #[(.long q0)] 2 = mkF m 0 #[.val (.long q0), .second] [] := by first | (simp [entryFrame, mkF, argsToLocals, Value.category]; done) | rfl
def F4 (q0 : Int64) : Int32 := (if q0 < (1 : Int64) then (0 : Int32) else (if (4611686018427387903 : Int64) < q0 then (0 : Int32) else (1 : Int32)))
def Q4 (Z : State) (q0 : Int64) (h0 : Heap) (n0 : Nat) (v : Option Value) (h : Heap) (L : List Loc) : Prop := v = some (.int (F4 q0)) ∧ L = [] ∧ h = h0
set_option maxRecDepth 65536 in
set_option maxHeartbeats 40000000 in
theorem rm4 (l : Launch) (Z : State) (a0 : Array Value) (hw : ∀ d ∈ tables_1, d.before a0 Z = true) (ws : List Jvm.Cond) (q0 : Int64) (h0 : Heap) (n0 : Nat) (Z0 : n0 ≤ h0.size) :
    MetFree l (⟨"com/example/holdfast/holdfast/core/LeaseRenewals", "isValidLease", "(J)Z"⟩ : MethodName) (head1 (Jvm.Cond.code (⟨"com/example/holdfast/holdfast/core/LeaseRenewals", "isValidLease", "(J)Z"⟩ : MethodName) prog_19_method_2_code 2 (some .boolean) :: ws) ({ frames := 0, cells := 0, slots := 0, locals := 0 } : Room)) (fun a U => a = #[(.long q0)] ∧ Z.Warmed39 U.vm ∧ U.heap = h0) (fun _ _ _ _ _ => True) (fun _ U o U' => ∃ v L, o = .returned v ∧ Q4 Z q0 h0 n0 v U'.heap L ∧ FrameEnd U o U' L ({ frames := 0, cells := 0, slots := 0, locals := 0 } : Room).cells ({ frames := 0, cells := 0, slots := 0, locals := 0 } : Room).slots) := by
  refine MetFree.of_bodySF (plainFor_of_name pn_4) hisR ?_
  intro p e s m args below meth c s₁ Bd hml0 hP hK
  obtain ⟨rfl, hZ, hh⟩ := hP
  have hx := Bd.exec
  have hby := Bd.bytes
  have hml : c.maxLocals = 2 := hml0
  have hown : s.vm.findClass "com/example/holdfast/holdfast/core/LeaseRenewals" = some m.cls := findClass_of_methodNamed Bd.named
  have hnm := (name_of_methodNamed Bd.named Bd.method).1
  have X0 : Stand p l e ({ frames := 0, cells := 0, slots := 0, locals := 0 } : Room) s m #[(.long q0)] below meth c s₁ [] 0 0 := Stand.of_body Bd
  have e0 : s₁.heap = h0 := by rw [← hh, Bd.state]; rfl
  have N0 := Fr.nil n0
  have pre0 : ∀ t, Steps p.tables e below (s₁.setTop (mkF m 0 #[.val (.long q0), .second] [])) t → Steps p.tables e below (s₁.setTop (entryFrame m #[(.long q0)] 2)) t := fun t k => castTop (ef_4 m q0) k
  obtain ⟨v3_s0, Hv3_s0⟩ : ∃ z : Int32, z = (if q0 < (1 : Int64) then (0 : Int32) else (if (4611686018427387903 : Int64) < q0 then (0 : Int32) else (1 : Int32))) := ⟨_, rfl⟩
  obtain ⟨T3, X3, e3, st3⟩ := own_seg X0 h0 (mkF m 3 #[.val (.long q0), .second] [(.int (lcmpW (1 : Int64) q0))]) (mkF m 19 #[.val (.long q0), .second] [(.int v3_s0)]) (by
    by_cases hc1 : q0 < (1 : Int64)
    · rw [if_pos hc1] at Hv3_s0
      refine ⟨s₁, X0, e0, fun target kt => ?_⟩
      rw [Hv3_s0] at kt
      show Steps p.tables e below (s₁.setTop (mkF m 3 #[.val (.long q0), .second] [(.int (lcmpW (1 : Int64) q0))])) _
      refine XS.ifYes X0.here hx rfl (pc0 := 3) (pc' := 18) rfl (hb hby d4_3) rfl ((if0 _ _).trans (tlt ((lw_gt _ _).mpr hc1)).2.2.1) (by decide) (by decide) ?_
      show Steps p.tables e below (s₁.setTop (mkF m 18 #[.val (.long q0), .second] [])) _
      refine XS.iconst X0.here hx rfl (hb hby d4_18) ?_
      exact kt
    · by_cases hc2 : (4611686018427387903 : Int64) < q0
      · rw [if_neg hc1, if_pos hc2] at Hv3_s0
        refine ⟨s₁, X0, e0, fun target kt => ?_⟩
        rw [Hv3_s0] at kt
        show Steps p.tables e below (s₁.setTop (mkF m 3 #[.val (.long q0), .second] [(.int (lcmpW (1 : Int64) q0))])) _
        refine XS.ifNo X0.here hx rfl (hb hby d4_3) rfl ((if0 _ _).trans (flt (fun q => hc1 ((lw_gt _ _).mp q))).2.2.1) ?_
        show Steps p.tables e below (s₁.setTop (mkF m 6 #[.val (.long q0), .second] [])) _
        refine XS.lloadN X0.here hx rfl (hb hby d4_6) rfl ?_
        show Steps p.tables e below (s₁.setTop (mkF m 7 #[.val (.long q0), .second] [(.long q0)])) _
        refine X0.ldc2Long hx hown (mvT hZ (hw _ (List.mem_of_getElem? (i := 17) rfl))) (g := (mkF m 7 #[.val (.long q0), .second] [(.long q0)])) rfl (hb hby d4_7) _ ?_
        show Steps p.tables e below (s₁.setTop (mkF m 10 #[.val (.long q0), .second] [(.long (4611686018427387903 : Int64)), (.long q0)])) _
        refine XS.lcmp X0.here hx rfl (hb hby d4_10) rfl ?_
        show Steps p.tables e below (s₁.setTop (mkF m 11 #[.val (.long q0), .second] [(.int (lcmpW q0 (4611686018427387903 : Int64)))])) _
        refine XS.ifYes X0.here hx rfl (pc0 := 11) (pc' := 18) rfl (hb hby d4_11) rfl ((if0 _ _).trans (tlt ((lw_gt _ _).mpr hc2)).2.2.1) (by decide) (by decide) ?_
        show Steps p.tables e below (s₁.setTop (mkF m 18 #[.val (.long q0), .second] [])) _
        refine XS.iconst X0.here hx rfl (hb hby d4_18) ?_
        exact kt
      · rw [if_neg hc1, if_neg hc2] at Hv3_s0
        refine ⟨s₁, X0, e0, fun target kt => ?_⟩
        rw [Hv3_s0] at kt
        show Steps p.tables e below (s₁.setTop (mkF m 3 #[.val (.long q0), .second] [(.int (lcmpW (1 : Int64) q0))])) _
        refine XS.ifNo X0.here hx rfl (hb hby d4_3) rfl ((if0 _ _).trans (flt (fun q => hc1 ((lw_gt _ _).mp q))).2.2.1) ?_
        show Steps p.tables e below (s₁.setTop (mkF m 6 #[.val (.long q0), .second] [])) _
        refine XS.lloadN X0.here hx rfl (hb hby d4_6) rfl ?_
        show Steps p.tables e below (s₁.setTop (mkF m 7 #[.val (.long q0), .second] [(.long q0)])) _
        refine X0.ldc2Long hx hown (mvT hZ (hw _ (List.mem_of_getElem? (i := 17) rfl))) (g := (mkF m 7 #[.val (.long q0), .second] [(.long q0)])) rfl (hb hby d4_7) _ ?_
        show Steps p.tables e below (s₁.setTop (mkF m 10 #[.val (.long q0), .second] [(.long (4611686018427387903 : Int64)), (.long q0)])) _
        refine XS.lcmp X0.here hx rfl (hb hby d4_10) rfl ?_
        show Steps p.tables e below (s₁.setTop (mkF m 11 #[.val (.long q0), .second] [(.int (lcmpW q0 (4611686018427387903 : Int64)))])) _
        refine XS.ifNo X0.here hx rfl (hb hby d4_11) rfl ((if0 _ _).trans (flt (fun q => hc2 ((lw_gt _ _).mp q))).2.2.1) ?_
        show Steps p.tables e below (s₁.setTop (mkF m 14 #[.val (.long q0), .second] [])) _
        refine XS.iconst X0.here hx rfl (hb hby d4_14) ?_
        show Steps p.tables e below (s₁.setTop (mkF m 15 #[.val (.long q0), .second] [(.int (1 : Int32))])) _
        refine XS.goto X0.here hx rfl (pc0 := 15) (pc' := 19) rfl (hb hby d4_15) (by decide) (by decide) ?_
        exact kt)
  have hfin : nar .boolean v3_s0 = F4 q0 := by
    rw [Hv3_s0]; unfold F4
    first | rfl | (repeat' split) <;> rfl
  obtain ⟨fs, hr, hrun, hended, hW, hsame⟩ := X3.leave (v := some (.int (nar .boolean v3_s0))) (fun h => by rw [Bd.returns] at h; cases h)
  refine ⟨_, _, pre0 _ ?_, hrun, hended, _, _, rfl, ?_, ⟨_, rfl⟩, hW, hsame.mono (by decide) (by decide)⟩
  · show Steps p.tables e below (s₁.setTop (mkF m 0 #[.val (.long q0), .second] [])) _
    refine XS.lconst X0.here hx rfl (hb hby d4_0) ?_
    show Steps p.tables e below (s₁.setTop (mkF m 1 #[.val (.long q0), .second] [(.long (1 : Int64))])) _
    refine XS.lloadN X0.here hx rfl (hb hby d4_1) rfl ?_
    show Steps p.tables e below (s₁.setTop (mkF m 2 #[.val (.long q0), .second] [(.long q0), (.long (1 : Int64))])) _
    refine XS.lcmp X0.here hx rfl (hb hby d4_2) rfl ?_
    show Steps p.tables e below (s₁.setTop (mkF m 3 #[.val (.long q0), .second] [(.int (lcmpW (1 : Int64) q0))])) _
    refine st3 _ ?_
    show Steps p.tables e below (T3.setTop (mkF m 19 #[.val (.long q0), .second] [(.int v3_s0)])) _
    exact retN X3 hx (t := .boolean) Bd.returns (by simp) (hb hby d4_19) hr
  · show Q4 Z q0 h0 n0 _ T3.heap _
    exact ⟨congrArg (fun z => some (Value.int z)) hfin, rfl, e3⟩
theorem d3_0 : decode prog_21_method_3_code 0 = .ok (.iload_n 0, 1) := by decide +kernel
theorem d3_1 : decode prog_21_method_3_code 1 = .ok (.iconst 1, 1) := by decide +kernel
theorem d3_2 : decode prog_21_method_3_code 2 = .ok (.if_icmp .ge 17, 3) := by decide +kernel
theorem d3_19 : decode prog_21_method_3_code 19 = .ok (.lload_n 1, 1) := by decide +kernel
theorem d3_20 : decode prog_21_method_3_code 20 = .ok (.invokestatic 105, 3) := by decide +kernel
theorem d3_23 : decode prog_21_method_3_code 23 = .ok (.ifCond .ne 13, 3) := by decide +kernel
theorem d3_36 : decode prog_21_method_3_code 36 = .ok (.return_, 1) := by decide +kernel
theorem pn_3 : plainName "com/example/holdfast/holdfast/core/LockContext" = true := by first | (simp [plainName, overriddenIn]; done) | decide +kernel
theorem pd_3_0 : parseMethodDescriptor "(J)Z" = some ⟨[.long], some .boolean⟩ := by decide +kernel
theorem ef_3 (m : MethodId) (p0 : Int32) (q1 : Int64) : entryFrame m #[(.int p0), (.long q1)] 3 = mkF m 0 #[.val (.int p0), .val (.long q1), .second] [] := by first | (simp [entryFrame, mkF, argsToLocals, Value.category]; done) | rfl
def Q3 (Z : State) (p0 : Int32) (q1 : Int64) (h0 : Heap) (n0 : Nat) (v : Option Value) (h : Heap) (L : List Loc) : Prop := v = none ∧ L = [] ∧ h = h0
set_option maxRecDepth 65536 in
set_option maxHeartbeats 40000000 in
theorem rm3 (l : Launch) (Z : State) (a0 : Array Value) (hw : ∀ d ∈ tables_1, d.before a0 Z = true) (ws : List Jvm.Cond) (p0 : Int32) (q1 : Int64) (h0 : Heap) (n0 : Nat) (Z0 : n0 ≤ h0.size) (hc2 : ¬ (p0 < (1 : Int32))) (hc23 : ¬ ((F4 q1) = (0 : Int32))) :
    MetFree l (⟨"com/example/holdfast/holdfast/core/LockContext", "checkReplicaRequirement", "(IJ)V"⟩ : MethodName) (head1 (Jvm.Cond.code (⟨"com/example/holdfast/holdfast/core/LockContext", "checkReplicaRequirement", "(IJ)V"⟩ : MethodName) prog_21_method_3_code 3 none :: ws) ({ frames := 1, cells := 0, slots := 0, locals := 13 } : Room)) (fun a U => a = #[(.int p0), (.long q1)] ∧ Z.Warmed39 U.vm ∧ U.heap = h0) (fun _ _ _ _ _ => True) (fun _ U o U' => ∃ v L, o = .returned v ∧ Q3 Z p0 q1 h0 n0 v U'.heap L ∧ FrameEnd U o U' L ({ frames := 1, cells := 0, slots := 0, locals := 13 } : Room).cells ({ frames := 1, cells := 0, slots := 0, locals := 13 } : Room).slots) := by
  refine MetFree.of_bodySF (plainFor_of_name pn_3) hisR ?_
  intro p e s m args below meth c s₁ Bd hml0 hP hK
  obtain ⟨rfl, hZ, hh⟩ := hP
  have hx := Bd.exec
  have hby := Bd.bytes
  have hml : c.maxLocals = 3 := hml0
  have hown : s.vm.findClass "com/example/holdfast/holdfast/core/LockContext" = some m.cls := findClass_of_methodNamed Bd.named
  have hnm := (name_of_methodNamed Bd.named Bd.method).1
  have X0 : Stand p l e ({ frames := 1, cells := 0, slots := 0, locals := 13 } : Room) s m #[(.int p0), (.long q1)] below meth c s₁ [] 0 0 := Stand.of_body Bd
  have e0 : s₁.heap = h0 := by rw [← hh, Bd.state]; rfl
  have N0 := Fr.nil n0
  have pre0 : ∀ t, Steps p.tables e below (s₁.setTop (mkF m 0 #[.val (.int p0), .val (.long q1), .second] [])) t → Steps p.tables e below (s₁.setTop (entryFrame m #[(.int p0), (.long q1)] 3)) t := fun t k => castTop (ef_3 m p0 q1) k
  obtain ⟨_, _, ⟨T1, L1, k1, n1⟩, -, X1, ⟨Lc1, hQ1, l1, y1, z1⟩, st1⟩ := Jvm.LawKit.callS X0 hx (y := (⟨"com/example/holdfast/holdfast/core/LeaseRenewals", "isValidLease", "(J)Z"⟩ : MethodName)) hown (mvT hZ (hw _ (List.mem_of_getElem? (i := 13) rfl))) (mvT hZ (hw _ (List.mem_of_getElem? (i := 14) rfl))) (mvT hZ (hw _ (List.mem_of_getElem? (i := 15) rfl))) (mvT hZ (hw _ (List.mem_of_getElem? (i := 16) rfl))) (by decide) (backOf (W := 0) (rm4 l Z a0 hw [] q1 h0 n0 Z0) hZ (hw _ (List.mem_of_getElem? (i := 16) rfl)) (hw _ (List.mem_of_getElem? (i := 15) rfl)) (by decide) (by decide)) (g := (mkF m 20 #[.val (.int p0), .val (.long q1), .second] [(.long q1)])) rfl (by rw [hml]; rfl) (argsL := [(.long q1)]) (rest := []) (lenOf pd_3_0 rfl) rfl (by show 2 * 0 + _ ≤ _; exact Nat.le_of_eq rfl) (hb hby d3_20) (fun _ _ => ⟨rfl, e0, (by decide : 0 + 0 ≤ _), (by decide : 0 + 0 ≤ _)⟩)
  dsimp only [Pt.U, Pt.locs, Pt.cells, Pt.slots] at X1 l1 y1 z1 st1 hQ1
  subst l1 y1 z1
  obtain ⟨rfl, rfl, e1⟩ := hQ1
  try rw [List.append_nil] at X1
  obtain ⟨fs, hr, hrun, hended, hW, hsame⟩ := X1.leave (v := none) (fun _ => rfl)
  refine ⟨_, _, pre0 _ ?_, hrun, hended, _, _, rfl, ?_, ⟨_, rfl⟩, hW, hsame.mono (by decide) (by decide)⟩
  · show Steps p.tables e below (s₁.setTop (mkF m 0 #[.val (.int p0), .val (.long q1), .second] [])) _
    refine XS.iloadN X0.here hx rfl (hb hby d3_0) rfl ?_
    show Steps p.tables e below (s₁.setTop (mkF m 1 #[.val (.int p0), .val (.long q1), .second] [(.int p0)])) _
    refine XS.iconst X0.here hx rfl (hb hby d3_1) ?_
    show Steps p.tables e below (s₁.setTop (mkF m 2 #[.val (.int p0), .val (.long q1), .second] [(.int (1 : Int32)), (.int p0)])) _
    refine XS.icmpYes X0.here hx rfl (pc0 := 2) (pc' := 19) rfl (hb hby d3_2) rfl (flt hc2).2.1 (by decide) (by decide) ?_
    show Steps p.tables e below (s₁.setTop (mkF m 19 #[.val (.int p0), .val (.long q1), .second] [])) _
    refine XS.lloadN X0.here hx rfl (hb hby d3_19) rfl ?_
    show Steps p.tables e below (s₁.setTop (mkF m 20 #[.val (.int p0), .val (.long q1), .second] [(.long q1)])) _
    refine st1 _ ?_
    show Steps p.tables e below (T1.setTop (mkF m 23 #[.val (.int p0), .val (.long q1), .second] [(.int (F4 q1))])) _
    refine XS.ifYes X1.here hx rfl (pc0 := 23) (pc' := 36) rfl (hb hby d3_23) rfl ((if0 _ _).trans (feq hc23).2) (by decide) (by decide) ?_
    show Steps p.tables e below (T1.setTop (mkF m 36 #[.val (.int p0), .val (.long q1), .second] [])) _
    exact X1.returnOut hx Bd.returns (hb hby d3_36) hr
  · show Q3 Z p0 q1 h0 n0 _ T1.heap _
    exact ⟨rfl, rfl, e1⟩
theorem own_max (p0 : Int32) : ¬ (F1 (1 : Int32) (p0 &&& (2147483647 : Int32)) < (1 : Int32)) := by
  have a1 : (1 : Int32).toInt = 1 := rfl
  unfold F1
  split
  · rename_i h; rw [Int32.lt_iff_toInt_lt] at h ⊢; omega
  · decide
theorem own_maxL (q1 : Int64) : ¬ (F2 (1 : Int64) (q1 &&& (4611686018427387903 : Int64)) < (1 : Int64)) ∧ ¬ ((4611686018427387903 : Int64) < F2 (1 : Int64) (q1 &&& (4611686018427387903 : Int64))) := by
  have a1 : (1 : Int64).toInt = 1 := rfl
  have a2 : (4611686018427387903 : Int64).toInt = 4611686018427387903 := rfl
  have e : (q1 &&& (4611686018427387903 : Int64)).toInt = q1.toInt % 2 ^ 62 := Jvm.Kit.i64_mask q1 4611686018427387903 (k := 62) (by decide) (by decide)
  unfold F2
  split
  · rename_i h; rw [Int64.lt_iff_toInt_lt] at h; rw [Int64.lt_iff_toInt_lt, Int64.lt_iff_toInt_lt]; omega
  · decide
theorem own_hc2 (p0 : Int32) : ¬ (F1 (1 : Int32) (p0 &&& (2147483647 : Int32)) < (1 : Int32)) := own_max p0
theorem own_hc23 (q1 : Int64) : ¬ (F4 (F2 (1 : Int64) (q1 &&& (4611686018427387903 : Int64))) = (0 : Int32)) := by
  obtain ⟨h1, h2⟩ := own_maxL q1
  unfold F4
  rw [if_neg h1, if_neg h2]; decide
theorem plain_law (p0 : Int32) (q1 : Int64) (v7_s0 : Int32) (Hv7_s0 : v7_s0 = (if (F1 (1 : Int32) (p0 &&& (2147483647 : Int32))) < (1 : Int32) then (0 : Int32) else (if (F2 (1 : Int64) (q1 &&& (4611686018427387903 : Int64))) < (1 : Int64) then (0 : Int32) else (if (4611686018427387903 : Int64) < (F2 (1 : Int64) (q1 &&& (4611686018427387903 : Int64))) then (0 : Int32) else (1 : Int32))))) : v7_s0 = 1 := by
  obtain ⟨h1, h2⟩ := own_maxL q1
  rw [Hv7_s0, if_neg (own_max p0), if_neg h1, if_neg h2]

theorem pn_0 : plainName "com/example/holdfast/holdfast/core/LockContextCheckReplicaRequirementPinLaw" = true := by first | (simp [plainName, overriddenIn]; done) | decide +kernel
theorem pd_0_0 : parseMethodDescriptor "(II)I" = some ⟨[.int, .int], some .int⟩ := by decide +kernel
theorem pd_0_1 : parseMethodDescriptor "(JJ)J" = some ⟨[.long, .long], some .long⟩ := by decide +kernel
theorem pd_0_2 : parseMethodDescriptor "(IJ)V" = some ⟨[.int, .long], none⟩ := by decide +kernel
theorem ef_0 (m : MethodId) (p0 : Int32) (q1 : Int64) : entryFrame m #[(.int p0), (.long q1)] maxLocals = mkF m 0 #[.val (.int p0), .val (.long q1), .second, .unset, .unset, .unset] [] := by first | (simp [entryFrame, mkF, argsToLocals, Value.category, maxLocals]; done) | rfl
set_option maxRecDepth 65536 in
set_option maxHeartbeats 40000000 in
theorem rm0 (l : Launch) (Z : State) (a0 : Array Value) (hw : ∀ d ∈ tables_1, d.before a0 Z = true) (ws : List Jvm.Cond) (p0 : Int32) (q1 : Int64) (h0 : Heap) (n0 : Nat) (Z0 : n0 ≤ h0.size) :
    MetFree l x (head1 (Jvm.Cond.code x code maxLocals ret :: ws) room_1) (fun a U => a = #[(.int p0), (.long q1)] ∧ Z.Warmed39 U.vm ∧ U.heap = h0) (fun _ _ _ _ _ => True) (fun _ U o U' => ∃ v L, o = .returned v ∧ (v = some (.int 1) ∧ Fr n0 L) ∧ FrameEnd U o U' L room_1.cells room_1.slots) := by
  refine MetFree.of_bodySF (plainFor_of_name pn_0) hisR ?_
  intro p e s m args below meth c s₁ Bd hml0 hP hK
  obtain ⟨rfl, hZ, hh⟩ := hP
  have hx := Bd.exec
  have hby := Bd.bytes
  have hml : c.maxLocals = 6 := hml0
  have hown : s.vm.findClass "com/example/holdfast/holdfast/core/LockContextCheckReplicaRequirementPinLaw" = some m.cls := findClass_of_methodNamed Bd.named
  have hnm := (name_of_methodNamed Bd.named Bd.method).1
  have X0 : Stand p l e room_1 s m #[(.int p0), (.long q1)] below meth c s₁ [] 0 0 := Stand.of_body Bd
  have e0 : s₁.heap = h0 := by rw [← hh, Bd.state]; rfl
  have N0 := Fr.nil n0
  have pre0 : ∀ t, Steps p.tables e below (s₁.setTop (mkF m 0 #[.val (.int p0), .val (.long q1), .second, .unset, .unset, .unset] [])) t → Steps p.tables e below (s₁.setTop (entryFrame m #[(.int p0), (.long q1)] maxLocals)) t := fun t k => castTop (ef_0 m p0 q1) k
  obtain ⟨_, _, ⟨T1, L1, k1, n1⟩, -, X1, ⟨Lc1, hQ1, l1, y1, z1⟩, st1⟩ := Jvm.LawKit.callS X0 hx (y := (⟨"java/lang/Math", "max", "(II)I"⟩ : MethodName)) hown (mvT hZ (hw _ (List.mem_of_getElem? (i := 1) rfl))) (mvT hZ (hw _ (List.mem_of_getElem? (i := 2) rfl))) (mvT hZ (hw _ (List.mem_of_getElem? (i := 3) rfl))) (mvT hZ (hw _ (List.mem_of_getElem? (i := 4) rfl))) (by decide) (backOf (W := 0) (rm1 l Z a0 hw [] (1 : Int32) (p0 &&& (2147483647 : Int32)) h0 n0 Z0) hZ (hw _ (List.mem_of_getElem? (i := 4) rfl)) (hw _ (List.mem_of_getElem? (i := 3) rfl)) (by decide) (by decide)) (g := (mkF m 5 #[.val (.int p0), .val (.long q1), .second, .unset, .unset, .unset] [(.int (p0 &&& (2147483647 : Int32))), (.int (1 : Int32))])) rfl (by rw [hml]; rfl) (argsL := [(.int (1 : Int32)), (.int (p0 &&& (2147483647 : Int32)))]) (rest := []) (lenOf pd_0_0 rfl) rfl (by show 2 * 0 + _ ≤ _; exact Nat.le_of_eq rfl) (hb hby at_5) (fun _ _ => ⟨rfl, e0, (by decide : 0 + 0 ≤ _), (by decide : 0 + 0 ≤ _)⟩)
  dsimp only [Pt.U, Pt.locs, Pt.cells, Pt.slots] at X1 l1 y1 z1 st1 hQ1
  subst l1 y1 z1
  obtain ⟨rfl, rfl, e1⟩ := hQ1
  try rw [List.append_nil] at X1
  obtain ⟨_, _, ⟨T2, L2, k2, n2⟩, -, X2, ⟨Lc2, hQ2, l2, y2, z2⟩, st2⟩ := Jvm.LawKit.callS X1 hx (y := (⟨"java/lang/Math", "max", "(JJ)J"⟩ : MethodName)) hown (mvT hZ (hw _ (List.mem_of_getElem? (i := 6) rfl))) (mvT hZ (hw _ (List.mem_of_getElem? (i := 7) rfl))) (mvT hZ (hw _ (List.mem_of_getElem? (i := 3) rfl))) (mvT hZ (hw _ (List.mem_of_getElem? (i := 8) rfl))) (by decide) (backOf (W := 0) (rm2 l Z a0 hw [] (1 : Int64) (q1 &&& (4611686018427387903 : Int64)) h0 n0 Z0) hZ (hw _ (List.mem_of_getElem? (i := 8) rfl)) (hw _ (List.mem_of_getElem? (i := 3) rfl)) (by decide) (by decide)) (g := (mkF m 15 #[.val (.int p0), .val (.long q1), .second, .val (.int (F1 (1 : Int32) (p0 &&& (2147483647 : Int32)))), .unset, .unset] [(.long (q1 &&& (4611686018427387903 : Int64))), (.long (1 : Int64))])) rfl (by rw [hml]; rfl) (argsL := [(.long (1 : Int64)), (.long (q1 &&& (4611686018427387903 : Int64)))]) (rest := []) (lenOf pd_0_1 rfl) rfl (by show 2 * 0 + _ ≤ _; exact Nat.le_of_eq rfl) (hb hby at_15) (fun _ _ => ⟨rfl, e1, (by decide : 0 + 0 ≤ _), (by decide : 0 + 0 ≤ _)⟩)
  dsimp only [Pt.U, Pt.locs, Pt.cells, Pt.slots] at X2 l2 y2 z2 st2 hQ2
  subst l2 y2 z2
  obtain ⟨rfl, rfl, e2⟩ := hQ2
  try rw [List.append_nil] at X2
  obtain ⟨_, _, ⟨T3, L3, k3, n3⟩, -, X3, ⟨Lc3, hQ3, l3, y3, z3⟩, st3⟩ := Jvm.LawKit.callS X2 hx (y := (⟨"com/example/holdfast/holdfast/core/LockContext", "checkReplicaRequirement", "(IJ)V"⟩ : MethodName)) hown (mvT hZ (hw _ (List.mem_of_getElem? (i := 9) rfl))) (mvT hZ (hw _ (List.mem_of_getElem? (i := 10) rfl))) (mvT hZ (hw _ (List.mem_of_getElem? (i := 11) rfl))) (mvT hZ (hw _ (List.mem_of_getElem? (i := 12) rfl))) (by decide) (backOf (W := 0) (rm3 l Z a0 hw [] (F1 (1 : Int32) (p0 &&& (2147483647 : Int32))) (F2 (1 : Int64) (q1 &&& (4611686018427387903 : Int64))) h0 n0 Z0 (own_hc2 p0) (own_hc23 q1)) hZ (hw _ (List.mem_of_getElem? (i := 12) rfl)) (hw _ (List.mem_of_getElem? (i := 11) rfl)) (by decide) (by decide)) (g := (mkF m 23 #[.val (.int p0), .val (.long q1), .second, .val (.int (F1 (1 : Int32) (p0 &&& (2147483647 : Int32)))), .val (.long (F2 (1 : Int64) (q1 &&& (4611686018427387903 : Int64)))), .second] [(.long (F2 (1 : Int64) (q1 &&& (4611686018427387903 : Int64)))), (.int (F1 (1 : Int32) (p0 &&& (2147483647 : Int32))))])) rfl (by rw [hml]; rfl) (argsL := [(.int (F1 (1 : Int32) (p0 &&& (2147483647 : Int32)))), (.long (F2 (1 : Int64) (q1 &&& (4611686018427387903 : Int64))))]) (rest := []) (lenOf pd_0_2 rfl) rfl (by show 2 * 0 + _ ≤ _; exact Nat.le_of_eq rfl) (hb hby at_23) (fun _ _ => ⟨rfl, e2, (by decide : 0 + 0 ≤ _), (by decide : 0 + 0 ≤ _)⟩)
  dsimp only [Pt.U, Pt.locs, Pt.cells, Pt.slots] at X3 l3 y3 z3 st3 hQ3
  subst l3 y3 z3
  obtain ⟨rfl, rfl, e3⟩ := hQ3
  try rw [List.append_nil] at X3
  obtain ⟨v7_s0, Hv7_s0⟩ : ∃ z : Int32, z = (if (F1 (1 : Int32) (p0 &&& (2147483647 : Int32))) < (1 : Int32) then (0 : Int32) else (if (F2 (1 : Int64) (q1 &&& (4611686018427387903 : Int64))) < (1 : Int64) then (0 : Int32) else (if (4611686018427387903 : Int64) < (F2 (1 : Int64) (q1 &&& (4611686018427387903 : Int64))) then (0 : Int32) else (1 : Int32)))) := ⟨_, rfl⟩
  obtain ⟨T7, X7, e7, st7⟩ := own_seg X3 h0 (mkF m 28 #[.val (.int p0), .val (.long q1), .second, .val (.int (F1 (1 : Int32) (p0 &&& (2147483647 : Int32)))), .val (.long (F2 (1 : Int64) (q1 &&& (4611686018427387903 : Int64)))), .second] [(.int (1 : Int32)), (.int (F1 (1 : Int32) (p0 &&& (2147483647 : Int32))))]) (mkF m 52 #[.val (.int p0), .val (.long q1), .second, .val (.int (F1 (1 : Int32) (p0 &&& (2147483647 : Int32)))), .val (.long (F2 (1 : Int64) (q1 &&& (4611686018427387903 : Int64)))), .second] [(.int v7_s0)]) (by
    by_cases hc4 : (F1 (1 : Int32) (p0 &&& (2147483647 : Int32))) < (1 : Int32)
    · rw [if_pos hc4] at Hv7_s0
      refine ⟨T3, X3, e3, fun target kt => ?_⟩
      rw [Hv7_s0] at kt
      show Steps p.tables e below (T3.setTop (mkF m 28 #[.val (.int p0), .val (.long q1), .second, .val (.int (F1 (1 : Int32) (p0 &&& (2147483647 : Int32)))), .val (.long (F2 (1 : Int64) (q1 &&& (4611686018427387903 : Int64)))), .second] [(.int (1 : Int32)), (.int (F1 (1 : Int32) (p0 &&& (2147483647 : Int32))))])) _
      refine XS.icmpYes X3.here hx rfl (pc0 := 28) (pc' := 51) rfl (hb hby at_28) rfl (tlt hc4).1 (by decide) (by decide) ?_
      show Steps p.tables e below (T3.setTop (mkF m 51 #[.val (.int p0), .val (.long q1), .second, .val (.int (F1 (1 : Int32) (p0 &&& (2147483647 : Int32)))), .val (.long (F2 (1 : Int64) (q1 &&& (4611686018427387903 : Int64)))), .second] [])) _
      refine XS.iconst X3.here hx rfl (hb hby at_51) ?_
      exact kt
    · by_cases hc5 : (F2 (1 : Int64) (q1 &&& (4611686018427387903 : Int64))) < (1 : Int64)
      · rw [if_neg hc4, if_pos hc5] at Hv7_s0
        refine ⟨T3, X3, e3, fun target kt => ?_⟩
        rw [Hv7_s0] at kt
        show Steps p.tables e below (T3.setTop (mkF m 28 #[.val (.int p0), .val (.long q1), .second, .val (.int (F1 (1 : Int32) (p0 &&& (2147483647 : Int32)))), .val (.long (F2 (1 : Int64) (q1 &&& (4611686018427387903 : Int64)))), .second] [(.int (1 : Int32)), (.int (F1 (1 : Int32) (p0 &&& (2147483647 : Int32))))])) _
        refine XS.icmpNo X3.here hx rfl (hb hby at_28) rfl (flt hc4).1 ?_
        show Steps p.tables e below (T3.setTop (mkF m 31 #[.val (.int p0), .val (.long q1), .second, .val (.int (F1 (1 : Int32) (p0 &&& (2147483647 : Int32)))), .val (.long (F2 (1 : Int64) (q1 &&& (4611686018427387903 : Int64)))), .second] [])) _
        refine XS.lload X3.here hx rfl (hb hby at_31) rfl ?_
        show Steps p.tables e below (T3.setTop (mkF m 33 #[.val (.int p0), .val (.long q1), .second, .val (.int (F1 (1 : Int32) (p0 &&& (2147483647 : Int32)))), .val (.long (F2 (1 : Int64) (q1 &&& (4611686018427387903 : Int64)))), .second] [(.long (F2 (1 : Int64) (q1 &&& (4611686018427387903 : Int64))))])) _
        refine XS.lconst X3.here hx rfl (hb hby at_33) ?_
        show Steps p.tables e below (T3.setTop (mkF m 34 #[.val (.int p0), .val (.long q1), .second, .val (.int (F1 (1 : Int32) (p0 &&& (2147483647 : Int32)))), .val (.long (F2 (1 : Int64) (q1 &&& (4611686018427387903 : Int64)))), .second] [(.long (1 : Int64)), (.long (F2 (1 : Int64) (q1 &&& (4611686018427387903 : Int64))))])) _
        refine XS.lcmp X3.here hx rfl (hb hby at_34) rfl ?_
        show Steps p.tables e below (T3.setTop (mkF m 35 #[.val (.int p0), .val (.long q1), .second, .val (.int (F1 (1 : Int32) (p0 &&& (2147483647 : Int32)))), .val (.long (F2 (1 : Int64) (q1 &&& (4611686018427387903 : Int64)))), .second] [(.int (lcmpW (F2 (1 : Int64) (q1 &&& (4611686018427387903 : Int64))) (1 : Int64)))])) _
        refine XS.ifYes X3.here hx rfl (pc0 := 35) (pc' := 51) rfl (hb hby at_35) rfl ((if0 _ _).trans (tlt ((lw_lt _ _).mpr hc5)).1) (by decide) (by decide) ?_
        show Steps p.tables e below (T3.setTop (mkF m 51 #[.val (.int p0), .val (.long q1), .second, .val (.int (F1 (1 : Int32) (p0 &&& (2147483647 : Int32)))), .val (.long (F2 (1 : Int64) (q1 &&& (4611686018427387903 : Int64)))), .second] [])) _
        refine XS.iconst X3.here hx rfl (hb hby at_51) ?_
        exact kt
      · by_cases hc6 : (4611686018427387903 : Int64) < (F2 (1 : Int64) (q1 &&& (4611686018427387903 : Int64)))
        · rw [if_neg hc4, if_neg hc5, if_pos hc6] at Hv7_s0
          refine ⟨T3, X3, e3, fun target kt => ?_⟩
          rw [Hv7_s0] at kt
          show Steps p.tables e below (T3.setTop (mkF m 28 #[.val (.int p0), .val (.long q1), .second, .val (.int (F1 (1 : Int32) (p0 &&& (2147483647 : Int32)))), .val (.long (F2 (1 : Int64) (q1 &&& (4611686018427387903 : Int64)))), .second] [(.int (1 : Int32)), (.int (F1 (1 : Int32) (p0 &&& (2147483647 : Int32))))])) _
          refine XS.icmpNo X3.here hx rfl (hb hby at_28) rfl (flt hc4).1 ?_
          show Steps p.tables e below (T3.setTop (mkF m 31 #[.val (.int p0), .val (.long q1), .second, .val (.int (F1 (1 : Int32) (p0 &&& (2147483647 : Int32)))), .val (.long (F2 (1 : Int64) (q1 &&& (4611686018427387903 : Int64)))), .second] [])) _
          refine XS.lload X3.here hx rfl (hb hby at_31) rfl ?_
          show Steps p.tables e below (T3.setTop (mkF m 33 #[.val (.int p0), .val (.long q1), .second, .val (.int (F1 (1 : Int32) (p0 &&& (2147483647 : Int32)))), .val (.long (F2 (1 : Int64) (q1 &&& (4611686018427387903 : Int64)))), .second] [(.long (F2 (1 : Int64) (q1 &&& (4611686018427387903 : Int64))))])) _
          refine XS.lconst X3.here hx rfl (hb hby at_33) ?_
          show Steps p.tables e below (T3.setTop (mkF m 34 #[.val (.int p0), .val (.long q1), .second, .val (.int (F1 (1 : Int32) (p0 &&& (2147483647 : Int32)))), .val (.long (F2 (1 : Int64) (q1 &&& (4611686018427387903 : Int64)))), .second] [(.long (1 : Int64)), (.long (F2 (1 : Int64) (q1 &&& (4611686018427387903 : Int64))))])) _
          refine XS.lcmp X3.here hx rfl (hb hby at_34) rfl ?_
          show Steps p.tables e below (T3.setTop (mkF m 35 #[.val (.int p0), .val (.long q1), .second, .val (.int (F1 (1 : Int32) (p0 &&& (2147483647 : Int32)))), .val (.long (F2 (1 : Int64) (q1 &&& (4611686018427387903 : Int64)))), .second] [(.int (lcmpW (F2 (1 : Int64) (q1 &&& (4611686018427387903 : Int64))) (1 : Int64)))])) _
          refine XS.ifNo X3.here hx rfl (hb hby at_35) rfl ((if0 _ _).trans (flt (fun q => hc5 ((lw_lt _ _).mp q))).1) ?_
          show Steps p.tables e below (T3.setTop (mkF m 38 #[.val (.int p0), .val (.long q1), .second, .val (.int (F1 (1 : Int32) (p0 &&& (2147483647 : Int32)))), .val (.long (F2 (1 : Int64) (q1 &&& (4611686018427387903 : Int64)))), .second] [])) _
          refine XS.lload X3.here hx rfl (hb hby at_38) rfl ?_
          show Steps p.tables e below (T3.setTop (mkF m 40 #[.val (.int p0), .val (.long q1), .second, .val (.int (F1 (1 : Int32) (p0 &&& (2147483647 : Int32)))), .val (.long (F2 (1 : Int64) (q1 &&& (4611686018427387903 : Int64)))), .second] [(.long (F2 (1 : Int64) (q1 &&& (4611686018427387903 : Int64))))])) _
          refine X3.ldc2Long hx hown (mvT hZ (hw _ (List.mem_of_getElem? (i := 5) rfl))) (g := (mkF m 40 #[.val (.int p0), .val (.long q1), .second, .val (.int (F1 (1 : Int32) (p0 &&& (2147483647 : Int32)))), .val (.long (F2 (1 : Int64) (q1 &&& (4611686018427387903 : Int64)))), .second] [(.long (F2 (1 : Int64) (q1 &&& (4611686018427387903 : Int64))))])) rfl (hb hby at_40) _ ?_
          show Steps p.tables e below (T3.setTop (mkF m 43 #[.val (.int p0), .val (.long q1), .second, .val (.int (F1 (1 : Int32) (p0 &&& (2147483647 : Int32)))), .val (.long (F2 (1 : Int64) (q1 &&& (4611686018427387903 : Int64)))), .second] [(.long (4611686018427387903 : Int64)), (.long (F2 (1 : Int64) (q1 &&& (4611686018427387903 : Int64))))])) _
          refine XS.lcmp X3.here hx rfl (hb hby at_43) rfl ?_
          show Steps p.tables e below (T3.setTop (mkF m 44 #[.val (.int p0), .val (.long q1), .second, .val (.int (F1 (1 : Int32) (p0 &&& (2147483647 : Int32)))), .val (.long (F2 (1 : Int64) (q1 &&& (4611686018427387903 : Int64)))), .second] [(.int (lcmpW (F2 (1 : Int64) (q1 &&& (4611686018427387903 : Int64))) (4611686018427387903 : Int64)))])) _
          refine XS.ifYes X3.here hx rfl (pc0 := 44) (pc' := 51) rfl (hb hby at_44) rfl ((if0 _ _).trans (tlt ((lw_gt _ _).mpr hc6)).2.2.1) (by decide) (by decide) ?_
          show Steps p.tables e below (T3.setTop (mkF m 51 #[.val (.int p0), .val (.long q1), .second, .val (.int (F1 (1 : Int32) (p0 &&& (2147483647 : Int32)))), .val (.long (F2 (1 : Int64) (q1 &&& (4611686018427387903 : Int64)))), .second] [])) _
          refine XS.iconst X3.here hx rfl (hb hby at_51) ?_
          exact kt
        · rw [if_neg hc4, if_neg hc5, if_neg hc6] at Hv7_s0
          refine ⟨T3, X3, e3, fun target kt => ?_⟩
          rw [Hv7_s0] at kt
          show Steps p.tables e below (T3.setTop (mkF m 28 #[.val (.int p0), .val (.long q1), .second, .val (.int (F1 (1 : Int32) (p0 &&& (2147483647 : Int32)))), .val (.long (F2 (1 : Int64) (q1 &&& (4611686018427387903 : Int64)))), .second] [(.int (1 : Int32)), (.int (F1 (1 : Int32) (p0 &&& (2147483647 : Int32))))])) _
          refine XS.icmpNo X3.here hx rfl (hb hby at_28) rfl (flt hc4).1 ?_
          show Steps p.tables e below (T3.setTop (mkF m 31 #[.val (.int p0), .val (.long q1), .second, .val (.int (F1 (1 : Int32) (p0 &&& (2147483647 : Int32)))), .val (.long (F2 (1 : Int64) (q1 &&& (4611686018427387903 : Int64)))), .second] [])) _
          refine XS.lload X3.here hx rfl (hb hby at_31) rfl ?_
          show Steps p.tables e below (T3.setTop (mkF m 33 #[.val (.int p0), .val (.long q1), .second, .val (.int (F1 (1 : Int32) (p0 &&& (2147483647 : Int32)))), .val (.long (F2 (1 : Int64) (q1 &&& (4611686018427387903 : Int64)))), .second] [(.long (F2 (1 : Int64) (q1 &&& (4611686018427387903 : Int64))))])) _
          refine XS.lconst X3.here hx rfl (hb hby at_33) ?_
          show Steps p.tables e below (T3.setTop (mkF m 34 #[.val (.int p0), .val (.long q1), .second, .val (.int (F1 (1 : Int32) (p0 &&& (2147483647 : Int32)))), .val (.long (F2 (1 : Int64) (q1 &&& (4611686018427387903 : Int64)))), .second] [(.long (1 : Int64)), (.long (F2 (1 : Int64) (q1 &&& (4611686018427387903 : Int64))))])) _
          refine XS.lcmp X3.here hx rfl (hb hby at_34) rfl ?_
          show Steps p.tables e below (T3.setTop (mkF m 35 #[.val (.int p0), .val (.long q1), .second, .val (.int (F1 (1 : Int32) (p0 &&& (2147483647 : Int32)))), .val (.long (F2 (1 : Int64) (q1 &&& (4611686018427387903 : Int64)))), .second] [(.int (lcmpW (F2 (1 : Int64) (q1 &&& (4611686018427387903 : Int64))) (1 : Int64)))])) _
          refine XS.ifNo X3.here hx rfl (hb hby at_35) rfl ((if0 _ _).trans (flt (fun q => hc5 ((lw_lt _ _).mp q))).1) ?_
          show Steps p.tables e below (T3.setTop (mkF m 38 #[.val (.int p0), .val (.long q1), .second, .val (.int (F1 (1 : Int32) (p0 &&& (2147483647 : Int32)))), .val (.long (F2 (1 : Int64) (q1 &&& (4611686018427387903 : Int64)))), .second] [])) _
          refine XS.lload X3.here hx rfl (hb hby at_38) rfl ?_
          show Steps p.tables e below (T3.setTop (mkF m 40 #[.val (.int p0), .val (.long q1), .second, .val (.int (F1 (1 : Int32) (p0 &&& (2147483647 : Int32)))), .val (.long (F2 (1 : Int64) (q1 &&& (4611686018427387903 : Int64)))), .second] [(.long (F2 (1 : Int64) (q1 &&& (4611686018427387903 : Int64))))])) _
          refine X3.ldc2Long hx hown (mvT hZ (hw _ (List.mem_of_getElem? (i := 5) rfl))) (g := (mkF m 40 #[.val (.int p0), .val (.long q1), .second, .val (.int (F1 (1 : Int32) (p0 &&& (2147483647 : Int32)))), .val (.long (F2 (1 : Int64) (q1 &&& (4611686018427387903 : Int64)))), .second] [(.long (F2 (1 : Int64) (q1 &&& (4611686018427387903 : Int64))))])) rfl (hb hby at_40) _ ?_
          show Steps p.tables e below (T3.setTop (mkF m 43 #[.val (.int p0), .val (.long q1), .second, .val (.int (F1 (1 : Int32) (p0 &&& (2147483647 : Int32)))), .val (.long (F2 (1 : Int64) (q1 &&& (4611686018427387903 : Int64)))), .second] [(.long (4611686018427387903 : Int64)), (.long (F2 (1 : Int64) (q1 &&& (4611686018427387903 : Int64))))])) _
          refine XS.lcmp X3.here hx rfl (hb hby at_43) rfl ?_
          show Steps p.tables e below (T3.setTop (mkF m 44 #[.val (.int p0), .val (.long q1), .second, .val (.int (F1 (1 : Int32) (p0 &&& (2147483647 : Int32)))), .val (.long (F2 (1 : Int64) (q1 &&& (4611686018427387903 : Int64)))), .second] [(.int (lcmpW (F2 (1 : Int64) (q1 &&& (4611686018427387903 : Int64))) (4611686018427387903 : Int64)))])) _
          refine XS.ifNo X3.here hx rfl (hb hby at_44) rfl ((if0 _ _).trans (flt (fun q => hc6 ((lw_gt _ _).mp q))).2.2.1) ?_
          show Steps p.tables e below (T3.setTop (mkF m 47 #[.val (.int p0), .val (.long q1), .second, .val (.int (F1 (1 : Int32) (p0 &&& (2147483647 : Int32)))), .val (.long (F2 (1 : Int64) (q1 &&& (4611686018427387903 : Int64)))), .second] [])) _
          refine XS.iconst X3.here hx rfl (hb hby at_47) ?_
          show Steps p.tables e below (T3.setTop (mkF m 48 #[.val (.int p0), .val (.long q1), .second, .val (.int (F1 (1 : Int32) (p0 &&& (2147483647 : Int32)))), .val (.long (F2 (1 : Int64) (q1 &&& (4611686018427387903 : Int64)))), .second] [(.int (1 : Int32))])) _
          refine XS.goto X3.here hx rfl (pc0 := 48) (pc' := 52) rfl (hb hby at_48) (by decide) (by decide) ?_
          exact kt)
  have hfin : nar .boolean v7_s0 = 1 := by rw [plain_law p0 q1 v7_s0 Hv7_s0]; rfl
  obtain ⟨fs, hr, hrun, hended, hW, hsame⟩ := X7.leave (v := some (.int (nar .boolean v7_s0))) (fun h => by rw [Bd.returns] at h; cases h)
  refine ⟨_, _, pre0 _ ?_, hrun, hended, _, _, rfl, ?_, ⟨_, rfl⟩, hW, hsame.mono (by decide) (by decide)⟩
  · show Steps p.tables e below (s₁.setTop (mkF m 0 #[.val (.int p0), .val (.long q1), .second, .unset, .unset, .unset] [])) _
    refine XS.iconst X0.here hx rfl (hb hby at_0) ?_
    show Steps p.tables e below (s₁.setTop (mkF m 1 #[.val (.int p0), .val (.long q1), .second, .unset, .unset, .unset] [(.int (1 : Int32))])) _
    refine XS.iloadN X0.here hx rfl (hb hby at_1) rfl ?_
    show Steps p.tables e below (s₁.setTop (mkF m 2 #[.val (.int p0), .val (.long q1), .second, .unset, .unset, .unset] [(.int p0), (.int (1 : Int32))])) _
    refine X0.ldcInt hx hown (mvT hZ (hw _ (List.mem_of_getElem? (i := 0) rfl))) (g := (mkF m 2 #[.val (.int p0), .val (.long q1), .second, .unset, .unset, .unset] [(.int p0), (.int (1 : Int32))])) rfl (hb hby at_2) _ ?_
    show Steps p.tables e below (s₁.setTop (mkF m 4 #[.val (.int p0), .val (.long q1), .second, .unset, .unset, .unset] [(.int (2147483647 : Int32)), (.int p0), (.int (1 : Int32))])) _
    refine XS.iand X0.here hx rfl (hb hby at_4) rfl ?_
    show Steps p.tables e below (s₁.setTop (mkF m 5 #[.val (.int p0), .val (.long q1), .second, .unset, .unset, .unset] [(.int (p0 &&& (2147483647 : Int32))), (.int (1 : Int32))])) _
    refine st1 _ ?_
    show Steps p.tables e below (T1.setTop (mkF m 8 #[.val (.int p0), .val (.long q1), .second, .unset, .unset, .unset] [(.int (F1 (1 : Int32) (p0 &&& (2147483647 : Int32))))])) _
    refine XS.istoreN X1.here hx rfl (hb hby at_8) rfl (l' := #[.val (.int p0), .val (.long q1), .second, .val (.int (F1 (1 : Int32) (p0 &&& (2147483647 : Int32)))), .unset, .unset]) rfl ?_
    show Steps p.tables e below (T1.setTop (mkF m 9 #[.val (.int p0), .val (.long q1), .second, .val (.int (F1 (1 : Int32) (p0 &&& (2147483647 : Int32)))), .unset, .unset] [])) _
    refine XS.lconst X1.here hx rfl (hb hby at_9) ?_
    show Steps p.tables e below (T1.setTop (mkF m 10 #[.val (.int p0), .val (.long q1), .second, .val (.int (F1 (1 : Int32) (p0 &&& (2147483647 : Int32)))), .unset, .unset] [(.long (1 : Int64))])) _
    refine XS.lloadN X1.here hx rfl (hb hby at_10) rfl ?_
    show Steps p.tables e below (T1.setTop (mkF m 11 #[.val (.int p0), .val (.long q1), .second, .val (.int (F1 (1 : Int32) (p0 &&& (2147483647 : Int32)))), .unset, .unset] [(.long q1), (.long (1 : Int64))])) _
    refine X1.ldc2Long hx hown (mvT hZ (hw _ (List.mem_of_getElem? (i := 5) rfl))) (g := (mkF m 11 #[.val (.int p0), .val (.long q1), .second, .val (.int (F1 (1 : Int32) (p0 &&& (2147483647 : Int32)))), .unset, .unset] [(.long q1), (.long (1 : Int64))])) rfl (hb hby at_11) _ ?_
    show Steps p.tables e below (T1.setTop (mkF m 14 #[.val (.int p0), .val (.long q1), .second, .val (.int (F1 (1 : Int32) (p0 &&& (2147483647 : Int32)))), .unset, .unset] [(.long (4611686018427387903 : Int64)), (.long q1), (.long (1 : Int64))])) _
    refine XS.land X1.here hx rfl (hb hby at_14) rfl ?_
    show Steps p.tables e below (T1.setTop (mkF m 15 #[.val (.int p0), .val (.long q1), .second, .val (.int (F1 (1 : Int32) (p0 &&& (2147483647 : Int32)))), .unset, .unset] [(.long (q1 &&& (4611686018427387903 : Int64))), (.long (1 : Int64))])) _
    refine st2 _ ?_
    show Steps p.tables e below (T2.setTop (mkF m 18 #[.val (.int p0), .val (.long q1), .second, .val (.int (F1 (1 : Int32) (p0 &&& (2147483647 : Int32)))), .unset, .unset] [(.long (F2 (1 : Int64) (q1 &&& (4611686018427387903 : Int64))))])) _
    refine XS.lstore X2.here hx rfl (hb hby at_18) rfl (l' := #[.val (.int p0), .val (.long q1), .second, .val (.int (F1 (1 : Int32) (p0 &&& (2147483647 : Int32)))), .val (.long (F2 (1 : Int64) (q1 &&& (4611686018427387903 : Int64)))), .second]) rfl ?_
    show Steps p.tables e below (T2.setTop (mkF m 20 #[.val (.int p0), .val (.long q1), .second, .val (.int (F1 (1 : Int32) (p0 &&& (2147483647 : Int32)))), .val (.long (F2 (1 : Int64) (q1 &&& (4611686018427387903 : Int64)))), .second] [])) _
    refine XS.iloadN X2.here hx rfl (hb hby at_20) rfl ?_
    show Steps p.tables e below (T2.setTop (mkF m 21 #[.val (.int p0), .val (.long q1), .second, .val (.int (F1 (1 : Int32) (p0 &&& (2147483647 : Int32)))), .val (.long (F2 (1 : Int64) (q1 &&& (4611686018427387903 : Int64)))), .second] [(.int (F1 (1 : Int32) (p0 &&& (2147483647 : Int32))))])) _
    refine XS.lload X2.here hx rfl (hb hby at_21) rfl ?_
    show Steps p.tables e below (T2.setTop (mkF m 23 #[.val (.int p0), .val (.long q1), .second, .val (.int (F1 (1 : Int32) (p0 &&& (2147483647 : Int32)))), .val (.long (F2 (1 : Int64) (q1 &&& (4611686018427387903 : Int64)))), .second] [(.long (F2 (1 : Int64) (q1 &&& (4611686018427387903 : Int64)))), (.int (F1 (1 : Int32) (p0 &&& (2147483647 : Int32))))])) _
    refine st3 _ ?_
    show Steps p.tables e below (T3.setTop (mkF m 26 #[.val (.int p0), .val (.long q1), .second, .val (.int (F1 (1 : Int32) (p0 &&& (2147483647 : Int32)))), .val (.long (F2 (1 : Int64) (q1 &&& (4611686018427387903 : Int64)))), .second] [])) _
    refine XS.iloadN X3.here hx rfl (hb hby at_26) rfl ?_
    show Steps p.tables e below (T3.setTop (mkF m 27 #[.val (.int p0), .val (.long q1), .second, .val (.int (F1 (1 : Int32) (p0 &&& (2147483647 : Int32)))), .val (.long (F2 (1 : Int64) (q1 &&& (4611686018427387903 : Int64)))), .second] [(.int (F1 (1 : Int32) (p0 &&& (2147483647 : Int32))))])) _
    refine XS.iconst X3.here hx rfl (hb hby at_27) ?_
    show Steps p.tables e below (T3.setTop (mkF m 28 #[.val (.int p0), .val (.long q1), .second, .val (.int (F1 (1 : Int32) (p0 &&& (2147483647 : Int32)))), .val (.long (F2 (1 : Int64) (q1 &&& (4611686018427387903 : Int64)))), .second] [(.int (1 : Int32)), (.int (F1 (1 : Int32) (p0 &&& (2147483647 : Int32))))])) _
    refine st7 _ ?_
    show Steps p.tables e below (T7.setTop (mkF m 52 #[.val (.int p0), .val (.long q1), .second, .val (.int (F1 (1 : Int32) (p0 &&& (2147483647 : Int32)))), .val (.long (F2 (1 : Int64) (q1 &&& (4611686018427387903 : Int64)))), .second] [(.int v7_s0)])) _
    exact retN X7 hx (t := .boolean) Bd.returns (by simp) (hb hby at_52) hr
  · exact ⟨congrArg (fun z => some (Value.int z)) hfin, N0⟩
set_option maxRecDepth 65536 in
set_option maxHeartbeats 40000000 in
theorem comes_1 {Post : Tables → Env → Array Value → State → Outcome → State → Prop} (hpost : ∀ tb e args s v u, (limb_1_1.after args s (.returned v) u = true ∧ limb_1_2.after args s (.returned v) u = true ∧ True) → FrameEnd s (.returned v) u (Jvm.fieldLocs frame_1_writes args s ++ Jvm.arrayLocs frame_1_arrays args s ++ Jvm.staticLocs frame_1_statics s) 0 0 → Post tb e args s (.returned v) u) :
    ArmFor flags0 classFile x code maxLocals ret World_1 tables_1 room_1 Calls_1 rest_1 Pre_1 Post := by
  intro l hfl _ _ p e ha hc hk s m args below hf hA hF happ hP
  obtain ⟨hcalls, hrest, hpre⟩ := hP
  obtain ⟨-, -, -, hnamed, -, -, -, hat⟩ := (Spec.applies_iff hf).mp happ
  obtain ⟨hg, hn⟩ := and_e (Cond.before_iff.mp (show (Jvm.Cond.and given_1 narrow_1).before args s = true from hpre))
  obtain ⟨gg1, gg2⟩ := and_e hg
  obtain ⟨gg3, gg4⟩ := and_e gg2
  obtain ⟨w0, w1, rfl⟩ : ∃ w0 w1 : Value, args = #[w0, w1] := by
    have hs : args.size = 2 := by simpa [Cond.value, given_1] using gg1
    obtain ⟨L⟩ := args
    match L, hs with
    | [w0, w1], _ => exact ⟨w0, w1, rfl⟩
  have hw := fun d (hd : d ∈ tables_1) => atoms_spec (ws := Jvm.Cond.code x code maxLocals ret :: tables_1) hat d (List.mem_cons_of_mem _ hd)
  obtain ⟨i0, ei0⟩ := is_v gg3
  obtain rfl : w0 = (.int i0) := Option.some.inj ei0
  obtain ⟨i1, ei1⟩ := isL_v gg4
  obtain rfl : w1 = (.long i1) := Option.some.inj ei1
  obtain ⟨n, o, h1, h2, h3, _, L, rfl, ⟨rfl, N⟩, hq⟩ := rm0 l s _ hw tables_1 i0 i1 s.heap s.heap.size (Nat.le_refl _) p e ha hc hk s m _ below hf ((Spec.applies_iff_loose hf).mp happ).1 ⟨rfl, State.Warmed39.refl s, rfl⟩ trivial
  refine ⟨n, _, h1, h2, h3, hpost _ _ _ _ _ _ ⟨Cond.after_iff.mpr rfl, Cond.after_iff.mpr (eq_i res_at (Term.int_eval (1)) rfl), trivial⟩ ⟨hq.1, hq.2.1, (hq.2.2.sift fun y hy => Or.inr (N y hy)).mono (by decide) (by decide)⟩⟩
theorem main_1_1 : Claimed_1_1 := comes_1 fun _ _ _ _ _ _ h hF => ⟨h.1, hF⟩
theorem main_1_2 : Claimed_1_2 := comes_1 fun _ _ _ _ _ _ h hF => ⟨h.2.1, hF⟩
end Jvm.Pilot.@@N@@
namespace Jvm.Pilot.@@N@@
open Jvm Jvm.ClassFile Sem Op Lib Jvm.Free Jvm.Stand Jvm.Pilot.@@N@@.Jvm.D
/-! MADE BY PROGRAM (witnessworld.py) out of the Statement's table words and the real class files: 12 classes; the members and pool entries that the words name. The judged class is class 1, her method 1. -/
namespace start1
open Jvm.ClassFile
def u (s : String) : CpInfo := .utf8 (stringToUtf16 s)
/-- a pool by its gaps: so many unusable entries, then the entry; so many at the end -/
def gap : Nat → List CpInfo → List CpInfo
  | 0, r => r
  | n + 1, r => .unusable :: gap n r
def poolList (es : List (Nat × CpInfo)) (last : Nat) : List CpInfo := es.foldr (fun e r => gap e.1 (e.2 :: r)) (gap last [])
def pool (es : List (Nat × CpInfo)) (last : Nat) : Array CpInfo := ⟨poolList es last⟩
def fileOf (pool : Array CpInfo) (this : Nat) (attrs : Array Attribute := #[]) (ms : Array MethodInfo := #[]) (fl : Nat := 33) (sup : Nat := 0) (ifs : Array Nat := #[]) (fds : Array FieldInfo := #[]) : ClassFile where
  minorVersion := 0
  majorVersion := 65
  constantPool := pool
  accessFlags := fl
  thisClass := this
  superClass := sup
  interfaces := ifs
  fields := fds
  methods := ms
  attributes := attrs
def plain (name : String) (sup : Option ClassId) : Class where
  name := name
  kind := .ordinary
  loader := none
  accessFlags := 33
  super := sup
  interfaces := #[]
  cf := none
  fields := #[]
  methods := #[]
  instanceTypes := #[]
  staticTypes := #[]
  resolved := #[]
  callSites := []
  init := .initialized
  statics := none
  mirror := none

def pool0 : Array CpInfo := pool [(5, u "<init>"), (0, u "()V"), (1, .class_ 10), (1, u "java/lang/Object")] 113

def k0m0 : Method := { name := "<init>", desc := "()V", sig := { parameters := [], returnType := none }, accessFlags := 1, code := none }
/-- java/lang/Object -/
def k0 : Class := { plain "java/lang/Object" none with
  accessFlags := 33
  interfaces := #[]
  cf := some (fileOf pool0 8 #[] #[{ accessFlags := 1, nameIndex := 5, descriptorIndex := 6, attributes := #[] }] 33 0 #[] #[])
  fields := #[]
  methods := #[k0m0]
  instanceTypes := #[]
  staticTypes := #[]
  resolved := Array.replicate 124 none
  statics := none }

def pool1 : Array CpInfo := pool [(2, .class_ 4), (1, u "java/lang/Object"), (0, u "<init>"), (0, u "()V"), (0, .integer 2147483647), (0, .methodref 9 10), (0, .class_ 11), (0, .nameAndType 12 13), (0, u "java/lang/Math"), (0, u "max"), (0, u "(II)I"), (0, .long 4611686018427387903), (1, .methodref 9 17), (0, .nameAndType 12 18), (0, u "(JJ)J"), (0, .methodref 20 21), (0, .class_ 22), (0, .nameAndType 23 24), (0, u "com/example/holdfast/holdfast/core/LockContext"), (0, u "checkReplicaRequirement"), (0, u "(IJ)V"), (2, .class_ 28), (0, u "com/example/holdfast/holdfast/core/LockContextCheckReplicaRequirementPinLaw"), (2, u "law"), (0, u "(IJ)Z")] 3

def k1m0 : Method := { name := "<init>", desc := "()V", sig := { parameters := [], returnType := none }, accessFlags := 2, code := none }
def k1c1 : Code := { maxStack := 6, maxLocals := 6, code := code, exceptionTable := #[], attributes := #[] }
def k1m1 : Method := { name := "law", desc := "(IJ)Z", sig := { parameters := [.int, .long], returnType := some .boolean }, accessFlags := 9, code := some k1c1 }
/-- com/example/holdfast/holdfast/core/LockContextCheckReplicaRequirementPinLaw -/
def k1 : Class := { plain "com/example/holdfast/holdfast/core/LockContextCheckReplicaRequirementPinLaw" (some 0) with
  accessFlags := 49
  interfaces := #[]
  cf := some (fileOf pool1 27 #[] #[{ accessFlags := 2, nameIndex := 5, descriptorIndex := 6, attributes := #[] }, { accessFlags := 9, nameIndex := 31, descriptorIndex := 32, attributes := #[] }] 49 2 #[] #[])
  fields := #[]
  methods := #[k1m0, k1m1]
  instanceTypes := #[]
  staticTypes := #[]
  resolved := Array.replicate 36 none
  statics := none }

def pool2 : Array CpInfo := pool [(1, .class_ 2), (0, u "java/lang/Math"), (1, .class_ 6), (1, u "java/lang/Object"), (0, u "<init>"), (0, u "()V"), (89, .class_ 100), (1, u "java/lang/Math$RandomNumberGeneratorHolder"), (20, u "(JJ)J"), (50, u "negativeZeroFloatBits"), (0, u "J"), (2, u "negativeZeroDoubleBits"), (21, u "max"), (46, u "$assertionsDisabled"), (0, u "Z"), (88, u "(II)I"), (2, u "twoToTheDoubleScaleDown"), (0, u "D"), (4, u "twoToTheDoubleScaleUp"), (9, u "E"), (3, u "PI"), (2, u "TAU"), (2, u "DEGREES_TO_RADIANS"), (0, u "RADIANS_TO_DEGREES")] 94

def k2m0 : Method := { name := "<init>", desc := "()V", sig := { parameters := [], returnType := none }, accessFlags := 2, code := none }
def k2c1 : Code := { maxStack := 2, maxLocals := 2, code := jdk_29_method_65_code, exceptionTable := #[], attributes := #[] }
def k2m1 : Method := { name := "max", desc := "(II)I", sig := { parameters := [.int, .int], returnType := some .int }, accessFlags := 9, code := some k2c1 }
def k2c2 : Code := { maxStack := 4, maxLocals := 4, code := jdk_29_method_66_code, exceptionTable := #[], attributes := #[] }
def k2m2 : Method := { name := "max", desc := "(JJ)J", sig := { parameters := [.long, .long], returnType := some .long }, accessFlags := 9, code := some k2c2 }
/-- java/lang/Math -/
def k2 : Class := { plain "java/lang/Math" (some 0) with
  accessFlags := 49
  interfaces := #[]
  cf := some (fileOf pool2 1 #[.nestMembers #[98]] #[{ accessFlags := 2, nameIndex := 7, descriptorIndex := 8, attributes := #[] }, { accessFlags := 9, nameIndex := 198, descriptorIndex := 335, attributes := #[] }, { accessFlags := 9, nameIndex := 198, descriptorIndex := 121, attributes := #[] }] 49 4 #[] #[{ accessFlags := 25, nameIndex := 354, descriptorIndex := 339, attributes := #[] }, { accessFlags := 25, nameIndex := 358, descriptorIndex := 339, attributes := #[] }, { accessFlags := 25, nameIndex := 361, descriptorIndex := 339, attributes := #[] }, { accessFlags := 26, nameIndex := 364, descriptorIndex := 339, attributes := #[] }, { accessFlags := 26, nameIndex := 365, descriptorIndex := 339, attributes := #[] }, { accessFlags := 26, nameIndex := 172, descriptorIndex := 173, attributes := #[] }, { accessFlags := 26, nameIndex := 176, descriptorIndex := 173, attributes := #[] }, { accessFlags := 8, nameIndex := 344, descriptorIndex := 339, attributes := #[] }, { accessFlags := 8, nameIndex := 338, descriptorIndex := 339, attributes := #[] }, { accessFlags := 4120, nameIndex := 245, descriptorIndex := 246, attributes := #[] }])
  fields := #[{ name := "E", type := .double, accessFlags := 25, slot := 0, constantValue := 0 }, { name := "PI", type := .double, accessFlags := 25, slot := 1, constantValue := 0 }, { name := "TAU", type := .double, accessFlags := 25, slot := 2, constantValue := 0 }, { name := "DEGREES_TO_RADIANS", type := .double, accessFlags := 26, slot := 3, constantValue := 0 }, { name := "RADIANS_TO_DEGREES", type := .double, accessFlags := 26, slot := 4, constantValue := 0 }, { name := "negativeZeroFloatBits", type := .long, accessFlags := 26, slot := 5, constantValue := 0 }, { name := "negativeZeroDoubleBits", type := .long, accessFlags := 26, slot := 6, constantValue := 0 }, { name := "twoToTheDoubleScaleUp", type := .double, accessFlags := 8, slot := 7, constantValue := 0 }, { name := "twoToTheDoubleScaleDown", type := .double, accessFlags := 8, slot := 8, constantValue := 0 }, { name := "$assertionsDisabled", type := .boolean, accessFlags := 4120, slot := 9, constantValue := 0 }]
  methods := #[k2m0, k2m1, k2m2]
  instanceTypes := #[]
  staticTypes := #[.double, .double, .double, .double, .double, .long, .long, .double, .double, .boolean]
  resolved := Array.replicate 460 none
  statics := none }

def pool3 : Array CpInfo := pool [(1, .class_ 2), (0, u "java/lang/AutoCloseable"), (0, .class_ 4), (0, u "java/lang/Object")] 7

/-- java/lang/AutoCloseable -/
def k3 : Class := { plain "java/lang/AutoCloseable" (some 0) with
  accessFlags := 1537
  interfaces := #[]
  cf := some (fileOf pool3 1 #[] #[] 1537 3 #[] #[])
  fields := #[]
  methods := #[]
  instanceTypes := #[]
  staticTypes := #[]
  resolved := Array.replicate 12 none
  statics := none }

def pool4 : Array CpInfo := pool [(2, .class_ 4), (1, u "com/example/holdfast/holdfast/core/LockContext"), (3, .class_ 10), (1, u "java/lang/Object"), (6, u "m_holds"), (0, u "Lcom/example/holdfast/holdfast/core/KnownHolds;"), (8, u "m_marks"), (0, u "Ljava/util/Set;"), (5, u "m_lost"), (0, u "Lcom/example/holdfast/holdfast/core/LostHolds;"), (26, u "checkReplicaRequirement"), (0, u "(IJ)V"), (2, u "m_link"), (0, u "Lcom/example/holdfast/holdfast/core/RedisLink;"), (2, u "m_clientId"), (0, u "Ljava/lang/String;"), (7, u "m_notices"), (0, u "Lcom/example/holdfast/holdfast/core/ReleaseNotices;"), (0, .class_ 82), (0, u "com/example/holdfast/holdfast/core/LeaseRenewals"), (9, u "m_renewals"), (0, u "Lcom/example/holdfast/holdfast/core/LeaseRenewals;"), (2, u "m_replicas"), (0, u "I"), (2, u "m_replicaTimeoutMillis"), (0, u "J"), (3, .methodref 81 106), (0, .nameAndType 107 108), (0, u "isValidLease"), (0, u "(J)Z"), (37, .class_ 147), (0, u "java/lang/AutoCloseable")] 64

def k4c0 : Code := { maxStack := 3, maxLocals := 3, code := prog_21_method_3_code, exceptionTable := #[], attributes := #[] }
def k4m0 : Method := { name := "checkReplicaRequirement", desc := "(IJ)V", sig := { parameters := [.int, .long], returnType := none }, accessFlags := 9, code := some k4c0 }
/-- com/example/holdfast/holdfast/core/LockContext -/
def k4 : Class := { plain "com/example/holdfast/holdfast/core/LockContext" (some 0) with
  accessFlags := 49
  interfaces := #[3]
  cf := some (fileOf pool4 2 #[] #[{ accessFlags := 9, nameIndex := 62, descriptorIndex := 63, attributes := #[] }] 49 8 #[146] #[{ accessFlags := 18, nameIndex := 66, descriptorIndex := 67, attributes := #[] }, { accessFlags := 18, nameIndex := 70, descriptorIndex := 71, attributes := #[] }, { accessFlags := 18, nameIndex := 79, descriptorIndex := 80, attributes := #[] }, { accessFlags := 18, nameIndex := 92, descriptorIndex := 93, attributes := #[] }, { accessFlags := 18, nameIndex := 17, descriptorIndex := 18, attributes := #[] }, { accessFlags := 18, nameIndex := 27, descriptorIndex := 28, attributes := #[] }, { accessFlags := 18, nameIndex := 34, descriptorIndex := 35, attributes := #[] }, { accessFlags := 18, nameIndex := 96, descriptorIndex := 97, attributes := #[] }, { accessFlags := 18, nameIndex := 100, descriptorIndex := 101, attributes := #[] }])
  fields := #[{ name := "m_link", type := (.object "com/example/holdfast/holdfast/core/RedisLink"), accessFlags := 18, slot := 0, constantValue := 0 }, { name := "m_clientId", type := (.object "java/lang/String"), accessFlags := 18, slot := 1, constantValue := 0 }, { name := "m_notices", type := (.object "com/example/holdfast/holdfast/core/ReleaseNotices"), accessFlags := 18, slot := 2, constantValue := 0 }, { name := "m_renewals", type := (.object "com/example/holdfast/holdfast/core/LeaseRenewals"), accessFlags := 18, slot := 3, constantValue := 0 }, { name := "m_holds", type := (.object "com/example/holdfast/holdfast/core/KnownHolds"), accessFlags := 18, slot := 4, constantValue := 0 }, { name := "m_marks", type := (.object "java/util/Set"), accessFlags := 18, slot := 5, constantValue := 0 }, { name := "m_lost", type := (.object "com/example/holdfast/holdfast/core/LostHolds"), accessFlags := 18, slot := 6, constantValue := 0 }, { name := "m_replicas", type := .int, accessFlags := 18, slot := 7, constantValue := 0 }, { name := "m_replicaTimeoutMillis", type := .long, accessFlags := 18, slot := 8, constantValue := 0 }]
  methods := #[k4m0]
  instanceTypes := #[(.object "com/example/holdfast/holdfast/core/RedisLink"), (.object "java/lang/String"), (.object "com/example/holdfast/holdfast/core/ReleaseNotices"), (.object "com/example/holdfast/holdfast/core/LeaseRenewals"), (.object "com/example/holdfast/holdfast/core/KnownHolds"), (.object "java/util/Set"), (.object "com/example/holdfast/holdfast/core/LostHolds"), .int, .long]
  staticTypes := #[]
  resolved := Array.replicate 212 none
  statics := none }

def pool5 : Array CpInfo := pool [(4, .class_ 6), (1, u "java/lang/Object"), (6, .class_ 15), (1, u "com/example/holdfast/holdfast/core/LeaseRenewals"), (0, u "m_renewals"), (0, u "Ljava/util/Map;"), (2, u "isValidLease"), (0, u "(J)Z"), (10, u "m_timeoutMillis"), (0, u "J"), (14, u "m_periodNanos"), (2, u "m_lost"), (0, u "Ljava/util/function/ObjLongConsumer;"), (15, u "m_timer"), (0, u "Ljava/util/concurrent/ScheduledThreadPoolExecutor;"), (0, .long 4611686018427387903), (20, .class_ 92), (0, u "com/example/holdfast/holdfast/core/LeaseRenewals$Renewal"), (16, u "m_closed"), (0, u "Z"), (43, u "m_scheduled"), (32, u "DEFAULT_TIMEOUT_MILLIS"), (3, u "MAX_LEASE_MILLIS")] 58

def k5c0 : Code := { maxStack := 4, maxLocals := 2, code := prog_19_method_2_code, exceptionTable := #[], attributes := #[] }
def k5m0 : Method := { name := "isValidLease", desc := "(J)Z", sig := { parameters := [.long], returnType := some .boolean }, accessFlags := 9, code := some k5c0 }
/-- com/example/holdfast/holdfast/core/LeaseRenewals -/
def k5 : Class := { plain "com/example/holdfast/holdfast/core/LeaseRenewals" (some 0) with
  accessFlags := 49
  interfaces := #[]
  cf := some (fileOf pool5 13 #[.nestMembers #[91]] #[{ accessFlags := 9, nameIndex := 20, descriptorIndex := 21, attributes := #[] }] 49 4 #[] #[{ accessFlags := 25, nameIndex := 187, descriptorIndex := 33, attributes := #[] }, { accessFlags := 26, nameIndex := 191, descriptorIndex := 33, attributes := #[] }, { accessFlags := 18, nameIndex := 32, descriptorIndex := 33, attributes := #[] }, { accessFlags := 18, nameIndex := 48, descriptorIndex := 33, attributes := #[] }, { accessFlags := 18, nameIndex := 51, descriptorIndex := 52, attributes := #[] }, { accessFlags := 18, nameIndex := 68, descriptorIndex := 69, attributes := #[] }, { accessFlags := 18, nameIndex := 16, descriptorIndex := 17, attributes := #[] }, { accessFlags := 2, nameIndex := 154, descriptorIndex := 110, attributes := #[] }, { accessFlags := 2, nameIndex := 109, descriptorIndex := 110, attributes := #[] }])
  fields := #[{ name := "DEFAULT_TIMEOUT_MILLIS", type := .long, accessFlags := 25, slot := 0, constantValue := 0 }, { name := "MAX_LEASE_MILLIS", type := .long, accessFlags := 26, slot := 1, constantValue := 0 }, { name := "m_timeoutMillis", type := .long, accessFlags := 18, slot := 0, constantValue := 0 }, { name := "m_periodNanos", type := .long, accessFlags := 18, slot := 1, constantValue := 0 }, { name := "m_lost", type := (.object "java/util/function/ObjLongConsumer"), accessFlags := 18, slot := 2, constantValue := 0 }, { name := "m_timer", type := (.object "java/util/concurrent/ScheduledThreadPoolExecutor"), accessFlags := 18, slot := 3, constantValue := 0 }, { name := "m_renewals", type := (.object "java/util/Map"), accessFlags := 18, slot := 4, constantValue := 0 }, { name := "m_scheduled", type := .boolean, accessFlags := 2, slot := 5, constantValue := 0 }, { name := "m_closed", type := .boolean, accessFlags := 2, slot := 6, constantValue := 0 }]
  methods := #[k5m0]
  instanceTypes := #[.long, .long, (.object "java/util/function/ObjLongConsumer"), (.object "java/util/concurrent/ScheduledThreadPoolExecutor"), (.object "java/util/Map"), .boolean, .boolean]
  staticTypes := #[.long, .long]
  resolved := Array.replicate 250 none
  statics := none }

def pool6 : Array CpInfo := pool [(1, u "java/lang/Cloneable"), (0, .class_ 1), (0, u "java/lang/Object"), (0, .class_ 3)] 3

/-- java/lang/Cloneable -/
def k6 : Class := { plain "java/lang/Cloneable" (some 0) with
  accessFlags := 1537
  interfaces := #[]
  cf := some (fileOf pool6 2 #[] #[] 1537 4 #[] #[])
  fields := #[]
  methods := #[]
  instanceTypes := #[]
  staticTypes := #[]
  resolved := Array.replicate 8 none
  statics := none }

def pool7 : Array CpInfo := pool [(1, u "java/io/Serializable"), (0, .class_ 1), (0, u "java/lang/Object"), (0, .class_ 3)] 3

/-- java/io/Serializable -/
def k7 : Class := { plain "java/io/Serializable" (some 0) with
  accessFlags := 1537
  interfaces := #[]
  cf := some (fileOf pool7 2 #[] #[] 1537 4 #[] #[])
  fields := #[]
  methods := #[]
  instanceTypes := #[]
  staticTypes := #[]
  resolved := Array.replicate 8 none
  statics := none }

/-- the primitive byte -/
def k8 : Class := { plain "byte" none with kind := .primitive 'B', accessFlags := 0x411 }
/-- [B -/
def k9 : Class := { plain "[B" (some 0) with kind := .array 8 .byte, interfaces := #[6, 7], accessFlags := 1041 }

/-- the primitive int -/
def k10 : Class := { plain "int" none with kind := .primitive 'I', accessFlags := 0x411 }
/-- [I -/
def k11 : Class := { plain "[I" (some 0) with kind := .array 10 .int, interfaces := #[6, 7], accessFlags := 1041 }

def heap : Heap := #[]
def classes : Array Class := #[k0, k1, k2, k3, k4, k5, k6, k7, k8, k9, k10, k11]
def interned : List (Array UInt16 × Addr) := []
def slotsUsed : Nat := 0
def theMethod : MethodId := ⟨1, 1⟩
def args0 : Array Value := #[.int 5, .long 5]
def aboutOver (below : List Frame) : State where
  vm := { classes := classes, interned := interned.toArray }
  heap := heap
  slotsUsed := slotsUsed
  threads := #[{ frames := .invoking theMethod args0 :: below }]
def below0 : List Frame := [.native { method := ⟨0, 0⟩, args := #[] }]
def about1 : State := aboutOver below0
def p0 : Program := .bare "" "" ""
def e0 : Env := launch0.env 0 0 0
theorem w_frames : about1.frames = Frame.invoking theMethod args0 :: below0 := rfl
set_option maxRecDepth 65536 in
theorem w_args : argsFit about1.vm theMethod args0 = true := by decide +kernel
set_option maxRecDepth 65536 in
theorem w_heap : heapFits about1 = true := by decide +kernel
set_option maxRecDepth 65536 in
theorem w_runnable : about1.curStatus? = some .runnable := by decide +kernel
set_option maxRecDepth 65536 in
theorem w_alone : about1.alone = true := by decide +kernel
set_option maxRecDepth 65536 in
theorem w_named : about1.methodNamed? x = some theMethod := by decide +kernel
set_option maxRecDepth 65536 in
theorem w_hears : about1.hears theMethod below0 = true := by decide +kernel
set_option maxRecDepth 65536 in
theorem w_ripe : about1.ripe theMethod args0 below0 = true := by decide +kernel
theorem w_running : about1.status = .running := rfl
set_option maxRecDepth 65536 in
theorem w_room : about1.hasRoom e0.platform room_1 = true :=
  launch0.hasRoom_least _ room_1 (by decide +kernel) (by decide +kernel) (by decide +kernel) (by decide +kernel) (by decide +kernel) (by decide +kernel)
theorem allAtoms_all (ts : List Jvm.Cond) (a : Array Jvm.Value) (st : Jvm.State) : (allAtoms ts).before a st = ts.all (fun c => c.before a st) := by
  induction ts with
  | nil => rfl
  | cons c t ih =>
    show (Jvm.Cond.and c (allAtoms t)).before a st = _
    rw [Jvm.Cond.before_and, ih, List.all_cons]
def words1 : List Jvm.Cond := Jvm.Cond.code x code maxLocals ret :: tables_1
/-- a 'code' word, met by the world's own term for the bytes: nothing is compared byte by byte -/
theorem code_word {y : MethodName} {bytes : ByteArray} {mx : Nat} {rt : Option FieldType} {a : Array Value} {s : State} {m : MethodId} {meth : Method} {c : Code} (h1 : s.methodNamed? y = some m) (h2 : s.vm.method? m = some meth) (h3 : meth.code = some c) (h4 : c.code = bytes)
    (h5 : (c.maxLocals == mx && c.exceptionTable.isEmpty && decide (c.maxStack ≤ mostOperands) && decide (meth.sig.returnType = rt) && !meth.locks && decide (parseMethodDescriptor y.desc = some meth.sig)) = true) : (Jvm.Cond.code y bytes mx rt).before a s = true := by
  simp only [Bool.and_eq_true, beq_iff_eq, Bool.not_eq_true', decide_eq_true_eq] at h5
  obtain ⟨⟨⟨⟨⟨g1, g2⟩, g3⟩, g4⟩, g5⟩, g6⟩ := h5
  simp [Cond.before, Cond.holds, Cond.value, h1, h2, h3, h4, g1, g2, g3, g4, g5, g6]
def isCode : Jvm.Cond → Bool
  | .code _ _ _ _ => true
  | _ => false
theorem all_split {L : List Jvm.Cond} {P : Jvm.Cond → Bool} (h1 : L.all (fun c => isCode c || P c) = true) (h2 : ∀ c ∈ L.filter isCode, P c = true) : L.all P = true := by
  refine List.all_eq_true.mpr fun c hc => ?_
  have h := List.all_eq_true.mp h1 c hc
  rcases Bool.eq_false_or_eq_true (isCode c) with hi | hi
  · exact h2 c (List.mem_filter.mpr ⟨hc, hi⟩)
  · simpa [hi] using h
set_option maxRecDepth 65536 in
theorem w_c0 : (Jvm.Cond.code x code maxLocals ret).before args0 about1 = true := code_word (m := ⟨1, 1⟩) (meth := k1m1) (c := k1c1) (by decide +kernel) rfl rfl rfl (by decide +kernel)
set_option maxRecDepth 65536 in
theorem w_c1 : (Jvm.Cond.code ({ cls := "java/lang/Math", name := "max", desc := "(II)I" } : Jvm.MethodName) jdk_29_method_65_code (2 : Nat) (Option.some Jvm.ClassFile.FieldType.int)).before args0 about1 = true := code_word (m := ⟨2, 1⟩) (meth := k2m1) (c := k2c1) (by decide +kernel) rfl rfl rfl (by decide +kernel)
set_option maxRecDepth 65536 in
theorem w_c2 : (Jvm.Cond.code ({ cls := "java/lang/Math", name := "max", desc := "(JJ)J" } : Jvm.MethodName) jdk_29_method_66_code (4 : Nat) (Option.some Jvm.ClassFile.FieldType.long)).before args0 about1 = true := code_word (m := ⟨2, 2⟩) (meth := k2m2) (c := k2c2) (by decide +kernel) rfl rfl rfl (by decide +kernel)
set_option maxRecDepth 65536 in
theorem w_c3 : (Jvm.Cond.code ({ cls := "com/example/holdfast/holdfast/core/LockContext", name := "checkReplicaRequirement", desc := "(IJ)V" } : Jvm.MethodName) prog_21_method_3_code (3 : Nat) (Option.none : Option Jvm.ClassFile.FieldType)).before args0 about1 = true := code_word (m := ⟨4, 0⟩) (meth := k4m0) (c := k4c0) (by decide +kernel) rfl rfl rfl (by decide +kernel)
set_option maxRecDepth 65536 in
theorem w_c4 : (Jvm.Cond.code ({ cls := "com/example/holdfast/holdfast/core/LeaseRenewals", name := "isValidLease", desc := "(J)Z" } : Jvm.MethodName) prog_19_method_2_code (2 : Nat) (Option.some Jvm.ClassFile.FieldType.boolean)).before args0 about1 = true := code_word (m := ⟨5, 0⟩) (meth := k5m0) (c := k5c0) (by decide +kernel) rfl rfl rfl (by decide +kernel)
def codes1 : List Jvm.Cond := [Jvm.Cond.code x code maxLocals ret, Jvm.Cond.code ({ cls := "java/lang/Math", name := "max", desc := "(II)I" } : Jvm.MethodName) jdk_29_method_65_code (2 : Nat) (Option.some Jvm.ClassFile.FieldType.int), Jvm.Cond.code ({ cls := "java/lang/Math", name := "max", desc := "(JJ)J" } : Jvm.MethodName) jdk_29_method_66_code (4 : Nat) (Option.some Jvm.ClassFile.FieldType.long), Jvm.Cond.code ({ cls := "com/example/holdfast/holdfast/core/LockContext", name := "checkReplicaRequirement", desc := "(IJ)V" } : Jvm.MethodName) prog_21_method_3_code (3 : Nat) (Option.none : Option Jvm.ClassFile.FieldType), Jvm.Cond.code ({ cls := "com/example/holdfast/holdfast/core/LeaseRenewals", name := "isValidLease", desc := "(J)Z" } : Jvm.MethodName) prog_19_method_2_code (2 : Nat) (Option.some Jvm.ClassFile.FieldType.boolean)]
set_option maxRecDepth 65536 in
theorem codes_eq : words1.filter isCode = codes1 := rfl
theorem w_codes : ∀ c ∈ words1.filter isCode, c.before args0 about1 = true := by
  rw [codes_eq]
  intro c hc
  simp only [codes1, List.mem_cons, List.not_mem_nil, or_false] at hc
  rcases hc with rfl | rfl | rfl | rfl | rfl
  · exact w_c0
  · exact w_c1
  · exact w_c2
  · exact w_c3
  · exact w_c4
set_option maxRecDepth 65536 in
theorem w_t1 : words1.all (fun c => isCode c || c.before args0 about1) = true := by decide +kernel
theorem w_tables : (allAtoms (Jvm.Cond.code x code maxLocals ret :: tables_1)).before args0 about1 = true := by
  rw [allAtoms_all]
  show words1.all (fun c => c.before args0 about1) = true
  refine all_split ?_ w_codes
  rw [w_t1]
set_option maxRecDepth 65536 in
theorem w_case : (Jvm.Cond.and given_1 narrow_1).before args0 about1 = true := by decide +kernel
theorem w_applies : (headSpec (Jvm.Cond.code x code maxLocals ret :: tables_1) room_1).applies x e0.platform about1 = true :=
  (Spec.applies_iff w_frames).mpr ⟨w_running, w_runnable, w_alone, w_named, w_hears, w_ripe, w_room, w_tables⟩
theorem atStart : AtStart classFile x code maxLocals ret World_1 tables_1 room_1 Calls_1 rest_1 Pre_1 launch0 p0 e0 about1 theMethod args0 below0 :=
  ⟨lists_1, trivial, launch0.admits_env _ _ _, launch0.least_env, fairChoices_fair.cas, fairChoices_fair.clock, w_frames, w_args, w_heap, w_applies, trivial, trivial, w_case⟩
end start1
theorem witness_1 : WitnessClaimed_1 := ⟨start1.p0, start1.e0, start1.about1, start1.theMethod, start1.args0, start1.below0, start1.atStart⟩
end Jvm.Pilot.@@N@@
