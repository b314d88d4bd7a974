import JvmDerived
import JvmDerived.Pilot.@@N@@Statement
import JvmDerived.Pilot.@@N@@Code
set_option linter.unusedVariables false
set_option linter.unusedSimpArgs false
@@BLOCK:NumsL.lean.txt@@
namespace Jvm.RoadKit
open Sem ClassFile Op Lib Jvm.Stand Jvm.Free Jvm.LawKit
section New
variable {p : Program} {l : Launch} {e : Env} {R : Room} {s : State} {m : MethodId} {args : Array Value} {below : List Frame} {meth : Method} {c : Code} {T : State} {locs : List Loc} {cells slots : Nat}
theorem retI (X : Stand p l e R s m args below meth c T locs cells slots) (hx : p.tables.exec = Jvm.exec) {pc : Nat} {Ls : Array Slot} {z : Int32} {rest : List Value} (hret : meth.sig.returnType = some .int) (hd : decode c.code pc = .ok (.ireturn, 1)) {fs : List Frame}
    (hl : ∀ (f : JFrame) (acts : List Action), f.method = m → f.locked = none → f.entered = [] → (doReturn e (T.setTop f) acts (some (.int z))).1 = T.setFrames fs) : Steps p.tables e below (T.setTop (mkF m pc Ls (.int z :: rest))) (T.setFrames fs) :=
  retOut X hx hret rfl (Or.inl ⟨rfl, Or.inl rfl, z, rfl⟩) hd hl
theorem retJ (X : Stand p l e R s m args below meth c T locs cells slots) (hx : p.tables.exec = Jvm.exec) {pc : Nat} {Ls : Array Slot} {z : Int64} {rest : List Value} (hret : meth.sig.returnType = some .long) (hd : decode c.code pc = .ok (.lreturn, 1)) {fs : List Frame}
    (hl : ∀ (f : JFrame) (acts : List Action), f.method = m → f.locked = none → f.entered = [] → (doReturn e (T.setTop f) acts (some (.long z))).1 = T.setFrames fs) : Steps p.tables e below (T.setTop (mkF m pc Ls (.long z :: rest))) (T.setFrames fs) :=
  retOut X hx hret rfl (Or.inr (Or.inl ⟨rfl, rfl, z, rfl⟩)) hd hl
theorem retA (X : Stand p l e R s m args below meth c T locs cells slots) (hx : p.tables.exec = Jvm.exec) {pc : Nat} {Ls : Array Slot} {w : Value} {t : FieldType} {rest : List Value} (hret : meth.sig.returnType = some t) (ht : t.isReference = true) (hn : narrow t w = w) (hw : w.isRef = true) (hd : decode c.code pc = .ok (.areturn, 1)) {fs : List Frame}
    (hl : ∀ (f : JFrame) (acts : List Action), f.method = m → f.locked = none → f.entered = [] → (doReturn e (T.setTop f) acts (some w)).1 = T.setFrames fs) : Steps p.tables e below (T.setTop (mkF m pc Ls (w :: rest))) (T.setFrames fs) :=
  retOut X hx hret hn (Or.inr (Or.inr (Or.inr (Or.inr ⟨rfl, ht, hw⟩)))) hd hl
/-- what an array of ints that is written down holds at a place -/
def own_at (vs : List Value) (d : Value) (j : Int32) : Int32 := match vs.getD j.toNatClampNeg d with | .int x => x | _ => 0
def own_ints (vs : List Value) : Bool := vs.all fun v => match v with | .int _ => true | _ => false
theorem own_at_eq {vs : List Value} {d : Value} (h : own_ints (d :: vs) = true) (j : Int32) : vs.getD j.toNatClampNeg d = .int (own_at vs d j) := by
  have q : vs.getD j.toNatClampNeg d ∈ d :: vs := by
    rw [List.getD_eq_getElem?_getD]
    cases e : vs[j.toNatClampNeg]? with
    | none => simp
    | some w => exact List.mem_cons_of_mem _ (List.mem_of_getElem? e)
  have r := List.all_eq_true.mp h _ q
  unfold own_at
  cases e : vs.getD j.toNatClampNeg d <;> rw [e] at r <;> first | rfl | cases r
/-- a piece of a road from the frame F to the frame G, by whatever states between -/
theorem own_seg (X : Stand p l e R s m args below meth c T locs cells slots) (h : Heap) (F G : JFrame)
    (k : ∃ T', Stand p l e R s m args below meth c T' locs cells slots ∧ T'.heap = h ∧ ∀ target, Steps p.tables e below (T'.setTop G) target → Steps p.tables e below (T.setTop F) target) :
    ∃ T', Stand p l e R s m args below meth c T' locs cells slots ∧ T'.heap = h ∧ ∀ target, Steps p.tables e below (T'.setTop G) target → Steps p.tables e below (T.setTop F) target := k
end New
end Jvm.RoadKit
namespace Jvm.Pilot.@@N@@
open Jvm Jvm.ClassFile Sem Op Lib Jvm.Free Jvm.Stand Jvm.LawKit Jvm.RoadKit Bundle Jvm.Pilot.@@N@@.Jvm.D
theorem d1_0 : decode prog_19_method_2_code 0 = .ok (.lconst 1, 1) := by decide +kernel
theorem d1_1 : decode prog_19_method_2_code 1 = .ok (.lload_n 0, 1) := by decide +kernel
theorem d1_2 : decode prog_19_method_2_code 2 = .ok (.lcmp, 1) := by decide +kernel
theorem d1_3 : decode prog_19_method_2_code 3 = .ok (.ifCond .gt 15, 3) := by decide +kernel
theorem d1_6 : decode prog_19_method_2_code 6 = .ok (.lload_n 0, 1) := by decide +kernel
theorem d1_7 : decode prog_19_method_2_code 7 = .ok (.ldc2_w 70, 3) := by decide +kernel
theorem d1_10 : decode prog_19_method_2_code 10 = .ok (.lcmp, 1) := by decide +kernel
theorem d1_11 : decode prog_19_method_2_code 11 = .ok (.ifCond .gt 7, 3) := by decide +kernel
theorem d1_14 : decode prog_19_method_2_code 14 = .ok (.iconst 1, 1) := by decide +kernel
theorem d1_15 : decode prog_19_method_2_code 15 = .ok (.goto 4, 3) := by decide +kernel
theorem d1_18 : decode prog_19_method_2_code 18 = .ok (.iconst 0, 1) := by decide +kernel
theorem d1_19 : decode prog_19_method_2_code 19 = .ok (.ireturn, 1) := by decide +kernel
theorem pn_1 : plainName "com/example/holdfast/holdfast/core/LeaseRenewals" = true := by first | (simp [plainName, overriddenIn]; done) | decide +kernel
theorem ef_1 (m : MethodId) (q0 : Int64) : entryFrame m #[(.long q0)] 2 = mkF m 0 #[.val (.long q0), .second] [] := by first | (simp [entryFrame, mkF, argsToLocals, Value.category]; done) | rfl
def F1 (q0 : Int64) : Int32 := (if q0 < (1 : Int64) then (0 : Int32) else (if (4611686018427387903 : Int64) < q0 then (0 : Int32) else (1 : Int32)))
def Q1 (Z : State) (q0 : Int64) (h0 : Heap) (n0 : Nat) (v : Option Value) (h : Heap) (L : List Loc) : Prop := v = some (.int (F1 q0)) ∧ L = [] ∧ h = h0
set_option maxRecDepth 65536 in
set_option maxHeartbeats 40000000 in
theorem rm1 (l : Launch) (Z : State) (a0 : Array Value) (hw : ∀ d ∈ tables_1, d.before a0 Z = true) (ws : List Jvm.Cond) (q0 : Int64) (h0 : Heap) (n0 : Nat) (Z0 : n0 ≤ h0.size) :
    MetFree l (⟨"com/example/holdfast/holdfast/core/LeaseRenewals", "isValidLease", "(J)Z"⟩ : MethodName) (head1 (Jvm.Cond.code (⟨"com/example/holdfast/holdfast/core/LeaseRenewals", "isValidLease", "(J)Z"⟩ : MethodName) prog_19_method_2_code 2 (some .boolean) :: ws) ({ frames := 0, cells := 0, slots := 0, locals := 0 } : Room)) (fun a U => a = #[(.long q0)] ∧ Z.Warmed39 U.vm ∧ U.heap = h0) (fun _ _ _ _ _ => True) (fun _ U o U' => ∃ v L, o = .returned v ∧ Q1 Z q0 h0 n0 v U'.heap L ∧ FrameEnd U o U' L ({ frames := 0, cells := 0, slots := 0, locals := 0 } : Room).cells ({ frames := 0, cells := 0, slots := 0, locals := 0 } : Room).slots) := by
  refine MetFree.of_bodySF (plainFor_of_name pn_1) hisR ?_
  intro p e s m args below meth c s₁ Bd hml0 hP hK
  obtain ⟨rfl, hZ, hh⟩ := hP
  have hx := Bd.exec
  have hby := Bd.bytes
  have hml : c.maxLocals = 2 := hml0
  have hown : s.vm.findClass "com/example/holdfast/holdfast/core/LeaseRenewals" = some m.cls := findClass_of_methodNamed Bd.named
  have hnm := (name_of_methodNamed Bd.named Bd.method).1
  have X0 : Stand p l e ({ frames := 0, cells := 0, slots := 0, locals := 0 } : Room) s m #[(.long q0)] below meth c s₁ [] 0 0 := Stand.of_body Bd
  have e0 : s₁.heap = h0 := by rw [← hh, Bd.state]; rfl
  have N0 := Fr.nil n0
  have pre0 : ∀ t, Steps p.tables e below (s₁.setTop (mkF m 0 #[.val (.long q0), .second] [])) t → Steps p.tables e below (s₁.setTop (entryFrame m #[(.long q0)] 2)) t := fun t k => castTop (ef_1 m q0) k
  obtain ⟨v3_s0, Hv3_s0⟩ : ∃ z : Int32, z = (if q0 < (1 : Int64) then (0 : Int32) else (if (4611686018427387903 : Int64) < q0 then (0 : Int32) else (1 : Int32))) := ⟨_, rfl⟩
  obtain ⟨T3, X3, e3, st3⟩ := own_seg X0 h0 (mkF m 3 #[.val (.long q0), .second] [(.int (lcmpW (1 : Int64) q0))]) (mkF m 19 #[.val (.long q0), .second] [(.int v3_s0)]) (by
    by_cases hc1 : q0 < (1 : Int64)
    · rw [if_pos hc1] at Hv3_s0
      refine ⟨s₁, X0, e0, fun target kt => ?_⟩
      rw [Hv3_s0] at kt
      show Steps p.tables e below (s₁.setTop (mkF m 3 #[.val (.long q0), .second] [(.int (lcmpW (1 : Int64) q0))])) _
      refine XS.ifYes X0.here hx rfl (pc0 := 3) (pc' := 18) rfl (hb hby d1_3) rfl ((if0 _ _).trans (tlt ((lw_gt _ _).mpr hc1)).2.2.1) (by decide) (by decide) ?_
      show Steps p.tables e below (s₁.setTop (mkF m 18 #[.val (.long q0), .second] [])) _
      refine XS.iconst X0.here hx rfl (hb hby d1_18) ?_
      exact kt
    · by_cases hc2 : (4611686018427387903 : Int64) < q0
      · rw [if_neg hc1, if_pos hc2] at Hv3_s0
        refine ⟨s₁, X0, e0, fun target kt => ?_⟩
        rw [Hv3_s0] at kt
        show Steps p.tables e below (s₁.setTop (mkF m 3 #[.val (.long q0), .second] [(.int (lcmpW (1 : Int64) q0))])) _
        refine XS.ifNo X0.here hx rfl (hb hby d1_3) rfl ((if0 _ _).trans (flt (fun q => hc1 ((lw_gt _ _).mp q))).2.2.1) ?_
        show Steps p.tables e below (s₁.setTop (mkF m 6 #[.val (.long q0), .second] [])) _
        refine XS.lloadN X0.here hx rfl (hb hby d1_6) rfl ?_
        show Steps p.tables e below (s₁.setTop (mkF m 7 #[.val (.long q0), .second] [(.long q0)])) _
        refine X0.ldc2Long hx hown (mvT hZ (hw _ (List.mem_of_getElem? (i := 5) rfl))) (g := (mkF m 7 #[.val (.long q0), .second] [(.long q0)])) rfl (hb hby d1_7) _ ?_
        show Steps p.tables e below (s₁.setTop (mkF m 10 #[.val (.long q0), .second] [(.long (4611686018427387903 : Int64)), (.long q0)])) _
        refine XS.lcmp X0.here hx rfl (hb hby d1_10) rfl ?_
        show Steps p.tables e below (s₁.setTop (mkF m 11 #[.val (.long q0), .second] [(.int (lcmpW q0 (4611686018427387903 : Int64)))])) _
        refine XS.ifYes X0.here hx rfl (pc0 := 11) (pc' := 18) rfl (hb hby d1_11) rfl ((if0 _ _).trans (tlt ((lw_gt _ _).mpr hc2)).2.2.1) (by decide) (by decide) ?_
        show Steps p.tables e below (s₁.setTop (mkF m 18 #[.val (.long q0), .second] [])) _
        refine XS.iconst X0.here hx rfl (hb hby d1_18) ?_
        exact kt
      · rw [if_neg hc1, if_neg hc2] at Hv3_s0
        refine ⟨s₁, X0, e0, fun target kt => ?_⟩
        rw [Hv3_s0] at kt
        show Steps p.tables e below (s₁.setTop (mkF m 3 #[.val (.long q0), .second] [(.int (lcmpW (1 : Int64) q0))])) _
        refine XS.ifNo X0.here hx rfl (hb hby d1_3) rfl ((if0 _ _).trans (flt (fun q => hc1 ((lw_gt _ _).mp q))).2.2.1) ?_
        show Steps p.tables e below (s₁.setTop (mkF m 6 #[.val (.long q0), .second] [])) _
        refine XS.lloadN X0.here hx rfl (hb hby d1_6) rfl ?_
        show Steps p.tables e below (s₁.setTop (mkF m 7 #[.val (.long q0), .second] [(.long q0)])) _
        refine X0.ldc2Long hx hown (mvT hZ (hw _ (List.mem_of_getElem? (i := 5) rfl))) (g := (mkF m 7 #[.val (.long q0), .second] [(.long q0)])) rfl (hb hby d1_7) _ ?_
        show Steps p.tables e below (s₁.setTop (mkF m 10 #[.val (.long q0), .second] [(.long (4611686018427387903 : Int64)), (.long q0)])) _
        refine XS.lcmp X0.here hx rfl (hb hby d1_10) rfl ?_
        show Steps p.tables e below (s₁.setTop (mkF m 11 #[.val (.long q0), .second] [(.int (lcmpW q0 (4611686018427387903 : Int64)))])) _
        refine XS.ifNo X0.here hx rfl (hb hby d1_11) rfl ((if0 _ _).trans (flt (fun q => hc2 ((lw_gt _ _).mp q))).2.2.1) ?_
        show Steps p.tables e below (s₁.setTop (mkF m 14 #[.val (.long q0), .second] [])) _
        refine XS.iconst X0.here hx rfl (hb hby d1_14) ?_
        show Steps p.tables e below (s₁.setTop (mkF m 15 #[.val (.long q0), .second] [(.int (1 : Int32))])) _
        refine XS.goto X0.here hx rfl (pc0 := 15) (pc' := 19) rfl (hb hby d1_15) (by decide) (by decide) ?_
        exact kt)
  have hfin : nar .boolean v3_s0 = F1 q0 := by
    rw [Hv3_s0]; unfold F1
    first | rfl | (repeat' split) <;> rfl
  obtain ⟨fs, hr, hrun, hended, hW, hsame⟩ := X3.leave (v := some (.int (nar .boolean v3_s0))) (fun h => by rw [Bd.returns] at h; cases h)
  refine ⟨_, _, pre0 _ ?_, hrun, hended, _, _, rfl, ?_, ⟨_, rfl⟩, hW, hsame.mono (by decide) (by decide)⟩
  · show Steps p.tables e below (s₁.setTop (mkF m 0 #[.val (.long q0), .second] [])) _
    refine XS.lconst X0.here hx rfl (hb hby d1_0) ?_
    show Steps p.tables e below (s₁.setTop (mkF m 1 #[.val (.long q0), .second] [(.long (1 : Int64))])) _
    refine XS.lloadN X0.here hx rfl (hb hby d1_1) rfl ?_
    show Steps p.tables e below (s₁.setTop (mkF m 2 #[.val (.long q0), .second] [(.long q0), (.long (1 : Int64))])) _
    refine XS.lcmp X0.here hx rfl (hb hby d1_2) rfl ?_
    show Steps p.tables e below (s₁.setTop (mkF m 3 #[.val (.long q0), .second] [(.int (lcmpW (1 : Int64) q0))])) _
    refine st3 _ ?_
    show Steps p.tables e below (T3.setTop (mkF m 19 #[.val (.long q0), .second] [(.int v3_s0)])) _
    exact retN X3 hx (t := .boolean) Bd.returns (by simp) (hb hby d1_19) hr
  · show Q1 Z q0 h0 n0 _ T3.heap _
    exact ⟨congrArg (fun z => some (Value.int z)) hfin, rfl, e3⟩
theorem own_core (q : Int64) : F1 q = (if (0 : Int64) < q then (if ((q.toUInt64 >>> ((62 : Int32) &&& 0x3f).toInt64.toUInt64).toInt64) = (0 : Int64) then (1 : Int32) else (0 : Int32)) else (0 : Int32)) := by
  have a0 : (0 : Int64).toInt = 0 := rfl
  have a1 : (1 : Int64).toInt = 1 := rfl
  have a2 : (4611686018427387903 : Int64).toInt = 4611686018427387903 := rfl
  unfold F1
  by_cases x1 : q < 1
  · rw [if_pos x1, if_neg]
    rw [Int64.lt_iff_toInt_lt] at x1 ⊢; omega
  · have y1 : (0 : Int64) < q := by rw [Int64.lt_iff_toInt_lt] at x1 ⊢; omega
    have y0 : (0 : Int64) ≤ q := by rw [Int64.le_iff_toInt_le]; rw [Int64.lt_iff_toInt_lt] at y1; omega
    have h := Jvm.Kit.i64_lushr y0 (n := ((62 : Int32) &&& 0x3f).toInt64.toUInt64) (k := 62) (by decide) (by decide)
    rw [if_neg x1, if_pos y1]
    by_cases x2 : (4611686018427387903 : Int64) < q
    · rw [if_pos x2, if_neg]
      rw [← Int64.toInt_inj, h, a0]; rw [Int64.lt_iff_toInt_lt] at x2 y1; omega
    · rw [if_neg x2, if_pos]
      rw [← Int64.toInt_inj, h, a0]; rw [Int64.lt_iff_toInt_lt] at x2 y1; omega
theorem plain_law (q0 : Int64) (p1 : Int32) (v4_l6 : Int64) (Hv4_l6 : v4_l6 = (if (p1 &&& (3 : Int32)) = (0 : Int32) then q0 else (if (p1 &&& (3 : Int32)) = (1 : Int32) then ((((p1 >>> ((2 : Int32) &&& 31)) &&& (15 : Int32)) - (8 : Int32)).toInt64) else (if (p1 &&& (3 : Int32)) = (2 : Int32) then ((4611686018427387904 : Int64) + ((((p1 >>> ((2 : Int32) &&& 31)) &&& (15 : Int32)) - (8 : Int32)).toInt64)) else ((-9223372036854775808 : Int64) + (((((p1 >>> ((2 : Int32) &&& 31)) &&& (15 : Int32)) - (8 : Int32)).toInt64) + (8 : Int64))))))) (v7_s0 : Int32) (Hv7_s0 : v7_s0 = (if (0 : Int64) < v4_l6 then (if ((v4_l6.toUInt64 >>> ((62 : Int32) &&& 0x3f).toInt64.toUInt64).toInt64) = (0 : Int64) then (1 : Int32) else (0 : Int32)) else (0 : Int32))) (v10_s0 : Int32) (Hv10_s0 : v10_s0 = (if (F1 v4_l6) = v7_s0 then (1 : Int32) else (0 : Int32))) : v10_s0 = 1 := by
  rw [Hv10_s0, Hv7_s0, own_core]; exact if_pos rfl

theorem pn_0 : plainName "com/example/holdfast/holdfast/core/LeaseRenewalsIsValidLeasePinLaw" = true := by first | (simp [plainName, overriddenIn]; done) | decide +kernel
theorem pd_0_0 : parseMethodDescriptor "(J)Z" = some ⟨[.long], some .boolean⟩ := by decide +kernel
theorem ef_0 (m : MethodId) (q0 : Int64) (p1 : Int32) : entryFrame m #[(.long q0), (.int p1)] maxLocals = mkF m 0 #[.val (.long q0), .second, .val (.int p1), .unset, .unset, .unset, .unset, .unset, .unset] [] := by first | (simp [entryFrame, mkF, argsToLocals, Value.category, maxLocals]; done) | rfl
set_option maxRecDepth 65536 in
set_option maxHeartbeats 40000000 in
theorem rm0 (l : Launch) (Z : State) (a0 : Array Value) (hw : ∀ d ∈ tables_1, d.before a0 Z = true) (ws : List Jvm.Cond) (q0 : Int64) (p1 : Int32) (h0 : Heap) (n0 : Nat) (Z0 : n0 ≤ h0.size) :
    MetFree l x (head1 (Jvm.Cond.code x code maxLocals ret :: ws) room_1) (fun a U => a = #[(.long q0), (.int p1)] ∧ Z.Warmed39 U.vm ∧ U.heap = h0) (fun _ _ _ _ _ => True) (fun _ U o U' => ∃ v L, o = .returned v ∧ (v = some (.int 1) ∧ Fr n0 L) ∧ FrameEnd U o U' L room_1.cells room_1.slots) := by
  refine MetFree.of_bodySF (plainFor_of_name pn_0) hisR ?_
  intro p e s m args below meth c s₁ Bd hml0 hP hK
  obtain ⟨rfl, hZ, hh⟩ := hP
  have hx := Bd.exec
  have hby := Bd.bytes
  have hml : c.maxLocals = 9 := hml0
  have hown : s.vm.findClass "com/example/holdfast/holdfast/core/LeaseRenewalsIsValidLeasePinLaw" = some m.cls := findClass_of_methodNamed Bd.named
  have hnm := (name_of_methodNamed Bd.named Bd.method).1
  have X0 : Stand p l e room_1 s m #[(.long q0), (.int p1)] below meth c s₁ [] 0 0 := Stand.of_body Bd
  have e0 : s₁.heap = h0 := by rw [← hh, Bd.state]; rfl
  have N0 := Fr.nil n0
  have pre0 : ∀ t, Steps p.tables e below (s₁.setTop (mkF m 0 #[.val (.long q0), .second, .val (.int p1), .unset, .unset, .unset, .unset, .unset, .unset] [])) t → Steps p.tables e below (s₁.setTop (entryFrame m #[(.long q0), (.int p1)] maxLocals)) t := fun t k => castTop (ef_0 m q0 p1) k
  obtain ⟨v4_l6, Hv4_l6⟩ : ∃ z : Int64, z = (if (p1 &&& (3 : Int32)) = (0 : Int32) then q0 else (if (p1 &&& (3 : Int32)) = (1 : Int32) then ((((p1 >>> ((2 : Int32) &&& 31)) &&& (15 : Int32)) - (8 : Int32)).toInt64) else (if (p1 &&& (3 : Int32)) = (2 : Int32) then ((4611686018427387904 : Int64) + ((((p1 >>> ((2 : Int32) &&& 31)) &&& (15 : Int32)) - (8 : Int32)).toInt64)) else ((-9223372036854775808 : Int64) + (((((p1 >>> ((2 : Int32) &&& 31)) &&& (15 : Int32)) - (8 : Int32)).toInt64) + (8 : Int64)))))) := ⟨_, rfl⟩
  obtain ⟨T4, X4, e4, st4⟩ := own_seg X0 h0 (mkF m 18 #[.val (.long q0), .second, .val (.int p1), .val (.long ((((p1 >>> ((2 : Int32) &&& 31)) &&& (15 : Int32)) - (8 : Int32)).toInt64)), .second, .val (.int (p1 &&& (3 : Int32))), .unset, .unset, .unset] [(.int (p1 &&& (3 : Int32)))]) (mkF m 66 #[.val (.long q0), .second, .val (.int p1), .val (.long ((((p1 >>> ((2 : Int32) &&& 31)) &&& (15 : Int32)) - (8 : Int32)).toInt64)), .second, .val (.int (p1 &&& (3 : Int32))), .val (.long v4_l6), .second, .unset] []) (by
    by_cases hc1 : (p1 &&& (3 : Int32)) = (0 : Int32)
    · rw [if_pos hc1] at Hv4_l6
      refine ⟨s₁, X0, e0, fun target kt => ?_⟩
      rw [Hv4_l6] at kt
      show Steps p.tables e below (s₁.setTop (mkF m 18 #[.val (.long q0), .second, .val (.int p1), .val (.long ((((p1 >>> ((2 : Int32) &&& 31)) &&& (15 : Int32)) - (8 : Int32)).toInt64)), .second, .val (.int (p1 &&& (3 : Int32))), .unset, .unset, .unset] [(.int (p1 &&& (3 : Int32)))])) _
      refine XS.ifNo X0.here hx rfl (hb hby at_18) rfl ((if0 _ _).trans (teq hc1).2) ?_
      show Steps p.tables e below (s₁.setTop (mkF m 21 #[.val (.long q0), .second, .val (.int p1), .val (.long ((((p1 >>> ((2 : Int32) &&& 31)) &&& (15 : Int32)) - (8 : Int32)).toInt64)), .second, .val (.int (p1 &&& (3 : Int32))), .unset, .unset, .unset] [])) _
      refine XS.lloadN X0.here hx rfl (hb hby at_21) rfl ?_
      show Steps p.tables e below (s₁.setTop (mkF m 22 #[.val (.long q0), .second, .val (.int p1), .val (.long ((((p1 >>> ((2 : Int32) &&& 31)) &&& (15 : Int32)) - (8 : Int32)).toInt64)), .second, .val (.int (p1 &&& (3 : Int32))), .unset, .unset, .unset] [(.long q0)])) _
      refine XS.lstore X0.here hx rfl (hb hby at_22) rfl (l' := #[.val (.long q0), .second, .val (.int p1), .val (.long ((((p1 >>> ((2 : Int32) &&& 31)) &&& (15 : Int32)) - (8 : Int32)).toInt64)), .second, .val (.int (p1 &&& (3 : Int32))), .val (.long q0), .second, .unset]) rfl ?_
      show Steps p.tables e below (s₁.setTop (mkF m 24 #[.val (.long q0), .second, .val (.int p1), .val (.long ((((p1 >>> ((2 : Int32) &&& 31)) &&& (15 : Int32)) - (8 : Int32)).toInt64)), .second, .val (.int (p1 &&& (3 : Int32))), .val (.long q0), .second, .unset] [])) _
      refine XS.goto X0.here hx rfl (pc0 := 24) (pc' := 66) rfl (hb hby at_24) (by decide) (by decide) ?_
      exact kt
    · by_cases hc2 : (p1 &&& (3 : Int32)) = (1 : Int32)
      · rw [if_neg hc1, if_pos hc2] at Hv4_l6
        refine ⟨s₁, X0, e0, fun target kt => ?_⟩
        rw [Hv4_l6] at kt
        show Steps p.tables e below (s₁.setTop (mkF m 18 #[.val (.long q0), .second, .val (.int p1), .val (.long ((((p1 >>> ((2 : Int32) &&& 31)) &&& (15 : Int32)) - (8 : Int32)).toInt64)), .second, .val (.int (p1 &&& (3 : Int32))), .unset, .unset, .unset] [(.int (p1 &&& (3 : Int32)))])) _
        refine XS.ifYes X0.here hx rfl (pc0 := 18) (pc' := 27) rfl (hb hby at_18) rfl ((if0 _ _).trans (feq hc1).2) (by decide) (by decide) ?_
        show Steps p.tables e below (s₁.setTop (mkF m 27 #[.val (.long q0), .second, .val (.int p1), .val (.long ((((p1 >>> ((2 : Int32) &&& 31)) &&& (15 : Int32)) - (8 : Int32)).toInt64)), .second, .val (.int (p1 &&& (3 : Int32))), .unset, .unset, .unset] [])) _
        refine XS.iload X0.here hx rfl (hb hby at_27) rfl ?_
        show Steps p.tables e below (s₁.setTop (mkF m 29 #[.val (.long q0), .second, .val (.int p1), .val (.long ((((p1 >>> ((2 : Int32) &&& 31)) &&& (15 : Int32)) - (8 : Int32)).toInt64)), .second, .val (.int (p1 &&& (3 : Int32))), .unset, .unset, .unset] [(.int (p1 &&& (3 : Int32)))])) _
        refine XS.iconst X0.here hx rfl (hb hby at_29) ?_
        show Steps p.tables e below (s₁.setTop (mkF m 30 #[.val (.long q0), .second, .val (.int p1), .val (.long ((((p1 >>> ((2 : Int32) &&& 31)) &&& (15 : Int32)) - (8 : Int32)).toInt64)), .second, .val (.int (p1 &&& (3 : Int32))), .unset, .unset, .unset] [(.int (1 : Int32)), (.int (p1 &&& (3 : Int32)))])) _
        refine XS.icmpNo X0.here hx rfl (hb hby at_30) rfl (teq hc2).2 ?_
        show Steps p.tables e below (s₁.setTop (mkF m 33 #[.val (.long q0), .second, .val (.int p1), .val (.long ((((p1 >>> ((2 : Int32) &&& 31)) &&& (15 : Int32)) - (8 : Int32)).toInt64)), .second, .val (.int (p1 &&& (3 : Int32))), .unset, .unset, .unset] [])) _
        refine XS.lloadN X0.here hx rfl (hb hby at_33) rfl ?_
        show Steps p.tables e below (s₁.setTop (mkF m 34 #[.val (.long q0), .second, .val (.int p1), .val (.long ((((p1 >>> ((2 : Int32) &&& 31)) &&& (15 : Int32)) - (8 : Int32)).toInt64)), .second, .val (.int (p1 &&& (3 : Int32))), .unset, .unset, .unset] [(.long ((((p1 >>> ((2 : Int32) &&& 31)) &&& (15 : Int32)) - (8 : Int32)).toInt64))])) _
        refine XS.lstore X0.here hx rfl (hb hby at_34) rfl (l' := #[.val (.long q0), .second, .val (.int p1), .val (.long ((((p1 >>> ((2 : Int32) &&& 31)) &&& (15 : Int32)) - (8 : Int32)).toInt64)), .second, .val (.int (p1 &&& (3 : Int32))), .val (.long ((((p1 >>> ((2 : Int32) &&& 31)) &&& (15 : Int32)) - (8 : Int32)).toInt64)), .second, .unset]) rfl ?_
        show Steps p.tables e below (s₁.setTop (mkF m 36 #[.val (.long q0), .second, .val (.int p1), .val (.long ((((p1 >>> ((2 : Int32) &&& 31)) &&& (15 : Int32)) - (8 : Int32)).toInt64)), .second, .val (.int (p1 &&& (3 : Int32))), .val (.long ((((p1 >>> ((2 : Int32) &&& 31)) &&& (15 : Int32)) - (8 : Int32)).toInt64)), .second, .unset] [])) _
        refine XS.goto X0.here hx rfl (pc0 := 36) (pc' := 66) rfl (hb hby at_36) (by decide) (by decide) ?_
        exact kt
      · by_cases hc3 : (p1 &&& (3 : Int32)) = (2 : Int32)
        · rw [if_neg hc1, if_neg hc2, if_pos hc3] at Hv4_l6
          refine ⟨s₁, X0, e0, fun target kt => ?_⟩
          rw [Hv4_l6] at kt
          show Steps p.tables e below (s₁.setTop (mkF m 18 #[.val (.long q0), .second, .val (.int p1), .val (.long ((((p1 >>> ((2 : Int32) &&& 31)) &&& (15 : Int32)) - (8 : Int32)).toInt64)), .second, .val (.int (p1 &&& (3 : Int32))), .unset, .unset, .unset] [(.int (p1 &&& (3 : Int32)))])) _
          refine XS.ifYes X0.here hx rfl (pc0 := 18) (pc' := 27) rfl (hb hby at_18) rfl ((if0 _ _).trans (feq hc1).2) (by decide) (by decide) ?_
          show Steps p.tables e below (s₁.setTop (mkF m 27 #[.val (.long q0), .second, .val (.int p1), .val (.long ((((p1 >>> ((2 : Int32) &&& 31)) &&& (15 : Int32)) - (8 : Int32)).toInt64)), .second, .val (.int (p1 &&& (3 : Int32))), .unset, .unset, .unset] [])) _
          refine XS.iload X0.here hx rfl (hb hby at_27) rfl ?_
          show Steps p.tables e below (s₁.setTop (mkF m 29 #[.val (.long q0), .second, .val (.int p1), .val (.long ((((p1 >>> ((2 : Int32) &&& 31)) &&& (15 : Int32)) - (8 : Int32)).toInt64)), .second, .val (.int (p1 &&& (3 : Int32))), .unset, .unset, .unset] [(.int (p1 &&& (3 : Int32)))])) _
          refine XS.iconst X0.here hx rfl (hb hby at_29) ?_
          show Steps p.tables e below (s₁.setTop (mkF m 30 #[.val (.long q0), .second, .val (.int p1), .val (.long ((((p1 >>> ((2 : Int32) &&& 31)) &&& (15 : Int32)) - (8 : Int32)).toInt64)), .second, .val (.int (p1 &&& (3 : Int32))), .unset, .unset, .unset] [(.int (1 : Int32)), (.int (p1 &&& (3 : Int32)))])) _
          refine XS.icmpYes X0.here hx rfl (pc0 := 30) (pc' := 39) rfl (hb hby at_30) rfl (feq hc2).2 (by decide) (by decide) ?_
          show Steps p.tables e below (s₁.setTop (mkF m 39 #[.val (.long q0), .second, .val (.int p1), .val (.long ((((p1 >>> ((2 : Int32) &&& 31)) &&& (15 : Int32)) - (8 : Int32)).toInt64)), .second, .val (.int (p1 &&& (3 : Int32))), .unset, .unset, .unset] [])) _
          refine XS.iload X0.here hx rfl (hb hby at_39) rfl ?_
          show Steps p.tables e below (s₁.setTop (mkF m 41 #[.val (.long q0), .second, .val (.int p1), .val (.long ((((p1 >>> ((2 : Int32) &&& 31)) &&& (15 : Int32)) - (8 : Int32)).toInt64)), .second, .val (.int (p1 &&& (3 : Int32))), .unset, .unset, .unset] [(.int (p1 &&& (3 : Int32)))])) _
          refine XS.iconst X0.here hx rfl (hb hby at_41) ?_
          show Steps p.tables e below (s₁.setTop (mkF m 42 #[.val (.long q0), .second, .val (.int p1), .val (.long ((((p1 >>> ((2 : Int32) &&& 31)) &&& (15 : Int32)) - (8 : Int32)).toInt64)), .second, .val (.int (p1 &&& (3 : Int32))), .unset, .unset, .unset] [(.int (2 : Int32)), (.int (p1 &&& (3 : Int32)))])) _
          refine XS.icmpNo X0.here hx rfl (hb hby at_42) rfl (teq hc3).2 ?_
          show Steps p.tables e below (s₁.setTop (mkF m 45 #[.val (.long q0), .second, .val (.int p1), .val (.long ((((p1 >>> ((2 : Int32) &&& 31)) &&& (15 : Int32)) - (8 : Int32)).toInt64)), .second, .val (.int (p1 &&& (3 : Int32))), .unset, .unset, .unset] [])) _
          refine X0.ldc2Long hx hown (mvT hZ (hw _ (List.mem_of_getElem? (i := 0) rfl))) (g := (mkF m 45 #[.val (.long q0), .second, .val (.int p1), .val (.long ((((p1 >>> ((2 : Int32) &&& 31)) &&& (15 : Int32)) - (8 : Int32)).toInt64)), .second, .val (.int (p1 &&& (3 : Int32))), .unset, .unset, .unset] [])) rfl (hb hby at_45) _ ?_
          show Steps p.tables e below (s₁.setTop (mkF m 48 #[.val (.long q0), .second, .val (.int p1), .val (.long ((((p1 >>> ((2 : Int32) &&& 31)) &&& (15 : Int32)) - (8 : Int32)).toInt64)), .second, .val (.int (p1 &&& (3 : Int32))), .unset, .unset, .unset] [(.long (4611686018427387904 : Int64))])) _
          refine XS.lloadN X0.here hx rfl (hb hby at_48) rfl ?_
          show Steps p.tables e below (s₁.setTop (mkF m 49 #[.val (.long q0), .second, .val (.int p1), .val (.long ((((p1 >>> ((2 : Int32) &&& 31)) &&& (15 : Int32)) - (8 : Int32)).toInt64)), .second, .val (.int (p1 &&& (3 : Int32))), .unset, .unset, .unset] [(.long ((((p1 >>> ((2 : Int32) &&& 31)) &&& (15 : Int32)) - (8 : Int32)).toInt64)), (.long (4611686018427387904 : Int64))])) _
          refine XS.ladd X0.here hx rfl (hb hby at_49) rfl ?_
          show Steps p.tables e below (s₁.setTop (mkF m 50 #[.val (.long q0), .second, .val (.int p1), .val (.long ((((p1 >>> ((2 : Int32) &&& 31)) &&& (15 : Int32)) - (8 : Int32)).toInt64)), .second, .val (.int (p1 &&& (3 : Int32))), .unset, .unset, .unset] [(.long ((4611686018427387904 : Int64) + ((((p1 >>> ((2 : Int32) &&& 31)) &&& (15 : Int32)) - (8 : Int32)).toInt64)))])) _
          refine XS.lstore X0.here hx rfl (hb hby at_50) rfl (l' := #[.val (.long q0), .second, .val (.int p1), .val (.long ((((p1 >>> ((2 : Int32) &&& 31)) &&& (15 : Int32)) - (8 : Int32)).toInt64)), .second, .val (.int (p1 &&& (3 : Int32))), .val (.long ((4611686018427387904 : Int64) + ((((p1 >>> ((2 : Int32) &&& 31)) &&& (15 : Int32)) - (8 : Int32)).toInt64))), .second, .unset]) rfl ?_
          show Steps p.tables e below (s₁.setTop (mkF m 52 #[.val (.long q0), .second, .val (.int p1), .val (.long ((((p1 >>> ((2 : Int32) &&& 31)) &&& (15 : Int32)) - (8 : Int32)).toInt64)), .second, .val (.int (p1 &&& (3 : Int32))), .val (.long ((4611686018427387904 : Int64) + ((((p1 >>> ((2 : Int32) &&& 31)) &&& (15 : Int32)) - (8 : Int32)).toInt64))), .second, .unset] [])) _
          refine XS.goto X0.here hx rfl (pc0 := 52) (pc' := 66) rfl (hb hby at_52) (by decide) (by decide) ?_
          exact kt
        · rw [if_neg hc1, if_neg hc2, if_neg hc3] at Hv4_l6
          refine ⟨s₁, X0, e0, fun target kt => ?_⟩
          rw [Hv4_l6] at kt
          show Steps p.tables e below (s₁.setTop (mkF m 18 #[.val (.long q0), .second, .val (.int p1), .val (.long ((((p1 >>> ((2 : Int32) &&& 31)) &&& (15 : Int32)) - (8 : Int32)).toInt64)), .second, .val (.int (p1 &&& (3 : Int32))), .unset, .unset, .unset] [(.int (p1 &&& (3 : Int32)))])) _
          refine XS.ifYes X0.here hx rfl (pc0 := 18) (pc' := 27) rfl (hb hby at_18) rfl ((if0 _ _).trans (feq hc1).2) (by decide) (by decide) ?_
          show Steps p.tables e below (s₁.setTop (mkF m 27 #[.val (.long q0), .second, .val (.int p1), .val (.long ((((p1 >>> ((2 : Int32) &&& 31)) &&& (15 : Int32)) - (8 : Int32)).toInt64)), .second, .val (.int (p1 &&& (3 : Int32))), .unset, .unset, .unset] [])) _
          refine XS.iload X0.here hx rfl (hb hby at_27) rfl ?_
          show Steps p.tables e below (s₁.setTop (mkF m 29 #[.val (.long q0), .second, .val (.int p1), .val (.long ((((p1 >>> ((2 : Int32) &&& 31)) &&& (15 : Int32)) - (8 : Int32)).toInt64)), .second, .val (.int (p1 &&& (3 : Int32))), .unset, .unset, .unset] [(.int (p1 &&& (3 : Int32)))])) _
          refine XS.iconst X0.here hx rfl (hb hby at_29) ?_
          show Steps p.tables e below (s₁.setTop (mkF m 30 #[.val (.long q0), .second, .val (.int p1), .val (.long ((((p1 >>> ((2 : Int32) &&& 31)) &&& (15 : Int32)) - (8 : Int32)).toInt64)), .second, .val (.int (p1 &&& (3 : Int32))), .unset, .unset, .unset] [(.int (1 : Int32)), (.int (p1 &&& (3 : Int32)))])) _
          refine XS.icmpYes X0.here hx rfl (pc0 := 30) (pc' := 39) rfl (hb hby at_30) rfl (feq hc2).2 (by decide) (by decide) ?_
          show Steps p.tables e below (s₁.setTop (mkF m 39 #[.val (.long q0), .second, .val (.int p1), .val (.long ((((p1 >>> ((2 : Int32) &&& 31)) &&& (15 : Int32)) - (8 : Int32)).toInt64)), .second, .val (.int (p1 &&& (3 : Int32))), .unset, .unset, .unset] [])) _
          refine XS.iload X0.here hx rfl (hb hby at_39) rfl ?_
          show Steps p.tables e below (s₁.setTop (mkF m 41 #[.val (.long q0), .second, .val (.int p1), .val (.long ((((p1 >>> ((2 : Int32) &&& 31)) &&& (15 : Int32)) - (8 : Int32)).toInt64)), .second, .val (.int (p1 &&& (3 : Int32))), .unset, .unset, .unset] [(.int (p1 &&& (3 : Int32)))])) _
          refine XS.iconst X0.here hx rfl (hb hby at_41) ?_
          show Steps p.tables e below (s₁.setTop (mkF m 42 #[.val (.long q0), .second, .val (.int p1), .val (.long ((((p1 >>> ((2 : Int32) &&& 31)) &&& (15 : Int32)) - (8 : Int32)).toInt64)), .second, .val (.int (p1 &&& (3 : Int32))), .unset, .unset, .unset] [(.int (2 : Int32)), (.int (p1 &&& (3 : Int32)))])) _
          refine XS.icmpYes X0.here hx rfl (pc0 := 42) (pc' := 55) rfl (hb hby at_42) rfl (feq hc3).2 (by decide) (by decide) ?_
          show Steps p.tables e below (s₁.setTop (mkF m 55 #[.val (.long q0), .second, .val (.int p1), .val (.long ((((p1 >>> ((2 : Int32) &&& 31)) &&& (15 : Int32)) - (8 : Int32)).toInt64)), .second, .val (.int (p1 &&& (3 : Int32))), .unset, .unset, .unset] [])) _
          refine X0.ldc2Long hx hown (mvT hZ (hw _ (List.mem_of_getElem? (i := 6) rfl))) (g := (mkF m 55 #[.val (.long q0), .second, .val (.int p1), .val (.long ((((p1 >>> ((2 : Int32) &&& 31)) &&& (15 : Int32)) - (8 : Int32)).toInt64)), .second, .val (.int (p1 &&& (3 : Int32))), .unset, .unset, .unset] [])) rfl (hb hby at_55) _ ?_
          show Steps p.tables e below (s₁.setTop (mkF m 58 #[.val (.long q0), .second, .val (.int p1), .val (.long ((((p1 >>> ((2 : Int32) &&& 31)) &&& (15 : Int32)) - (8 : Int32)).toInt64)), .second, .val (.int (p1 &&& (3 : Int32))), .unset, .unset, .unset] [(.long (-9223372036854775808 : Int64))])) _
          refine XS.lloadN X0.here hx rfl (hb hby at_58) rfl ?_
          show Steps p.tables e below (s₁.setTop (mkF m 59 #[.val (.long q0), .second, .val (.int p1), .val (.long ((((p1 >>> ((2 : Int32) &&& 31)) &&& (15 : Int32)) - (8 : Int32)).toInt64)), .second, .val (.int (p1 &&& (3 : Int32))), .unset, .unset, .unset] [(.long ((((p1 >>> ((2 : Int32) &&& 31)) &&& (15 : Int32)) - (8 : Int32)).toInt64)), (.long (-9223372036854775808 : Int64))])) _
          refine X0.ldc2Long hx hown (mvT hZ (hw _ (List.mem_of_getElem? (i := 7) rfl))) (g := (mkF m 59 #[.val (.long q0), .second, .val (.int p1), .val (.long ((((p1 >>> ((2 : Int32) &&& 31)) &&& (15 : Int32)) - (8 : Int32)).toInt64)), .second, .val (.int (p1 &&& (3 : Int32))), .unset, .unset, .unset] [(.long ((((p1 >>> ((2 : Int32) &&& 31)) &&& (15 : Int32)) - (8 : Int32)).toInt64)), (.long (-9223372036854775808 : Int64))])) rfl (hb hby at_59) _ ?_
          show Steps p.tables e below (s₁.setTop (mkF m 62 #[.val (.long q0), .second, .val (.int p1), .val (.long ((((p1 >>> ((2 : Int32) &&& 31)) &&& (15 : Int32)) - (8 : Int32)).toInt64)), .second, .val (.int (p1 &&& (3 : Int32))), .unset, .unset, .unset] [(.long (8 : Int64)), (.long ((((p1 >>> ((2 : Int32) &&& 31)) &&& (15 : Int32)) - (8 : Int32)).toInt64)), (.long (-9223372036854775808 : Int64))])) _
          refine XS.ladd X0.here hx rfl (hb hby at_62) rfl ?_
          show Steps p.tables e below (s₁.setTop (mkF m 63 #[.val (.long q0), .second, .val (.int p1), .val (.long ((((p1 >>> ((2 : Int32) &&& 31)) &&& (15 : Int32)) - (8 : Int32)).toInt64)), .second, .val (.int (p1 &&& (3 : Int32))), .unset, .unset, .unset] [(.long (((((p1 >>> ((2 : Int32) &&& 31)) &&& (15 : Int32)) - (8 : Int32)).toInt64) + (8 : Int64))), (.long (-9223372036854775808 : Int64))])) _
          refine XS.ladd X0.here hx rfl (hb hby at_63) rfl ?_
          show Steps p.tables e below (s₁.setTop (mkF m 64 #[.val (.long q0), .second, .val (.int p1), .val (.long ((((p1 >>> ((2 : Int32) &&& 31)) &&& (15 : Int32)) - (8 : Int32)).toInt64)), .second, .val (.int (p1 &&& (3 : Int32))), .unset, .unset, .unset] [(.long ((-9223372036854775808 : Int64) + (((((p1 >>> ((2 : Int32) &&& 31)) &&& (15 : Int32)) - (8 : Int32)).toInt64) + (8 : Int64))))])) _
          refine XS.lstore X0.here hx rfl (hb hby at_64) rfl (l' := #[.val (.long q0), .second, .val (.int p1), .val (.long ((((p1 >>> ((2 : Int32) &&& 31)) &&& (15 : Int32)) - (8 : Int32)).toInt64)), .second, .val (.int (p1 &&& (3 : Int32))), .val (.long ((-9223372036854775808 : Int64) + (((((p1 >>> ((2 : Int32) &&& 31)) &&& (15 : Int32)) - (8 : Int32)).toInt64) + (8 : Int64)))), .second, .unset]) rfl ?_
          exact kt)
  obtain ⟨v7_s0, Hv7_s0⟩ : ∃ z : Int32, z = (if (0 : Int64) < v4_l6 then (if ((v4_l6.toUInt64 >>> ((62 : Int32) &&& 0x3f).toInt64.toUInt64).toInt64) = (0 : Int64) then (1 : Int32) else (0 : Int32)) else (0 : Int32)) := ⟨_, rfl⟩
  obtain ⟨T7, X7, e7, st7⟩ := own_seg X4 h0 (mkF m 70 #[.val (.long q0), .second, .val (.int p1), .val (.long ((((p1 >>> ((2 : Int32) &&& 31)) &&& (15 : Int32)) - (8 : Int32)).toInt64)), .second, .val (.int (p1 &&& (3 : Int32))), .val (.long v4_l6), .second, .unset] [(.int (lcmpW v4_l6 (0 : Int64)))]) (mkF m 88 #[.val (.long q0), .second, .val (.int p1), .val (.long ((((p1 >>> ((2 : Int32) &&& 31)) &&& (15 : Int32)) - (8 : Int32)).toInt64)), .second, .val (.int (p1 &&& (3 : Int32))), .val (.long v4_l6), .second, .unset] [(.int v7_s0)]) (by
    by_cases hc5 : (0 : Int64) < v4_l6
    · by_cases hc6 : ((v4_l6.toUInt64 >>> ((62 : Int32) &&& 0x3f).toInt64.toUInt64).toInt64) = (0 : Int64)
      · rw [if_pos hc5, if_pos hc6] at Hv7_s0
        refine ⟨T4, X4, e4, fun target kt => ?_⟩
        rw [Hv7_s0] at kt
        show Steps p.tables e below (T4.setTop (mkF m 70 #[.val (.long q0), .second, .val (.int p1), .val (.long ((((p1 >>> ((2 : Int32) &&& 31)) &&& (15 : Int32)) - (8 : Int32)).toInt64)), .second, .val (.int (p1 &&& (3 : Int32))), .val (.long v4_l6), .second, .unset] [(.int (lcmpW v4_l6 (0 : Int64)))])) _
        refine XS.ifNo X4.here hx rfl (hb hby at_70) rfl ((if0 _ _).trans (tlt ((lw_gt _ _).mpr hc5)).2.2.2) ?_
        show Steps p.tables e below (T4.setTop (mkF m 73 #[.val (.long q0), .second, .val (.int p1), .val (.long ((((p1 >>> ((2 : Int32) &&& 31)) &&& (15 : Int32)) - (8 : Int32)).toInt64)), .second, .val (.int (p1 &&& (3 : Int32))), .val (.long v4_l6), .second, .unset] [])) _
        refine XS.lload X4.here hx rfl (hb hby at_73) rfl ?_
        show Steps p.tables e below (T4.setTop (mkF m 75 #[.val (.long q0), .second, .val (.int p1), .val (.long ((((p1 >>> ((2 : Int32) &&& 31)) &&& (15 : Int32)) - (8 : Int32)).toInt64)), .second, .val (.int (p1 &&& (3 : Int32))), .val (.long v4_l6), .second, .unset] [(.long v4_l6)])) _
        refine XS.bipush X4.here hx rfl (hb hby at_75) ?_
        show Steps p.tables e below (T4.setTop (mkF m 77 #[.val (.long q0), .second, .val (.int p1), .val (.long ((((p1 >>> ((2 : Int32) &&& 31)) &&& (15 : Int32)) - (8 : Int32)).toInt64)), .second, .val (.int (p1 &&& (3 : Int32))), .val (.long v4_l6), .second, .unset] [(.int (62 : Int32)), (.long v4_l6)])) _
        refine XS.lushr X4.here hx rfl (hb hby at_77) rfl ?_
        show Steps p.tables e below (T4.setTop (mkF m 78 #[.val (.long q0), .second, .val (.int p1), .val (.long ((((p1 >>> ((2 : Int32) &&& 31)) &&& (15 : Int32)) - (8 : Int32)).toInt64)), .second, .val (.int (p1 &&& (3 : Int32))), .val (.long v4_l6), .second, .unset] [(.long ((v4_l6.toUInt64 >>> ((62 : Int32) &&& 0x3f).toInt64.toUInt64).toInt64))])) _
        refine XS.lconst X4.here hx rfl (hb hby at_78) ?_
        show Steps p.tables e below (T4.setTop (mkF m 79 #[.val (.long q0), .second, .val (.int p1), .val (.long ((((p1 >>> ((2 : Int32) &&& 31)) &&& (15 : Int32)) - (8 : Int32)).toInt64)), .second, .val (.int (p1 &&& (3 : Int32))), .val (.long v4_l6), .second, .unset] [(.long (0 : Int64)), (.long ((v4_l6.toUInt64 >>> ((62 : Int32) &&& 0x3f).toInt64.toUInt64).toInt64))])) _
        refine XS.lcmp X4.here hx rfl (hb hby at_79) rfl ?_
        show Steps p.tables e below (T4.setTop (mkF m 80 #[.val (.long q0), .second, .val (.int p1), .val (.long ((((p1 >>> ((2 : Int32) &&& 31)) &&& (15 : Int32)) - (8 : Int32)).toInt64)), .second, .val (.int (p1 &&& (3 : Int32))), .val (.long v4_l6), .second, .unset] [(.int (lcmpW ((v4_l6.toUInt64 >>> ((62 : Int32) &&& 0x3f).toInt64.toUInt64).toInt64) (0 : Int64)))])) _
        refine XS.ifNo X4.here hx rfl (hb hby at_80) rfl ((if0 _ _).trans (teq ((lw_eq _ _).mpr hc6)).2) ?_
        show Steps p.tables e below (T4.setTop (mkF m 83 #[.val (.long q0), .second, .val (.int p1), .val (.long ((((p1 >>> ((2 : Int32) &&& 31)) &&& (15 : Int32)) - (8 : Int32)).toInt64)), .second, .val (.int (p1 &&& (3 : Int32))), .val (.long v4_l6), .second, .unset] [])) _
        refine XS.iconst X4.here hx rfl (hb hby at_83) ?_
        show Steps p.tables e below (T4.setTop (mkF m 84 #[.val (.long q0), .second, .val (.int p1), .val (.long ((((p1 >>> ((2 : Int32) &&& 31)) &&& (15 : Int32)) - (8 : Int32)).toInt64)), .second, .val (.int (p1 &&& (3 : Int32))), .val (.long v4_l6), .second, .unset] [(.int (1 : Int32))])) _
        refine XS.goto X4.here hx rfl (pc0 := 84) (pc' := 88) rfl (hb hby at_84) (by decide) (by decide) ?_
        exact kt
      · rw [if_pos hc5, if_neg hc6] at Hv7_s0
        refine ⟨T4, X4, e4, fun target kt => ?_⟩
        rw [Hv7_s0] at kt
        show Steps p.tables e below (T4.setTop (mkF m 70 #[.val (.long q0), .second, .val (.int p1), .val (.long ((((p1 >>> ((2 : Int32) &&& 31)) &&& (15 : Int32)) - (8 : Int32)).toInt64)), .second, .val (.int (p1 &&& (3 : Int32))), .val (.long v4_l6), .second, .unset] [(.int (lcmpW v4_l6 (0 : Int64)))])) _
        refine XS.ifNo X4.here hx rfl (hb hby at_70) rfl ((if0 _ _).trans (tlt ((lw_gt _ _).mpr hc5)).2.2.2) ?_
        show Steps p.tables e below (T4.setTop (mkF m 73 #[.val (.long q0), .second, .val (.int p1), .val (.long ((((p1 >>> ((2 : Int32) &&& 31)) &&& (15 : Int32)) - (8 : Int32)).toInt64)), .second, .val (.int (p1 &&& (3 : Int32))), .val (.long v4_l6), .second, .unset] [])) _
        refine XS.lload X4.here hx rfl (hb hby at_73) rfl ?_
        show Steps p.tables e below (T4.setTop (mkF m 75 #[.val (.long q0), .second, .val (.int p1), .val (.long ((((p1 >>> ((2 : Int32) &&& 31)) &&& (15 : Int32)) - (8 : Int32)).toInt64)), .second, .val (.int (p1 &&& (3 : Int32))), .val (.long v4_l6), .second, .unset] [(.long v4_l6)])) _
        refine XS.bipush X4.here hx rfl (hb hby at_75) ?_
        show Steps p.tables e below (T4.setTop (mkF m 77 #[.val (.long q0), .second, .val (.int p1), .val (.long ((((p1 >>> ((2 : Int32) &&& 31)) &&& (15 : Int32)) - (8 : Int32)).toInt64)), .second, .val (.int (p1 &&& (3 : Int32))), .val (.long v4_l6), .second, .unset] [(.int (62 : Int32)), (.long v4_l6)])) _
        refine XS.lushr X4.here hx rfl (hb hby at_77) rfl ?_
        show Steps p.tables e below (T4.setTop (mkF m 78 #[.val (.long q0), .second, .val (.int p1), .val (.long ((((p1 >>> ((2 : Int32) &&& 31)) &&& (15 : Int32)) - (8 : Int32)).toInt64)), .second, .val (.int (p1 &&& (3 : Int32))), .val (.long v4_l6), .second, .unset] [(.long ((v4_l6.toUInt64 >>> ((62 : Int32) &&& 0x3f).toInt64.toUInt64).toInt64))])) _
        refine XS.lconst X4.here hx rfl (hb hby at_78) ?_
        show Steps p.tables e below (T4.setTop (mkF m 79 #[.val (.long q0), .second, .val (.int p1), .val (.long ((((p1 >>> ((2 : Int32) &&& 31)) &&& (15 : Int32)) - (8 : Int32)).toInt64)), .second, .val (.int (p1 &&& (3 : Int32))), .val (.long v4_l6), .second, .unset] [(.long (0 : Int64)), (.long ((v4_l6.toUInt64 >>> ((62 : Int32) &&& 0x3f).toInt64.toUInt64).toInt64))])) _
        refine XS.lcmp X4.here hx rfl (hb hby at_79) rfl ?_
        show Steps p.tables e below (T4.setTop (mkF m 80 #[.val (.long q0), .second, .val (.int p1), .val (.long ((((p1 >>> ((2 : Int32) &&& 31)) &&& (15 : Int32)) - (8 : Int32)).toInt64)), .second, .val (.int (p1 &&& (3 : Int32))), .val (.long v4_l6), .second, .unset] [(.int (lcmpW ((v4_l6.toUInt64 >>> ((62 : Int32) &&& 0x3f).toInt64.toUInt64).toInt64) (0 : Int64)))])) _
        refine XS.ifYes X4.here hx rfl (pc0 := 80) (pc' := 87) rfl (hb hby at_80) rfl ((if0 _ _).trans (feq (fun q => hc6 ((lw_eq _ _).mp q))).2) (by decide) (by decide) ?_
        show Steps p.tables e below (T4.setTop (mkF m 87 #[.val (.long q0), .second, .val (.int p1), .val (.long ((((p1 >>> ((2 : Int32) &&& 31)) &&& (15 : Int32)) - (8 : Int32)).toInt64)), .second, .val (.int (p1 &&& (3 : Int32))), .val (.long v4_l6), .second, .unset] [])) _
        refine XS.iconst X4.here hx rfl (hb hby at_87) ?_
        exact kt
    · rw [if_neg hc5] at Hv7_s0
      refine ⟨T4, X4, e4, fun target kt => ?_⟩
      rw [Hv7_s0] at kt
      show Steps p.tables e below (T4.setTop (mkF m 70 #[.val (.long q0), .second, .val (.int p1), .val (.long ((((p1 >>> ((2 : Int32) &&& 31)) &&& (15 : Int32)) - (8 : Int32)).toInt64)), .second, .val (.int (p1 &&& (3 : Int32))), .val (.long v4_l6), .second, .unset] [(.int (lcmpW v4_l6 (0 : Int64)))])) _
      refine XS.ifYes X4.here hx rfl (pc0 := 70) (pc' := 87) rfl (hb hby at_70) rfl ((if0 _ _).trans (flt (fun q => hc5 ((lw_gt _ _).mp q))).2.2.2) (by decide) (by decide) ?_
      show Steps p.tables e below (T4.setTop (mkF m 87 #[.val (.long q0), .second, .val (.int p1), .val (.long ((((p1 >>> ((2 : Int32) &&& 31)) &&& (15 : Int32)) - (8 : Int32)).toInt64)), .second, .val (.int (p1 &&& (3 : Int32))), .val (.long v4_l6), .second, .unset] [])) _
      refine XS.iconst X4.here hx rfl (hb hby at_87) ?_
      exact kt)
  obtain ⟨_, _, ⟨T8, L8, k8, n8⟩, -, X8, ⟨Lc8, hQ8, l8, y8, z8⟩, st8⟩ := Jvm.LawKit.callS X7 hx (y := (⟨"com/example/holdfast/holdfast/core/LeaseRenewals", "isValidLease", "(J)Z"⟩ : MethodName)) hown (mvT hZ (hw _ (List.mem_of_getElem? (i := 1) rfl))) (mvT hZ (hw _ (List.mem_of_getElem? (i := 2) rfl))) (mvT hZ (hw _ (List.mem_of_getElem? (i := 3) rfl))) (mvT hZ (hw _ (List.mem_of_getElem? (i := 4) rfl))) (by decide) (backOf (W := 0) (rm1 l Z a0 hw [] v4_l6 h0 n0 Z0) hZ (hw _ (List.mem_of_getElem? (i := 4) rfl)) (hw _ (List.mem_of_getElem? (i := 3) rfl)) (by decide) (by decide)) (g := (mkF m 92 #[.val (.long q0), .second, .val (.int p1), .val (.long ((((p1 >>> ((2 : Int32) &&& 31)) &&& (15 : Int32)) - (8 : Int32)).toInt64)), .second, .val (.int (p1 &&& (3 : Int32))), .val (.long v4_l6), .second, .val (.int v7_s0)] [(.long v4_l6)])) rfl (by rw [hml]; rfl) (argsL := [(.long v4_l6)]) (rest := []) (lenOf pd_0_0 rfl) rfl (by show 2 * 0 + _ ≤ _; exact Nat.le_of_eq rfl) (hb hby at_92) (fun _ _ => ⟨rfl, e7, (by decide : 0 + 0 ≤ _), (by decide : 0 + 0 ≤ _)⟩)
  dsimp only [Pt.U, Pt.locs, Pt.cells, Pt.slots] at X8 l8 y8 z8 st8 hQ8
  subst l8 y8 z8
  obtain ⟨rfl, rfl, e8⟩ := hQ8
  try rw [List.append_nil] at X8
  obtain ⟨v10_s0, Hv10_s0⟩ : ∃ z : Int32, z = (if (F1 v4_l6) = v7_s0 then (1 : Int32) else (0 : Int32)) := ⟨_, rfl⟩
  obtain ⟨T10, X10, e10, st10⟩ := own_seg X8 h0 (mkF m 97 #[.val (.long q0), .second, .val (.int p1), .val (.long ((((p1 >>> ((2 : Int32) &&& 31)) &&& (15 : Int32)) - (8 : Int32)).toInt64)), .second, .val (.int (p1 &&& (3 : Int32))), .val (.long v4_l6), .second, .val (.int v7_s0)] [(.int v7_s0), (.int (F1 v4_l6))]) (mkF m 105 #[.val (.long q0), .second, .val (.int p1), .val (.long ((((p1 >>> ((2 : Int32) &&& 31)) &&& (15 : Int32)) - (8 : Int32)).toInt64)), .second, .val (.int (p1 &&& (3 : Int32))), .val (.long v4_l6), .second, .val (.int v7_s0)] [(.int v10_s0)]) (by
    by_cases hc9 : (F1 v4_l6) = v7_s0
    · rw [if_pos hc9] at Hv10_s0
      refine ⟨T8, X8, e8, fun target kt => ?_⟩
      rw [Hv10_s0] at kt
      show Steps p.tables e below (T8.setTop (mkF m 97 #[.val (.long q0), .second, .val (.int p1), .val (.long ((((p1 >>> ((2 : Int32) &&& 31)) &&& (15 : Int32)) - (8 : Int32)).toInt64)), .second, .val (.int (p1 &&& (3 : Int32))), .val (.long v4_l6), .second, .val (.int v7_s0)] [(.int v7_s0), (.int (F1 v4_l6))])) _
      refine XS.icmpNo X8.here hx rfl (hb hby at_97) rfl (teq hc9).2 ?_
      show Steps p.tables e below (T8.setTop (mkF m 100 #[.val (.long q0), .second, .val (.int p1), .val (.long ((((p1 >>> ((2 : Int32) &&& 31)) &&& (15 : Int32)) - (8 : Int32)).toInt64)), .second, .val (.int (p1 &&& (3 : Int32))), .val (.long v4_l6), .second, .val (.int v7_s0)] [])) _
      refine XS.iconst X8.here hx rfl (hb hby at_100) ?_
      show Steps p.tables e below (T8.setTop (mkF m 101 #[.val (.long q0), .second, .val (.int p1), .val (.long ((((p1 >>> ((2 : Int32) &&& 31)) &&& (15 : Int32)) - (8 : Int32)).toInt64)), .second, .val (.int (p1 &&& (3 : Int32))), .val (.long v4_l6), .second, .val (.int v7_s0)] [(.int (1 : Int32))])) _
      refine XS.goto X8.here hx rfl (pc0 := 101) (pc' := 105) rfl (hb hby at_101) (by decide) (by decide) ?_
      exact kt
    · rw [if_neg hc9] at Hv10_s0
      refine ⟨T8, X8, e8, fun target kt => ?_⟩
      rw [Hv10_s0] at kt
      show Steps p.tables e below (T8.setTop (mkF m 97 #[.val (.long q0), .second, .val (.int p1), .val (.long ((((p1 >>> ((2 : Int32) &&& 31)) &&& (15 : Int32)) - (8 : Int32)).toInt64)), .second, .val (.int (p1 &&& (3 : Int32))), .val (.long v4_l6), .second, .val (.int v7_s0)] [(.int v7_s0), (.int (F1 v4_l6))])) _
      refine XS.icmpYes X8.here hx rfl (pc0 := 97) (pc' := 104) rfl (hb hby at_97) rfl (feq hc9).2 (by decide) (by decide) ?_
      show Steps p.tables e below (T8.setTop (mkF m 104 #[.val (.long q0), .second, .val (.int p1), .val (.long ((((p1 >>> ((2 : Int32) &&& 31)) &&& (15 : Int32)) - (8 : Int32)).toInt64)), .second, .val (.int (p1 &&& (3 : Int32))), .val (.long v4_l6), .second, .val (.int v7_s0)] [])) _
      refine XS.iconst X8.here hx rfl (hb hby at_104) ?_
      exact kt)
  have hfin : nar .boolean v10_s0 = 1 := by rw [plain_law q0 p1 v4_l6 Hv4_l6 v7_s0 Hv7_s0 v10_s0 Hv10_s0]; rfl
  obtain ⟨fs, hr, hrun, hended, hW, hsame⟩ := X10.leave (v := some (.int (nar .boolean v10_s0))) (fun h => by rw [Bd.returns] at h; cases h)
  refine ⟨_, _, pre0 _ ?_, hrun, hended, _, _, rfl, ?_, ⟨_, rfl⟩, hW, hsame.mono (by decide) (by decide)⟩
  · show Steps p.tables e below (s₁.setTop (mkF m 0 #[.val (.long q0), .second, .val (.int p1), .unset, .unset, .unset, .unset, .unset, .unset] [])) _
    refine XS.iloadN X0.here hx rfl (hb hby at_0) rfl ?_
    show Steps p.tables e below (s₁.setTop (mkF m 1 #[.val (.long q0), .second, .val (.int p1), .unset, .unset, .unset, .unset, .unset, .unset] [(.int p1)])) _
    refine XS.iconst X0.here hx rfl (hb hby at_1) ?_
    show Steps p.tables e below (s₁.setTop (mkF m 2 #[.val (.long q0), .second, .val (.int p1), .unset, .unset, .unset, .unset, .unset, .unset] [(.int (2 : Int32)), (.int p1)])) _
    refine XS.ishr X0.here hx rfl (hb hby at_2) rfl ?_
    show Steps p.tables e below (s₁.setTop (mkF m 3 #[.val (.long q0), .second, .val (.int p1), .unset, .unset, .unset, .unset, .unset, .unset] [(.int (p1 >>> ((2 : Int32) &&& 31)))])) _
    refine XS.bipush X0.here hx rfl (hb hby at_3) ?_
    show Steps p.tables e below (s₁.setTop (mkF m 5 #[.val (.long q0), .second, .val (.int p1), .unset, .unset, .unset, .unset, .unset, .unset] [(.int (15 : Int32)), (.int (p1 >>> ((2 : Int32) &&& 31)))])) _
    refine XS.iand X0.here hx rfl (hb hby at_5) rfl ?_
    show Steps p.tables e below (s₁.setTop (mkF m 6 #[.val (.long q0), .second, .val (.int p1), .unset, .unset, .unset, .unset, .unset, .unset] [(.int ((p1 >>> ((2 : Int32) &&& 31)) &&& (15 : Int32)))])) _
    refine XS.bipush X0.here hx rfl (hb hby at_6) ?_
    show Steps p.tables e below (s₁.setTop (mkF m 8 #[.val (.long q0), .second, .val (.int p1), .unset, .unset, .unset, .unset, .unset, .unset] [(.int (8 : Int32)), (.int ((p1 >>> ((2 : Int32) &&& 31)) &&& (15 : Int32)))])) _
    refine XS.isub X0.here hx rfl (hb hby at_8) rfl ?_
    show Steps p.tables e below (s₁.setTop (mkF m 9 #[.val (.long q0), .second, .val (.int p1), .unset, .unset, .unset, .unset, .unset, .unset] [(.int (((p1 >>> ((2 : Int32) &&& 31)) &&& (15 : Int32)) - (8 : Int32)))])) _
    refine XS.i2l X0.here hx rfl (hb hby at_9) rfl ?_
    show Steps p.tables e below (s₁.setTop (mkF m 10 #[.val (.long q0), .second, .val (.int p1), .unset, .unset, .unset, .unset, .unset, .unset] [(.long ((((p1 >>> ((2 : Int32) &&& 31)) &&& (15 : Int32)) - (8 : Int32)).toInt64))])) _
    refine XS.lstoreN X0.here hx rfl (hb hby at_10) rfl (l' := #[.val (.long q0), .second, .val (.int p1), .val (.long ((((p1 >>> ((2 : Int32) &&& 31)) &&& (15 : Int32)) - (8 : Int32)).toInt64)), .second, .unset, .unset, .unset, .unset]) rfl ?_
    show Steps p.tables e below (s₁.setTop (mkF m 11 #[.val (.long q0), .second, .val (.int p1), .val (.long ((((p1 >>> ((2 : Int32) &&& 31)) &&& (15 : Int32)) - (8 : Int32)).toInt64)), .second, .unset, .unset, .unset, .unset] [])) _
    refine XS.iloadN X0.here hx rfl (hb hby at_11) rfl ?_
    show Steps p.tables e below (s₁.setTop (mkF m 12 #[.val (.long q0), .second, .val (.int p1), .val (.long ((((p1 >>> ((2 : Int32) &&& 31)) &&& (15 : Int32)) - (8 : Int32)).toInt64)), .second, .unset, .unset, .unset, .unset] [(.int p1)])) _
    refine XS.iconst X0.here hx rfl (hb hby at_12) ?_
    show Steps p.tables e below (s₁.setTop (mkF m 13 #[.val (.long q0), .second, .val (.int p1), .val (.long ((((p1 >>> ((2 : Int32) &&& 31)) &&& (15 : Int32)) - (8 : Int32)).toInt64)), .second, .unset, .unset, .unset, .unset] [(.int (3 : Int32)), (.int p1)])) _
    refine XS.iand X0.here hx rfl (hb hby at_13) rfl ?_
    show Steps p.tables e below (s₁.setTop (mkF m 14 #[.val (.long q0), .second, .val (.int p1), .val (.long ((((p1 >>> ((2 : Int32) &&& 31)) &&& (15 : Int32)) - (8 : Int32)).toInt64)), .second, .unset, .unset, .unset, .unset] [(.int (p1 &&& (3 : Int32)))])) _
    refine XS.istore X0.here hx rfl (hb hby at_14) rfl (l' := #[.val (.long q0), .second, .val (.int p1), .val (.long ((((p1 >>> ((2 : Int32) &&& 31)) &&& (15 : Int32)) - (8 : Int32)).toInt64)), .second, .val (.int (p1 &&& (3 : Int32))), .unset, .unset, .unset]) rfl ?_
    show Steps p.tables e below (s₁.setTop (mkF m 16 #[.val (.long q0), .second, .val (.int p1), .val (.long ((((p1 >>> ((2 : Int32) &&& 31)) &&& (15 : Int32)) - (8 : Int32)).toInt64)), .second, .val (.int (p1 &&& (3 : Int32))), .unset, .unset, .unset] [])) _
    refine XS.iload X0.here hx rfl (hb hby at_16) rfl ?_
    show Steps p.tables e below (s₁.setTop (mkF m 18 #[.val (.long q0), .second, .val (.int p1), .val (.long ((((p1 >>> ((2 : Int32) &&& 31)) &&& (15 : Int32)) - (8 : Int32)).toInt64)), .second, .val (.int (p1 &&& (3 : Int32))), .unset, .unset, .unset] [(.int (p1 &&& (3 : Int32)))])) _
    refine st4 _ ?_
    show Steps p.tables e below (T4.setTop (mkF m 66 #[.val (.long q0), .second, .val (.int p1), .val (.long ((((p1 >>> ((2 : Int32) &&& 31)) &&& (15 : Int32)) - (8 : Int32)).toInt64)), .second, .val (.int (p1 &&& (3 : Int32))), .val (.long v4_l6), .second, .unset] [])) _
    refine XS.lload X4.here hx rfl (hb hby at_66) rfl ?_
    show Steps p.tables e below (T4.setTop (mkF m 68 #[.val (.long q0), .second, .val (.int p1), .val (.long ((((p1 >>> ((2 : Int32) &&& 31)) &&& (15 : Int32)) - (8 : Int32)).toInt64)), .second, .val (.int (p1 &&& (3 : Int32))), .val (.long v4_l6), .second, .unset] [(.long v4_l6)])) _
    refine XS.lconst X4.here hx rfl (hb hby at_68) ?_
    show Steps p.tables e below (T4.setTop (mkF m 69 #[.val (.long q0), .second, .val (.int p1), .val (.long ((((p1 >>> ((2 : Int32) &&& 31)) &&& (15 : Int32)) - (8 : Int32)).toInt64)), .second, .val (.int (p1 &&& (3 : Int32))), .val (.long v4_l6), .second, .unset] [(.long (0 : Int64)), (.long v4_l6)])) _
    refine XS.lcmp X4.here hx rfl (hb hby at_69) rfl ?_
    show Steps p.tables e below (T4.setTop (mkF m 70 #[.val (.long q0), .second, .val (.int p1), .val (.long ((((p1 >>> ((2 : Int32) &&& 31)) &&& (15 : Int32)) - (8 : Int32)).toInt64)), .second, .val (.int (p1 &&& (3 : Int32))), .val (.long v4_l6), .second, .unset] [(.int (lcmpW v4_l6 (0 : Int64)))])) _
    refine st7 _ ?_
    show Steps p.tables e below (T7.setTop (mkF m 88 #[.val (.long q0), .second, .val (.int p1), .val (.long ((((p1 >>> ((2 : Int32) &&& 31)) &&& (15 : Int32)) - (8 : Int32)).toInt64)), .second, .val (.int (p1 &&& (3 : Int32))), .val (.long v4_l6), .second, .unset] [(.int v7_s0)])) _
    refine XS.istore X7.here hx rfl (hb hby at_88) rfl (l' := #[.val (.long q0), .second, .val (.int p1), .val (.long ((((p1 >>> ((2 : Int32) &&& 31)) &&& (15 : Int32)) - (8 : Int32)).toInt64)), .second, .val (.int (p1 &&& (3 : Int32))), .val (.long v4_l6), .second, .val (.int v7_s0)]) rfl ?_
    show Steps p.tables e below (T7.setTop (mkF m 90 #[.val (.long q0), .second, .val (.int p1), .val (.long ((((p1 >>> ((2 : Int32) &&& 31)) &&& (15 : Int32)) - (8 : Int32)).toInt64)), .second, .val (.int (p1 &&& (3 : Int32))), .val (.long v4_l6), .second, .val (.int v7_s0)] [])) _
    refine XS.lload X7.here hx rfl (hb hby at_90) rfl ?_
    show Steps p.tables e below (T7.setTop (mkF m 92 #[.val (.long q0), .second, .val (.int p1), .val (.long ((((p1 >>> ((2 : Int32) &&& 31)) &&& (15 : Int32)) - (8 : Int32)).toInt64)), .second, .val (.int (p1 &&& (3 : Int32))), .val (.long v4_l6), .second, .val (.int v7_s0)] [(.long v4_l6)])) _
    refine st8 _ ?_
    show Steps p.tables e below (T8.setTop (mkF m 95 #[.val (.long q0), .second, .val (.int p1), .val (.long ((((p1 >>> ((2 : Int32) &&& 31)) &&& (15 : Int32)) - (8 : Int32)).toInt64)), .second, .val (.int (p1 &&& (3 : Int32))), .val (.long v4_l6), .second, .val (.int v7_s0)] [(.int (F1 v4_l6))])) _
    refine XS.iload X8.here hx rfl (hb hby at_95) rfl ?_
    show Steps p.tables e below (T8.setTop (mkF m 97 #[.val (.long q0), .second, .val (.int p1), .val (.long ((((p1 >>> ((2 : Int32) &&& 31)) &&& (15 : Int32)) - (8 : Int32)).toInt64)), .second, .val (.int (p1 &&& (3 : Int32))), .val (.long v4_l6), .second, .val (.int v7_s0)] [(.int v7_s0), (.int (F1 v4_l6))])) _
    refine st10 _ ?_
    show Steps p.tables e below (T10.setTop (mkF m 105 #[.val (.long q0), .second, .val (.int p1), .val (.long ((((p1 >>> ((2 : Int32) &&& 31)) &&& (15 : Int32)) - (8 : Int32)).toInt64)), .second, .val (.int (p1 &&& (3 : Int32))), .val (.long v4_l6), .second, .val (.int v7_s0)] [(.int v10_s0)])) _
    exact retN X10 hx (t := .boolean) Bd.returns (by simp) (hb hby at_105) hr
  · exact ⟨congrArg (fun z => some (Value.int z)) hfin, N0⟩
set_option maxRecDepth 65536 in
set_option maxHeartbeats 40000000 in
theorem comes_1 {Post : Tables → Env → Array Value → State → Outcome → State → Prop} (hpost : ∀ tb e args s v u, (limb_1_1.after args s (.returned v) u = true ∧ limb_1_2.after args s (.returned v) u = true ∧ True) → FrameEnd s (.returned v) u (Jvm.fieldLocs frame_1_writes args s ++ Jvm.arrayLocs frame_1_arrays args s ++ Jvm.staticLocs frame_1_statics s) 0 0 → Post tb e args s (.returned v) u) :
    ArmFor flags0 classFile x code maxLocals ret World_1 tables_1 room_1 Calls_1 rest_1 Pre_1 Post := by
  intro l hfl _ _ p e ha hc hk s m args below hf hA hF happ hP
  obtain ⟨hcalls, hrest, hpre⟩ := hP
  obtain ⟨-, -, -, hnamed, -, -, -, hat⟩ := (Spec.applies_iff hf).mp happ
  obtain ⟨hg, hn⟩ := and_e (Cond.before_iff.mp (show (Jvm.Cond.and given_1 narrow_1).before args s = true from hpre))
  obtain ⟨gg1, gg2⟩ := and_e hg
  obtain ⟨gg3, gg4⟩ := and_e gg2
  obtain ⟨w0, w1, rfl⟩ : ∃ w0 w1 : Value, args = #[w0, w1] := by
    have hs : args.size = 2 := by simpa [Cond.value, given_1] using gg1
    obtain ⟨L⟩ := args
    match L, hs with
    | [w0, w1], _ => exact ⟨w0, w1, rfl⟩
  have hw := fun d (hd : d ∈ tables_1) => atoms_spec (ws := Jvm.Cond.code x code maxLocals ret :: tables_1) hat d (List.mem_cons_of_mem _ hd)
  obtain ⟨i0, ei0⟩ := isL_v gg3
  obtain rfl : w0 = (.long i0) := Option.some.inj ei0
  obtain ⟨i1, ei1⟩ := is_v gg4
  obtain rfl : w1 = (.int i1) := Option.some.inj ei1
  obtain ⟨n, o, h1, h2, h3, _, L, rfl, ⟨rfl, N⟩, hq⟩ := rm0 l s _ hw tables_1 i0 i1 s.heap s.heap.size (Nat.le_refl _) p e ha hc hk s m _ below hf ((Spec.applies_iff_loose hf).mp happ).1 ⟨rfl, State.Warmed39.refl s, rfl⟩ trivial
  refine ⟨n, _, h1, h2, h3, hpost _ _ _ _ _ _ ⟨Cond.after_iff.mpr rfl, Cond.after_iff.mpr (eq_i res_at (Term.int_eval (1)) rfl), trivial⟩ ⟨hq.1, hq.2.1, (hq.2.2.sift fun y hy => Or.inr (N y hy)).mono (by decide) (by decide)⟩⟩
theorem main_1_1 : Claimed_1_1 := comes_1 fun _ _ _ _ _ _ h hF => ⟨h.1, hF⟩
theorem main_1_2 : Claimed_1_2 := comes_1 fun _ _ _ _ _ _ h hF => ⟨h.2.1, hF⟩
end Jvm.Pilot.@@N@@
namespace Jvm.Pilot.@@N@@
open Jvm Jvm.ClassFile Sem Op Lib Jvm.Free Jvm.Stand Jvm.Pilot.@@N@@.Jvm.D
/-! MADE BY PROGRAM (witnessworld.py) out of the Statement's table words and the real class files: 9 classes; the members and pool entries that the words name. The judged class is class 1, her method 1. -/
namespace start1
open Jvm.ClassFile
def u (s : String) : CpInfo := .utf8 (stringToUtf16 s)
/-- a pool by its gaps: so many unusable entries, then the entry; so many at the end -/
def gap : Nat → List CpInfo → List CpInfo
  | 0, r => r
  | n + 1, r => .unusable :: gap n r
def poolList (es : List (Nat × CpInfo)) (last : Nat) : List CpInfo := es.foldr (fun e r => gap e.1 (e.2 :: r)) (gap last [])
def pool (es : List (Nat × CpInfo)) (last : Nat) : Array CpInfo := ⟨poolList es last⟩
def fileOf (pool : Array CpInfo) (this : Nat) (attrs : Array Attribute := #[]) (ms : Array MethodInfo := #[]) (fl : Nat := 33) (sup : Nat := 0) (ifs : Array Nat := #[]) (fds : Array FieldInfo := #[]) : ClassFile where
  minorVersion := 0
  majorVersion := 65
  constantPool := pool
  accessFlags := fl
  thisClass := this
  superClass := sup
  interfaces := ifs
  fields := fds
  methods := ms
  attributes := attrs
def plain (name : String) (sup : Option ClassId) : Class where
  name := name
  kind := .ordinary
  loader := none
  accessFlags := 33
  super := sup
  interfaces := #[]
  cf := none
  fields := #[]
  methods := #[]
  instanceTypes := #[]
  staticTypes := #[]
  resolved := #[]
  callSites := []
  init := .initialized
  statics := none
  mirror := none

def pool0 : Array CpInfo := pool [(5, u "<init>"), (0, u "()V"), (1, .class_ 10), (1, u "java/lang/Object")] 113

def k0m0 : Method := { name := "<init>", desc := "()V", sig := { parameters := [], returnType := none }, accessFlags := 1, code := none }
/-- java/lang/Object -/
def k0 : Class := { plain "java/lang/Object" none with
  accessFlags := 33
  interfaces := #[]
  cf := some (fileOf pool0 8 #[] #[{ accessFlags := 1, nameIndex := 5, descriptorIndex := 6, attributes := #[] }] 33 0 #[] #[])
  fields := #[]
  methods := #[k0m0]
  instanceTypes := #[]
  staticTypes := #[]
  resolved := Array.replicate 124 none
  statics := none }

def pool1 : Array CpInfo := pool [(2, .class_ 4), (1, u "java/lang/Object"), (0, u "<init>"), (0, u "()V"), (0, .long 4611686018427387904), (3, .long 9223372036854775808), (1, .long 8), (1, .methodref 16 17), (0, .class_ 18), (0, .nameAndType 19 20), (0, u "com/example/holdfast/holdfast/core/LeaseRenewals"), (0, u "isValidLease"), (0, u "(J)Z"), (0, .class_ 22), (0, u "com/example/holdfast/holdfast/core/LeaseRenewalsIsValidLeasePinLaw"), (2, u "law"), (0, u "(JI)Z")] 3

def k1m0 : Method := { name := "<init>", desc := "()V", sig := { parameters := [], returnType := none }, accessFlags := 1, code := none }
def k1c1 : Code := { maxStack := 6, maxLocals := 9, code := code, exceptionTable := #[], attributes := #[] }
def k1m1 : Method := { name := "law", desc := "(JI)Z", sig := { parameters := [.long, .int], returnType := some .boolean }, accessFlags := 9, code := some k1c1 }
/-- com/example/holdfast/holdfast/core/LeaseRenewalsIsValidLeasePinLaw -/
def k1 : Class := { plain "com/example/holdfast/holdfast/core/LeaseRenewalsIsValidLeasePinLaw" (some 0) with
  accessFlags := 49
  interfaces := #[]
  cf := some (fileOf pool1 21 #[] #[{ accessFlags := 1, nameIndex := 5, descriptorIndex := 6, attributes := #[] }, { accessFlags := 9, nameIndex := 25, descriptorIndex := 26, attributes := #[] }] 49 2 #[] #[])
  fields := #[]
  methods := #[k1m0, k1m1]
  instanceTypes := #[]
  staticTypes := #[]
  resolved := Array.replicate 30 none
  statics := none }

def pool2 : Array CpInfo := pool [(4, .class_ 6), (1, u "java/lang/Object"), (6, .class_ 15), (1, u "com/example/holdfast/holdfast/core/LeaseRenewals"), (0, u "m_renewals"), (0, u "Ljava/util/Map;"), (2, u "isValidLease"), (0, u "(J)Z"), (10, u "m_timeoutMillis"), (0, u "J"), (14, u "m_periodNanos"), (2, u "m_lost"), (0, u "Ljava/util/function/ObjLongConsumer;"), (15, u "m_timer"), (0, u "Ljava/util/concurrent/ScheduledThreadPoolExecutor;"), (0, .long 4611686018427387903), (20, .class_ 92), (0, u "com/example/holdfast/holdfast/core/LeaseRenewals$Renewal"), (16, u "m_closed"), (0, u "Z"), (43, u "m_scheduled"), (32, u "DEFAULT_TIMEOUT_MILLIS"), (3, u "MAX_LEASE_MILLIS")] 58

def k2c0 : Code := { maxStack := 4, maxLocals := 2, code := prog_19_method_2_code, exceptionTable := #[], attributes := #[] }
def k2m0 : Method := { name := "isValidLease", desc := "(J)Z", sig := { parameters := [.long], returnType := some .boolean }, accessFlags := 9, code := some k2c0 }
/-- com/example/holdfast/holdfast/core/LeaseRenewals -/
def k2 : Class := { plain "com/example/holdfast/holdfast/core/LeaseRenewals" (some 0) with
  accessFlags := 49
  interfaces := #[]
  cf := some (fileOf pool2 13 #[.nestMembers #[91]] #[{ accessFlags := 9, nameIndex := 20, descriptorIndex := 21, attributes := #[] }] 49 4 #[] #[{ accessFlags := 25, nameIndex := 187, descriptorIndex := 33, attributes := #[] }, { accessFlags := 26, nameIndex := 191, descriptorIndex := 33, attributes := #[] }, { accessFlags := 18, nameIndex := 32, descriptorIndex := 33, attributes := #[] }, { accessFlags := 18, nameIndex := 48, descriptorIndex := 33, attributes := #[] }, { accessFlags := 18, nameIndex := 51, descriptorIndex := 52, attributes := #[] }, { accessFlags := 18, nameIndex := 68, descriptorIndex := 69, attributes := #[] }, { accessFlags := 18, nameIndex := 16, descriptorIndex := 17, attributes := #[] }, { accessFlags := 2, nameIndex := 154, descriptorIndex := 110, attributes := #[] }, { accessFlags := 2, nameIndex := 109, descriptorIndex := 110, attributes := #[] }])
  fields := #[{ name := "DEFAULT_TIMEOUT_MILLIS", type := .long, accessFlags := 25, slot := 0, constantValue := 0 }, { name := "MAX_LEASE_MILLIS", type := .long, accessFlags := 26, slot := 1, constantValue := 0 }, { name := "m_timeoutMillis", type := .long, accessFlags := 18, slot := 0, constantValue := 0 }, { name := "m_periodNanos", type := .long, accessFlags := 18, slot := 1, constantValue := 0 }, { name := "m_lost", type := (.object "java/util/function/ObjLongConsumer"), accessFlags := 18, slot := 2, constantValue := 0 }, { name := "m_timer", type := (.object "java/util/concurrent/ScheduledThreadPoolExecutor"), accessFlags := 18, slot := 3, constantValue := 0 }, { name := "m_renewals", type := (.object "java/util/Map"), accessFlags := 18, slot := 4, constantValue := 0 }, { name := "m_scheduled", type := .boolean, accessFlags := 2, slot := 5, constantValue := 0 }, { name := "m_closed", type := .boolean, accessFlags := 2, slot := 6, constantValue := 0 }]
  methods := #[k2m0]
  instanceTypes := #[.long, .long, (.object "java/util/function/ObjLongConsumer"), (.object "java/util/concurrent/ScheduledThreadPoolExecutor"), (.object "java/util/Map"), .boolean, .boolean]
  staticTypes := #[.long, .long]
  resolved := Array.replicate 250 none
  statics := none }

def pool3 : Array CpInfo := pool [(1, u "java/lang/Cloneable"), (0, .class_ 1), (0, u "java/lang/Object"), (0, .class_ 3)] 3

/-- java/lang/Cloneable -/
def k3 : Class := { plain "java/lang/Cloneable" (some 0) with
  accessFlags := 1537
  interfaces := #[]
  cf := some (fileOf pool3 2 #[] #[] 1537 4 #[] #[])
  fields := #[]
  methods := #[]
  instanceTypes := #[]
  staticTypes := #[]
  resolved := Array.replicate 8 none
  statics := none }

def pool4 : Array CpInfo := pool [(1, u "java/io/Serializable"), (0, .class_ 1), (0, u "java/lang/Object"), (0, .class_ 3)] 3

/-- java/io/Serializable -/
def k4 : Class := { plain "java/io/Serializable" (some 0) with
  accessFlags := 1537
  interfaces := #[]
  cf := some (fileOf pool4 2 #[] #[] 1537 4 #[] #[])
  fields := #[]
  methods := #[]
  instanceTypes := #[]
  staticTypes := #[]
  resolved := Array.replicate 8 none
  statics := none }

/-- the primitive byte -/
def k5 : Class := { plain "byte" none with kind := .primitive 'B', accessFlags := 0x411 }
/-- [B -/
def k6 : Class := { plain "[B" (some 0) with kind := .array 5 .byte, interfaces := #[3, 4], accessFlags := 1041 }

/-- the primitive int -/
def k7 : Class := { plain "int" none with kind := .primitive 'I', accessFlags := 0x411 }
/-- [I -/
def k8 : Class := { plain "[I" (some 0) with kind := .array 7 .int, interfaces := #[3, 4], accessFlags := 1041 }

def heap : Heap := #[]
def classes : Array Class := #[k0, k1, k2, k3, k4, k5, k6, k7, k8]
def interned : List (Array UInt16 × Addr) := []
def slotsUsed : Nat := 0
def theMethod : MethodId := ⟨1, 1⟩
def args0 : Array Value := #[.long 5, .int 5]
def aboutOver (below : List Frame) : State where
  vm := { classes := classes, interned := interned.toArray }
  heap := heap
  slotsUsed := slotsUsed
  threads := #[{ frames := .invoking theMethod args0 :: below }]
def below0 : List Frame := [.native { method := ⟨0, 0⟩, args := #[] }]
def about1 : State := aboutOver below0
def p0 : Program := .bare "" "" ""
def e0 : Env := launch0.env 0 0 0
theorem w_frames : about1.frames = Frame.invoking theMethod args0 :: below0 := rfl
set_option maxRecDepth 65536 in
theorem w_args : argsFit about1.vm theMethod args0 = true := by decide +kernel
set_option maxRecDepth 65536 in
theorem w_heap : heapFits about1 = true := by decide +kernel
set_option maxRecDepth 65536 in
theorem w_runnable : about1.curStatus? = some .runnable := by decide +kernel
set_option maxRecDepth 65536 in
theorem w_alone : about1.alone = true := by decide +kernel
set_option maxRecDepth 65536 in
theorem w_named : about1.methodNamed? x = some theMethod := by decide +kernel
set_option maxRecDepth 65536 in
theorem w_hears : about1.hears theMethod below0 = true := by decide +kernel
set_option maxRecDepth 65536 in
theorem w_ripe : about1.ripe theMethod args0 below0 = true := by decide +kernel
theorem w_running : about1.status = .running := rfl
set_option maxRecDepth 65536 in
theorem w_room : about1.hasRoom e0.platform room_1 = true :=
  launch0.hasRoom_least _ room_1 (by decide +kernel) (by decide +kernel) (by decide +kernel) (by decide +kernel) (by decide +kernel) (by decide +kernel)
theorem allAtoms_all (ts : List Jvm.Cond) (a : Array Jvm.Value) (st : Jvm.State) : (allAtoms ts).before a st = ts.all (fun c => c.before a st) := by
  induction ts with
  | nil => rfl
  | cons c t ih =>
    show (Jvm.Cond.and c (allAtoms t)).before a st = _
    rw [Jvm.Cond.before_and, ih, List.all_cons]
def words1 : List Jvm.Cond := Jvm.Cond.code x code maxLocals ret :: tables_1
/-- a 'code' word, met by the world's own term for the bytes: nothing is compared byte by byte -/
theorem code_word {y : MethodName} {bytes : ByteArray} {mx : Nat} {rt : Option FieldType} {a : Array Value} {s : State} {m : MethodId} {meth : Method} {c : Code} (h1 : s.methodNamed? y = some m) (h2 : s.vm.method? m = some meth) (h3 : meth.code = some c) (h4 : c.code = bytes)
    (h5 : (c.maxLocals == mx && c.exceptionTable.isEmpty && decide (c.maxStack ≤ mostOperands) && decide (meth.sig.returnType = rt) && !meth.locks && decide (parseMethodDescriptor y.desc = some meth.sig)) = true) : (Jvm.Cond.code y bytes mx rt).before a s = true := by
  simp only [Bool.and_eq_true, beq_iff_eq, Bool.not_eq_true', decide_eq_true_eq] at h5
  obtain ⟨⟨⟨⟨⟨g1, g2⟩, g3⟩, g4⟩, g5⟩, g6⟩ := h5
  simp [Cond.before, Cond.holds, Cond.value, h1, h2, h3, h4, g1, g2, g3, g4, g5, g6]
def isCode : Jvm.Cond → Bool
  | .code _ _ _ _ => true
  | _ => false
theorem all_split {L : List Jvm.Cond} {P : Jvm.Cond → Bool} (h1 : L.all (fun c => isCode c || P c) = true) (h2 : ∀ c ∈ L.filter isCode, P c = true) : L.all P = true := by
  refine List.all_eq_true.mpr fun c hc => ?_
  have h := List.all_eq_true.mp h1 c hc
  rcases Bool.eq_false_or_eq_true (isCode c) with hi | hi
  · exact h2 c (List.mem_filter.mpr ⟨hc, hi⟩)
  · simpa [hi] using h
set_option maxRecDepth 65536 in
theorem w_c0 : (Jvm.Cond.code x code maxLocals ret).before args0 about1 = true := code_word (m := ⟨1, 1⟩) (meth := k1m1) (c := k1c1) (by decide +kernel) rfl rfl rfl (by decide +kernel)
set_option maxRecDepth 65536 in
theorem w_c1 : (Jvm.Cond.code ({ cls := "com/example/holdfast/holdfast/core/LeaseRenewals", name := "isValidLease", desc := "(J)Z" } : Jvm.MethodName) prog_19_method_2_code (2 : Nat) (Option.some Jvm.ClassFile.FieldType.boolean)).before args0 about1 = true := code_word (m := ⟨2, 0⟩) (meth := k2m0) (c := k2c0) (by decide +kernel) rfl rfl rfl (by decide +kernel)
def codes1 : List Jvm.Cond := [Jvm.Cond.code x code maxLocals ret, Jvm.Cond.code ({ cls := "com/example/holdfast/holdfast/core/LeaseRenewals", name := "isValidLease", desc := "(J)Z" } : Jvm.MethodName) prog_19_method_2_code (2 : Nat) (Option.some Jvm.ClassFile.FieldType.boolean)]
set_option maxRecDepth 65536 in
theorem codes_eq : words1.filter isCode = codes1 := rfl
theorem w_codes : ∀ c ∈ words1.filter isCode, c.before args0 about1 = true := by
  rw [codes_eq]
  intro c hc
  simp only [codes1, List.mem_cons, List.not_mem_nil, or_false] at hc
  rcases hc with rfl | rfl
  · exact w_c0
  · exact w_c1
set_option maxRecDepth 65536 in
theorem w_t1 : words1.all (fun c => isCode c || c.before args0 about1) = true := by decide +kernel
theorem w_tables : (allAtoms (Jvm.Cond.code x code maxLocals ret :: tables_1)).before args0 about1 = true := by
  rw [allAtoms_all]
  show words1.all (fun c => c.before args0 about1) = true
  refine all_split ?_ w_codes
  rw [w_t1]
set_option maxRecDepth 65536 in
theorem w_case : (Jvm.Cond.and given_1 narrow_1).before args0 about1 = true := by decide +kernel
theorem w_applies : (headSpec (Jvm.Cond.code x code maxLocals ret :: tables_1) room_1).applies x e0.platform about1 = true :=
  (Spec.applies_iff w_frames).mpr ⟨w_running, w_runnable, w_alone, w_named, w_hears, w_ripe, w_room, w_tables⟩
theorem atStart : AtStart classFile x code maxLocals ret World_1 tables_1 room_1 Calls_1 rest_1 Pre_1 launch0 p0 e0 about1 theMethod args0 below0 :=
  ⟨lists_1, trivial, launch0.admits_env _ _ _, launch0.least_env, fairChoices_fair.cas, fairChoices_fair.clock, w_frames, w_args, w_heap, w_applies, trivial, trivial, w_case⟩
end start1
theorem witness_1 : WitnessClaimed_1 := ⟨start1.p0, start1.e0, start1.about1, start1.theMethod, start1.args0, start1.below0, start1.atStart⟩
end Jvm.Pilot.@@N@@
