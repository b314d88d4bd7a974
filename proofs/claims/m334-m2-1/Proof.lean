import JvmDerived
import JvmDerived.Pilot.@@N@@Statement
import JvmDerived.Pilot.@@N@@Code
set_option linter.unusedVariables false
set_option linter.unusedSimpArgs false
@@BLOCK:NumsL.lean.txt@@
namespace Jvm.RoadKit
open Sem ClassFile Op Lib Jvm.Stand Jvm.Free Jvm.LawKit
section New
variable {p : Program} {l : Launch} {e : Env} {R : Room} {s : State} {m : MethodId} {args : Array Value} {below : List Frame} {meth : Method} {c : Code} {T : State} {locs : List Loc} {cells slots : Nat}
theorem retI (X : Stand p l e R s m args below meth c T locs cells slots) (hx : p.tables.exec = Jvm.exec) {pc : Nat} {Ls : Array Slot} {z : Int32} {rest : List Value} (hret : meth.sig.returnType = some .int) (hd : decode c.code pc = .ok (.ireturn, 1)) {fs : List Frame}
    (hl : ∀ (f : JFrame) (acts : List Action), f.method = m → f.locked = none → f.entered = [] → (doReturn e (T.setTop f) acts (some (.int z))).1 = T.setFrames fs) : Steps p.tables e below (T.setTop (mkF m pc Ls (.int z :: rest))) (T.setFrames fs) :=
  retOut X hx hret rfl (Or.inl ⟨rfl, Or.inl rfl, z, rfl⟩) hd hl
theorem retJ (X : Stand p l e R s m args below meth c T locs cells slots) (hx : p.tables.exec = Jvm.exec) {pc : Nat} {Ls : Array Slot} {z : Int64} {rest : List Value} (hret : meth.sig.returnType = some .long) (hd : decode c.code pc = .ok (.lreturn, 1)) {fs : List Frame}
    (hl : ∀ (f : JFrame) (acts : List Action), f.method = m → f.locked = none → f.entered = [] → (doReturn e (T.setTop f) acts (some (.long z))).1 = T.setFrames fs) : Steps p.tables e below (T.setTop (mkF m pc Ls (.long z :: rest))) (T.setFrames fs) :=
  retOut X hx hret rfl (Or.inr (Or.inl ⟨rfl, rfl, z, rfl⟩)) hd hl
theorem retA (X : Stand p l e R s m args below meth c T locs cells slots) (hx : p.tables.exec = Jvm.exec) {pc : Nat} {Ls : Array Slot} {w : Value} {t : FieldType} {rest : List Value} (hret : meth.sig.returnType = some t) (ht : t.isReference = true) (hn : narrow t w = w) (hw : w.isRef = true) (hd : decode c.code pc = .ok (.areturn, 1)) {fs : List Frame}
    (hl : ∀ (f : JFrame) (acts : List Action), f.method = m → f.locked = none → f.entered = [] → (doReturn e (T.setTop f) acts (some w)).1 = T.setFrames fs) : Steps p.tables e below (T.setTop (mkF m pc Ls (w :: rest))) (T.setFrames fs) :=
  retOut X hx hret hn (Or.inr (Or.inr (Or.inr (Or.inr ⟨rfl, ht, hw⟩)))) hd hl
/-- what an array of ints that is written down holds at a place -/
def own_at (vs : List Value) (d : Value) (j : Int32) : Int32 := match vs.getD j.toNatClampNeg d with | .int x => x | _ => 0
def own_ints (vs : List Value) : Bool := vs.all fun v => match v with | .int _ => true | _ => false
theorem own_at_eq {vs : List Value} {d : Value} (h : own_ints (d :: vs) = true) (j : Int32) : vs.getD j.toNatClampNeg d = .int (own_at vs d j) := by
  have q : vs.getD j.toNatClampNeg d ∈ d :: vs := by
    rw [List.getD_eq_getElem?_getD]
    cases e : vs[j.toNatClampNeg]? with
    | none => simp
    | some w => exact List.mem_cons_of_mem _ (List.mem_of_getElem? e)
  have r := List.all_eq_true.mp h _ q
  unfold own_at
  cases e : vs.getD j.toNatClampNeg d <;> rw [e] at r <;> first | rfl | cases r
/-- a piece of a road from the frame F to the frame G, by whatever states between -/
theorem own_seg (X : Stand p l e R s m args below meth c T locs cells slots) (h : Heap) (F G : JFrame)
    (k : ∃ T', Stand p l e R s m args below meth c T' locs cells slots ∧ T'.heap = h ∧ ∀ target, Steps p.tables e below (T'.setTop G) target → Steps p.tables e below (T.setTop F) target) :
    ∃ T', Stand p l e R s m args below meth c T' locs cells slots ∧ T'.heap = h ∧ ∀ target, Steps p.tables e below (T'.setTop G) target → Steps p.tables e below (T.setTop F) target := k
end New
end Jvm.RoadKit
namespace Jvm.Pilot.@@N@@
open Jvm Jvm.ClassFile Sem Op Lib Jvm.Free Jvm.Stand Jvm.LawKit Jvm.RoadKit Bundle Jvm.Pilot.@@N@@.Jvm.D
theorem d2_0 : decode jdk_30_method_1_code 0 = .ok (.aload_n 0, 1) := by decide +kernel
theorem d2_1 : decode jdk_30_method_1_code 1 = .ok (.invokespecial 1, 3) := by decide +kernel
theorem d2_4 : decode jdk_30_method_1_code 4 = .ok (.return_, 1) := by decide +kernel
theorem pn_2 : plainName "java/lang/Record" = true := by first | (simp [plainName, overriddenIn]; done) | decide +kernel
theorem ef_2 (m : MethodId) (r0 : Addr) : entryFrame m #[(.ref r0)] 1 = mkF m 0 #[.val (.ref r0)] [] := by first | (simp [entryFrame, mkF, argsToLocals, Value.category]; done) | rfl
def Q2 (Z : State) (r0 : Addr) (h0 : Heap) (n0 : Nat) (v : Option Value) (h : Heap) (L : List Loc) : Prop := v = none ∧ L = [] ∧ h = h0
set_option maxRecDepth 65536 in
set_option maxHeartbeats 40000000 in
theorem rm2 (l : Launch) (Z : State) (a0 : Array Value) (hw : ∀ d ∈ tables_1, d.before a0 Z = true) (ws : List Jvm.Cond) (r0 : Addr) (h0 : Heap) (n0 : Nat) (Z0 : n0 ≤ h0.size) :
    MetFree l (⟨"java/lang/Record", "<init>", "()V"⟩ : MethodName) (head1 (Jvm.Cond.code (⟨"java/lang/Record", "<init>", "()V"⟩ : MethodName) jdk_30_method_1_code 1 none :: ws) ({ frames := 1, cells := 0, slots := 0, locals := 12 } : Room)) (fun a U => a = #[(.ref r0)] ∧ Z.Warmed39 U.vm ∧ U.heap = h0) (fun _ _ _ _ _ => True) (fun _ U o U' => ∃ v L, o = .returned v ∧ Q2 Z r0 h0 n0 v U'.heap L ∧ FrameEnd U o U' L ({ frames := 1, cells := 0, slots := 0, locals := 12 } : Room).cells ({ frames := 1, cells := 0, slots := 0, locals := 12 } : Room).slots) := by
  refine MetFree.of_bodySF (plainFor_of_name pn_2) hisR ?_
  intro p e s m args below meth c s₁ Bd hml0 hP hK
  obtain ⟨rfl, hZ, hh⟩ := hP
  have hx := Bd.exec
  have hby := Bd.bytes
  have hml : c.maxLocals = 1 := hml0
  have hown : s.vm.findClass "java/lang/Record" = some m.cls := findClass_of_methodNamed Bd.named
  have hnm := (name_of_methodNamed Bd.named Bd.method).1
  have X0 : Stand p l e ({ frames := 1, cells := 0, slots := 0, locals := 12 } : Room) s m #[(.ref r0)] below meth c s₁ [] 0 0 := Stand.of_body Bd
  have e0 : s₁.heap = h0 := by rw [← hh, Bd.state]; rfl
  have N0 := Fr.nil n0
  have pre0 : ∀ t, Steps p.tables e below (s₁.setTop (mkF m 0 #[.val (.ref r0)] [])) t → Steps p.tables e below (s₁.setTop (entryFrame m #[(.ref r0)] 1)) t := fun t k => castTop (ef_2 m r0) k
  obtain ⟨T1, X1, e1, st1⟩ := initO X0 hx hZ hown (hw _ (List.mem_of_getElem? (i := 11) rfl)) (hw _ (List.mem_of_getElem? (i := 12) rfl)) (hw _ (List.mem_of_getElem? (i := 13) rfl)) e0 (g := (mkF m 1 #[.val (.ref r0)] [(.ref r0)])) rfl (by rw [hml]; rfl) rfl (hb hby d2_1) (by decide) (W := 0) (by show 2 * 0 + _ ≤ _; exact Nat.le_of_eq rfl) (by decide)
  obtain ⟨fs, hr, hrun, hended, hW, hsame⟩ := X1.leave (v := none) (fun _ => rfl)
  refine ⟨_, _, pre0 _ ?_, hrun, hended, _, _, rfl, ?_, ⟨_, rfl⟩, hW, hsame.mono (by decide) (by decide)⟩
  · show Steps p.tables e below (s₁.setTop (mkF m 0 #[.val (.ref r0)] [])) _
    refine XS.aloadN X0.here hx rfl (hb hby d2_0) rfl rfl ?_
    show Steps p.tables e below (s₁.setTop (mkF m 1 #[.val (.ref r0)] [(.ref r0)])) _
    refine st1 _ ?_
    show Steps p.tables e below (T1.setTop (mkF m 4 #[.val (.ref r0)] [])) _
    exact X1.returnOut hx Bd.returns (hb hby d2_4) hr
  · show Q2 Z r0 h0 n0 _ T1.heap _
    exact ⟨rfl, rfl, e1⟩
theorem d1_0 : decode prog_17_method_1_code 0 = .ok (.aload_n 0, 1) := by decide +kernel
theorem d1_1 : decode prog_17_method_1_code 1 = .ok (.invokespecial 1, 3) := by decide +kernel
theorem d1_4 : decode prog_17_method_1_code 4 = .ok (.aload_n 0, 1) := by decide +kernel
theorem d1_5 : decode prog_17_method_1_code 5 = .ok (.lload_n 1, 1) := by decide +kernel
theorem d1_6 : decode prog_17_method_1_code 6 = .ok (.putfield 7, 3) := by decide +kernel
theorem d1_9 : decode prog_17_method_1_code 9 = .ok (.aload_n 0, 1) := by decide +kernel
theorem d1_10 : decode prog_17_method_1_code 10 = .ok (.lload_n 3, 1) := by decide +kernel
theorem d1_11 : decode prog_17_method_1_code 11 = .ok (.putfield 13, 3) := by decide +kernel
theorem d1_14 : decode prog_17_method_1_code 14 = .ok (.return_, 1) := by decide +kernel
theorem pn_1 : plainName "com/example/key3/key3/store/Thresholds" = true := by first | (simp [plainName, overriddenIn]; done) | decide +kernel
theorem pd_1_0 : parseMethodDescriptor "()V" = some ⟨[], none⟩ := by decide +kernel
theorem ef_1 (m : MethodId) (r0 : Addr) (q1 : Int64) (q2 : Int64) : entryFrame m #[(.ref r0), (.long q1), (.long q2)] 5 = mkF m 0 #[.val (.ref r0), .val (.long q1), .second, .val (.long q2), .second] [] := by first | (simp [entryFrame, mkF, argsToLocals, Value.category]; done) | rfl
def Q1 (Z : State) (r0 : Addr) (q1 : Int64) (q2 : Int64) (u_partitionMaxBytes_r0 : Value) (u_logicalPartitionMaxBytes_r0 : Value) (h0 : Heap) (n0 : Nat) (v : Option Value) (h : Heap) (L : List Loc) : Prop := v = none ∧ Fr n0 L ∧ Keep h0 h [r0] ∧ Exa Z h r0 "com/example/key3/key3/store/Thresholds" ∧ Fld Z h r0 "com/example/key3/key3/store/Thresholds" "partitionMaxBytes" "J" (.long q1) ∧ Fld Z h r0 "com/example/key3/key3/store/Thresholds" "logicalPartitionMaxBytes" "J" (.long q2)
set_option maxRecDepth 65536 in
set_option maxHeartbeats 40000000 in
theorem rm1 (l : Launch) (Z : State) (a0 : Array Value) (hw : ∀ d ∈ tables_1, d.before a0 Z = true) (ws : List Jvm.Cond) (r0 : Addr) (q1 : Int64) (q2 : Int64) (u_partitionMaxBytes_r0 : Value) (u_logicalPartitionMaxBytes_r0 : Value) (h0 : Heap) (n0 : Nat) (Z0 : n0 ≤ h0.size) (E_r0 : Exa Z h0 r0 "com/example/key3/key3/store/Thresholds") (F_partitionMaxBytes_r0 : Fld Z h0 r0 "com/example/key3/key3/store/Thresholds" "partitionMaxBytes" "J" u_partitionMaxBytes_r0) (g_r0 : n0 ≤ r0) (F_logicalPartitionMaxBytes_r0 : Fld Z h0 r0 "com/example/key3/key3/store/Thresholds" "logicalPartitionMaxBytes" "J" u_logicalPartitionMaxBytes_r0) :
    MetFree l (⟨"com/example/key3/key3/store/Thresholds", "<init>", "(JJ)V"⟩ : MethodName) (head1 (Jvm.Cond.code (⟨"com/example/key3/key3/store/Thresholds", "<init>", "(JJ)V"⟩ : MethodName) prog_17_method_1_code 5 none :: ws) ({ frames := 2, cells := 0, slots := 0, locals := 24 } : Room)) (fun a U => a = #[(.ref r0), (.long q1), (.long q2)] ∧ Z.Warmed39 U.vm ∧ U.heap = h0) (fun _ _ _ _ _ => True) (fun _ U o U' => ∃ v L, o = .returned v ∧ Q1 Z r0 q1 q2 u_partitionMaxBytes_r0 u_logicalPartitionMaxBytes_r0 h0 n0 v U'.heap L ∧ FrameEnd U o U' L ({ frames := 2, cells := 0, slots := 0, locals := 24 } : Room).cells ({ frames := 2, cells := 0, slots := 0, locals := 24 } : Room).slots) := by
  refine MetFree.of_bodySF (plainFor_of_name pn_1) hisR ?_
  intro p e s m args below meth c s₁ Bd hml0 hP hK
  obtain ⟨rfl, hZ, hh⟩ := hP
  have hx := Bd.exec
  have hby := Bd.bytes
  have hml : c.maxLocals = 5 := hml0
  have hown : s.vm.findClass "com/example/key3/key3/store/Thresholds" = some m.cls := findClass_of_methodNamed Bd.named
  have hnm := (name_of_methodNamed Bd.named Bd.method).1
  have X0 : Stand p l e ({ frames := 2, cells := 0, slots := 0, locals := 24 } : Room) s m #[(.ref r0), (.long q1), (.long q2)] below meth c s₁ [] 0 0 := Stand.of_body Bd
  have e0 : s₁.heap = h0 := by rw [← hh, Bd.state]; rfl
  have N0 := Fr.nil n0
  have pre0 : ∀ t, Steps p.tables e below (s₁.setTop (mkF m 0 #[.val (.ref r0), .val (.long q1), .second, .val (.long q2), .second] [])) t → Steps p.tables e below (s₁.setTop (entryFrame m #[(.ref r0), (.long q1), (.long q2)] 5)) t := fun t k => castTop (ef_1 m r0 q1 q2) k
  obtain ⟨_, _, ⟨T1, L1, k1, n1⟩, -, X1, ⟨Lc1, hQ1, l1, y1, z1⟩, st1⟩ := X0.specialBack hx (y := (⟨"java/lang/Record", "<init>", "()V"⟩ : MethodName)) rfl hown (mvT hZ (hw _ (List.mem_of_getElem? (i := 6) rfl))) (mvT hZ (hw _ (List.mem_of_getElem? (i := 7) rfl))) (mvT hZ (hw _ (List.mem_of_getElem? (i := 10) rfl))) (by decide) (backOf (W := 0) (rm2 l Z a0 hw [] r0 h0 n0 Z0) hZ (hw _ (List.mem_of_getElem? (i := 10) rfl)) (hw _ (List.mem_of_getElem? (i := 9) rfl)) (by decide) (by decide)) (g := (mkF m 1 #[.val (.ref r0), .val (.long q1), .second, .val (.long q2), .second] [(.ref r0)])) rfl (by rw [hml]; rfl) (Steps.refl _) (a := r0) (argsL := []) (rest := []) (lenOf pd_1_0 rfl) rfl (by show 2 * 0 + _ ≤ _; exact Nat.le_of_eq rfl) (hb hby d1_1) (fun _ _ => ⟨rfl, e0, (by decide : 0 + 0 ≤ _), (by decide : 0 + 0 ≤ _)⟩)
  dsimp only [Pt.U, Pt.locs, Pt.cells, Pt.slots] at X1 l1 y1 z1 st1 hQ1
  subst l1 y1 z1
  obtain ⟨rfl, rfl, e1⟩ := hQ1
  try rw [List.append_nil] at X1
  obtain ⟨T2, h2, X2, e2, W2, st2⟩ := putF X1 hx hZ hown (host := "") (Or.inl (hw _ (List.mem_of_getElem? (i := 14) rfl))) Via.refl e1 F_partitionMaxBytes_r0 E_r0 (Or.inr ⟨(hw _ (List.mem_of_getElem? (i := 15) rfl)), rfl, hnm⟩) (hw _ (List.mem_of_getElem? (i := 1) rfl)) (ty := .long) (by decide) rfl rfl (g := (mkF m 6 #[.val (.ref r0), .val (.long q1), .second, .val (.long q2), .second] [(.long q1), (.ref r0)])) rfl rfl (hb hby d1_6)
  have Fw2 := F_partitionMaxBytes_r0.same W2
  have N2 := Fr.snoc X2 N0 g_r0
  obtain ⟨T3, h3, X3, e3, W3, st3⟩ := putF X2 hx hZ hown (host := "") (Or.inl (hw _ (List.mem_of_getElem? (i := 16) rfl))) Via.refl e2 (F_logicalPartitionMaxBytes_r0.other W2 (Or.inr (slot_ne (Or.inr (hw _ (List.mem_of_getElem? (i := 17) rfl))) (Or.inr (hw _ (List.mem_of_getElem? (i := 15) rfl))) (by decide) (t := .long) (t' := .long) (by decide) (by decide)))) (E_r0.wr W2) (Or.inr ⟨(hw _ (List.mem_of_getElem? (i := 17) rfl)), rfl, hnm⟩) (hw _ (List.mem_of_getElem? (i := 1) rfl)) (ty := .long) (by decide) rfl rfl (g := (mkF m 11 #[.val (.ref r0), .val (.long q1), .second, .val (.long q2), .second] [(.long q2), (.ref r0)])) rfl rfl (hb hby d1_11)
  have Fw3 := (F_logicalPartitionMaxBytes_r0.other W2 (Or.inr (slot_ne (Or.inr (hw _ (List.mem_of_getElem? (i := 17) rfl))) (Or.inr (hw _ (List.mem_of_getElem? (i := 15) rfl))) (by decide) (t := .long) (t' := .long) (by decide) (by decide)))).same W3
  have N3 := Fr.snoc X3 N2 g_r0
  obtain ⟨fs, hr, hrun, hended, hW, hsame⟩ := X3.leave (v := none) (fun _ => rfl)
  refine ⟨_, _, pre0 _ ?_, hrun, hended, _, _, rfl, ?_, ⟨_, rfl⟩, hW, hsame.mono (by decide) (by decide)⟩
  · show Steps p.tables e below (s₁.setTop (mkF m 0 #[.val (.ref r0), .val (.long q1), .second, .val (.long q2), .second] [])) _
    refine XS.aloadN X0.here hx rfl (hb hby d1_0) rfl rfl ?_
    show Steps p.tables e below (s₁.setTop (mkF m 1 #[.val (.ref r0), .val (.long q1), .second, .val (.long q2), .second] [(.ref r0)])) _
    refine st1.trans ?_
    show Steps p.tables e below (T1.setTop (mkF m 4 #[.val (.ref r0), .val (.long q1), .second, .val (.long q2), .second] [])) _
    refine XS.aloadN X1.here hx rfl (hb hby d1_4) rfl rfl ?_
    show Steps p.tables e below (T1.setTop (mkF m 5 #[.val (.ref r0), .val (.long q1), .second, .val (.long q2), .second] [(.ref r0)])) _
    refine XS.lloadN X1.here hx rfl (hb hby d1_5) rfl ?_
    show Steps p.tables e below (T1.setTop (mkF m 6 #[.val (.ref r0), .val (.long q1), .second, .val (.long q2), .second] [(.long q1), (.ref r0)])) _
    refine st2 _ ?_
    show Steps p.tables e below (T2.setTop (mkF m 9 #[.val (.ref r0), .val (.long q1), .second, .val (.long q2), .second] [])) _
    refine XS.aloadN X2.here hx rfl (hb hby d1_9) rfl rfl ?_
    show Steps p.tables e below (T2.setTop (mkF m 10 #[.val (.ref r0), .val (.long q1), .second, .val (.long q2), .second] [(.ref r0)])) _
    refine XS.lloadN X2.here hx rfl (hb hby d1_10) rfl ?_
    show Steps p.tables e below (T2.setTop (mkF m 11 #[.val (.ref r0), .val (.long q1), .second, .val (.long q2), .second] [(.long q2), (.ref r0)])) _
    refine st3 _ ?_
    show Steps p.tables e below (T3.setTop (mkF m 14 #[.val (.ref r0), .val (.long q1), .second, .val (.long q2), .second] [])) _
    exact X3.returnOut hx Bd.returns (hb hby d1_14) hr
  · show Q1 Z r0 q1 q2 u_partitionMaxBytes_r0 u_logicalPartitionMaxBytes_r0 h0 n0 _ T3.heap _
    rw [e3]
    exact ⟨rfl, N3, (((Keep.refl h0 [r0]).wr W2 (Or.inl (by simp))).wr W3 (Or.inl (by simp))), ((E_r0.wr W2).wr W3), (Fw2.other W3 (Or.inr (slot_ne (Or.inr (hw _ (List.mem_of_getElem? (i := 15) rfl))) (Or.inr (hw _ (List.mem_of_getElem? (i := 17) rfl))) (by decide) (t := .long) (t' := .long) (by decide) (by decide)))), Fw3⟩
theorem d4_0 : decode prog_17_method_2_code 0 = .ok (.new 8, 3) := by decide +kernel
theorem d4_3 : decode prog_17_method_2_code 3 = .ok (.dup, 1) := by decide +kernel
theorem d4_4 : decode prog_17_method_2_code 4 = .ok (.lload_n 1, 1) := by decide +kernel
theorem d4_5 : decode prog_17_method_2_code 5 = .ok (.aload_n 0, 1) := by decide +kernel
theorem d4_6 : decode prog_17_method_2_code 6 = .ok (.getfield 13, 3) := by decide +kernel
theorem d4_9 : decode prog_17_method_2_code 9 = .ok (.invokespecial 16, 3) := by decide +kernel
theorem d4_12 : decode prog_17_method_2_code 12 = .ok (.areturn, 1) := by decide +kernel
theorem pn_4 : plainName "com/example/key3/key3/store/Thresholds" = true := by first | (simp [plainName, overriddenIn]; done) | decide +kernel
theorem pd_4_0 : parseMethodDescriptor "(JJ)V" = some ⟨[.long, .long], none⟩ := by decide +kernel
theorem ef_4 (m : MethodId) (r0 : Addr) (q1 : Int64) : entryFrame m #[(.ref r0), (.long q1)] 3 = mkF m 0 #[.val (.ref r0), .val (.long q1), .second] [] := by first | (simp [entryFrame, mkF, argsToLocals, Value.category]; done) | rfl
def Q4 (Z : State) (r0 : Addr) (q1 : Int64) (w2 : Int64) (h0 : Heap) (n0 : Nat) (v : Option Value) (h : Heap) (L : List Loc) : Prop := ∃ b : Addr, v = some (.ref b) ∧ n0 ≤ b ∧ h0.size ≤ b ∧ Fr n0 L ∧ Keep h0 h [] ∧ Exa Z h b "com/example/key3/key3/store/Thresholds" ∧ Fld Z h b "com/example/key3/key3/store/Thresholds" "partitionMaxBytes" "J" (.long q1) ∧ Fld Z h b "com/example/key3/key3/store/Thresholds" "logicalPartitionMaxBytes" "J" (.long w2)
set_option maxRecDepth 65536 in
set_option maxHeartbeats 40000000 in
theorem rm4 (l : Launch) (Z : State) (a0 : Array Value) (hw : ∀ d ∈ tables_1, d.before a0 Z = true) (ws : List Jvm.Cond) (r0 : Addr) (q1 : Int64) (w2 : Int64) (h0 : Heap) (n0 : Nat) (Z0 : n0 ≤ h0.size) (F_logicalPartitionMaxBytes_r0 : Fld Z h0 r0 "com/example/key3/key3/store/Thresholds" "logicalPartitionMaxBytes" "J" (.long w2)) :
    MetFree l (⟨"com/example/key3/key3/store/Thresholds", "withPartitionMaxBytes", "(J)Lcom/example/key3/key3/store/Thresholds;"⟩ : MethodName) (head1 (Jvm.Cond.code (⟨"com/example/key3/key3/store/Thresholds", "withPartitionMaxBytes", "(J)Lcom/example/key3/key3/store/Thresholds;"⟩ : MethodName) prog_17_method_2_code 3 (some (.object "com/example/key3/key3/store/Thresholds")) :: ws) ({ frames := 3, cells := 1, slots := 2, locals := 41 } : Room)) (fun a U => a = #[(.ref r0), (.long q1)] ∧ Z.Warmed39 U.vm ∧ U.heap = h0) (fun _ _ _ _ _ => True) (fun _ U o U' => ∃ v L, o = .returned v ∧ Q4 Z r0 q1 w2 h0 n0 v U'.heap L ∧ FrameEnd U o U' L ({ frames := 3, cells := 1, slots := 2, locals := 41 } : Room).cells ({ frames := 3, cells := 1, slots := 2, locals := 41 } : Room).slots) := by
  refine MetFree.of_bodySF (plainFor_of_name pn_4) hisR ?_
  intro p e s m args below meth c s₁ Bd hml0 hP hK
  obtain ⟨rfl, hZ, hh⟩ := hP
  have hx := Bd.exec
  have hby := Bd.bytes
  have hml : c.maxLocals = 3 := hml0
  have hown : s.vm.findClass "com/example/key3/key3/store/Thresholds" = some m.cls := findClass_of_methodNamed Bd.named
  have hnm := (name_of_methodNamed Bd.named Bd.method).1
  have X0 : Stand p l e ({ frames := 3, cells := 1, slots := 2, locals := 41 } : Room) s m #[(.ref r0), (.long q1)] below meth c s₁ [] 0 0 := Stand.of_body Bd
  have e0 : s₁.heap = h0 := by rw [← hh, Bd.state]; rfl
  have N0 := Fr.nil n0
  have pre0 : ∀ t, Steps p.tables e below (s₁.setTop (mkF m 0 #[.val (.ref r0), .val (.long q1), .second] [])) t → Steps p.tables e below (s₁.setTop (entryFrame m #[(.ref r0), (.long q1)] 3)) t := fun t k => castTop (ef_4 m r0 q1) k
  obtain ⟨T1, h1, X1, e1, E1, A1, D1, -, st1⟩ := newO X0 hx hZ hown (hw _ (List.mem_of_getElem? (i := 23) rfl)) (hw _ (List.mem_of_getElem? (i := 1) rfl)) (hw _ (List.mem_of_getElem? (i := 2) rfl)) e0 (g := (mkF m 0 #[.val (.ref r0), .val (.long q1), .second] [])) rfl (hb hby d4_0) (by decide) (by decide)
  obtain ⟨b1, g1⟩ : ∃ z, z = h0.size := ⟨_, rfl⟩
  rw [← g1] at A1 D1 st1
  have g_b1 : n0 ≤ b1 := Nat.le_trans Z0 (Nat.le_of_eq g1.symm)
  have sz_b1 : h0.size ≤ b1 := Nat.le_trans (Keep.refl h0 []).1 (Nat.le_of_eq g1.symm)
  have F_partitionMaxBytes_b1 : Fld Z h1 b1 "com/example/key3/key3/store/Thresholds" "partitionMaxBytes" "J" (.long (0 : Int64)) := D1 (Or.inr (hw _ (List.mem_of_getElem? (i := 15) rfl))) (ty := .long) (by decide)
  have F_logicalPartitionMaxBytes_b1 : Fld Z h1 b1 "com/example/key3/key3/store/Thresholds" "logicalPartitionMaxBytes" "J" (.long (0 : Int64)) := D1 (Or.inr (hw _ (List.mem_of_getElem? (i := 17) rfl))) (ty := .long) (by decide)
  obtain ⟨T3, X3, e3, st3⟩ := getF X1 hx hZ hown (host := "") (Or.inl (hw _ (List.mem_of_getElem? (i := 16) rfl))) Via.refl e1 (F_logicalPartitionMaxBytes_r0.ext E1) (g := (mkF m 6 #[.val (.ref r0), .val (.long q1), .second] [(.ref r0), (.long q1), (.ref b1), (.ref b1)])) rfl rfl (hb hby d4_6)
  obtain ⟨_, _, ⟨T4, L4, k4, n4⟩, -, X4, ⟨Lc4, hQ4, l4, y4, z4⟩, st4⟩ := X3.specialBack hx (y := (⟨"com/example/key3/key3/store/Thresholds", "<init>", "(JJ)V"⟩ : MethodName)) rfl hown (mvT hZ (hw _ (List.mem_of_getElem? (i := 24) rfl))) (mvT hZ (hw _ (List.mem_of_getElem? (i := 4) rfl))) (mvT hZ (hw _ (List.mem_of_getElem? (i := 5) rfl))) (by decide) (backOf (W := 1) (rm1 l Z a0 hw [] b1 q1 w2 (.long (0 : Int64)) (.long (0 : Int64)) h1 n0 (Nat.le_trans Z0 E1.1) A1 F_partitionMaxBytes_b1 g_b1 F_logicalPartitionMaxBytes_b1) hZ (hw _ (List.mem_of_getElem? (i := 5) rfl)) (hw _ (List.mem_of_getElem? (i := 2) rfl)) (by decide) (by decide)) (g := (mkF m 9 #[.val (.ref r0), .val (.long q1), .second] [(.long w2), (.long q1), (.ref b1), (.ref b1)])) rfl (by rw [hml]; rfl) (Steps.refl _) (a := b1) (argsL := [(.long q1), (.long w2)]) (rest := [(.ref b1)]) (lenOf pd_4_0 rfl) rfl (by show 2 * 0 + _ ≤ _; exact Nat.le_of_eq rfl) (hb hby d4_9) (fun _ _ => ⟨rfl, e3, (by decide : 1 + 0 ≤ _), (by decide : 2 + 0 ≤ _)⟩)
  dsimp only [Pt.U, Pt.locs, Pt.cells, Pt.slots] at X4 l4 y4 z4 st4 hQ4
  subst l4 y4 z4
  obtain ⟨rfl, N4q, K4, G4_0, G4_1, G4_2⟩ := hQ4
  have N4 := Fr.app N0 N4q
  obtain ⟨fs, hr, hrun, hended, hW, hsame⟩ := X4.leave (v := some (.ref b1)) (fun h => by rw [Bd.returns] at h; cases h)
  refine ⟨_, _, pre0 _ ?_, hrun, hended, _, _, rfl, ?_, ⟨_, rfl⟩, hW, hsame.mono (by decide) (by decide)⟩
  · show Steps p.tables e below (s₁.setTop (mkF m 0 #[.val (.ref r0), .val (.long q1), .second] [])) _
    refine st1 _ ?_
    show Steps p.tables e below (T1.setTop (mkF m 3 #[.val (.ref r0), .val (.long q1), .second] [(.ref b1)])) _
    refine XS.dup X1.here hx rfl (hb hby d4_3) rfl rfl ?_
    show Steps p.tables e below (T1.setTop (mkF m 4 #[.val (.ref r0), .val (.long q1), .second] [(.ref b1), (.ref b1)])) _
    refine XS.lloadN X1.here hx rfl (hb hby d4_4) rfl ?_
    show Steps p.tables e below (T1.setTop (mkF m 5 #[.val (.ref r0), .val (.long q1), .second] [(.long q1), (.ref b1), (.ref b1)])) _
    refine XS.aloadN X1.here hx rfl (hb hby d4_5) rfl rfl ?_
    show Steps p.tables e below (T1.setTop (mkF m 6 #[.val (.ref r0), .val (.long q1), .second] [(.ref r0), (.long q1), (.ref b1), (.ref b1)])) _
    refine st3 _ ?_
    show Steps p.tables e below (T3.setTop (mkF m 9 #[.val (.ref r0), .val (.long q1), .second] [(.long w2), (.long q1), (.ref b1), (.ref b1)])) _
    refine st4.trans ?_
    show Steps p.tables e below (T4.setTop (mkF m 12 #[.val (.ref r0), .val (.long q1), .second] [(.ref b1)])) _
    exact retA X4 hx Bd.returns rfl rfl rfl (hb hby d4_12) hr
  · show Q4 Z r0 q1 w2 h0 n0 _ T4.heap _
    exact ⟨b1, rfl, g_b1, sz_b1, N4, (((Keep.refl h0 []).ext E1).trans K4 (allS (Or.inr sz_b1) all0)), G4_0, G4_1, G4_2⟩
theorem d5_0 : decode prog_17_method_7_code 0 = .ok (.aload_n 0, 1) := by decide +kernel
theorem d5_1 : decode prog_17_method_7_code 1 = .ok (.getfield 7, 3) := by decide +kernel
theorem d5_4 : decode prog_17_method_7_code 4 = .ok (.lreturn, 1) := by decide +kernel
theorem pn_5 : plainName "com/example/key3/key3/store/Thresholds" = true := by first | (simp [plainName, overriddenIn]; done) | decide +kernel
theorem ef_5 (m : MethodId) (r0 : Addr) : entryFrame m #[(.ref r0)] 1 = mkF m 0 #[.val (.ref r0)] [] := by first | (simp [entryFrame, mkF, argsToLocals, Value.category]; done) | rfl
def F5 (w1 : Int64) : Int64 := w1
def Q5 (Z : State) (r0 : Addr) (w1 : Int64) (h0 : Heap) (n0 : Nat) (v : Option Value) (h : Heap) (L : List Loc) : Prop := v = some (.long (F5 w1)) ∧ L = [] ∧ h = h0
set_option maxRecDepth 65536 in
set_option maxHeartbeats 40000000 in
theorem rm5 (l : Launch) (Z : State) (a0 : Array Value) (hw : ∀ d ∈ tables_1, d.before a0 Z = true) (ws : List Jvm.Cond) (r0 : Addr) (w1 : Int64) (h0 : Heap) (n0 : Nat) (Z0 : n0 ≤ h0.size) (F_partitionMaxBytes_r0 : Fld Z h0 r0 "com/example/key3/key3/store/Thresholds" "partitionMaxBytes" "J" (.long w1)) :
    MetFree l (⟨"com/example/key3/key3/store/Thresholds", "partitionMaxBytes", "()J"⟩ : MethodName) (head1 (Jvm.Cond.code (⟨"com/example/key3/key3/store/Thresholds", "partitionMaxBytes", "()J"⟩ : MethodName) prog_17_method_7_code 1 (some .long) :: ws) ({ frames := 0, cells := 0, slots := 0, locals := 0 } : Room)) (fun a U => a = #[(.ref r0)] ∧ Z.Warmed39 U.vm ∧ U.heap = h0) (fun _ _ _ _ _ => True) (fun _ U o U' => ∃ v L, o = .returned v ∧ Q5 Z r0 w1 h0 n0 v U'.heap L ∧ FrameEnd U o U' L ({ frames := 0, cells := 0, slots := 0, locals := 0 } : Room).cells ({ frames := 0, cells := 0, slots := 0, locals := 0 } : Room).slots) := by
  refine MetFree.of_bodySF (plainFor_of_name pn_5) hisR ?_
  intro p e s m args below meth c s₁ Bd hml0 hP hK
  obtain ⟨rfl, hZ, hh⟩ := hP
  have hx := Bd.exec
  have hby := Bd.bytes
  have hml : c.maxLocals = 1 := hml0
  have hown : s.vm.findClass "com/example/key3/key3/store/Thresholds" = some m.cls := findClass_of_methodNamed Bd.named
  have hnm := (name_of_methodNamed Bd.named Bd.method).1
  have X0 : Stand p l e ({ frames := 0, cells := 0, slots := 0, locals := 0 } : Room) s m #[(.ref r0)] below meth c s₁ [] 0 0 := Stand.of_body Bd
  have e0 : s₁.heap = h0 := by rw [← hh, Bd.state]; rfl
  have N0 := Fr.nil n0
  have pre0 : ∀ t, Steps p.tables e below (s₁.setTop (mkF m 0 #[.val (.ref r0)] [])) t → Steps p.tables e below (s₁.setTop (entryFrame m #[(.ref r0)] 1)) t := fun t k => castTop (ef_5 m r0) k
  obtain ⟨T2, X2, e2, st2⟩ := getF X0 hx hZ hown (host := "") (Or.inl (hw _ (List.mem_of_getElem? (i := 14) rfl))) Via.refl e0 F_partitionMaxBytes_r0 (g := (mkF m 1 #[.val (.ref r0)] [(.ref r0)])) rfl rfl (hb hby d5_1)
  have hfin : w1 = F5 w1 := by
    unfold F5
    first | rfl | (repeat' split) <;> rfl
  obtain ⟨fs, hr, hrun, hended, hW, hsame⟩ := X2.leave (v := some (.long w1)) (fun h => by rw [Bd.returns] at h; cases h)
  refine ⟨_, _, pre0 _ ?_, hrun, hended, _, _, rfl, ?_, ⟨_, rfl⟩, hW, hsame.mono (by decide) (by decide)⟩
  · show Steps p.tables e below (s₁.setTop (mkF m 0 #[.val (.ref r0)] [])) _
    refine XS.aloadN X0.here hx rfl (hb hby d5_0) rfl rfl ?_
    show Steps p.tables e below (s₁.setTop (mkF m 1 #[.val (.ref r0)] [(.ref r0)])) _
    refine st2 _ ?_
    show Steps p.tables e below (T2.setTop (mkF m 4 #[.val (.ref r0)] [(.long w1)])) _
    exact retJ X2 hx Bd.returns (hb hby d5_4) hr
  · show Q5 Z r0 w1 h0 n0 _ T2.heap _
    exact ⟨congrArg (fun z => some (Value.long z)) hfin, rfl, e2⟩
theorem d6_0 : decode prog_17_method_8_code 0 = .ok (.aload_n 0, 1) := by decide +kernel
theorem d6_1 : decode prog_17_method_8_code 1 = .ok (.getfield 13, 3) := by decide +kernel
theorem d6_4 : decode prog_17_method_8_code 4 = .ok (.lreturn, 1) := by decide +kernel
theorem pn_6 : plainName "com/example/key3/key3/store/Thresholds" = true := by first | (simp [plainName, overriddenIn]; done) | decide +kernel
theorem ef_6 (m : MethodId) (r0 : Addr) : entryFrame m #[(.ref r0)] 1 = mkF m 0 #[.val (.ref r0)] [] := by first | (simp [entryFrame, mkF, argsToLocals, Value.category]; done) | rfl
def F6 (w1 : Int64) : Int64 := w1
def Q6 (Z : State) (r0 : Addr) (w1 : Int64) (h0 : Heap) (n0 : Nat) (v : Option Value) (h : Heap) (L : List Loc) : Prop := v = some (.long (F6 w1)) ∧ L = [] ∧ h = h0
set_option maxRecDepth 65536 in
set_option maxHeartbeats 40000000 in
theorem rm6 (l : Launch) (Z : State) (a0 : Array Value) (hw : ∀ d ∈ tables_1, d.before a0 Z = true) (ws : List Jvm.Cond) (r0 : Addr) (w1 : Int64) (h0 : Heap) (n0 : Nat) (Z0 : n0 ≤ h0.size) (F_logicalPartitionMaxBytes_r0 : Fld Z h0 r0 "com/example/key3/key3/store/Thresholds" "logicalPartitionMaxBytes" "J" (.long w1)) :
    MetFree l (⟨"com/example/key3/key3/store/Thresholds", "logicalPartitionMaxBytes", "()J"⟩ : MethodName) (head1 (Jvm.Cond.code (⟨"com/example/key3/key3/store/Thresholds", "logicalPartitionMaxBytes", "()J"⟩ : MethodName) prog_17_method_8_code 1 (some .long) :: ws) ({ frames := 0, cells := 0, slots := 0, locals := 0 } : Room)) (fun a U => a = #[(.ref r0)] ∧ Z.Warmed39 U.vm ∧ U.heap = h0) (fun _ _ _ _ _ => True) (fun _ U o U' => ∃ v L, o = .returned v ∧ Q6 Z r0 w1 h0 n0 v U'.heap L ∧ FrameEnd U o U' L ({ frames := 0, cells := 0, slots := 0, locals := 0 } : Room).cells ({ frames := 0, cells := 0, slots := 0, locals := 0 } : Room).slots) := by
  refine MetFree.of_bodySF (plainFor_of_name pn_6) hisR ?_
  intro p e s m args below meth c s₁ Bd hml0 hP hK
  obtain ⟨rfl, hZ, hh⟩ := hP
  have hx := Bd.exec
  have hby := Bd.bytes
  have hml : c.maxLocals = 1 := hml0
  have hown : s.vm.findClass "com/example/key3/key3/store/Thresholds" = some m.cls := findClass_of_methodNamed Bd.named
  have hnm := (name_of_methodNamed Bd.named Bd.method).1
  have X0 : Stand p l e ({ frames := 0, cells := 0, slots := 0, locals := 0 } : Room) s m #[(.ref r0)] below meth c s₁ [] 0 0 := Stand.of_body Bd
  have e0 : s₁.heap = h0 := by rw [← hh, Bd.state]; rfl
  have N0 := Fr.nil n0
  have pre0 : ∀ t, Steps p.tables e below (s₁.setTop (mkF m 0 #[.val (.ref r0)] [])) t → Steps p.tables e below (s₁.setTop (entryFrame m #[(.ref r0)] 1)) t := fun t k => castTop (ef_6 m r0) k
  obtain ⟨T2, X2, e2, st2⟩ := getF X0 hx hZ hown (host := "") (Or.inl (hw _ (List.mem_of_getElem? (i := 16) rfl))) Via.refl e0 F_logicalPartitionMaxBytes_r0 (g := (mkF m 1 #[.val (.ref r0)] [(.ref r0)])) rfl rfl (hb hby d6_1)
  have hfin : w1 = F6 w1 := by
    unfold F6
    first | rfl | (repeat' split) <;> rfl
  obtain ⟨fs, hr, hrun, hended, hW, hsame⟩ := X2.leave (v := some (.long w1)) (fun h => by rw [Bd.returns] at h; cases h)
  refine ⟨_, _, pre0 _ ?_, hrun, hended, _, _, rfl, ?_, ⟨_, rfl⟩, hW, hsame.mono (by decide) (by decide)⟩
  · show Steps p.tables e below (s₁.setTop (mkF m 0 #[.val (.ref r0)] [])) _
    refine XS.aloadN X0.here hx rfl (hb hby d6_0) rfl rfl ?_
    show Steps p.tables e below (s₁.setTop (mkF m 1 #[.val (.ref r0)] [(.ref r0)])) _
    refine st2 _ ?_
    show Steps p.tables e below (T2.setTop (mkF m 4 #[.val (.ref r0)] [(.long w1)])) _
    exact retJ X2 hx Bd.returns (hb hby d6_4) hr
  · show Q6 Z r0 w1 h0 n0 _ T2.heap _
    exact ⟨congrArg (fun z => some (Value.long z)) hfin, rfl, e2⟩
theorem plain_law (q0 : Int64) (q1 : Int64) (q2 : Int64) (v6_s0 : Int32) (Hv6_s0 : v6_s0 = (if (F5 q2) = q2 then (1 : Int32) else (0 : Int32))) (v9_s0 : Int32) (Hv9_s0 : v9_s0 = (if (F6 q1) = q1 then (1 : Int32) else (0 : Int32))) (v12_s0 : Int32) (Hv12_s0 : v12_s0 = (if (F5 q0) = q0 then (1 : Int32) else (0 : Int32))) (v15_s0 : Int32) (Hv15_s0 : v15_s0 = (if (F6 q1) = q1 then (1 : Int32) else (0 : Int32))) (v20_s0 : Int32) (Hv20_s0 : v20_s0 = (if v6_s0 = (0 : Int32) then (0 : Int32) else (if v9_s0 = (0 : Int32) then (0 : Int32) else (if v12_s0 = (0 : Int32) then (0 : Int32) else (if v15_s0 = (0 : Int32) then (0 : Int32) else (1 : Int32)))))) : v20_s0 = 1 := by
  rw [Hv20_s0, Hv6_s0, Hv9_s0, Hv12_s0, Hv15_s0]
  unfold F5 F6
  simp

theorem pn_0 : plainName "com/example/key3/key3/store/ThresholdsWithPartitionMaxBytesPinLaw" = true := by first | (simp [plainName, overriddenIn]; done) | decide +kernel
theorem pd_0_0 : parseMethodDescriptor "(JJ)V" = some ⟨[.long, .long], none⟩ := by decide +kernel
theorem pd_0_1 : parseMethodDescriptor "(J)Lcom/example/key3/key3/store/Thresholds;" = some ⟨[.long], some (.object "com/example/key3/key3/store/Thresholds")⟩ := by decide +kernel
theorem pd_0_2 : parseMethodDescriptor "()J" = some ⟨[], some .long⟩ := by decide +kernel
theorem ef_0 (m : MethodId) (q0 : Int64) (q1 : Int64) (q2 : Int64) : entryFrame m #[(.long q0), (.long q1), (.long q2)] maxLocals = mkF m 0 #[.val (.long q0), .second, .val (.long q1), .second, .val (.long q2), .second, .unset, .unset, .unset, .unset, .unset, .unset] [] := by first | (simp [entryFrame, mkF, argsToLocals, Value.category, maxLocals]; done) | rfl
set_option maxRecDepth 65536 in
set_option maxHeartbeats 40000000 in
theorem rm0 (l : Launch) (Z : State) (a0 : Array Value) (hw : ∀ d ∈ tables_1, d.before a0 Z = true) (ws : List Jvm.Cond) (q0 : Int64) (q1 : Int64) (q2 : Int64) (h0 : Heap) (n0 : Nat) (Z0 : n0 ≤ h0.size) :
    MetFree l x (head1 (Jvm.Cond.code x code maxLocals ret :: ws) room_1) (fun a U => a = #[(.long q0), (.long q1), (.long q2)] ∧ Z.Warmed39 U.vm ∧ U.heap = h0) (fun _ _ _ _ _ => True) (fun _ U o U' => ∃ v L, o = .returned v ∧ (v = some (.int 1) ∧ Fr n0 L) ∧ FrameEnd U o U' L room_1.cells room_1.slots) := by
  refine MetFree.of_bodySF (plainFor_of_name pn_0) hisR ?_
  intro p e s m args below meth c s₁ Bd hml0 hP hK
  obtain ⟨rfl, hZ, hh⟩ := hP
  have hx := Bd.exec
  have hby := Bd.bytes
  have hml : c.maxLocals = 12 := hml0
  have hown : s.vm.findClass "com/example/key3/key3/store/ThresholdsWithPartitionMaxBytesPinLaw" = some m.cls := findClass_of_methodNamed Bd.named
  have hnm := (name_of_methodNamed Bd.named Bd.method).1
  have X0 : Stand p l e room_1 s m #[(.long q0), (.long q1), (.long q2)] below meth c s₁ [] 0 0 := Stand.of_body Bd
  have e0 : s₁.heap = h0 := by rw [← hh, Bd.state]; rfl
  have N0 := Fr.nil n0
  have pre0 : ∀ t, Steps p.tables e below (s₁.setTop (mkF m 0 #[.val (.long q0), .second, .val (.long q1), .second, .val (.long q2), .second, .unset, .unset, .unset, .unset, .unset, .unset] [])) t → Steps p.tables e below (s₁.setTop (entryFrame m #[(.long q0), (.long q1), (.long q2)] maxLocals)) t := fun t k => castTop (ef_0 m q0 q1 q2) k
  obtain ⟨T1, h1, X1, e1, E1, A1, D1, -, st1⟩ := newO X0 hx hZ hown (hw _ (List.mem_of_getElem? (i := 0) rfl)) (hw _ (List.mem_of_getElem? (i := 1) rfl)) (hw _ (List.mem_of_getElem? (i := 2) rfl)) e0 (g := (mkF m 0 #[.val (.long q0), .second, .val (.long q1), .second, .val (.long q2), .second, .unset, .unset, .unset, .unset, .unset, .unset] [])) rfl (hb hby at_0) (by decide) (by decide)
  obtain ⟨b1, g1⟩ : ∃ z, z = h0.size := ⟨_, rfl⟩
  rw [← g1] at A1 D1 st1
  have g_b1 : n0 ≤ b1 := Nat.le_trans Z0 (Nat.le_of_eq g1.symm)
  have sz_b1 : h0.size ≤ b1 := Nat.le_trans (Keep.refl h0 []).1 (Nat.le_of_eq g1.symm)
  have F_partitionMaxBytes_b1 : Fld Z h1 b1 "com/example/key3/key3/store/Thresholds" "partitionMaxBytes" "J" (.long (0 : Int64)) := D1 (Or.inr (hw _ (List.mem_of_getElem? (i := 15) rfl))) (ty := .long) (by decide)
  have F_logicalPartitionMaxBytes_b1 : Fld Z h1 b1 "com/example/key3/key3/store/Thresholds" "logicalPartitionMaxBytes" "J" (.long (0 : Int64)) := D1 (Or.inr (hw _ (List.mem_of_getElem? (i := 17) rfl))) (ty := .long) (by decide)
  obtain ⟨_, _, ⟨T2, L2, k2, n2⟩, -, X2, ⟨Lc2, hQ2, l2, y2, z2⟩, st2⟩ := X1.specialBack hx (y := (⟨"com/example/key3/key3/store/Thresholds", "<init>", "(JJ)V"⟩ : MethodName)) rfl hown (mvT hZ (hw _ (List.mem_of_getElem? (i := 3) rfl))) (mvT hZ (hw _ (List.mem_of_getElem? (i := 4) rfl))) (mvT hZ (hw _ (List.mem_of_getElem? (i := 5) rfl))) (by decide) (backOf (W := 1) (rm1 l Z a0 hw [] b1 q0 q1 (.long (0 : Int64)) (.long (0 : Int64)) h1 n0 (Nat.le_trans Z0 E1.1) A1 F_partitionMaxBytes_b1 g_b1 F_logicalPartitionMaxBytes_b1) hZ (hw _ (List.mem_of_getElem? (i := 5) rfl)) (hw _ (List.mem_of_getElem? (i := 2) rfl)) (by decide) (by decide)) (g := (mkF m 6 #[.val (.long q0), .second, .val (.long q1), .second, .val (.long q2), .second, .unset, .unset, .unset, .unset, .unset, .unset] [(.long q1), (.long q0), (.ref b1), (.ref b1)])) rfl (by rw [hml]; rfl) (Steps.refl _) (a := b1) (argsL := [(.long q0), (.long q1)]) (rest := [(.ref b1)]) (lenOf pd_0_0 rfl) rfl (by show 2 * 0 + _ ≤ _; exact Nat.le_of_eq rfl) (hb hby at_6) (fun _ _ => ⟨rfl, e1, (by decide : 1 + 0 ≤ _), (by decide : 2 + 0 ≤ _)⟩)
  dsimp only [Pt.U, Pt.locs, Pt.cells, Pt.slots] at X2 l2 y2 z2 st2 hQ2
  subst l2 y2 z2
  obtain ⟨rfl, N2q, K2, G2_0, G2_1, G2_2⟩ := hQ2
  have N2 := Fr.app N0 N2q
  obtain ⟨cq3, kq3, q3a, q3b, q3c⟩ := isOf hZ rfl G2_0
  obtain ⟨_, _, ⟨T3, L3, k3, n3⟩, -, X3, ⟨Lc3, hQ3, l3, y3, z3⟩, st3⟩ := X2.virtualBack hx (y := (⟨"com/example/key3/key3/store/Thresholds", "withPartitionMaxBytes", "(J)Lcom/example/key3/key3/store/Thresholds;"⟩ : MethodName)) (z := (⟨"com/example/key3/key3/store/Thresholds", "withPartitionMaxBytes", "(J)Lcom/example/key3/key3/store/Thresholds;"⟩ : MethodName)) hown (mvT hZ (hw _ (List.mem_of_getElem? (i := 18) rfl))) (mvT hZ (hw _ (List.mem_of_getElem? (i := 19) rfl))) (notFace_of_selects (args := #[]) (mvT hZ (hw _ (List.mem_of_getElem? (i := 21) rfl)))) (mvT hZ (hw _ (List.mem_of_getElem? (i := 21) rfl))) (mvT hZ (hw _ (List.mem_of_getElem? (i := 20) rfl))) (by decide) (backOf (W := 0) (rm4 l Z a0 hw [] b1 q2 q1 T2.heap n0 (Nat.le_trans (Nat.le_trans Z0 E1.1) K2.1) G2_2) hZ (hw _ (List.mem_of_getElem? (i := 22) rfl)) (hw _ (List.mem_of_getElem? (i := 2) rfl)) (by decide) (by decide)) q3a q3c (g := (mkF m 15 #[.val (.long q0), .second, .val (.long q1), .second, .val (.long q2), .second, .val (.ref b1), .unset, .unset, .unset, .unset, .unset] [(.long q2), (.ref b1)])) rfl (by rw [hml]; rfl) (Steps.refl _) (argsL := [(.long q2)]) (rest := []) (lenOf pd_0_1 rfl) rfl (by show 2 * 0 + _ ≤ _; exact Nat.le_of_eq rfl) (hb hby at_15) (fun _ _ => ⟨rfl, rfl, (by decide : 1 + 1 ≤ _), (by decide : 2 + 2 ≤ _)⟩)
  dsimp only [Pt.U, Pt.locs, Pt.cells, Pt.slots] at X3 l3 y3 z3 st3 hQ3
  subst l3 y3 z3
  obtain ⟨b3, rfl, g_b3, szz_b3, N3q, K3, G3_0, G3_1, G3_2⟩ := hQ3
  have N3 := Fr.app N2 N3q
  have sz_b3 : h0.size ≤ b3 := Nat.le_trans (((Keep.refl h0 []).ext E1).trans K2 (allS (Or.inr sz_b1) all0)).1 szz_b3
  obtain ⟨cq4, kq4, q4a, q4b, q4c⟩ := isOf hZ rfl G3_0
  obtain ⟨_, _, ⟨T4, L4, k4, n4⟩, -, X4, ⟨Lc4, hQ4, l4, y4, z4⟩, st4⟩ := X3.virtualBack hx (y := (⟨"com/example/key3/key3/store/Thresholds", "partitionMaxBytes", "()J"⟩ : MethodName)) (z := (⟨"com/example/key3/key3/store/Thresholds", "partitionMaxBytes", "()J"⟩ : MethodName)) hown (mvT hZ (hw _ (List.mem_of_getElem? (i := 25) rfl))) (mvT hZ (hw _ (List.mem_of_getElem? (i := 26) rfl))) (notFace_of_selects (args := #[]) (mvT hZ (hw _ (List.mem_of_getElem? (i := 28) rfl)))) (mvT hZ (hw _ (List.mem_of_getElem? (i := 28) rfl))) (mvT hZ (hw _ (List.mem_of_getElem? (i := 27) rfl))) (by decide) (backOf (W := 0) (rm5 l Z a0 hw [] b3 q2 T3.heap n0 (Nat.le_trans (Nat.le_trans (Nat.le_trans Z0 E1.1) K2.1) K3.1) G3_1) hZ (hw _ (List.mem_of_getElem? (i := 29) rfl)) (hw _ (List.mem_of_getElem? (i := 2) rfl)) (by decide) (by decide)) q4a q4c (g := (mkF m 29 #[.val (.long q0), .second, .val (.long q1), .second, .val (.long q2), .second, .val (.ref b1), .val (.ref b3), .unset, .unset, .unset, .unset] [(.ref b3)])) rfl (by rw [hml]; rfl) (Steps.refl _) (argsL := []) (rest := []) (lenOf pd_0_2 rfl) rfl (by show 2 * 0 + _ ≤ _; exact Nat.le_of_eq rfl) (hb hby at_29) (fun _ _ => ⟨rfl, rfl, (by decide : 2 + 0 ≤ _), (by decide : 4 + 0 ≤ _)⟩)
  dsimp only [Pt.U, Pt.locs, Pt.cells, Pt.slots] at X4 l4 y4 z4 st4 hQ4
  subst l4 y4 z4
  obtain ⟨rfl, rfl, e4⟩ := hQ4
  try rw [List.append_nil] at X4
  obtain ⟨v6_s0, Hv6_s0⟩ : ∃ z : Int32, z = (if (F5 q2) = q2 then (1 : Int32) else (0 : Int32)) := ⟨_, rfl⟩
  obtain ⟨T6, X6, e6, st6⟩ := own_seg X4 T3.heap (mkF m 35 #[.val (.long q0), .second, .val (.long q1), .second, .val (.long q2), .second, .val (.ref b1), .val (.ref b3), .unset, .unset, .unset, .unset] [(.int (lcmpW (F5 q2) q2))]) (mkF m 43 #[.val (.long q0), .second, .val (.long q1), .second, .val (.long q2), .second, .val (.ref b1), .val (.ref b3), .unset, .unset, .unset, .unset] [(.int v6_s0)]) (by
    by_cases hc5 : (F5 q2) = q2
    · rw [if_pos hc5] at Hv6_s0
      refine ⟨T4, X4, e4, fun target kt => ?_⟩
      rw [Hv6_s0] at kt
      show Steps p.tables e below (T4.setTop (mkF m 35 #[.val (.long q0), .second, .val (.long q1), .second, .val (.long q2), .second, .val (.ref b1), .val (.ref b3), .unset, .unset, .unset, .unset] [(.int (lcmpW (F5 q2) q2))])) _
      refine XS.ifNo X4.here hx rfl (hb hby at_35) rfl ((if0 _ _).trans (teq ((lw_eq _ _).mpr hc5)).2) ?_
      show Steps p.tables e below (T4.setTop (mkF m 38 #[.val (.long q0), .second, .val (.long q1), .second, .val (.long q2), .second, .val (.ref b1), .val (.ref b3), .unset, .unset, .unset, .unset] [])) _
      refine XS.iconst X4.here hx rfl (hb hby at_38) ?_
      show Steps p.tables e below (T4.setTop (mkF m 39 #[.val (.long q0), .second, .val (.long q1), .second, .val (.long q2), .second, .val (.ref b1), .val (.ref b3), .unset, .unset, .unset, .unset] [(.int (1 : Int32))])) _
      refine XS.goto X4.here hx rfl (pc0 := 39) (pc' := 43) rfl (hb hby at_39) (by decide) (by decide) ?_
      exact kt
    · rw [if_neg hc5] at Hv6_s0
      refine ⟨T4, X4, e4, fun target kt => ?_⟩
      rw [Hv6_s0] at kt
      show Steps p.tables e below (T4.setTop (mkF m 35 #[.val (.long q0), .second, .val (.long q1), .second, .val (.long q2), .second, .val (.ref b1), .val (.ref b3), .unset, .unset, .unset, .unset] [(.int (lcmpW (F5 q2) q2))])) _
      refine XS.ifYes X4.here hx rfl (pc0 := 35) (pc' := 42) rfl (hb hby at_35) rfl ((if0 _ _).trans (feq (fun q => hc5 ((lw_eq _ _).mp q))).2) (by decide) (by decide) ?_
      show Steps p.tables e below (T4.setTop (mkF m 42 #[.val (.long q0), .second, .val (.long q1), .second, .val (.long q2), .second, .val (.ref b1), .val (.ref b3), .unset, .unset, .unset, .unset] [])) _
      refine XS.iconst X4.here hx rfl (hb hby at_42) ?_
      exact kt)
  obtain ⟨cq7, kq7, q7a, q7b, q7c⟩ := isOf hZ e6 G3_0
  obtain ⟨_, _, ⟨T7, L7, k7, n7⟩, -, X7, ⟨Lc7, hQ7, l7, y7, z7⟩, st7⟩ := X6.virtualBack hx (y := (⟨"com/example/key3/key3/store/Thresholds", "logicalPartitionMaxBytes", "()J"⟩ : MethodName)) (z := (⟨"com/example/key3/key3/store/Thresholds", "logicalPartitionMaxBytes", "()J"⟩ : MethodName)) hown (mvT hZ (hw _ (List.mem_of_getElem? (i := 30) rfl))) (mvT hZ (hw _ (List.mem_of_getElem? (i := 31) rfl))) (notFace_of_selects (args := #[]) (mvT hZ (hw _ (List.mem_of_getElem? (i := 33) rfl)))) (mvT hZ (hw _ (List.mem_of_getElem? (i := 33) rfl))) (mvT hZ (hw _ (List.mem_of_getElem? (i := 32) rfl))) (by decide) (backOf (W := 0) (rm6 l Z a0 hw [] b3 q1 T3.heap n0 (Nat.le_trans (Nat.le_trans (Nat.le_trans Z0 E1.1) K2.1) K3.1) G3_2) hZ (hw _ (List.mem_of_getElem? (i := 34) rfl)) (hw _ (List.mem_of_getElem? (i := 2) rfl)) (by decide) (by decide)) q7a q7c (g := (mkF m 47 #[.val (.long q0), .second, .val (.long q1), .second, .val (.long q2), .second, .val (.ref b1), .val (.ref b3), .val (.int v6_s0), .unset, .unset, .unset] [(.ref b3)])) rfl (by rw [hml]; rfl) (Steps.refl _) (argsL := []) (rest := []) (lenOf pd_0_2 rfl) rfl (by show 2 * 0 + _ ≤ _; exact Nat.le_of_eq rfl) (hb hby at_47) (fun _ _ => ⟨rfl, e6, (by decide : 2 + 0 ≤ _), (by decide : 4 + 0 ≤ _)⟩)
  dsimp only [Pt.U, Pt.locs, Pt.cells, Pt.slots] at X7 l7 y7 z7 st7 hQ7
  subst l7 y7 z7
  obtain ⟨rfl, rfl, e7⟩ := hQ7
  try rw [List.append_nil] at X7
  obtain ⟨v9_s0, Hv9_s0⟩ : ∃ z : Int32, z = (if (F6 q1) = q1 then (1 : Int32) else (0 : Int32)) := ⟨_, rfl⟩
  obtain ⟨T9, X9, e9, st9⟩ := own_seg X7 T3.heap (mkF m 52 #[.val (.long q0), .second, .val (.long q1), .second, .val (.long q2), .second, .val (.ref b1), .val (.ref b3), .val (.int v6_s0), .unset, .unset, .unset] [(.int (lcmpW (F6 q1) q1))]) (mkF m 60 #[.val (.long q0), .second, .val (.long q1), .second, .val (.long q2), .second, .val (.ref b1), .val (.ref b3), .val (.int v6_s0), .unset, .unset, .unset] [(.int v9_s0)]) (by
    by_cases hc8 : (F6 q1) = q1
    · rw [if_pos hc8] at Hv9_s0
      refine ⟨T7, X7, e7, fun target kt => ?_⟩
      rw [Hv9_s0] at kt
      show Steps p.tables e below (T7.setTop (mkF m 52 #[.val (.long q0), .second, .val (.long q1), .second, .val (.long q2), .second, .val (.ref b1), .val (.ref b3), .val (.int v6_s0), .unset, .unset, .unset] [(.int (lcmpW (F6 q1) q1))])) _
      refine XS.ifNo X7.here hx rfl (hb hby at_52) rfl ((if0 _ _).trans (teq ((lw_eq _ _).mpr hc8)).2) ?_
      show Steps p.tables e below (T7.setTop (mkF m 55 #[.val (.long q0), .second, .val (.long q1), .second, .val (.long q2), .second, .val (.ref b1), .val (.ref b3), .val (.int v6_s0), .unset, .unset, .unset] [])) _
      refine XS.iconst X7.here hx rfl (hb hby at_55) ?_
      show Steps p.tables e below (T7.setTop (mkF m 56 #[.val (.long q0), .second, .val (.long q1), .second, .val (.long q2), .second, .val (.ref b1), .val (.ref b3), .val (.int v6_s0), .unset, .unset, .unset] [(.int (1 : Int32))])) _
      refine XS.goto X7.here hx rfl (pc0 := 56) (pc' := 60) rfl (hb hby at_56) (by decide) (by decide) ?_
      exact kt
    · rw [if_neg hc8] at Hv9_s0
      refine ⟨T7, X7, e7, fun target kt => ?_⟩
      rw [Hv9_s0] at kt
      show Steps p.tables e below (T7.setTop (mkF m 52 #[.val (.long q0), .second, .val (.long q1), .second, .val (.long q2), .second, .val (.ref b1), .val (.ref b3), .val (.int v6_s0), .unset, .unset, .unset] [(.int (lcmpW (F6 q1) q1))])) _
      refine XS.ifYes X7.here hx rfl (pc0 := 52) (pc' := 59) rfl (hb hby at_52) rfl ((if0 _ _).trans (feq (fun q => hc8 ((lw_eq _ _).mp q))).2) (by decide) (by decide) ?_
      show Steps p.tables e below (T7.setTop (mkF m 59 #[.val (.long q0), .second, .val (.long q1), .second, .val (.long q2), .second, .val (.ref b1), .val (.ref b3), .val (.int v6_s0), .unset, .unset, .unset] [])) _
      refine XS.iconst X7.here hx rfl (hb hby at_59) ?_
      exact kt)
  obtain ⟨cq10, kq10, q10a, q10b, q10c⟩ := isOf hZ e9 (G2_0.keep K3)
  obtain ⟨_, _, ⟨T10, L10, k10, n10⟩, -, X10, ⟨Lc10, hQ10, l10, y10, z10⟩, st10⟩ := X9.virtualBack hx (y := (⟨"com/example/key3/key3/store/Thresholds", "partitionMaxBytes", "()J"⟩ : MethodName)) (z := (⟨"com/example/key3/key3/store/Thresholds", "partitionMaxBytes", "()J"⟩ : MethodName)) hown (mvT hZ (hw _ (List.mem_of_getElem? (i := 25) rfl))) (mvT hZ (hw _ (List.mem_of_getElem? (i := 26) rfl))) (notFace_of_selects (args := #[]) (mvT hZ (hw _ (List.mem_of_getElem? (i := 28) rfl)))) (mvT hZ (hw _ (List.mem_of_getElem? (i := 28) rfl))) (mvT hZ (hw _ (List.mem_of_getElem? (i := 27) rfl))) (by decide) (backOf (W := 0) (rm5 l Z a0 hw [] b1 q0 T3.heap n0 (Nat.le_trans (Nat.le_trans (Nat.le_trans Z0 E1.1) K2.1) K3.1) (G2_1.keep K3 nin0)) hZ (hw _ (List.mem_of_getElem? (i := 29) rfl)) (hw _ (List.mem_of_getElem? (i := 2) rfl)) (by decide) (by decide)) q10a q10c (g := (mkF m 64 #[.val (.long q0), .second, .val (.long q1), .second, .val (.long q2), .second, .val (.ref b1), .val (.ref b3), .val (.int v6_s0), .val (.int v9_s0), .unset, .unset] [(.ref b1)])) rfl (by rw [hml]; rfl) (Steps.refl _) (argsL := []) (rest := []) (lenOf pd_0_2 rfl) rfl (by show 2 * 0 + _ ≤ _; exact Nat.le_of_eq rfl) (hb hby at_64) (fun _ _ => ⟨rfl, e9, (by decide : 2 + 0 ≤ _), (by decide : 4 + 0 ≤ _)⟩)
  dsimp only [Pt.U, Pt.locs, Pt.cells, Pt.slots] at X10 l10 y10 z10 st10 hQ10
  subst l10 y10 z10
  obtain ⟨rfl, rfl, e10⟩ := hQ10
  try rw [List.append_nil] at X10
  obtain ⟨v12_s0, Hv12_s0⟩ : ∃ z : Int32, z = (if (F5 q0) = q0 then (1 : Int32) else (0 : Int32)) := ⟨_, rfl⟩
  obtain ⟨T12, X12, e12, st12⟩ := own_seg X10 T3.heap (mkF m 69 #[.val (.long q0), .second, .val (.long q1), .second, .val (.long q2), .second, .val (.ref b1), .val (.ref b3), .val (.int v6_s0), .val (.int v9_s0), .unset, .unset] [(.int (lcmpW (F5 q0) q0))]) (mkF m 77 #[.val (.long q0), .second, .val (.long q1), .second, .val (.long q2), .second, .val (.ref b1), .val (.ref b3), .val (.int v6_s0), .val (.int v9_s0), .unset, .unset] [(.int v12_s0)]) (by
    by_cases hc11 : (F5 q0) = q0
    · rw [if_pos hc11] at Hv12_s0
      refine ⟨T10, X10, e10, fun target kt => ?_⟩
      rw [Hv12_s0] at kt
      show Steps p.tables e below (T10.setTop (mkF m 69 #[.val (.long q0), .second, .val (.long q1), .second, .val (.long q2), .second, .val (.ref b1), .val (.ref b3), .val (.int v6_s0), .val (.int v9_s0), .unset, .unset] [(.int (lcmpW (F5 q0) q0))])) _
      refine XS.ifNo X10.here hx rfl (hb hby at_69) rfl ((if0 _ _).trans (teq ((lw_eq _ _).mpr hc11)).2) ?_
      show Steps p.tables e below (T10.setTop (mkF m 72 #[.val (.long q0), .second, .val (.long q1), .second, .val (.long q2), .second, .val (.ref b1), .val (.ref b3), .val (.int v6_s0), .val (.int v9_s0), .unset, .unset] [])) _
      refine XS.iconst X10.here hx rfl (hb hby at_72) ?_
      show Steps p.tables e below (T10.setTop (mkF m 73 #[.val (.long q0), .second, .val (.long q1), .second, .val (.long q2), .second, .val (.ref b1), .val (.ref b3), .val (.int v6_s0), .val (.int v9_s0), .unset, .unset] [(.int (1 : Int32))])) _
      refine XS.goto X10.here hx rfl (pc0 := 73) (pc' := 77) rfl (hb hby at_73) (by decide) (by decide) ?_
      exact kt
    · rw [if_neg hc11] at Hv12_s0
      refine ⟨T10, X10, e10, fun target kt => ?_⟩
      rw [Hv12_s0] at kt
      show Steps p.tables e below (T10.setTop (mkF m 69 #[.val (.long q0), .second, .val (.long q1), .second, .val (.long q2), .second, .val (.ref b1), .val (.ref b3), .val (.int v6_s0), .val (.int v9_s0), .unset, .unset] [(.int (lcmpW (F5 q0) q0))])) _
      refine XS.ifYes X10.here hx rfl (pc0 := 69) (pc' := 76) rfl (hb hby at_69) rfl ((if0 _ _).trans (feq (fun q => hc11 ((lw_eq _ _).mp q))).2) (by decide) (by decide) ?_
      show Steps p.tables e below (T10.setTop (mkF m 76 #[.val (.long q0), .second, .val (.long q1), .second, .val (.long q2), .second, .val (.ref b1), .val (.ref b3), .val (.int v6_s0), .val (.int v9_s0), .unset, .unset] [])) _
      refine XS.iconst X10.here hx rfl (hb hby at_76) ?_
      exact kt)
  obtain ⟨cq13, kq13, q13a, q13b, q13c⟩ := isOf hZ e12 (G2_0.keep K3)
  obtain ⟨_, _, ⟨T13, L13, k13, n13⟩, -, X13, ⟨Lc13, hQ13, l13, y13, z13⟩, st13⟩ := X12.virtualBack hx (y := (⟨"com/example/key3/key3/store/Thresholds", "logicalPartitionMaxBytes", "()J"⟩ : MethodName)) (z := (⟨"com/example/key3/key3/store/Thresholds", "logicalPartitionMaxBytes", "()J"⟩ : MethodName)) hown (mvT hZ (hw _ (List.mem_of_getElem? (i := 30) rfl))) (mvT hZ (hw _ (List.mem_of_getElem? (i := 31) rfl))) (notFace_of_selects (args := #[]) (mvT hZ (hw _ (List.mem_of_getElem? (i := 33) rfl)))) (mvT hZ (hw _ (List.mem_of_getElem? (i := 33) rfl))) (mvT hZ (hw _ (List.mem_of_getElem? (i := 32) rfl))) (by decide) (backOf (W := 0) (rm6 l Z a0 hw [] b1 q1 T3.heap n0 (Nat.le_trans (Nat.le_trans (Nat.le_trans Z0 E1.1) K2.1) K3.1) (G2_2.keep K3 nin0)) hZ (hw _ (List.mem_of_getElem? (i := 34) rfl)) (hw _ (List.mem_of_getElem? (i := 2) rfl)) (by decide) (by decide)) q13a q13c (g := (mkF m 81 #[.val (.long q0), .second, .val (.long q1), .second, .val (.long q2), .second, .val (.ref b1), .val (.ref b3), .val (.int v6_s0), .val (.int v9_s0), .val (.int v12_s0), .unset] [(.ref b1)])) rfl (by rw [hml]; rfl) (Steps.refl _) (argsL := []) (rest := []) (lenOf pd_0_2 rfl) rfl (by show 2 * 0 + _ ≤ _; exact Nat.le_of_eq rfl) (hb hby at_81) (fun _ _ => ⟨rfl, e12, (by decide : 2 + 0 ≤ _), (by decide : 4 + 0 ≤ _)⟩)
  dsimp only [Pt.U, Pt.locs, Pt.cells, Pt.slots] at X13 l13 y13 z13 st13 hQ13
  subst l13 y13 z13
  obtain ⟨rfl, rfl, e13⟩ := hQ13
  try rw [List.append_nil] at X13
  obtain ⟨v15_s0, Hv15_s0⟩ : ∃ z : Int32, z = (if (F6 q1) = q1 then (1 : Int32) else (0 : Int32)) := ⟨_, rfl⟩
  obtain ⟨T15, X15, e15, st15⟩ := own_seg X13 T3.heap (mkF m 86 #[.val (.long q0), .second, .val (.long q1), .second, .val (.long q2), .second, .val (.ref b1), .val (.ref b3), .val (.int v6_s0), .val (.int v9_s0), .val (.int v12_s0), .unset] [(.int (lcmpW (F6 q1) q1))]) (mkF m 94 #[.val (.long q0), .second, .val (.long q1), .second, .val (.long q2), .second, .val (.ref b1), .val (.ref b3), .val (.int v6_s0), .val (.int v9_s0), .val (.int v12_s0), .unset] [(.int v15_s0)]) (by
    by_cases hc14 : (F6 q1) = q1
    · rw [if_pos hc14] at Hv15_s0
      refine ⟨T13, X13, e13, fun target kt => ?_⟩
      rw [Hv15_s0] at kt
      show Steps p.tables e below (T13.setTop (mkF m 86 #[.val (.long q0), .second, .val (.long q1), .second, .val (.long q2), .second, .val (.ref b1), .val (.ref b3), .val (.int v6_s0), .val (.int v9_s0), .val (.int v12_s0), .unset] [(.int (lcmpW (F6 q1) q1))])) _
      refine XS.ifNo X13.here hx rfl (hb hby at_86) rfl ((if0 _ _).trans (teq ((lw_eq _ _).mpr hc14)).2) ?_
      show Steps p.tables e below (T13.setTop (mkF m 89 #[.val (.long q0), .second, .val (.long q1), .second, .val (.long q2), .second, .val (.ref b1), .val (.ref b3), .val (.int v6_s0), .val (.int v9_s0), .val (.int v12_s0), .unset] [])) _
      refine XS.iconst X13.here hx rfl (hb hby at_89) ?_
      show Steps p.tables e below (T13.setTop (mkF m 90 #[.val (.long q0), .second, .val (.long q1), .second, .val (.long q2), .second, .val (.ref b1), .val (.ref b3), .val (.int v6_s0), .val (.int v9_s0), .val (.int v12_s0), .unset] [(.int (1 : Int32))])) _
      refine XS.goto X13.here hx rfl (pc0 := 90) (pc' := 94) rfl (hb hby at_90) (by decide) (by decide) ?_
      exact kt
    · rw [if_neg hc14] at Hv15_s0
      refine ⟨T13, X13, e13, fun target kt => ?_⟩
      rw [Hv15_s0] at kt
      show Steps p.tables e below (T13.setTop (mkF m 86 #[.val (.long q0), .second, .val (.long q1), .second, .val (.long q2), .second, .val (.ref b1), .val (.ref b3), .val (.int v6_s0), .val (.int v9_s0), .val (.int v12_s0), .unset] [(.int (lcmpW (F6 q1) q1))])) _
      refine XS.ifYes X13.here hx rfl (pc0 := 86) (pc' := 93) rfl (hb hby at_86) rfl ((if0 _ _).trans (feq (fun q => hc14 ((lw_eq _ _).mp q))).2) (by decide) (by decide) ?_
      show Steps p.tables e below (T13.setTop (mkF m 93 #[.val (.long q0), .second, .val (.long q1), .second, .val (.long q2), .second, .val (.ref b1), .val (.ref b3), .val (.int v6_s0), .val (.int v9_s0), .val (.int v12_s0), .unset] [])) _
      refine XS.iconst X13.here hx rfl (hb hby at_93) ?_
      exact kt)
  obtain ⟨v20_s0, Hv20_s0⟩ : ∃ z : Int32, z = (if v6_s0 = (0 : Int32) then (0 : Int32) else (if v9_s0 = (0 : Int32) then (0 : Int32) else (if v12_s0 = (0 : Int32) then (0 : Int32) else (if v15_s0 = (0 : Int32) then (0 : Int32) else (1 : Int32))))) := ⟨_, rfl⟩
  obtain ⟨T20, X20, e20, st20⟩ := own_seg X15 T3.heap (mkF m 98 #[.val (.long q0), .second, .val (.long q1), .second, .val (.long q2), .second, .val (.ref b1), .val (.ref b3), .val (.int v6_s0), .val (.int v9_s0), .val (.int v12_s0), .val (.int v15_s0)] [(.int v6_s0)]) (mkF m 121 #[.val (.long q0), .second, .val (.long q1), .second, .val (.long q2), .second, .val (.ref b1), .val (.ref b3), .val (.int v6_s0), .val (.int v9_s0), .val (.int v12_s0), .val (.int v15_s0)] [(.int v20_s0)]) (by
    by_cases hc16 : v6_s0 = (0 : Int32)
    · rw [if_pos hc16] at Hv20_s0
      refine ⟨T15, X15, e15, fun target kt => ?_⟩
      rw [Hv20_s0] at kt
      show Steps p.tables e below (T15.setTop (mkF m 98 #[.val (.long q0), .second, .val (.long q1), .second, .val (.long q2), .second, .val (.ref b1), .val (.ref b3), .val (.int v6_s0), .val (.int v9_s0), .val (.int v12_s0), .val (.int v15_s0)] [(.int v6_s0)])) _
      refine XS.ifYes X15.here hx rfl (pc0 := 98) (pc' := 120) rfl (hb hby at_98) rfl ((if0 _ _).trans (teq hc16).1) (by decide) (by decide) ?_
      show Steps p.tables e below (T15.setTop (mkF m 120 #[.val (.long q0), .second, .val (.long q1), .second, .val (.long q2), .second, .val (.ref b1), .val (.ref b3), .val (.int v6_s0), .val (.int v9_s0), .val (.int v12_s0), .val (.int v15_s0)] [])) _
      refine XS.iconst X15.here hx rfl (hb hby at_120) ?_
      exact kt
    · by_cases hc17 : v9_s0 = (0 : Int32)
      · rw [if_neg hc16, if_pos hc17] at Hv20_s0
        refine ⟨T15, X15, e15, fun target kt => ?_⟩
        rw [Hv20_s0] at kt
        show Steps p.tables e below (T15.setTop (mkF m 98 #[.val (.long q0), .second, .val (.long q1), .second, .val (.long q2), .second, .val (.ref b1), .val (.ref b3), .val (.int v6_s0), .val (.int v9_s0), .val (.int v12_s0), .val (.int v15_s0)] [(.int v6_s0)])) _
        refine XS.ifNo X15.here hx rfl (hb hby at_98) rfl ((if0 _ _).trans (feq hc16).1) ?_
        show Steps p.tables e below (T15.setTop (mkF m 101 #[.val (.long q0), .second, .val (.long q1), .second, .val (.long q2), .second, .val (.ref b1), .val (.ref b3), .val (.int v6_s0), .val (.int v9_s0), .val (.int v12_s0), .val (.int v15_s0)] [])) _
        refine XS.iload X15.here hx rfl (hb hby at_101) rfl ?_
        show Steps p.tables e below (T15.setTop (mkF m 103 #[.val (.long q0), .second, .val (.long q1), .second, .val (.long q2), .second, .val (.ref b1), .val (.ref b3), .val (.int v6_s0), .val (.int v9_s0), .val (.int v12_s0), .val (.int v15_s0)] [(.int v9_s0)])) _
        refine XS.ifYes X15.here hx rfl (pc0 := 103) (pc' := 120) rfl (hb hby at_103) rfl ((if0 _ _).trans (teq hc17).1) (by decide) (by decide) ?_
        show Steps p.tables e below (T15.setTop (mkF m 120 #[.val (.long q0), .second, .val (.long q1), .second, .val (.long q2), .second, .val (.ref b1), .val (.ref b3), .val (.int v6_s0), .val (.int v9_s0), .val (.int v12_s0), .val (.int v15_s0)] [])) _
        refine XS.iconst X15.here hx rfl (hb hby at_120) ?_
        exact kt
      · by_cases hc18 : v12_s0 = (0 : Int32)
        · rw [if_neg hc16, if_neg hc17, if_pos hc18] at Hv20_s0
          refine ⟨T15, X15, e15, fun target kt => ?_⟩
          rw [Hv20_s0] at kt
          show Steps p.tables e below (T15.setTop (mkF m 98 #[.val (.long q0), .second, .val (.long q1), .second, .val (.long q2), .second, .val (.ref b1), .val (.ref b3), .val (.int v6_s0), .val (.int v9_s0), .val (.int v12_s0), .val (.int v15_s0)] [(.int v6_s0)])) _
          refine XS.ifNo X15.here hx rfl (hb hby at_98) rfl ((if0 _ _).trans (feq hc16).1) ?_
          show Steps p.tables e below (T15.setTop (mkF m 101 #[.val (.long q0), .second, .val (.long q1), .second, .val (.long q2), .second, .val (.ref b1), .val (.ref b3), .val (.int v6_s0), .val (.int v9_s0), .val (.int v12_s0), .val (.int v15_s0)] [])) _
          refine XS.iload X15.here hx rfl (hb hby at_101) rfl ?_
          show Steps p.tables e below (T15.setTop (mkF m 103 #[.val (.long q0), .second, .val (.long q1), .second, .val (.long q2), .second, .val (.ref b1), .val (.ref b3), .val (.int v6_s0), .val (.int v9_s0), .val (.int v12_s0), .val (.int v15_s0)] [(.int v9_s0)])) _
          refine XS.ifNo X15.here hx rfl (hb hby at_103) rfl ((if0 _ _).trans (feq hc17).1) ?_
          show Steps p.tables e below (T15.setTop (mkF m 106 #[.val (.long q0), .second, .val (.long q1), .second, .val (.long q2), .second, .val (.ref b1), .val (.ref b3), .val (.int v6_s0), .val (.int v9_s0), .val (.int v12_s0), .val (.int v15_s0)] [])) _
          refine XS.iload X15.here hx rfl (hb hby at_106) rfl ?_
          show Steps p.tables e below (T15.setTop (mkF m 108 #[.val (.long q0), .second, .val (.long q1), .second, .val (.long q2), .second, .val (.ref b1), .val (.ref b3), .val (.int v6_s0), .val (.int v9_s0), .val (.int v12_s0), .val (.int v15_s0)] [(.int v12_s0)])) _
          refine XS.ifYes X15.here hx rfl (pc0 := 108) (pc' := 120) rfl (hb hby at_108) rfl ((if0 _ _).trans (teq hc18).1) (by decide) (by decide) ?_
          show Steps p.tables e below (T15.setTop (mkF m 120 #[.val (.long q0), .second, .val (.long q1), .second, .val (.long q2), .second, .val (.ref b1), .val (.ref b3), .val (.int v6_s0), .val (.int v9_s0), .val (.int v12_s0), .val (.int v15_s0)] [])) _
          refine XS.iconst X15.here hx rfl (hb hby at_120) ?_
          exact kt
        · by_cases hc19 : v15_s0 = (0 : Int32)
          · rw [if_neg hc16, if_neg hc17, if_neg hc18, if_pos hc19] at Hv20_s0
            refine ⟨T15, X15, e15, fun target kt => ?_⟩
            rw [Hv20_s0] at kt
            show Steps p.tables e below (T15.setTop (mkF m 98 #[.val (.long q0), .second, .val (.long q1), .second, .val (.long q2), .second, .val (.ref b1), .val (.ref b3), .val (.int v6_s0), .val (.int v9_s0), .val (.int v12_s0), .val (.int v15_s0)] [(.int v6_s0)])) _
            refine XS.ifNo X15.here hx rfl (hb hby at_98) rfl ((if0 _ _).trans (feq hc16).1) ?_
            show Steps p.tables e below (T15.setTop (mkF m 101 #[.val (.long q0), .second, .val (.long q1), .second, .val (.long q2), .second, .val (.ref b1), .val (.ref b3), .val (.int v6_s0), .val (.int v9_s0), .val (.int v12_s0), .val (.int v15_s0)] [])) _
            refine XS.iload X15.here hx rfl (hb hby at_101) rfl ?_
            show Steps p.tables e below (T15.setTop (mkF m 103 #[.val (.long q0), .second, .val (.long q1), .second, .val (.long q2), .second, .val (.ref b1), .val (.ref b3), .val (.int v6_s0), .val (.int v9_s0), .val (.int v12_s0), .val (.int v15_s0)] [(.int v9_s0)])) _
            refine XS.ifNo X15.here hx rfl (hb hby at_103) rfl ((if0 _ _).trans (feq hc17).1) ?_
            show Steps p.tables e below (T15.setTop (mkF m 106 #[.val (.long q0), .second, .val (.long q1), .second, .val (.long q2), .second, .val (.ref b1), .val (.ref b3), .val (.int v6_s0), .val (.int v9_s0), .val (.int v12_s0), .val (.int v15_s0)] [])) _
            refine XS.iload X15.here hx rfl (hb hby at_106) rfl ?_
            show Steps p.tables e below (T15.setTop (mkF m 108 #[.val (.long q0), .second, .val (.long q1), .second, .val (.long q2), .second, .val (.ref b1), .val (.ref b3), .val (.int v6_s0), .val (.int v9_s0), .val (.int v12_s0), .val (.int v15_s0)] [(.int v12_s0)])) _
            refine XS.ifNo X15.here hx rfl (hb hby at_108) rfl ((if0 _ _).trans (feq hc18).1) ?_
            show Steps p.tables e below (T15.setTop (mkF m 111 #[.val (.long q0), .second, .val (.long q1), .second, .val (.long q2), .second, .val (.ref b1), .val (.ref b3), .val (.int v6_s0), .val (.int v9_s0), .val (.int v12_s0), .val (.int v15_s0)] [])) _
            refine XS.iload X15.here hx rfl (hb hby at_111) rfl ?_
            show Steps p.tables e below (T15.setTop (mkF m 113 #[.val (.long q0), .second, .val (.long q1), .second, .val (.long q2), .second, .val (.ref b1), .val (.ref b3), .val (.int v6_s0), .val (.int v9_s0), .val (.int v12_s0), .val (.int v15_s0)] [(.int v15_s0)])) _
            refine XS.ifYes X15.here hx rfl (pc0 := 113) (pc' := 120) rfl (hb hby at_113) rfl ((if0 _ _).trans (teq hc19).1) (by decide) (by decide) ?_
            show Steps p.tables e below (T15.setTop (mkF m 120 #[.val (.long q0), .second, .val (.long q1), .second, .val (.long q2), .second, .val (.ref b1), .val (.ref b3), .val (.int v6_s0), .val (.int v9_s0), .val (.int v12_s0), .val (.int v15_s0)] [])) _
            refine XS.iconst X15.here hx rfl (hb hby at_120) ?_
            exact kt
          · rw [if_neg hc16, if_neg hc17, if_neg hc18, if_neg hc19] at Hv20_s0
            refine ⟨T15, X15, e15, fun target kt => ?_⟩
            rw [Hv20_s0] at kt
            show Steps p.tables e below (T15.setTop (mkF m 98 #[.val (.long q0), .second, .val (.long q1), .second, .val (.long q2), .second, .val (.ref b1), .val (.ref b3), .val (.int v6_s0), .val (.int v9_s0), .val (.int v12_s0), .val (.int v15_s0)] [(.int v6_s0)])) _
            refine XS.ifNo X15.here hx rfl (hb hby at_98) rfl ((if0 _ _).trans (feq hc16).1) ?_
            show Steps p.tables e below (T15.setTop (mkF m 101 #[.val (.long q0), .second, .val (.long q1), .second, .val (.long q2), .second, .val (.ref b1), .val (.ref b3), .val (.int v6_s0), .val (.int v9_s0), .val (.int v12_s0), .val (.int v15_s0)] [])) _
            refine XS.iload X15.here hx rfl (hb hby at_101) rfl ?_
            show Steps p.tables e below (T15.setTop (mkF m 103 #[.val (.long q0), .second, .val (.long q1), .second, .val (.long q2), .second, .val (.ref b1), .val (.ref b3), .val (.int v6_s0), .val (.int v9_s0), .val (.int v12_s0), .val (.int v15_s0)] [(.int v9_s0)])) _
            refine XS.ifNo X15.here hx rfl (hb hby at_103) rfl ((if0 _ _).trans (feq hc17).1) ?_
            show Steps p.tables e below (T15.setTop (mkF m 106 #[.val (.long q0), .second, .val (.long q1), .second, .val (.long q2), .second, .val (.ref b1), .val (.ref b3), .val (.int v6_s0), .val (.int v9_s0), .val (.int v12_s0), .val (.int v15_s0)] [])) _
            refine XS.iload X15.here hx rfl (hb hby at_106) rfl ?_
            show Steps p.tables e below (T15.setTop (mkF m 108 #[.val (.long q0), .second, .val (.long q1), .second, .val (.long q2), .second, .val (.ref b1), .val (.ref b3), .val (.int v6_s0), .val (.int v9_s0), .val (.int v12_s0), .val (.int v15_s0)] [(.int v12_s0)])) _
            refine XS.ifNo X15.here hx rfl (hb hby at_108) rfl ((if0 _ _).trans (feq hc18).1) ?_
            show Steps p.tables e below (T15.setTop (mkF m 111 #[.val (.long q0), .second, .val (.long q1), .second, .val (.long q2), .second, .val (.ref b1), .val (.ref b3), .val (.int v6_s0), .val (.int v9_s0), .val (.int v12_s0), .val (.int v15_s0)] [])) _
            refine XS.iload X15.here hx rfl (hb hby at_111) rfl ?_
            show Steps p.tables e below (T15.setTop (mkF m 113 #[.val (.long q0), .second, .val (.long q1), .second, .val (.long q2), .second, .val (.ref b1), .val (.ref b3), .val (.int v6_s0), .val (.int v9_s0), .val (.int v12_s0), .val (.int v15_s0)] [(.int v15_s0)])) _
            refine XS.ifNo X15.here hx rfl (hb hby at_113) rfl ((if0 _ _).trans (feq hc19).1) ?_
            show Steps p.tables e below (T15.setTop (mkF m 116 #[.val (.long q0), .second, .val (.long q1), .second, .val (.long q2), .second, .val (.ref b1), .val (.ref b3), .val (.int v6_s0), .val (.int v9_s0), .val (.int v12_s0), .val (.int v15_s0)] [])) _
            refine XS.iconst X15.here hx rfl (hb hby at_116) ?_
            show Steps p.tables e below (T15.setTop (mkF m 117 #[.val (.long q0), .second, .val (.long q1), .second, .val (.long q2), .second, .val (.ref b1), .val (.ref b3), .val (.int v6_s0), .val (.int v9_s0), .val (.int v12_s0), .val (.int v15_s0)] [(.int (1 : Int32))])) _
            refine XS.goto X15.here hx rfl (pc0 := 117) (pc' := 121) rfl (hb hby at_117) (by decide) (by decide) ?_
            exact kt)
  have hfin : nar .boolean v20_s0 = 1 := by rw [plain_law q0 q1 q2 v6_s0 Hv6_s0 v9_s0 Hv9_s0 v12_s0 Hv12_s0 v15_s0 Hv15_s0 v20_s0 Hv20_s0]; rfl
  obtain ⟨fs, hr, hrun, hended, hW, hsame⟩ := X20.leave (v := some (.int (nar .boolean v20_s0))) (fun h => by rw [Bd.returns] at h; cases h)
  refine ⟨_, _, pre0 _ ?_, hrun, hended, _, _, rfl, ?_, ⟨_, rfl⟩, hW, hsame.mono (by decide) (by decide)⟩
  · show Steps p.tables e below (s₁.setTop (mkF m 0 #[.val (.long q0), .second, .val (.long q1), .second, .val (.long q2), .second, .unset, .unset, .unset, .unset, .unset, .unset] [])) _
    refine st1 _ ?_
    show Steps p.tables e below (T1.setTop (mkF m 3 #[.val (.long q0), .second, .val (.long q1), .second, .val (.long q2), .second, .unset, .unset, .unset, .unset, .unset, .unset] [(.ref b1)])) _
    refine XS.dup X1.here hx rfl (hb hby at_3) rfl rfl ?_
    show Steps p.tables e below (T1.setTop (mkF m 4 #[.val (.long q0), .second, .val (.long q1), .second, .val (.long q2), .second, .unset, .unset, .unset, .unset, .unset, .unset] [(.ref b1), (.ref b1)])) _
    refine XS.lloadN X1.here hx rfl (hb hby at_4) rfl ?_
    show Steps p.tables e below (T1.setTop (mkF m 5 #[.val (.long q0), .second, .val (.long q1), .second, .val (.long q2), .second, .unset, .unset, .unset, .unset, .unset, .unset] [(.long q0), (.ref b1), (.ref b1)])) _
    refine XS.lloadN X1.here hx rfl (hb hby at_5) rfl ?_
    show Steps p.tables e below (T1.setTop (mkF m 6 #[.val (.long q0), .second, .val (.long q1), .second, .val (.long q2), .second, .unset, .unset, .unset, .unset, .unset, .unset] [(.long q1), (.long q0), (.ref b1), (.ref b1)])) _
    refine st2.trans ?_
    show Steps p.tables e below (T2.setTop (mkF m 9 #[.val (.long q0), .second, .val (.long q1), .second, .val (.long q2), .second, .unset, .unset, .unset, .unset, .unset, .unset] [(.ref b1)])) _
    refine XS.astore X2.here hx rfl (hb hby at_9) rfl rfl (l' := #[.val (.long q0), .second, .val (.long q1), .second, .val (.long q2), .second, .val (.ref b1), .unset, .unset, .unset, .unset, .unset]) rfl ?_
    show Steps p.tables e below (T2.setTop (mkF m 11 #[.val (.long q0), .second, .val (.long q1), .second, .val (.long q2), .second, .val (.ref b1), .unset, .unset, .unset, .unset, .unset] [])) _
    refine XS.aload X2.here hx rfl (hb hby at_11) rfl rfl ?_
    show Steps p.tables e below (T2.setTop (mkF m 13 #[.val (.long q0), .second, .val (.long q1), .second, .val (.long q2), .second, .val (.ref b1), .unset, .unset, .unset, .unset, .unset] [(.ref b1)])) _
    refine XS.lload X2.here hx rfl (hb hby at_13) rfl ?_
    show Steps p.tables e below (T2.setTop (mkF m 15 #[.val (.long q0), .second, .val (.long q1), .second, .val (.long q2), .second, .val (.ref b1), .unset, .unset, .unset, .unset, .unset] [(.long q2), (.ref b1)])) _
    refine st3.trans ?_
    show Steps p.tables e below (T3.setTop (mkF m 18 #[.val (.long q0), .second, .val (.long q1), .second, .val (.long q2), .second, .val (.ref b1), .unset, .unset, .unset, .unset, .unset] [(.ref b3)])) _
    refine XS.astore X3.here hx rfl (hb hby at_18) rfl rfl (l' := #[.val (.long q0), .second, .val (.long q1), .second, .val (.long q2), .second, .val (.ref b1), .val (.ref b3), .unset, .unset, .unset, .unset]) rfl ?_
    show Steps p.tables e below (T3.setTop (mkF m 20 #[.val (.long q0), .second, .val (.long q1), .second, .val (.long q2), .second, .val (.ref b1), .val (.ref b3), .unset, .unset, .unset, .unset] [])) _
    refine XS.aload X3.here hx rfl (hb hby at_20) rfl rfl ?_
    show Steps p.tables e below (T3.setTop (mkF m 22 #[.val (.long q0), .second, .val (.long q1), .second, .val (.long q2), .second, .val (.ref b1), .val (.ref b3), .unset, .unset, .unset, .unset] [(.ref b3)])) _
    refine XS.ifnonnullYes X3.here hx rfl (pc0 := 22) (pc' := 27) rfl (hb hby at_22) rfl (by decide) (by decide) ?_
    show Steps p.tables e below (T3.setTop (mkF m 27 #[.val (.long q0), .second, .val (.long q1), .second, .val (.long q2), .second, .val (.ref b1), .val (.ref b3), .unset, .unset, .unset, .unset] [])) _
    refine XS.aload X3.here hx rfl (hb hby at_27) rfl rfl ?_
    show Steps p.tables e below (T3.setTop (mkF m 29 #[.val (.long q0), .second, .val (.long q1), .second, .val (.long q2), .second, .val (.ref b1), .val (.ref b3), .unset, .unset, .unset, .unset] [(.ref b3)])) _
    refine st4.trans ?_
    show Steps p.tables e below (T4.setTop (mkF m 32 #[.val (.long q0), .second, .val (.long q1), .second, .val (.long q2), .second, .val (.ref b1), .val (.ref b3), .unset, .unset, .unset, .unset] [(.long (F5 q2))])) _
    refine XS.lload X4.here hx rfl (hb hby at_32) rfl ?_
    show Steps p.tables e below (T4.setTop (mkF m 34 #[.val (.long q0), .second, .val (.long q1), .second, .val (.long q2), .second, .val (.ref b1), .val (.ref b3), .unset, .unset, .unset, .unset] [(.long q2), (.long (F5 q2))])) _
    refine XS.lcmp X4.here hx rfl (hb hby at_34) rfl ?_
    show Steps p.tables e below (T4.setTop (mkF m 35 #[.val (.long q0), .second, .val (.long q1), .second, .val (.long q2), .second, .val (.ref b1), .val (.ref b3), .unset, .unset, .unset, .unset] [(.int (lcmpW (F5 q2) q2))])) _
    refine st6 _ ?_
    show Steps p.tables e below (T6.setTop (mkF m 43 #[.val (.long q0), .second, .val (.long q1), .second, .val (.long q2), .second, .val (.ref b1), .val (.ref b3), .unset, .unset, .unset, .unset] [(.int v6_s0)])) _
    refine XS.istore X6.here hx rfl (hb hby at_43) rfl (l' := #[.val (.long q0), .second, .val (.long q1), .second, .val (.long q2), .second, .val (.ref b1), .val (.ref b3), .val (.int v6_s0), .unset, .unset, .unset]) rfl ?_
    show Steps p.tables e below (T6.setTop (mkF m 45 #[.val (.long q0), .second, .val (.long q1), .second, .val (.long q2), .second, .val (.ref b1), .val (.ref b3), .val (.int v6_s0), .unset, .unset, .unset] [])) _
    refine XS.aload X6.here hx rfl (hb hby at_45) rfl rfl ?_
    show Steps p.tables e below (T6.setTop (mkF m 47 #[.val (.long q0), .second, .val (.long q1), .second, .val (.long q2), .second, .val (.ref b1), .val (.ref b3), .val (.int v6_s0), .unset, .unset, .unset] [(.ref b3)])) _
    refine st7.trans ?_
    show Steps p.tables e below (T7.setTop (mkF m 50 #[.val (.long q0), .second, .val (.long q1), .second, .val (.long q2), .second, .val (.ref b1), .val (.ref b3), .val (.int v6_s0), .unset, .unset, .unset] [(.long (F6 q1))])) _
    refine XS.lloadN X7.here hx rfl (hb hby at_50) rfl ?_
    show Steps p.tables e below (T7.setTop (mkF m 51 #[.val (.long q0), .second, .val (.long q1), .second, .val (.long q2), .second, .val (.ref b1), .val (.ref b3), .val (.int v6_s0), .unset, .unset, .unset] [(.long q1), (.long (F6 q1))])) _
    refine XS.lcmp X7.here hx rfl (hb hby at_51) rfl ?_
    show Steps p.tables e below (T7.setTop (mkF m 52 #[.val (.long q0), .second, .val (.long q1), .second, .val (.long q2), .second, .val (.ref b1), .val (.ref b3), .val (.int v6_s0), .unset, .unset, .unset] [(.int (lcmpW (F6 q1) q1))])) _
    refine st9 _ ?_
    show Steps p.tables e below (T9.setTop (mkF m 60 #[.val (.long q0), .second, .val (.long q1), .second, .val (.long q2), .second, .val (.ref b1), .val (.ref b3), .val (.int v6_s0), .unset, .unset, .unset] [(.int v9_s0)])) _
    refine XS.istore X9.here hx rfl (hb hby at_60) rfl (l' := #[.val (.long q0), .second, .val (.long q1), .second, .val (.long q2), .second, .val (.ref b1), .val (.ref b3), .val (.int v6_s0), .val (.int v9_s0), .unset, .unset]) rfl ?_
    show Steps p.tables e below (T9.setTop (mkF m 62 #[.val (.long q0), .second, .val (.long q1), .second, .val (.long q2), .second, .val (.ref b1), .val (.ref b3), .val (.int v6_s0), .val (.int v9_s0), .unset, .unset] [])) _
    refine XS.aload X9.here hx rfl (hb hby at_62) rfl rfl ?_
    show Steps p.tables e below (T9.setTop (mkF m 64 #[.val (.long q0), .second, .val (.long q1), .second, .val (.long q2), .second, .val (.ref b1), .val (.ref b3), .val (.int v6_s0), .val (.int v9_s0), .unset, .unset] [(.ref b1)])) _
    refine st10.trans ?_
    show Steps p.tables e below (T10.setTop (mkF m 67 #[.val (.long q0), .second, .val (.long q1), .second, .val (.long q2), .second, .val (.ref b1), .val (.ref b3), .val (.int v6_s0), .val (.int v9_s0), .unset, .unset] [(.long (F5 q0))])) _
    refine XS.lloadN X10.here hx rfl (hb hby at_67) rfl ?_
    show Steps p.tables e below (T10.setTop (mkF m 68 #[.val (.long q0), .second, .val (.long q1), .second, .val (.long q2), .second, .val (.ref b1), .val (.ref b3), .val (.int v6_s0), .val (.int v9_s0), .unset, .unset] [(.long q0), (.long (F5 q0))])) _
    refine XS.lcmp X10.here hx rfl (hb hby at_68) rfl ?_
    show Steps p.tables e below (T10.setTop (mkF m 69 #[.val (.long q0), .second, .val (.long q1), .second, .val (.long q2), .second, .val (.ref b1), .val (.ref b3), .val (.int v6_s0), .val (.int v9_s0), .unset, .unset] [(.int (lcmpW (F5 q0) q0))])) _
    refine st12 _ ?_
    show Steps p.tables e below (T12.setTop (mkF m 77 #[.val (.long q0), .second, .val (.long q1), .second, .val (.long q2), .second, .val (.ref b1), .val (.ref b3), .val (.int v6_s0), .val (.int v9_s0), .unset, .unset] [(.int v12_s0)])) _
    refine XS.istore X12.here hx rfl (hb hby at_77) rfl (l' := #[.val (.long q0), .second, .val (.long q1), .second, .val (.long q2), .second, .val (.ref b1), .val (.ref b3), .val (.int v6_s0), .val (.int v9_s0), .val (.int v12_s0), .unset]) rfl ?_
    show Steps p.tables e below (T12.setTop (mkF m 79 #[.val (.long q0), .second, .val (.long q1), .second, .val (.long q2), .second, .val (.ref b1), .val (.ref b3), .val (.int v6_s0), .val (.int v9_s0), .val (.int v12_s0), .unset] [])) _
    refine XS.aload X12.here hx rfl (hb hby at_79) rfl rfl ?_
    show Steps p.tables e below (T12.setTop (mkF m 81 #[.val (.long q0), .second, .val (.long q1), .second, .val (.long q2), .second, .val (.ref b1), .val (.ref b3), .val (.int v6_s0), .val (.int v9_s0), .val (.int v12_s0), .unset] [(.ref b1)])) _
    refine st13.trans ?_
    show Steps p.tables e below (T13.setTop (mkF m 84 #[.val (.long q0), .second, .val (.long q1), .second, .val (.long q2), .second, .val (.ref b1), .val (.ref b3), .val (.int v6_s0), .val (.int v9_s0), .val (.int v12_s0), .unset] [(.long (F6 q1))])) _
    refine XS.lloadN X13.here hx rfl (hb hby at_84) rfl ?_
    show Steps p.tables e below (T13.setTop (mkF m 85 #[.val (.long q0), .second, .val (.long q1), .second, .val (.long q2), .second, .val (.ref b1), .val (.ref b3), .val (.int v6_s0), .val (.int v9_s0), .val (.int v12_s0), .unset] [(.long q1), (.long (F6 q1))])) _
    refine XS.lcmp X13.here hx rfl (hb hby at_85) rfl ?_
    show Steps p.tables e below (T13.setTop (mkF m 86 #[.val (.long q0), .second, .val (.long q1), .second, .val (.long q2), .second, .val (.ref b1), .val (.ref b3), .val (.int v6_s0), .val (.int v9_s0), .val (.int v12_s0), .unset] [(.int (lcmpW (F6 q1) q1))])) _
    refine st15 _ ?_
    show Steps p.tables e below (T15.setTop (mkF m 94 #[.val (.long q0), .second, .val (.long q1), .second, .val (.long q2), .second, .val (.ref b1), .val (.ref b3), .val (.int v6_s0), .val (.int v9_s0), .val (.int v12_s0), .unset] [(.int v15_s0)])) _
    refine XS.istore X15.here hx rfl (hb hby at_94) rfl (l' := #[.val (.long q0), .second, .val (.long q1), .second, .val (.long q2), .second, .val (.ref b1), .val (.ref b3), .val (.int v6_s0), .val (.int v9_s0), .val (.int v12_s0), .val (.int v15_s0)]) rfl ?_
    show Steps p.tables e below (T15.setTop (mkF m 96 #[.val (.long q0), .second, .val (.long q1), .second, .val (.long q2), .second, .val (.ref b1), .val (.ref b3), .val (.int v6_s0), .val (.int v9_s0), .val (.int v12_s0), .val (.int v15_s0)] [])) _
    refine XS.iload X15.here hx rfl (hb hby at_96) rfl ?_
    show Steps p.tables e below (T15.setTop (mkF m 98 #[.val (.long q0), .second, .val (.long q1), .second, .val (.long q2), .second, .val (.ref b1), .val (.ref b3), .val (.int v6_s0), .val (.int v9_s0), .val (.int v12_s0), .val (.int v15_s0)] [(.int v6_s0)])) _
    refine st20 _ ?_
    show Steps p.tables e below (T20.setTop (mkF m 121 #[.val (.long q0), .second, .val (.long q1), .second, .val (.long q2), .second, .val (.ref b1), .val (.ref b3), .val (.int v6_s0), .val (.int v9_s0), .val (.int v12_s0), .val (.int v15_s0)] [(.int v20_s0)])) _
    exact retN X20 hx (t := .boolean) Bd.returns (by simp) (hb hby at_121) hr
  · exact ⟨congrArg (fun z => some (Value.int z)) hfin, N3⟩
set_option maxRecDepth 65536 in
set_option maxHeartbeats 40000000 in
theorem comes_1 {Post : Tables → Env → Array Value → State → Outcome → State → Prop} (hpost : ∀ tb e args s v u, (limb_1_1.after args s (.returned v) u = true ∧ limb_1_2.after args s (.returned v) u = true ∧ True) → FrameEnd s (.returned v) u (Jvm.fieldLocs frame_1_writes args s ++ Jvm.arrayLocs frame_1_arrays args s ++ Jvm.staticLocs frame_1_statics s) 16 128 → Post tb e args s (.returned v) u) :
    ArmFor flags0 classFile x code maxLocals ret World_1 tables_1 room_1 Calls_1 rest_1 Pre_1 Post := by
  intro l hfl _ _ p e ha hc hk s m args below hf hA hF happ hP
  obtain ⟨hcalls, hrest, hpre⟩ := hP
  obtain ⟨-, -, -, hnamed, -, -, -, hat⟩ := (Spec.applies_iff hf).mp happ
  obtain ⟨hg, hn⟩ := and_e (Cond.before_iff.mp (show (Jvm.Cond.and given_1 narrow_1).before args s = true from hpre))
  obtain ⟨gg1, gg2⟩ := and_e hg
  obtain ⟨gg3, gg4⟩ := and_e gg2
  obtain ⟨gg5, gg6⟩ := and_e gg4
  obtain ⟨w0, w1, w2, rfl⟩ : ∃ w0 w1 w2 : Value, args = #[w0, w1, w2] := by
    have hs : args.size = 3 := by simpa [Cond.value, given_1] using gg1
    obtain ⟨L⟩ := args
    match L, hs with
    | [w0, w1, w2], _ => exact ⟨w0, w1, w2, rfl⟩
  have hw := fun d (hd : d ∈ tables_1) => atoms_spec (ws := Jvm.Cond.code x code maxLocals ret :: tables_1) hat d (List.mem_cons_of_mem _ hd)
  obtain ⟨i0, ei0⟩ := isL_v gg3
  obtain rfl : w0 = (.long i0) := Option.some.inj ei0
  obtain ⟨i1, ei1⟩ := isL_v gg5
  obtain rfl : w1 = (.long i1) := Option.some.inj ei1
  obtain ⟨i2, ei2⟩ := isL_v gg6
  obtain rfl : w2 = (.long i2) := Option.some.inj ei2
  obtain ⟨n, o, h1, h2, h3, _, L, rfl, ⟨rfl, N⟩, hq⟩ := rm0 l s _ hw tables_1 i0 i1 i2 s.heap s.heap.size (Nat.le_refl _) p e ha hc hk s m _ below hf ((Spec.applies_iff_loose hf).mp happ).1 ⟨rfl, State.Warmed39.refl s, rfl⟩ trivial
  refine ⟨n, _, h1, h2, h3, hpost _ _ _ _ _ _ ⟨Cond.after_iff.mpr rfl, Cond.after_iff.mpr (eq_i res_at (Term.int_eval (1)) rfl), trivial⟩ ⟨hq.1, hq.2.1, (hq.2.2.sift fun y hy => Or.inr (N y hy)).mono (by decide) (by decide)⟩⟩
theorem main_1_1 : Claimed_1_1 := comes_1 fun _ _ _ _ _ _ h hF => ⟨h.1, hF⟩
theorem main_1_2 : Claimed_1_2 := comes_1 fun _ _ _ _ _ _ h hF => ⟨h.2.1, hF⟩
end Jvm.Pilot.@@N@@
namespace Jvm.Pilot.@@N@@
open Jvm Jvm.ClassFile Sem Op Lib Jvm.Free Jvm.Stand Jvm.Pilot.@@N@@.Jvm.D
/-! MADE BY PROGRAM (witnessworld.py) out of the Statement's table words and the real class files: 10 classes; the members and pool entries that the words name. The judged class is class 1, her method 1. -/
namespace start1
open Jvm.ClassFile
def u (s : String) : CpInfo := .utf8 (stringToUtf16 s)
/-- a pool by its gaps: so many unusable entries, then the entry; so many at the end -/
def gap : Nat → List CpInfo → List CpInfo
  | 0, r => r
  | n + 1, r => .unusable :: gap n r
def poolList (es : List (Nat × CpInfo)) (last : Nat) : List CpInfo := es.foldr (fun e r => gap e.1 (e.2 :: r)) (gap last [])
def pool (es : List (Nat × CpInfo)) (last : Nat) : Array CpInfo := ⟨poolList es last⟩
def fileOf (pool : Array CpInfo) (this : Nat) (attrs : Array Attribute := #[]) (ms : Array MethodInfo := #[]) (fl : Nat := 33) (sup : Nat := 0) (ifs : Array Nat := #[]) (fds : Array FieldInfo := #[]) : ClassFile where
  minorVersion := 0
  majorVersion := 65
  constantPool := pool
  accessFlags := fl
  thisClass := this
  superClass := sup
  interfaces := ifs
  fields := fds
  methods := ms
  attributes := attrs
def plain (name : String) (sup : Option ClassId) : Class where
  name := name
  kind := .ordinary
  loader := none
  accessFlags := 33
  super := sup
  interfaces := #[]
  cf := none
  fields := #[]
  methods := #[]
  instanceTypes := #[]
  staticTypes := #[]
  resolved := #[]
  callSites := []
  init := .initialized
  statics := none
  mirror := none

def pool0 : Array CpInfo := pool [(5, u "<init>"), (0, u "()V"), (1, .class_ 10), (1, u "java/lang/Object")] 113

def k0c0 : Code := { maxStack := 0, maxLocals := 1, code := object_method_1_code, exceptionTable := #[], attributes := #[] }
def k0m0 : Method := { name := "<init>", desc := "()V", sig := { parameters := [], returnType := none }, accessFlags := 1, code := some k0c0 }
/-- java/lang/Object -/
def k0 : Class := { plain "java/lang/Object" none with
  accessFlags := 33
  interfaces := #[]
  cf := some (fileOf pool0 8 #[] #[{ accessFlags := 1, nameIndex := 5, descriptorIndex := 6, attributes := #[] }] 33 0 #[] #[])
  fields := #[]
  methods := #[k0m0]
  instanceTypes := #[]
  staticTypes := #[]
  resolved := Array.replicate 124 none
  statics := none }

def pool1 : Array CpInfo := pool [(2, .class_ 4), (1, u "java/lang/Object"), (0, u "<init>"), (0, u "()V"), (0, .class_ 8), (0, u "com/example/key3/key3/store/Thresholds"), (0, .methodref 7 10), (0, .nameAndType 5 11), (0, u "(JJ)V"), (0, .methodref 7 13), (0, .nameAndType 14 15), (0, u "withPartitionMaxBytes"), (0, u "(J)Lcom/example/key3/key3/store/Thresholds;"), (0, .methodref 7 17), (0, .nameAndType 18 19), (0, u "partitionMaxBytes"), (0, u "()J"), (0, .methodref 7 21), (0, .nameAndType 22 19), (0, u "logicalPartitionMaxBytes"), (0, .class_ 24), (0, u "com/example/key3/key3/store/ThresholdsWithPartitionMaxBytesPinLaw"), (2, u "law"), (0, u "(JJJ)Z")] 3

def k1m0 : Method := { name := "<init>", desc := "()V", sig := { parameters := [], returnType := none }, accessFlags := 1, code := none }
def k1c1 : Code := { maxStack := 6, maxLocals := 12, code := code, exceptionTable := #[], attributes := #[] }
def k1m1 : Method := { name := "law", desc := "(JJJ)Z", sig := { parameters := [.long, .long, .long], returnType := some .boolean }, accessFlags := 9, code := some k1c1 }
/-- com/example/key3/key3/store/ThresholdsWithPartitionMaxBytesPinLaw -/
def k1 : Class := { plain "com/example/key3/key3/store/ThresholdsWithPartitionMaxBytesPinLaw" (some 0) with
  accessFlags := 49
  interfaces := #[]
  cf := some (fileOf pool1 23 #[] #[{ accessFlags := 1, nameIndex := 5, descriptorIndex := 6, attributes := #[] }, { accessFlags := 9, nameIndex := 27, descriptorIndex := 28, attributes := #[] }] 49 2 #[] #[])
  fields := #[]
  methods := #[k1m0, k1m1]
  instanceTypes := #[]
  staticTypes := #[]
  resolved := Array.replicate 32 none
  statics := none }

def pool2 : Array CpInfo := pool [(1, .methodref 2 3), (0, .class_ 4), (0, .nameAndType 5 6), (0, u "java/lang/Object"), (0, u "<init>"), (0, u "()V"), (0, .class_ 8), (0, u "java/lang/Record")] 13

def k2c0 : Code := { maxStack := 1, maxLocals := 1, code := jdk_30_method_1_code, exceptionTable := #[], attributes := #[] }
def k2m0 : Method := { name := "<init>", desc := "()V", sig := { parameters := [], returnType := none }, accessFlags := 4, code := some k2c0 }
/-- java/lang/Record -/
def k2 : Class := { plain "java/lang/Record" (some 0) with
  accessFlags := 1057
  interfaces := #[]
  cf := some (fileOf pool2 7 #[] #[{ accessFlags := 4, nameIndex := 5, descriptorIndex := 6, attributes := #[] }] 1057 2 #[] #[])
  fields := #[]
  methods := #[k2m0]
  instanceTypes := #[]
  staticTypes := #[]
  resolved := Array.replicate 22 none
  statics := none }

def pool3 : Array CpInfo := pool [(1, .methodref 2 3), (0, .class_ 4), (0, .nameAndType 5 6), (0, u "java/lang/Record"), (0, u "<init>"), (0, u "()V"), (0, .fieldref 8 9), (0, .class_ 10), (0, .nameAndType 11 12), (0, u "com/example/key3/key3/store/Thresholds"), (0, u "partitionMaxBytes"), (0, u "J"), (0, .fieldref 8 14), (0, .nameAndType 15 12), (0, u "logicalPartitionMaxBytes"), (0, .methodref 8 17), (0, .nameAndType 5 18), (0, u "(JJ)V"), (18, u "DEFAULTS"), (0, u "Lcom/example/key3/key3/store/Thresholds;"), (3, u "withPartitionMaxBytes"), (0, u "(J)Lcom/example/key3/key3/store/Thresholds;"), (4, u "()J")] 22

def k3c0 : Code := { maxStack := 3, maxLocals := 5, code := prog_17_method_1_code, exceptionTable := #[], attributes := #[] }
def k3m0 : Method := { name := "<init>", desc := "(JJ)V", sig := { parameters := [.long, .long], returnType := none }, accessFlags := 1, code := some k3c0 }
def k3c1 : Code := { maxStack := 6, maxLocals := 3, code := prog_17_method_2_code, exceptionTable := #[], attributes := #[] }
def k3m1 : Method := { name := "withPartitionMaxBytes", desc := "(J)Lcom/example/key3/key3/store/Thresholds;", sig := { parameters := [.long], returnType := some (.object "com/example/key3/key3/store/Thresholds") }, accessFlags := 1, code := some k3c1 }
def k3c2 : Code := { maxStack := 2, maxLocals := 1, code := prog_17_method_7_code, exceptionTable := #[], attributes := #[] }
def k3m2 : Method := { name := "partitionMaxBytes", desc := "()J", sig := { parameters := [], returnType := some .long }, accessFlags := 1, code := some k3c2 }
def k3c3 : Code := { maxStack := 2, maxLocals := 1, code := prog_17_method_8_code, exceptionTable := #[], attributes := #[] }
def k3m3 : Method := { name := "logicalPartitionMaxBytes", desc := "()J", sig := { parameters := [], returnType := some .long }, accessFlags := 1, code := some k3c3 }
/-- com/example/key3/key3/store/Thresholds -/
def k3 : Class := { plain "com/example/key3/key3/store/Thresholds" (some 2) with
  accessFlags := 49
  interfaces := #[]
  cf := some (fileOf pool3 8 #[] #[{ accessFlags := 1, nameIndex := 5, descriptorIndex := 18, attributes := #[] }, { accessFlags := 1, nameIndex := 42, descriptorIndex := 43, attributes := #[] }, { accessFlags := 1, nameIndex := 11, descriptorIndex := 48, attributes := #[] }, { accessFlags := 1, nameIndex := 15, descriptorIndex := 48, attributes := #[] }] 49 2 #[] #[{ accessFlags := 18, nameIndex := 11, descriptorIndex := 12, attributes := #[] }, { accessFlags := 18, nameIndex := 15, descriptorIndex := 12, attributes := #[] }, { accessFlags := 25, nameIndex := 37, descriptorIndex := 38, attributes := #[] }])
  fields := #[{ name := "partitionMaxBytes", type := .long, accessFlags := 18, slot := 0, constantValue := 0 }, { name := "logicalPartitionMaxBytes", type := .long, accessFlags := 18, slot := 1, constantValue := 0 }, { name := "DEFAULTS", type := (.object "com/example/key3/key3/store/Thresholds"), accessFlags := 25, slot := 0, constantValue := 0 }]
  methods := #[k3m0, k3m1, k3m2, k3m3]
  instanceTypes := #[.long, .long]
  staticTypes := #[(.object "com/example/key3/key3/store/Thresholds")]
  resolved := Array.replicate 71 none
  statics := none }

def pool4 : Array CpInfo := pool [(1, u "java/lang/Cloneable"), (0, .class_ 1), (0, u "java/lang/Object"), (0, .class_ 3)] 3

/-- java/lang/Cloneable -/
def k4 : Class := { plain "java/lang/Cloneable" (some 0) with
  accessFlags := 1537
  interfaces := #[]
  cf := some (fileOf pool4 2 #[] #[] 1537 4 #[] #[])
  fields := #[]
  methods := #[]
  instanceTypes := #[]
  staticTypes := #[]
  resolved := Array.replicate 8 none
  statics := none }

def pool5 : Array CpInfo := pool [(1, u "java/io/Serializable"), (0, .class_ 1), (0, u "java/lang/Object"), (0, .class_ 3)] 3

/-- java/io/Serializable -/
def k5 : Class := { plain "java/io/Serializable" (some 0) with
  accessFlags := 1537
  interfaces := #[]
  cf := some (fileOf pool5 2 #[] #[] 1537 4 #[] #[])
  fields := #[]
  methods := #[]
  instanceTypes := #[]
  staticTypes := #[]
  resolved := Array.replicate 8 none
  statics := none }

/-- the primitive byte -/
def k6 : Class := { plain "byte" none with kind := .primitive 'B', accessFlags := 0x411 }
/-- [B -/
def k7 : Class := { plain "[B" (some 0) with kind := .array 6 .byte, interfaces := #[4, 5], accessFlags := 1041 }

/-- the primitive int -/
def k8 : Class := { plain "int" none with kind := .primitive 'I', accessFlags := 0x411 }
/-- [I -/
def k9 : Class := { plain "[I" (some 0) with kind := .array 8 .int, interfaces := #[4, 5], accessFlags := 1041 }

def heap : Heap := #[]
def classes : Array Class := #[k0, k1, k2, k3, k4, k5, k6, k7, k8, k9]
def interned : List (Array UInt16 × Addr) := []
def slotsUsed : Nat := 0
def theMethod : MethodId := ⟨1, 1⟩
def args0 : Array Value := #[.long 5, .long 5, .long 5]
def aboutOver (below : List Frame) : State where
  vm := { classes := classes, interned := interned.toArray }
  heap := heap
  slotsUsed := slotsUsed
  threads := #[{ frames := .invoking theMethod args0 :: below }]
def below0 : List Frame := [.native { method := ⟨0, 0⟩, args := #[] }]
def about1 : State := aboutOver below0
def p0 : Program := .bare "" "" ""
def e0 : Env := launch0.env 0 0 0
theorem w_frames : about1.frames = Frame.invoking theMethod args0 :: below0 := rfl
set_option maxRecDepth 65536 in
theorem w_args : argsFit about1.vm theMethod args0 = true := by decide +kernel
set_option maxRecDepth 65536 in
theorem w_heap : heapFits about1 = true := by decide +kernel
set_option maxRecDepth 65536 in
theorem w_runnable : about1.curStatus? = some .runnable := by decide +kernel
set_option maxRecDepth 65536 in
theorem w_alone : about1.alone = true := by decide +kernel
set_option maxRecDepth 65536 in
theorem w_named : about1.methodNamed? x = some theMethod := by decide +kernel
set_option maxRecDepth 65536 in
theorem w_hears : about1.hears theMethod below0 = true := by decide +kernel
set_option maxRecDepth 65536 in
theorem w_ripe : about1.ripe theMethod args0 below0 = true := by decide +kernel
theorem w_running : about1.status = .running := rfl
set_option maxRecDepth 65536 in
theorem w_room : about1.hasRoom e0.platform room_1 = true :=
  launch0.hasRoom_least _ room_1 (by decide +kernel) (by decide +kernel) (by decide +kernel) (by decide +kernel) (by decide +kernel) (by decide +kernel)
theorem allAtoms_all (ts : List Jvm.Cond) (a : Array Jvm.Value) (st : Jvm.State) : (allAtoms ts).before a st = ts.all (fun c => c.before a st) := by
  induction ts with
  | nil => rfl
  | cons c t ih =>
    show (Jvm.Cond.and c (allAtoms t)).before a st = _
    rw [Jvm.Cond.before_and, ih, List.all_cons]
def words1 : List Jvm.Cond := Jvm.Cond.code x code maxLocals ret :: tables_1
/-- a 'code' word, met by the world's own term for the bytes: nothing is compared byte by byte -/
theorem code_word {y : MethodName} {bytes : ByteArray} {mx : Nat} {rt : Option FieldType} {a : Array Value} {s : State} {m : MethodId} {meth : Method} {c : Code} (h1 : s.methodNamed? y = some m) (h2 : s.vm.method? m = some meth) (h3 : meth.code = some c) (h4 : c.code = bytes)
    (h5 : (c.maxLocals == mx && c.exceptionTable.isEmpty && decide (c.maxStack ≤ mostOperands) && decide (meth.sig.returnType = rt) && !meth.locks && decide (parseMethodDescriptor y.desc = some meth.sig)) = true) : (Jvm.Cond.code y bytes mx rt).before a s = true := by
  simp only [Bool.and_eq_true, beq_iff_eq, Bool.not_eq_true', decide_eq_true_eq] at h5
  obtain ⟨⟨⟨⟨⟨g1, g2⟩, g3⟩, g4⟩, g5⟩, g6⟩ := h5
  simp [Cond.before, Cond.holds, Cond.value, h1, h2, h3, h4, g1, g2, g3, g4, g5, g6]
def isCode : Jvm.Cond → Bool
  | .code _ _ _ _ => true
  | _ => false
theorem all_split {L : List Jvm.Cond} {P : Jvm.Cond → Bool} (h1 : L.all (fun c => isCode c || P c) = true) (h2 : ∀ c ∈ L.filter isCode, P c = true) : L.all P = true := by
  refine List.all_eq_true.mpr fun c hc => ?_
  have h := List.all_eq_true.mp h1 c hc
  rcases Bool.eq_false_or_eq_true (isCode c) with hi | hi
  · exact h2 c (List.mem_filter.mpr ⟨hc, hi⟩)
  · simpa [hi] using h
set_option maxRecDepth 65536 in
theorem w_c0 : (Jvm.Cond.code x code maxLocals ret).before args0 about1 = true := code_word (m := ⟨1, 1⟩) (meth := k1m1) (c := k1c1) (by decide +kernel) rfl rfl rfl (by decide +kernel)
set_option maxRecDepth 65536 in
theorem w_c1 : (Jvm.Cond.code ({ cls := "com/example/key3/key3/store/Thresholds", name := "<init>", desc := "(JJ)V" } : Jvm.MethodName) prog_17_method_1_code (5 : Nat) (Option.none : Option Jvm.ClassFile.FieldType)).before args0 about1 = true := code_word (m := ⟨3, 0⟩) (meth := k3m0) (c := k3c0) (by decide +kernel) rfl rfl rfl (by decide +kernel)
set_option maxRecDepth 65536 in
theorem w_c2 : (Jvm.Cond.code ({ cls := "java/lang/Record", name := "<init>", desc := "()V" } : Jvm.MethodName) jdk_30_method_1_code (1 : Nat) (Option.none : Option Jvm.ClassFile.FieldType)).before args0 about1 = true := code_word (m := ⟨2, 0⟩) (meth := k2m0) (c := k2c0) (by decide +kernel) rfl rfl rfl (by decide +kernel)
set_option maxRecDepth 65536 in
theorem w_c3 : (Jvm.Cond.code ({ cls := "java/lang/Object", name := "<init>", desc := "()V" } : Jvm.MethodName) object_method_1_code (1 : Nat) (Option.none : Option Jvm.ClassFile.FieldType)).before args0 about1 = true := code_word (m := ⟨0, 0⟩) (meth := k0m0) (c := k0c0) (by decide +kernel) rfl rfl rfl (by decide +kernel)
set_option maxRecDepth 65536 in
theorem w_c4 : (Jvm.Cond.code ({ cls := "com/example/key3/key3/store/Thresholds", name := "withPartitionMaxBytes", desc := "(J)Lcom/example/key3/key3/store/Thresholds;" } : Jvm.MethodName) prog_17_method_2_code (3 : Nat) (Option.some (Jvm.ClassFile.FieldType.object "com/example/key3/key3/store/Thresholds"))).before args0 about1 = true := code_word (m := ⟨3, 1⟩) (meth := k3m1) (c := k3c1) (by decide +kernel) rfl rfl rfl (by decide +kernel)
set_option maxRecDepth 65536 in
theorem w_c5 : (Jvm.Cond.code ({ cls := "com/example/key3/key3/store/Thresholds", name := "partitionMaxBytes", desc := "()J" } : Jvm.MethodName) prog_17_method_7_code (1 : Nat) (Option.some Jvm.ClassFile.FieldType.long)).before args0 about1 = true := code_word (m := ⟨3, 2⟩) (meth := k3m2) (c := k3c2) (by decide +kernel) rfl rfl rfl (by decide +kernel)
set_option maxRecDepth 65536 in
theorem w_c6 : (Jvm.Cond.code ({ cls := "com/example/key3/key3/store/Thresholds", name := "logicalPartitionMaxBytes", desc := "()J" } : Jvm.MethodName) prog_17_method_8_code (1 : Nat) (Option.some Jvm.ClassFile.FieldType.long)).before args0 about1 = true := code_word (m := ⟨3, 3⟩) (meth := k3m3) (c := k3c3) (by decide +kernel) rfl rfl rfl (by decide +kernel)
def codes1 : List Jvm.Cond := [Jvm.Cond.code x code maxLocals ret, Jvm.Cond.code ({ cls := "com/example/key3/key3/store/Thresholds", name := "<init>", desc := "(JJ)V" } : Jvm.MethodName) prog_17_method_1_code (5 : Nat) (Option.none : Option Jvm.ClassFile.FieldType), Jvm.Cond.code ({ cls := "java/lang/Record", name := "<init>", desc := "()V" } : Jvm.MethodName) jdk_30_method_1_code (1 : Nat) (Option.none : Option Jvm.ClassFile.FieldType), Jvm.Cond.code ({ cls := "java/lang/Object", name := "<init>", desc := "()V" } : Jvm.MethodName) object_method_1_code (1 : Nat) (Option.none : Option Jvm.ClassFile.FieldType), Jvm.Cond.code ({ cls := "com/example/key3/key3/store/Thresholds", name := "withPartitionMaxBytes", desc := "(J)Lcom/example/key3/key3/store/Thresholds;" } : Jvm.MethodName) prog_17_method_2_code (3 : Nat) (Option.some (Jvm.ClassFile.FieldType.object "com/example/key3/key3/store/Thresholds")), Jvm.Cond.code ({ cls := "com/example/key3/key3/store/Thresholds", name := "partitionMaxBytes", desc := "()J" } : Jvm.MethodName) prog_17_method_7_code (1 : Nat) (Option.some Jvm.ClassFile.FieldType.long), Jvm.Cond.code ({ cls := "com/example/key3/key3/store/Thresholds", name := "logicalPartitionMaxBytes", desc := "()J" } : Jvm.MethodName) prog_17_method_8_code (1 : Nat) (Option.some Jvm.ClassFile.FieldType.long)]
set_option maxRecDepth 65536 in
theorem codes_eq : words1.filter isCode = codes1 := rfl
theorem w_codes : ∀ c ∈ words1.filter isCode, c.before args0 about1 = true := by
  rw [codes_eq]
  intro c hc
  simp only [codes1, List.mem_cons, List.not_mem_nil, or_false] at hc
  rcases hc with rfl | rfl | rfl | rfl | rfl | rfl | rfl
  · exact w_c0
  · exact w_c1
  · exact w_c2
  · exact w_c3
  · exact w_c4
  · exact w_c5
  · exact w_c6
set_option maxRecDepth 65536 in
theorem w_t1 : (words1.take 24).all (fun c => isCode c || c.before args0 about1) = true := by decide +kernel
set_option maxRecDepth 65536 in
theorem w_t2 : (words1.drop 24).all (fun c => isCode c || c.before args0 about1) = true := by decide +kernel
theorem w_tables : (allAtoms (Jvm.Cond.code x code maxLocals ret :: tables_1)).before args0 about1 = true := by
  rw [allAtoms_all]
  show words1.all (fun c => c.before args0 about1) = true
  refine all_split ?_ w_codes
  rw [← List.take_append_drop 24 words1, List.all_append, w_t1, w_t2]
  rfl
set_option maxRecDepth 65536 in
theorem w_case : (Jvm.Cond.and given_1 narrow_1).before args0 about1 = true := by decide +kernel
theorem w_applies : (headSpec (Jvm.Cond.code x code maxLocals ret :: tables_1) room_1).applies x e0.platform about1 = true :=
  (Spec.applies_iff w_frames).mpr ⟨w_running, w_runnable, w_alone, w_named, w_hears, w_ripe, w_room, w_tables⟩
theorem atStart : AtStart classFile x code maxLocals ret World_1 tables_1 room_1 Calls_1 rest_1 Pre_1 launch0 p0 e0 about1 theMethod args0 below0 :=
  ⟨lists_1, trivial, launch0.admits_env _ _ _, launch0.least_env, fairChoices_fair.cas, fairChoices_fair.clock, w_frames, w_args, w_heap, w_applies, trivial, trivial, w_case⟩
end start1
theorem witness_1 : WitnessClaimed_1 := ⟨start1.p0, start1.e0, start1.about1, start1.theMethod, start1.args0, start1.below0, start1.atStart⟩
end Jvm.Pilot.@@N@@
