import JvmDerived
import JvmDerived.Pilot.@@N@@Statement
import JvmDerived.Pilot.@@N@@Code
set_option linter.unusedVariables false
set_option linter.unusedSimpArgs false
@@BLOCK:NumsL.lean.txt@@
namespace Jvm.RoadKit
open Sem ClassFile Op Lib Jvm.Stand Jvm.Free Jvm.LawKit
section New
variable {p : Program} {l : Launch} {e : Env} {R : Room} {s : State} {m : MethodId} {args : Array Value} {below : List Frame} {meth : Method} {c : Code} {T : State} {locs : List Loc} {cells slots : Nat}
theorem retI (X : Stand p l e R s m args below meth c T locs cells slots) (hx : p.tables.exec = Jvm.exec) {pc : Nat} {Ls : Array Slot} {z : Int32} {rest : List Value} (hret : meth.sig.returnType = some .int) (hd : decode c.code pc = .ok (.ireturn, 1)) {fs : List Frame}
    (hl : ∀ (f : JFrame) (acts : List Action), f.method = m → f.locked = none → f.entered = [] → (doReturn e (T.setTop f) acts (some (.int z))).1 = T.setFrames fs) : Steps p.tables e below (T.setTop (mkF m pc Ls (.int z :: rest))) (T.setFrames fs) :=
  retOut X hx hret rfl (Or.inl ⟨rfl, Or.inl rfl, z, rfl⟩) hd hl
theorem retJ (X : Stand p l e R s m args below meth c T locs cells slots) (hx : p.tables.exec = Jvm.exec) {pc : Nat} {Ls : Array Slot} {z : Int64} {rest : List Value} (hret : meth.sig.returnType = some .long) (hd : decode c.code pc = .ok (.lreturn, 1)) {fs : List Frame}
    (hl : ∀ (f : JFrame) (acts : List Action), f.method = m → f.locked = none → f.entered = [] → (doReturn e (T.setTop f) acts (some (.long z))).1 = T.setFrames fs) : Steps p.tables e below (T.setTop (mkF m pc Ls (.long z :: rest))) (T.setFrames fs) :=
  retOut X hx hret rfl (Or.inr (Or.inl ⟨rfl, rfl, z, rfl⟩)) hd hl
theorem retA (X : Stand p l e R s m args below meth c T locs cells slots) (hx : p.tables.exec = Jvm.exec) {pc : Nat} {Ls : Array Slot} {w : Value} {t : FieldType} {rest : List Value} (hret : meth.sig.returnType = some t) (ht : t.isReference = true) (hn : narrow t w = w) (hw : w.isRef = true) (hd : decode c.code pc = .ok (.areturn, 1)) {fs : List Frame}
    (hl : ∀ (f : JFrame) (acts : List Action), f.method = m → f.locked = none → f.entered = [] → (doReturn e (T.setTop f) acts (some w)).1 = T.setFrames fs) : Steps p.tables e below (T.setTop (mkF m pc Ls (w :: rest))) (T.setFrames fs) :=
  retOut X hx hret hn (Or.inr (Or.inr (Or.inr (Or.inr ⟨rfl, ht, hw⟩)))) hd hl
/-- what an array of ints that is written down holds at a place -/
def own_at (vs : List Value) (d : Value) (j : Int32) : Int32 := match vs.getD j.toNatClampNeg d with | .int x => x | _ => 0
def own_ints (vs : List Value) : Bool := vs.all fun v => match v with | .int _ => true | _ => false
theorem own_at_eq {vs : List Value} {d : Value} (h : own_ints (d :: vs) = true) (j : Int32) : vs.getD j.toNatClampNeg d = .int (own_at vs d j) := by
  have q : vs.getD j.toNatClampNeg d ∈ d :: vs := by
    rw [List.getD_eq_getElem?_getD]
    cases e : vs[j.toNatClampNeg]? with
    | none => simp
    | some w => exact List.mem_cons_of_mem _ (List.mem_of_getElem? e)
  have r := List.all_eq_true.mp h _ q
  unfold own_at
  cases e : vs.getD j.toNatClampNeg d <;> rw [e] at r <;> first | rfl | cases r
/-- a piece of a road from the frame F to the frame G, by whatever states between -/
theorem own_seg (X : Stand p l e R s m args below meth c T locs cells slots) (h : Heap) (F G : JFrame)
    (k : ∃ T', Stand p l e R s m args below meth c T' locs cells slots ∧ T'.heap = h ∧ ∀ target, Steps p.tables e below (T'.setTop G) target → Steps p.tables e below (T.setTop F) target) :
    ∃ T', Stand p l e R s m args below meth c T' locs cells slots ∧ T'.heap = h ∧ ∀ target, Steps p.tables e below (T'.setTop G) target → Steps p.tables e below (T.setTop F) target := k
end New
end Jvm.RoadKit
namespace Jvm.Pilot.@@N@@
open Jvm Jvm.ClassFile Sem Op Lib Jvm.Free Jvm.Stand Jvm.LawKit Jvm.RoadKit Bundle Jvm.Pilot.@@N@@.Jvm.D
theorem d2_0 : decode jdk_30_method_1_code 0 = .ok (.aload_n 0, 1) := by decide +kernel
theorem d2_1 : decode jdk_30_method_1_code 1 = .ok (.invokespecial 1, 3) := by decide +kernel
theorem d2_4 : decode jdk_30_method_1_code 4 = .ok (.return_, 1) := by decide +kernel
theorem pn_2 : plainName "java/lang/Record" = true := by first | (simp [plainName, overriddenIn]; done) | decide +kernel
theorem ef_2 (m : MethodId) (r0 : Addr) : entryFrame m #[(.ref r0)] 1 = mkF m 0 #[.val (.ref r0)] [] := by first | (simp [entryFrame, mkF, argsToLocals, Value.category]; done) | rfl
def Q2 (Z : State) (r0 : Addr) (h0 : Heap) (n0 : Nat) (v : Option Value) (h : Heap) (L : List Loc) : Prop := v = none ∧ L = [] ∧ h = h0
set_option maxRecDepth 65536 in
set_option maxHeartbeats 40000000 in
theorem rm2 (l : Launch) (Z : State) (a0 : Array Value) (hw : ∀ d ∈ tables_1, d.before a0 Z = true) (ws : List Jvm.Cond) (r0 : Addr) (h0 : Heap) (n0 : Nat) (Z0 : n0 ≤ h0.size) :
    MetFree l (⟨"java/lang/Record", "<init>", "()V"⟩ : MethodName) (head1 (Jvm.Cond.code (⟨"java/lang/Record", "<init>", "()V"⟩ : MethodName) jdk_30_method_1_code 1 none :: ws) ({ frames := 1, cells := 0, slots := 0, locals := 12 } : Room)) (fun a U => a = #[(.ref r0)] ∧ Z.Warmed39 U.vm ∧ U.heap = h0) (fun _ _ _ _ _ => True) (fun _ U o U' => ∃ v L, o = .returned v ∧ Q2 Z r0 h0 n0 v U'.heap L ∧ FrameEnd U o U' L ({ frames := 1, cells := 0, slots := 0, locals := 12 } : Room).cells ({ frames := 1, cells := 0, slots := 0, locals := 12 } : Room).slots) := by
  refine MetFree.of_bodySF (plainFor_of_name pn_2) hisR ?_
  intro p e s m args below meth c s₁ Bd hml0 hP hK
  obtain ⟨rfl, hZ, hh⟩ := hP
  have hx := Bd.exec
  have hby := Bd.bytes
  have hml : c.maxLocals = 1 := hml0
  have hown : s.vm.findClass "java/lang/Record" = some m.cls := findClass_of_methodNamed Bd.named
  have hnm := (name_of_methodNamed Bd.named Bd.method).1
  have X0 : Stand p l e ({ frames := 1, cells := 0, slots := 0, locals := 12 } : Room) s m #[(.ref r0)] below meth c s₁ [] 0 0 := Stand.of_body Bd
  have e0 : s₁.heap = h0 := by rw [← hh, Bd.state]; rfl
  have N0 := Fr.nil n0
  have pre0 : ∀ t, Steps p.tables e below (s₁.setTop (mkF m 0 #[.val (.ref r0)] [])) t → Steps p.tables e below (s₁.setTop (entryFrame m #[(.ref r0)] 1)) t := fun t k => castTop (ef_2 m r0) k
  obtain ⟨T1, X1, e1, st1⟩ := initO X0 hx hZ hown (hw _ (List.mem_of_getElem? (i := 11) rfl)) (hw _ (List.mem_of_getElem? (i := 12) rfl)) (hw _ (List.mem_of_getElem? (i := 13) rfl)) e0 (g := (mkF m 1 #[.val (.ref r0)] [(.ref r0)])) rfl (by rw [hml]; rfl) rfl (hb hby d2_1) (by decide) (W := 0) (by show 2 * 0 + _ ≤ _; exact Nat.le_of_eq rfl) (by decide)
  obtain ⟨fs, hr, hrun, hended, hW, hsame⟩ := X1.leave (v := none) (fun _ => rfl)
  refine ⟨_, _, pre0 _ ?_, hrun, hended, _, _, rfl, ?_, ⟨_, rfl⟩, hW, hsame.mono (by decide) (by decide)⟩
  · show Steps p.tables e below (s₁.setTop (mkF m 0 #[.val (.ref r0)] [])) _
    refine XS.aloadN X0.here hx rfl (hb hby d2_0) rfl rfl ?_
    show Steps p.tables e below (s₁.setTop (mkF m 1 #[.val (.ref r0)] [(.ref r0)])) _
    refine st1 _ ?_
    show Steps p.tables e below (T1.setTop (mkF m 4 #[.val (.ref r0)] [])) _
    exact X1.returnOut hx Bd.returns (hb hby d2_4) hr
  · show Q2 Z r0 h0 n0 _ T1.heap _
    exact ⟨rfl, rfl, e1⟩
theorem d1_0 : decode prog_258_method_1_code 0 = .ok (.aload_n 0, 1) := by decide +kernel
theorem d1_1 : decode prog_258_method_1_code 1 = .ok (.invokespecial 1, 3) := by decide +kernel
theorem d1_4 : decode prog_258_method_1_code 4 = .ok (.aload_n 0, 1) := by decide +kernel
theorem d1_5 : decode prog_258_method_1_code 5 = .ok (.iload_n 1, 1) := by decide +kernel
theorem d1_6 : decode prog_258_method_1_code 6 = .ok (.putfield 7, 3) := by decide +kernel
theorem d1_9 : decode prog_258_method_1_code 9 = .ok (.aload_n 0, 1) := by decide +kernel
theorem d1_10 : decode prog_258_method_1_code 10 = .ok (.iload_n 2, 1) := by decide +kernel
theorem d1_11 : decode prog_258_method_1_code 11 = .ok (.putfield 13, 3) := by decide +kernel
theorem d1_14 : decode prog_258_method_1_code 14 = .ok (.return_, 1) := by decide +kernel
theorem pn_1 : plainName "com/example/ledgerline/ledgerline/server/TopicSettings" = true := by first | (simp [plainName, overriddenIn]; done) | decide +kernel
theorem pd_1_0 : parseMethodDescriptor "()V" = some ⟨[], none⟩ := by decide +kernel
theorem ef_1 (m : MethodId) (r0 : Addr) (p1 : Int32) (p2 : Int32) : entryFrame m #[(.ref r0), (.int p1), (.int p2)] 3 = mkF m 0 #[.val (.ref r0), .val (.int p1), .val (.int p2)] [] := by first | (simp [entryFrame, mkF, argsToLocals, Value.category]; done) | rfl
def Q1 (Z : State) (r0 : Addr) (p1 : Int32) (p2 : Int32) (u_partitions_r0 : Value) (u_replicationFactor_r0 : Value) (h0 : Heap) (n0 : Nat) (v : Option Value) (h : Heap) (L : List Loc) : Prop := v = none ∧ Fr n0 L ∧ Keep h0 h [r0] ∧ Exa Z h r0 "com/example/ledgerline/ledgerline/server/TopicSettings" ∧ Fld Z h r0 "com/example/ledgerline/ledgerline/server/TopicSettings" "partitions" "I" (.int p1) ∧ Fld Z h r0 "com/example/ledgerline/ledgerline/server/TopicSettings" "replicationFactor" "I" (.int p2)
set_option maxRecDepth 65536 in
set_option maxHeartbeats 40000000 in
theorem rm1 (l : Launch) (Z : State) (a0 : Array Value) (hw : ∀ d ∈ tables_1, d.before a0 Z = true) (ws : List Jvm.Cond) (r0 : Addr) (p1 : Int32) (p2 : Int32) (u_partitions_r0 : Value) (u_replicationFactor_r0 : Value) (h0 : Heap) (n0 : Nat) (Z0 : n0 ≤ h0.size) (E_r0 : Exa Z h0 r0 "com/example/ledgerline/ledgerline/server/TopicSettings") (F_partitions_r0 : Fld Z h0 r0 "com/example/ledgerline/ledgerline/server/TopicSettings" "partitions" "I" u_partitions_r0) (g_r0 : n0 ≤ r0) (F_replicationFactor_r0 : Fld Z h0 r0 "com/example/ledgerline/ledgerline/server/TopicSettings" "replicationFactor" "I" u_replicationFactor_r0) :
    MetFree l (⟨"com/example/ledgerline/ledgerline/server/TopicSettings", "<init>", "(II)V"⟩ : MethodName) (head1 (Jvm.Cond.code (⟨"com/example/ledgerline/ledgerline/server/TopicSettings", "<init>", "(II)V"⟩ : MethodName) prog_258_method_1_code 3 none :: ws) ({ frames := 2, cells := 0, slots := 0, locals := 24 } : Room)) (fun a U => a = #[(.ref r0), (.int p1), (.int p2)] ∧ Z.Warmed39 U.vm ∧ U.heap = h0) (fun _ _ _ _ _ => True) (fun _ U o U' => ∃ v L, o = .returned v ∧ Q1 Z r0 p1 p2 u_partitions_r0 u_replicationFactor_r0 h0 n0 v U'.heap L ∧ FrameEnd U o U' L ({ frames := 2, cells := 0, slots := 0, locals := 24 } : Room).cells ({ frames := 2, cells := 0, slots := 0, locals := 24 } : Room).slots) := by
  refine MetFree.of_bodySF (plainFor_of_name pn_1) hisR ?_
  intro p e s m args below meth c s₁ Bd hml0 hP hK
  obtain ⟨rfl, hZ, hh⟩ := hP
  have hx := Bd.exec
  have hby := Bd.bytes
  have hml : c.maxLocals = 3 := hml0
  have hown : s.vm.findClass "com/example/ledgerline/ledgerline/server/TopicSettings" = some m.cls := findClass_of_methodNamed Bd.named
  have hnm := (name_of_methodNamed Bd.named Bd.method).1
  have X0 : Stand p l e ({ frames := 2, cells := 0, slots := 0, locals := 24 } : Room) s m #[(.ref r0), (.int p1), (.int p2)] below meth c s₁ [] 0 0 := Stand.of_body Bd
  have e0 : s₁.heap = h0 := by rw [← hh, Bd.state]; rfl
  have N0 := Fr.nil n0
  have pre0 : ∀ t, Steps p.tables e below (s₁.setTop (mkF m 0 #[.val (.ref r0), .val (.int p1), .val (.int p2)] [])) t → Steps p.tables e below (s₁.setTop (entryFrame m #[(.ref r0), (.int p1), (.int p2)] 3)) t := fun t k => castTop (ef_1 m r0 p1 p2) k
  obtain ⟨_, _, ⟨T1, L1, k1, n1⟩, -, X1, ⟨Lc1, hQ1, l1, y1, z1⟩, st1⟩ := X0.specialBack hx (y := (⟨"java/lang/Record", "<init>", "()V"⟩ : MethodName)) rfl hown (mvT hZ (hw _ (List.mem_of_getElem? (i := 6) rfl))) (mvT hZ (hw _ (List.mem_of_getElem? (i := 7) rfl))) (mvT hZ (hw _ (List.mem_of_getElem? (i := 10) rfl))) (by decide) (backOf (W := 0) (rm2 l Z a0 hw [] r0 h0 n0 Z0) hZ (hw _ (List.mem_of_getElem? (i := 10) rfl)) (hw _ (List.mem_of_getElem? (i := 9) rfl)) (by decide) (by decide)) (g := (mkF m 1 #[.val (.ref r0), .val (.int p1), .val (.int p2)] [(.ref r0)])) rfl (by rw [hml]; rfl) (Steps.refl _) (a := r0) (argsL := []) (rest := []) (lenOf pd_1_0 rfl) rfl (by show 2 * 0 + _ ≤ _; exact Nat.le_of_eq rfl) (hb hby d1_1) (fun _ _ => ⟨rfl, e0, (by decide : 0 + 0 ≤ _), (by decide : 0 + 0 ≤ _)⟩)
  dsimp only [Pt.U, Pt.locs, Pt.cells, Pt.slots] at X1 l1 y1 z1 st1 hQ1
  subst l1 y1 z1
  obtain ⟨rfl, rfl, e1⟩ := hQ1
  try rw [List.append_nil] at X1
  obtain ⟨T2, h2, X2, e2, W2, st2⟩ := putF X1 hx hZ hown (host := "") (Or.inl (hw _ (List.mem_of_getElem? (i := 14) rfl))) Via.refl e1 F_partitions_r0 E_r0 (Or.inr ⟨(hw _ (List.mem_of_getElem? (i := 15) rfl)), rfl, hnm⟩) (hw _ (List.mem_of_getElem? (i := 1) rfl)) (ty := .int) (by decide) rfl rfl (g := (mkF m 6 #[.val (.ref r0), .val (.int p1), .val (.int p2)] [(.int p1), (.ref r0)])) rfl rfl (hb hby d1_6)
  have Fw2 := F_partitions_r0.same W2
  have N2 := Fr.snoc X2 N0 g_r0
  obtain ⟨T3, h3, X3, e3, W3, st3⟩ := putF X2 hx hZ hown (host := "") (Or.inl (hw _ (List.mem_of_getElem? (i := 16) rfl))) Via.refl e2 (F_replicationFactor_r0.other W2 (Or.inr (slot_ne (Or.inr (hw _ (List.mem_of_getElem? (i := 17) rfl))) (Or.inr (hw _ (List.mem_of_getElem? (i := 15) rfl))) (by decide) (t := .int) (t' := .int) (by decide) (by decide)))) (E_r0.wr W2) (Or.inr ⟨(hw _ (List.mem_of_getElem? (i := 17) rfl)), rfl, hnm⟩) (hw _ (List.mem_of_getElem? (i := 1) rfl)) (ty := .int) (by decide) rfl rfl (g := (mkF m 11 #[.val (.ref r0), .val (.int p1), .val (.int p2)] [(.int p2), (.ref r0)])) rfl rfl (hb hby d1_11)
  have Fw3 := (F_replicationFactor_r0.other W2 (Or.inr (slot_ne (Or.inr (hw _ (List.mem_of_getElem? (i := 17) rfl))) (Or.inr (hw _ (List.mem_of_getElem? (i := 15) rfl))) (by decide) (t := .int) (t' := .int) (by decide) (by decide)))).same W3
  have N3 := Fr.snoc X3 N2 g_r0
  obtain ⟨fs, hr, hrun, hended, hW, hsame⟩ := X3.leave (v := none) (fun _ => rfl)
  refine ⟨_, _, pre0 _ ?_, hrun, hended, _, _, rfl, ?_, ⟨_, rfl⟩, hW, hsame.mono (by decide) (by decide)⟩
  · show Steps p.tables e below (s₁.setTop (mkF m 0 #[.val (.ref r0), .val (.int p1), .val (.int p2)] [])) _
    refine XS.aloadN X0.here hx rfl (hb hby d1_0) rfl rfl ?_
    show Steps p.tables e below (s₁.setTop (mkF m 1 #[.val (.ref r0), .val (.int p1), .val (.int p2)] [(.ref r0)])) _
    refine st1.trans ?_
    show Steps p.tables e below (T1.setTop (mkF m 4 #[.val (.ref r0), .val (.int p1), .val (.int p2)] [])) _
    refine XS.aloadN X1.here hx rfl (hb hby d1_4) rfl rfl ?_
    show Steps p.tables e below (T1.setTop (mkF m 5 #[.val (.ref r0), .val (.int p1), .val (.int p2)] [(.ref r0)])) _
    refine XS.iloadN X1.here hx rfl (hb hby d1_5) rfl ?_
    show Steps p.tables e below (T1.setTop (mkF m 6 #[.val (.ref r0), .val (.int p1), .val (.int p2)] [(.int p1), (.ref r0)])) _
    refine st2 _ ?_
    show Steps p.tables e below (T2.setTop (mkF m 9 #[.val (.ref r0), .val (.int p1), .val (.int p2)] [])) _
    refine XS.aloadN X2.here hx rfl (hb hby d1_9) rfl rfl ?_
    show Steps p.tables e below (T2.setTop (mkF m 10 #[.val (.ref r0), .val (.int p1), .val (.int p2)] [(.ref r0)])) _
    refine XS.iloadN X2.here hx rfl (hb hby d1_10) rfl ?_
    show Steps p.tables e below (T2.setTop (mkF m 11 #[.val (.ref r0), .val (.int p1), .val (.int p2)] [(.int p2), (.ref r0)])) _
    refine st3 _ ?_
    show Steps p.tables e below (T3.setTop (mkF m 14 #[.val (.ref r0), .val (.int p1), .val (.int p2)] [])) _
    exact X3.returnOut hx Bd.returns (hb hby d1_14) hr
  · show Q1 Z r0 p1 p2 u_partitions_r0 u_replicationFactor_r0 h0 n0 _ T3.heap _
    rw [e3]
    exact ⟨rfl, N3, (((Keep.refl h0 [r0]).wr W2 (Or.inl (by simp))).wr W3 (Or.inl (by simp))), ((E_r0.wr W2).wr W3), (Fw2.other W3 (Or.inr (slot_ne (Or.inr (hw _ (List.mem_of_getElem? (i := 15) rfl))) (Or.inr (hw _ (List.mem_of_getElem? (i := 17) rfl))) (by decide) (t := .int) (t' := .int) (by decide) (by decide)))), Fw3⟩
theorem d4_0 : decode prog_258_method_6_code 0 = .ok (.aload_n 0, 1) := by decide +kernel
theorem d4_1 : decode prog_258_method_6_code 1 = .ok (.ifnull 25, 3) := by decide +kernel
theorem d4_4 : decode prog_258_method_6_code 4 = .ok (.aload_n 1, 1) := by decide +kernel
theorem d4_5 : decode prog_258_method_6_code 5 = .ok (.getfield 13, 3) := by decide +kernel
theorem d4_8 : decode prog_258_method_6_code 8 = .ok (.aload_n 0, 1) := by decide +kernel
theorem d4_9 : decode prog_258_method_6_code 9 = .ok (.getfield 13, 3) := by decide +kernel
theorem d4_12 : decode prog_258_method_6_code 12 = .ok (.if_icmp .ne 18, 3) := by decide +kernel
theorem d4_15 : decode prog_258_method_6_code 15 = .ok (.aload_n 1, 1) := by decide +kernel
theorem d4_16 : decode prog_258_method_6_code 16 = .ok (.getfield 7, 3) := by decide +kernel
theorem d4_19 : decode prog_258_method_6_code 19 = .ok (.aload_n 0, 1) := by decide +kernel
theorem d4_20 : decode prog_258_method_6_code 20 = .ok (.getfield 7, 3) := by decide +kernel
theorem d4_23 : decode prog_258_method_6_code 23 = .ok (.if_icmp .le 7, 3) := by decide +kernel
theorem d4_26 : decode prog_258_method_6_code 26 = .ok (.iconst 1, 1) := by decide +kernel
theorem d4_27 : decode prog_258_method_6_code 27 = .ok (.goto 4, 3) := by decide +kernel
theorem d4_30 : decode prog_258_method_6_code 30 = .ok (.iconst 0, 1) := by decide +kernel
theorem d4_31 : decode prog_258_method_6_code 31 = .ok (.ireturn, 1) := by decide +kernel
theorem pn_4 : plainName "com/example/ledgerline/ledgerline/server/TopicSettings" = true := by first | (simp [plainName, overriddenIn]; done) | decide +kernel
theorem ef_4 (m : MethodId) (r0 : Addr) (r1 : Addr) : entryFrame m #[(.ref r0), (.ref r1)] 2 = mkF m 0 #[.val (.ref r0), .val (.ref r1)] [] := by first | (simp [entryFrame, mkF, argsToLocals, Value.category]; done) | rfl
def F4 (w1 : Int32) (w3 : Int32) (w6 : Int32) (w8 : Int32) : Int32 := (if w1 = w3 then (if w8 < w6 then (1 : Int32) else (0 : Int32)) else (0 : Int32))
def Q4 (Z : State) (r0 : Addr) (r1 : Addr) (w1 : Int32) (w3 : Int32) (w6 : Int32) (w8 : Int32) (h0 : Heap) (n0 : Nat) (v : Option Value) (h : Heap) (L : List Loc) : Prop := v = some (.int (F4 w1 w3 w6 w8)) ∧ L = [] ∧ h = h0
set_option maxRecDepth 65536 in
set_option maxHeartbeats 40000000 in
theorem rm4 (l : Launch) (Z : State) (a0 : Array Value) (hw : ∀ d ∈ tables_1, d.before a0 Z = true) (ws : List Jvm.Cond) (r0 : Addr) (r1 : Addr) (w1 : Int32) (w3 : Int32) (w6 : Int32) (w8 : Int32) (h0 : Heap) (n0 : Nat) (Z0 : n0 ≤ h0.size) (F_replicationFactor_r1 : Fld Z h0 r1 "com/example/ledgerline/ledgerline/server/TopicSettings" "replicationFactor" "I" (.int w1)) (F_replicationFactor_r0 : Fld Z h0 r0 "com/example/ledgerline/ledgerline/server/TopicSettings" "replicationFactor" "I" (.int w3)) (F_partitions_r1 : Fld Z h0 r1 "com/example/ledgerline/ledgerline/server/TopicSettings" "partitions" "I" (.int w6)) (F_partitions_r0 : Fld Z h0 r0 "com/example/ledgerline/ledgerline/server/TopicSettings" "partitions" "I" (.int w8)) :
    MetFree l (⟨"com/example/ledgerline/ledgerline/server/TopicSettings", "mayBecome", "(Lcom/example/ledgerline/ledgerline/server/TopicSettings;Lcom/example/ledgerline/ledgerline/server/TopicSettings;)Z"⟩ : MethodName) (head1 (Jvm.Cond.code (⟨"com/example/ledgerline/ledgerline/server/TopicSettings", "mayBecome", "(Lcom/example/ledgerline/ledgerline/server/TopicSettings;Lcom/example/ledgerline/ledgerline/server/TopicSettings;)Z"⟩ : MethodName) prog_258_method_6_code 2 (some .boolean) :: ws) ({ frames := 0, cells := 0, slots := 0, locals := 0 } : Room)) (fun a U => a = #[(.ref r0), (.ref r1)] ∧ Z.Warmed39 U.vm ∧ U.heap = h0) (fun _ _ _ _ _ => True) (fun _ U o U' => ∃ v L, o = .returned v ∧ Q4 Z r0 r1 w1 w3 w6 w8 h0 n0 v U'.heap L ∧ FrameEnd U o U' L ({ frames := 0, cells := 0, slots := 0, locals := 0 } : Room).cells ({ frames := 0, cells := 0, slots := 0, locals := 0 } : Room).slots) := by
  refine MetFree.of_bodySF (plainFor_of_name pn_4) hisR ?_
  intro p e s m args below meth c s₁ Bd hml0 hP hK
  obtain ⟨rfl, hZ, hh⟩ := hP
  have hx := Bd.exec
  have hby := Bd.bytes
  have hml : c.maxLocals = 2 := hml0
  have hown : s.vm.findClass "com/example/ledgerline/ledgerline/server/TopicSettings" = some m.cls := findClass_of_methodNamed Bd.named
  have hnm := (name_of_methodNamed Bd.named Bd.method).1
  have X0 : Stand p l e ({ frames := 0, cells := 0, slots := 0, locals := 0 } : Room) s m #[(.ref r0), (.ref r1)] below meth c s₁ [] 0 0 := Stand.of_body Bd
  have e0 : s₁.heap = h0 := by rw [← hh, Bd.state]; rfl
  have N0 := Fr.nil n0
  have pre0 : ∀ t, Steps p.tables e below (s₁.setTop (mkF m 0 #[.val (.ref r0), .val (.ref r1)] [])) t → Steps p.tables e below (s₁.setTop (entryFrame m #[(.ref r0), (.ref r1)] 2)) t := fun t k => castTop (ef_4 m r0 r1) k
  obtain ⟨T2, X2, e2, st2⟩ := getF X0 hx hZ hown (host := "") (Or.inl (hw _ (List.mem_of_getElem? (i := 16) rfl))) Via.refl e0 F_replicationFactor_r1 (g := (mkF m 5 #[.val (.ref r0), .val (.ref r1)] [(.ref r1)])) rfl rfl (hb hby d4_5)
  obtain ⟨T4, X4, e4, st4⟩ := getF X2 hx hZ hown (host := "") (Or.inl (hw _ (List.mem_of_getElem? (i := 16) rfl))) Via.refl e2 F_replicationFactor_r0 (g := (mkF m 9 #[.val (.ref r0), .val (.ref r1)] [(.ref r0), (.int w1)])) rfl rfl (hb hby d4_9)
  obtain ⟨v11_s0, Hv11_s0⟩ : ∃ z : Int32, z = (if w1 = w3 then (if w8 < w6 then (1 : Int32) else (0 : Int32)) else (0 : Int32)) := ⟨_, rfl⟩
  obtain ⟨T11, X11, e11, st11⟩ := own_seg X4 h0 (mkF m 12 #[.val (.ref r0), .val (.ref r1)] [(.int w3), (.int w1)]) (mkF m 31 #[.val (.ref r0), .val (.ref r1)] [(.int v11_s0)]) (by
    by_cases hc5 : w1 = w3
    · obtain ⟨T7, X7, e7, st7⟩ := getF X4 hx hZ hown (host := "") (Or.inl (hw _ (List.mem_of_getElem? (i := 14) rfl))) Via.refl e4 F_partitions_r1 (g := (mkF m 16 #[.val (.ref r0), .val (.ref r1)] [(.ref r1)])) rfl rfl (hb hby d4_16)
      obtain ⟨T9, X9, e9, st9⟩ := getF X7 hx hZ hown (host := "") (Or.inl (hw _ (List.mem_of_getElem? (i := 14) rfl))) Via.refl e7 F_partitions_r0 (g := (mkF m 20 #[.val (.ref r0), .val (.ref r1)] [(.ref r0), (.int w6)])) rfl rfl (hb hby d4_20)
      by_cases hc10 : w8 < w6
      · rw [if_pos hc5, if_pos hc10] at Hv11_s0
        refine ⟨T9, X9, e9, fun target kt => ?_⟩
        rw [Hv11_s0] at kt
        show Steps p.tables e below (T4.setTop (mkF m 12 #[.val (.ref r0), .val (.ref r1)] [(.int w3), (.int w1)])) _
        refine XS.icmpNo X4.here hx rfl (hb hby d4_12) rfl (teq hc5).2 ?_
        show Steps p.tables e below (T4.setTop (mkF m 15 #[.val (.ref r0), .val (.ref r1)] [])) _
        refine XS.aloadN X4.here hx rfl (hb hby d4_15) rfl rfl ?_
        show Steps p.tables e below (T4.setTop (mkF m 16 #[.val (.ref r0), .val (.ref r1)] [(.ref r1)])) _
        refine st7 _ ?_
        show Steps p.tables e below (T7.setTop (mkF m 19 #[.val (.ref r0), .val (.ref r1)] [(.int w6)])) _
        refine XS.aloadN X7.here hx rfl (hb hby d4_19) rfl rfl ?_
        show Steps p.tables e below (T7.setTop (mkF m 20 #[.val (.ref r0), .val (.ref r1)] [(.ref r0), (.int w6)])) _
        refine st9 _ ?_
        show Steps p.tables e below (T9.setTop (mkF m 23 #[.val (.ref r0), .val (.ref r1)] [(.int w8), (.int w6)])) _
        refine XS.icmpNo X9.here hx rfl (hb hby d4_23) rfl (tlt hc10).2.2.2 ?_
        show Steps p.tables e below (T9.setTop (mkF m 26 #[.val (.ref r0), .val (.ref r1)] [])) _
        refine XS.iconst X9.here hx rfl (hb hby d4_26) ?_
        show Steps p.tables e below (T9.setTop (mkF m 27 #[.val (.ref r0), .val (.ref r1)] [(.int (1 : Int32))])) _
        refine XS.goto X9.here hx rfl (pc0 := 27) (pc' := 31) rfl (hb hby d4_27) (by decide) (by decide) ?_
        exact kt
      · rw [if_pos hc5, if_neg hc10] at Hv11_s0
        refine ⟨T9, X9, e9, fun target kt => ?_⟩
        rw [Hv11_s0] at kt
        show Steps p.tables e below (T4.setTop (mkF m 12 #[.val (.ref r0), .val (.ref r1)] [(.int w3), (.int w1)])) _
        refine XS.icmpNo X4.here hx rfl (hb hby d4_12) rfl (teq hc5).2 ?_
        show Steps p.tables e below (T4.setTop (mkF m 15 #[.val (.ref r0), .val (.ref r1)] [])) _
        refine XS.aloadN X4.here hx rfl (hb hby d4_15) rfl rfl ?_
        show Steps p.tables e below (T4.setTop (mkF m 16 #[.val (.ref r0), .val (.ref r1)] [(.ref r1)])) _
        refine st7 _ ?_
        show Steps p.tables e below (T7.setTop (mkF m 19 #[.val (.ref r0), .val (.ref r1)] [(.int w6)])) _
        refine XS.aloadN X7.here hx rfl (hb hby d4_19) rfl rfl ?_
        show Steps p.tables e below (T7.setTop (mkF m 20 #[.val (.ref r0), .val (.ref r1)] [(.ref r0), (.int w6)])) _
        refine st9 _ ?_
        show Steps p.tables e below (T9.setTop (mkF m 23 #[.val (.ref r0), .val (.ref r1)] [(.int w8), (.int w6)])) _
        refine XS.icmpYes X9.here hx rfl (pc0 := 23) (pc' := 30) rfl (hb hby d4_23) rfl (flt hc10).2.2.2 (by decide) (by decide) ?_
        show Steps p.tables e below (T9.setTop (mkF m 30 #[.val (.ref r0), .val (.ref r1)] [])) _
        refine XS.iconst X9.here hx rfl (hb hby d4_30) ?_
        exact kt
    · rw [if_neg hc5] at Hv11_s0
      refine ⟨T4, X4, e4, fun target kt => ?_⟩
      rw [Hv11_s0] at kt
      show Steps p.tables e below (T4.setTop (mkF m 12 #[.val (.ref r0), .val (.ref r1)] [(.int w3), (.int w1)])) _
      refine XS.icmpYes X4.here hx rfl (pc0 := 12) (pc' := 30) rfl (hb hby d4_12) rfl (feq hc5).2 (by decide) (by decide) ?_
      show Steps p.tables e below (T4.setTop (mkF m 30 #[.val (.ref r0), .val (.ref r1)] [])) _
      refine XS.iconst X4.here hx rfl (hb hby d4_30) ?_
      exact kt)
  have hfin : nar .boolean v11_s0 = F4 w1 w3 w6 w8 := by
    rw [Hv11_s0]; unfold F4
    first | rfl | (repeat' split) <;> rfl
  obtain ⟨fs, hr, hrun, hended, hW, hsame⟩ := X11.leave (v := some (.int (nar .boolean v11_s0))) (fun h => by rw [Bd.returns] at h; cases h)
  refine ⟨_, _, pre0 _ ?_, hrun, hended, _, _, rfl, ?_, ⟨_, rfl⟩, hW, hsame.mono (by decide) (by decide)⟩
  · show Steps p.tables e below (s₁.setTop (mkF m 0 #[.val (.ref r0), .val (.ref r1)] [])) _
    refine XS.aloadN X0.here hx rfl (hb hby d4_0) rfl rfl ?_
    show Steps p.tables e below (s₁.setTop (mkF m 1 #[.val (.ref r0), .val (.ref r1)] [(.ref r0)])) _
    refine XS.ifnullNo X0.here hx rfl (hb hby d4_1) rfl ?_
    show Steps p.tables e below (s₁.setTop (mkF m 4 #[.val (.ref r0), .val (.ref r1)] [])) _
    refine XS.aloadN X0.here hx rfl (hb hby d4_4) rfl rfl ?_
    show Steps p.tables e below (s₁.setTop (mkF m 5 #[.val (.ref r0), .val (.ref r1)] [(.ref r1)])) _
    refine st2 _ ?_
    show Steps p.tables e below (T2.setTop (mkF m 8 #[.val (.ref r0), .val (.ref r1)] [(.int w1)])) _
    refine XS.aloadN X2.here hx rfl (hb hby d4_8) rfl rfl ?_
    show Steps p.tables e below (T2.setTop (mkF m 9 #[.val (.ref r0), .val (.ref r1)] [(.ref r0), (.int w1)])) _
    refine st4 _ ?_
    show Steps p.tables e below (T4.setTop (mkF m 12 #[.val (.ref r0), .val (.ref r1)] [(.int w3), (.int w1)])) _
    refine st11 _ ?_
    show Steps p.tables e below (T11.setTop (mkF m 31 #[.val (.ref r0), .val (.ref r1)] [(.int v11_s0)])) _
    exact retN X11 hx (t := .boolean) Bd.returns (by simp) (hb hby d4_31) hr
  · show Q4 Z r0 r1 w1 w3 w6 w8 h0 n0 _ T11.heap _
    exact ⟨congrArg (fun z => some (Value.int z)) hfin, rfl, e11⟩
theorem pn_4n : plainName "com/example/ledgerline/ledgerline/server/TopicSettings" = true := by first | (simp [plainName, overriddenIn]; done) | decide +kernel
theorem ef_4n (m : MethodId) (r1 : Addr) : entryFrame m #[.null, (.ref r1)] 2 = mkF m 0 #[.val .null, .val (.ref r1)] [] := by first | (simp [entryFrame, mkF, argsToLocals, Value.category]; done) | rfl
def F4n  : Int32 := (1 : Int32)
def Q4n (Z : State) (r1 : Addr) (h0 : Heap) (n0 : Nat) (v : Option Value) (h : Heap) (L : List Loc) : Prop := v = some (.int (F4n)) ∧ L = [] ∧ h = h0
set_option maxRecDepth 65536 in
set_option maxHeartbeats 40000000 in
theorem rm4n (l : Launch) (Z : State) (a0 : Array Value) (hw : ∀ d ∈ tables_1, d.before a0 Z = true) (ws : List Jvm.Cond) (r1 : Addr) (h0 : Heap) (n0 : Nat) (Z0 : n0 ≤ h0.size) :
    MetFree l (⟨"com/example/ledgerline/ledgerline/server/TopicSettings", "mayBecome", "(Lcom/example/ledgerline/ledgerline/server/TopicSettings;Lcom/example/ledgerline/ledgerline/server/TopicSettings;)Z"⟩ : MethodName) (head1 (Jvm.Cond.code (⟨"com/example/ledgerline/ledgerline/server/TopicSettings", "mayBecome", "(Lcom/example/ledgerline/ledgerline/server/TopicSettings;Lcom/example/ledgerline/ledgerline/server/TopicSettings;)Z"⟩ : MethodName) prog_258_method_6_code 2 (some .boolean) :: ws) ({ frames := 0, cells := 0, slots := 0, locals := 0 } : Room)) (fun a U => a = #[.null, (.ref r1)] ∧ Z.Warmed39 U.vm ∧ U.heap = h0) (fun _ _ _ _ _ => True) (fun _ U o U' => ∃ v L, o = .returned v ∧ Q4n Z r1 h0 n0 v U'.heap L ∧ FrameEnd U o U' L ({ frames := 0, cells := 0, slots := 0, locals := 0 } : Room).cells ({ frames := 0, cells := 0, slots := 0, locals := 0 } : Room).slots) := by
  refine MetFree.of_bodySF (plainFor_of_name pn_4n) hisR ?_
  intro p e s m args below meth c s₁ Bd hml0 hP hK
  obtain ⟨rfl, hZ, hh⟩ := hP
  have hx := Bd.exec
  have hby := Bd.bytes
  have hml : c.maxLocals = 2 := hml0
  have hown : s.vm.findClass "com/example/ledgerline/ledgerline/server/TopicSettings" = some m.cls := findClass_of_methodNamed Bd.named
  have hnm := (name_of_methodNamed Bd.named Bd.method).1
  have X0 : Stand p l e ({ frames := 0, cells := 0, slots := 0, locals := 0 } : Room) s m #[.null, (.ref r1)] below meth c s₁ [] 0 0 := Stand.of_body Bd
  have e0 : s₁.heap = h0 := by rw [← hh, Bd.state]; rfl
  have N0 := Fr.nil n0
  have pre0 : ∀ t, Steps p.tables e below (s₁.setTop (mkF m 0 #[.val .null, .val (.ref r1)] [])) t → Steps p.tables e below (s₁.setTop (entryFrame m #[.null, (.ref r1)] 2)) t := fun t k => castTop (ef_4n m r1) k
  have hfin : nar .boolean (1 : Int32) = F4n := by
    unfold F4n
    first | rfl | (repeat' split) <;> rfl
  obtain ⟨fs, hr, hrun, hended, hW, hsame⟩ := X0.leave (v := some (.int (nar .boolean (1 : Int32)))) (fun h => by rw [Bd.returns] at h; cases h)
  refine ⟨_, _, pre0 _ ?_, hrun, hended, _, _, rfl, ?_, ⟨_, rfl⟩, hW, hsame.mono (by decide) (by decide)⟩
  · show Steps p.tables e below (s₁.setTop (mkF m 0 #[.val .null, .val (.ref r1)] [])) _
    refine XS.aloadN X0.here hx rfl (hb hby d4_0) rfl rfl ?_
    show Steps p.tables e below (s₁.setTop (mkF m 1 #[.val .null, .val (.ref r1)] [.null])) _
    refine XS.ifnullYes X0.here hx rfl (pc0 := 1) (pc' := 26) rfl (hb hby d4_1) rfl (by decide) (by decide) ?_
    show Steps p.tables e below (s₁.setTop (mkF m 26 #[.val .null, .val (.ref r1)] [])) _
    refine XS.iconst X0.here hx rfl (hb hby d4_26) ?_
    show Steps p.tables e below (s₁.setTop (mkF m 27 #[.val .null, .val (.ref r1)] [(.int (1 : Int32))])) _
    refine XS.goto X0.here hx rfl (pc0 := 27) (pc' := 31) rfl (hb hby d4_27) (by decide) (by decide) ?_
    show Steps p.tables e below (s₁.setTop (mkF m 31 #[.val .null, .val (.ref r1)] [(.int (1 : Int32))])) _
    exact retN X0 hx (t := .boolean) Bd.returns (by simp) (hb hby d4_31) hr
  · show Q4n Z r1 h0 n0 _ s₁.heap _
    exact ⟨congrArg (fun z => some (Value.int z)) hfin, rfl, e0⟩
theorem own_dif (a b : Int32) : (a.toInt64 - b.toInt64).toInt = a.toInt - b.toInt := by
  have h1 := Int32.toInt_toInt64 a
  have h2 := Int32.toInt_toInt64 b
  have r1 := rng32 a
  have r2 := rng32 b
  have e : (a.toInt64 - b.toInt64).toInt = a.toInt64.toInt - b.toInt64.toInt := Jvm.Kit.i64_sub (by omega) (by omega)
  omega
theorem own_eqz (a b : Int32) : a.toInt64 - b.toInt64 = (0 : Int64) ↔ a = b := by
  have a0 : (0 : Int64).toInt = 0 := rfl
  rw [← Int64.toInt_inj, ← Int32.toInt_inj, own_dif, a0]; omega
theorem own_ltz (a b : Int32) : a.toInt64 - b.toInt64 < (1 : Int64) ↔ ¬ b < a := by
  have a1 : (1 : Int64).toInt = 1 := rfl
  rw [Int64.lt_iff_toInt_lt, Int32.lt_iff_toInt_lt, own_dif, a1]; omega
theorem plain_a (p0 : Int32) (p1 : Int32) (p2 : Int32) (p3 : Int32) (p4 : Int32) (v2_s0 : Int32) (Hv2_s0 : v2_s0 = (if (p0 &&& (2 : Int32)) = (0 : Int32) then p4 else p2)) (v6_l8 : Int32) (Hv6_l8 : v6_l8 = (if ((p0 >>> ((2 : Int32) &&& 31)) &&& (3 : Int32)) = (0 : Int32) then p3 else (if ((p0 >>> ((2 : Int32) &&& 31)) &&& (3 : Int32)) = (1 : Int32) then p1 else (if ((p0 >>> ((2 : Int32) &&& 31)) &&& (3 : Int32)) = (2 : Int32) then (p1 + (1 : Int32)) else (p1 - (1 : Int32)))))) (v13_s0 : Int32) (Hv13_s0 : v13_s0 = (if ((v6_l8.toInt64) - (p1.toInt64)) < (1 : Int64) then (0 : Int32) else (1 : Int32))) (v14_l11 : Int32) (Hv14_l11 : v14_l11 = (if ((v2_s0.toInt64) - (p2.toInt64)) = (0 : Int64) then v13_s0 else (0 : Int32))) (v17_s0 : Int32) (Hv17_s0 : v17_s0 = (if (F4 v2_s0 p2 v6_l8 p1) = v14_l11 then (1 : Int32) else (0 : Int32))) (hc3 : (p0 &&& (1 : Int32)) = (0 : Int32)) : v17_s0 = 1 := by
  rw [Hv17_s0, if_pos]
  rw [Hv14_l11, Hv13_s0]
  unfold F4
  by_cases h1 : v2_s0 = p2
  · rw [if_pos h1, if_pos ((own_eqz _ _).mpr h1)]
    by_cases h2 : p1 < v6_l8
    · rw [if_pos h2, if_neg fun q => (own_ltz _ _).mp q h2]
    · rw [if_neg h2, if_pos ((own_ltz _ _).mpr h2)]
  · rw [if_neg h1, if_neg fun q => h1 ((own_eqz _ _).mp q)]

theorem pn_0a : plainName "com/example/ledgerline/ledgerline/server/TopicSettingsMayBecomePinLaw" = true := by first | (simp [plainName, overriddenIn]; done) | decide +kernel
theorem pd_0a_0 : parseMethodDescriptor "(II)V" = some ⟨[.int, .int], none⟩ := by decide +kernel
theorem pd_0a_1 : parseMethodDescriptor "(Lcom/example/ledgerline/ledgerline/server/TopicSettings;Lcom/example/ledgerline/ledgerline/server/TopicSettings;)Z" = some ⟨[(.object "com/example/ledgerline/ledgerline/server/TopicSettings"), (.object "com/example/ledgerline/ledgerline/server/TopicSettings")], some .boolean⟩ := by decide +kernel
theorem ef_0a (m : MethodId) (p0 : Int32) (p1 : Int32) (p2 : Int32) (p3 : Int32) (p4 : Int32) : entryFrame m #[(.int p0), (.int p1), (.int p2), (.int p3), (.int p4)] maxLocals = mkF m 0 #[.val (.int p0), .val (.int p1), .val (.int p2), .val (.int p3), .val (.int p4), .unset, .unset, .unset, .unset, .unset, .unset, .unset] [] := by first | (simp [entryFrame, mkF, argsToLocals, Value.category, maxLocals]; done) | rfl
set_option maxRecDepth 65536 in
set_option maxHeartbeats 40000000 in
theorem rm0a (l : Launch) (Z : State) (a0 : Array Value) (hw : ∀ d ∈ tables_1, d.before a0 Z = true) (ws : List Jvm.Cond) (p0 : Int32) (p1 : Int32) (p2 : Int32) (p3 : Int32) (p4 : Int32) (h0 : Heap) (n0 : Nat) (Z0 : n0 ≤ h0.size) (hc3 : (p0 &&& (1 : Int32)) = (0 : Int32)) :
    MetFree l x (head1 (Jvm.Cond.code x code maxLocals ret :: ws) room_1) (fun a U => a = #[(.int p0), (.int p1), (.int p2), (.int p3), (.int p4)] ∧ Z.Warmed39 U.vm ∧ U.heap = h0) (fun _ _ _ _ _ => True) (fun _ U o U' => ∃ v L, o = .returned v ∧ (v = some (.int 1) ∧ Fr n0 L) ∧ FrameEnd U o U' L room_1.cells room_1.slots) := by
  refine MetFree.of_bodySF (plainFor_of_name pn_0a) hisR ?_
  intro p e s m args below meth c s₁ Bd hml0 hP hK
  obtain ⟨rfl, hZ, hh⟩ := hP
  have hx := Bd.exec
  have hby := Bd.bytes
  have hml : c.maxLocals = 12 := hml0
  have hown : s.vm.findClass "com/example/ledgerline/ledgerline/server/TopicSettingsMayBecomePinLaw" = some m.cls := findClass_of_methodNamed Bd.named
  have hnm := (name_of_methodNamed Bd.named Bd.method).1
  have X0 : Stand p l e room_1 s m #[(.int p0), (.int p1), (.int p2), (.int p3), (.int p4)] below meth c s₁ [] 0 0 := Stand.of_body Bd
  have e0 : s₁.heap = h0 := by rw [← hh, Bd.state]; rfl
  have N0 := Fr.nil n0
  have pre0 : ∀ t, Steps p.tables e below (s₁.setTop (mkF m 0 #[.val (.int p0), .val (.int p1), .val (.int p2), .val (.int p3), .val (.int p4), .unset, .unset, .unset, .unset, .unset, .unset, .unset] [])) t → Steps p.tables e below (s₁.setTop (entryFrame m #[(.int p0), (.int p1), (.int p2), (.int p3), (.int p4)] maxLocals)) t := fun t k => castTop (ef_0a m p0 p1 p2 p3 p4) k
  obtain ⟨v2_s0, Hv2_s0⟩ : ∃ z : Int32, z = (if (p0 &&& (2 : Int32)) = (0 : Int32) then p4 else p2) := ⟨_, rfl⟩
  obtain ⟨T2, X2, e2, st2⟩ := own_seg X0 h0 (mkF m 16 #[.val (.int p0), .val (.int p1), .val (.int p2), .val (.int p3), .val (.int p4), .val (.int (0 : Int32)), .unset, .unset, .unset, .unset, .unset, .unset] [(.int (p0 &&& (2 : Int32)))]) (mkF m 25 #[.val (.int p0), .val (.int p1), .val (.int p2), .val (.int p3), .val (.int p4), .val (.int (0 : Int32)), .unset, .unset, .unset, .unset, .unset, .unset] [(.int v2_s0)]) (by
    by_cases hc1 : (p0 &&& (2 : Int32)) = (0 : Int32)
    · rw [if_pos hc1] at Hv2_s0
      refine ⟨s₁, X0, e0, fun target kt => ?_⟩
      rw [Hv2_s0] at kt
      show Steps p.tables e below (s₁.setTop (mkF m 16 #[.val (.int p0), .val (.int p1), .val (.int p2), .val (.int p3), .val (.int p4), .val (.int (0 : Int32)), .unset, .unset, .unset, .unset, .unset, .unset] [(.int (p0 &&& (2 : Int32)))])) _
      refine XS.ifYes X0.here hx rfl (pc0 := 16) (pc' := 23) rfl (hb hby at_16) rfl ((if0 _ _).trans (teq hc1).1) (by decide) (by decide) ?_
      show Steps p.tables e below (s₁.setTop (mkF m 23 #[.val (.int p0), .val (.int p1), .val (.int p2), .val (.int p3), .val (.int p4), .val (.int (0 : Int32)), .unset, .unset, .unset, .unset, .unset, .unset] [])) _
      refine XS.iload X0.here hx rfl (hb hby at_23) rfl ?_
      exact kt
    · rw [if_neg hc1] at Hv2_s0
      refine ⟨s₁, X0, e0, fun target kt => ?_⟩
      rw [Hv2_s0] at kt
      show Steps p.tables e below (s₁.setTop (mkF m 16 #[.val (.int p0), .val (.int p1), .val (.int p2), .val (.int p3), .val (.int p4), .val (.int (0 : Int32)), .unset, .unset, .unset, .unset, .unset, .unset] [(.int (p0 &&& (2 : Int32)))])) _
      refine XS.ifNo X0.here hx rfl (hb hby at_16) rfl ((if0 _ _).trans (feq hc1).1) ?_
      show Steps p.tables e below (s₁.setTop (mkF m 19 #[.val (.int p0), .val (.int p1), .val (.int p2), .val (.int p3), .val (.int p4), .val (.int (0 : Int32)), .unset, .unset, .unset, .unset, .unset, .unset] [])) _
      refine XS.iloadN X0.here hx rfl (hb hby at_19) rfl ?_
      show Steps p.tables e below (s₁.setTop (mkF m 20 #[.val (.int p0), .val (.int p1), .val (.int p2), .val (.int p3), .val (.int p4), .val (.int (0 : Int32)), .unset, .unset, .unset, .unset, .unset, .unset] [(.int p2)])) _
      refine XS.goto X0.here hx rfl (pc0 := 20) (pc' := 25) rfl (hb hby at_20) (by decide) (by decide) ?_
      exact kt)
  obtain ⟨v6_l8, Hv6_l8⟩ : ∃ z : Int32, z = (if ((p0 >>> ((2 : Int32) &&& 31)) &&& (3 : Int32)) = (0 : Int32) then p3 else (if ((p0 >>> ((2 : Int32) &&& 31)) &&& (3 : Int32)) = (1 : Int32) then p1 else (if ((p0 >>> ((2 : Int32) &&& 31)) &&& (3 : Int32)) = (2 : Int32) then (p1 + (1 : Int32)) else (p1 - (1 : Int32))))) := ⟨_, rfl⟩
  obtain ⟨T6, X6, e6, st6⟩ := own_seg X2 h0 (mkF m 36 #[.val (.int p0), .val (.int p1), .val (.int p2), .val (.int p3), .val (.int p4), .val (.int (0 : Int32)), .val (.int v2_s0), .val (.int ((p0 >>> ((2 : Int32) &&& 31)) &&& (3 : Int32))), .unset, .unset, .unset, .unset] [(.int ((p0 >>> ((2 : Int32) &&& 31)) &&& (3 : Int32)))]) (mkF m 76 #[.val (.int p0), .val (.int p1), .val (.int p2), .val (.int p3), .val (.int p4), .val (.int (0 : Int32)), .val (.int v2_s0), .val (.int ((p0 >>> ((2 : Int32) &&& 31)) &&& (3 : Int32))), .val (.int v6_l8), .unset, .unset, .unset] []) (by
    by_cases hc3 : ((p0 >>> ((2 : Int32) &&& 31)) &&& (3 : Int32)) = (0 : Int32)
    · rw [if_pos hc3] at Hv6_l8
      refine ⟨T2, X2, e2, fun target kt => ?_⟩
      rw [Hv6_l8] at kt
      show Steps p.tables e below (T2.setTop (mkF m 36 #[.val (.int p0), .val (.int p1), .val (.int p2), .val (.int p3), .val (.int p4), .val (.int (0 : Int32)), .val (.int v2_s0), .val (.int ((p0 >>> ((2 : Int32) &&& 31)) &&& (3 : Int32))), .unset, .unset, .unset, .unset] [(.int ((p0 >>> ((2 : Int32) &&& 31)) &&& (3 : Int32)))])) _
      refine XS.ifNo X2.here hx rfl (hb hby at_36) rfl ((if0 _ _).trans (teq hc3).2) ?_
      show Steps p.tables e below (T2.setTop (mkF m 39 #[.val (.int p0), .val (.int p1), .val (.int p2), .val (.int p3), .val (.int p4), .val (.int (0 : Int32)), .val (.int v2_s0), .val (.int ((p0 >>> ((2 : Int32) &&& 31)) &&& (3 : Int32))), .unset, .unset, .unset, .unset] [])) _
      refine XS.iloadN X2.here hx rfl (hb hby at_39) rfl ?_
      show Steps p.tables e below (T2.setTop (mkF m 40 #[.val (.int p0), .val (.int p1), .val (.int p2), .val (.int p3), .val (.int p4), .val (.int (0 : Int32)), .val (.int v2_s0), .val (.int ((p0 >>> ((2 : Int32) &&& 31)) &&& (3 : Int32))), .unset, .unset, .unset, .unset] [(.int p3)])) _
      refine XS.istore X2.here hx rfl (hb hby at_40) rfl (l' := #[.val (.int p0), .val (.int p1), .val (.int p2), .val (.int p3), .val (.int p4), .val (.int (0 : Int32)), .val (.int v2_s0), .val (.int ((p0 >>> ((2 : Int32) &&& 31)) &&& (3 : Int32))), .val (.int p3), .unset, .unset, .unset]) rfl ?_
      show Steps p.tables e below (T2.setTop (mkF m 42 #[.val (.int p0), .val (.int p1), .val (.int p2), .val (.int p3), .val (.int p4), .val (.int (0 : Int32)), .val (.int v2_s0), .val (.int ((p0 >>> ((2 : Int32) &&& 31)) &&& (3 : Int32))), .val (.int p3), .unset, .unset, .unset] [])) _
      refine XS.goto X2.here hx rfl (pc0 := 42) (pc' := 76) rfl (hb hby at_42) (by decide) (by decide) ?_
      exact kt
    · by_cases hc4 : ((p0 >>> ((2 : Int32) &&& 31)) &&& (3 : Int32)) = (1 : Int32)
      · rw [if_neg hc3, if_pos hc4] at Hv6_l8
        refine ⟨T2, X2, e2, fun target kt => ?_⟩
        rw [Hv6_l8] at kt
        show Steps p.tables e below (T2.setTop (mkF m 36 #[.val (.int p0), .val (.int p1), .val (.int p2), .val (.int p3), .val (.int p4), .val (.int (0 : Int32)), .val (.int v2_s0), .val (.int ((p0 >>> ((2 : Int32) &&& 31)) &&& (3 : Int32))), .unset, .unset, .unset, .unset] [(.int ((p0 >>> ((2 : Int32) &&& 31)) &&& (3 : Int32)))])) _
        refine XS.ifYes X2.here hx rfl (pc0 := 36) (pc' := 45) rfl (hb hby at_36) rfl ((if0 _ _).trans (feq hc3).2) (by decide) (by decide) ?_
        show Steps p.tables e below (T2.setTop (mkF m 45 #[.val (.int p0), .val (.int p1), .val (.int p2), .val (.int p3), .val (.int p4), .val (.int (0 : Int32)), .val (.int v2_s0), .val (.int ((p0 >>> ((2 : Int32) &&& 31)) &&& (3 : Int32))), .unset, .unset, .unset, .unset] [])) _
        refine XS.iload X2.here hx rfl (hb hby at_45) rfl ?_
        show Steps p.tables e below (T2.setTop (mkF m 47 #[.val (.int p0), .val (.int p1), .val (.int p2), .val (.int p3), .val (.int p4), .val (.int (0 : Int32)), .val (.int v2_s0), .val (.int ((p0 >>> ((2 : Int32) &&& 31)) &&& (3 : Int32))), .unset, .unset, .unset, .unset] [(.int ((p0 >>> ((2 : Int32) &&& 31)) &&& (3 : Int32)))])) _
        refine XS.iconst X2.here hx rfl (hb hby at_47) ?_
        show Steps p.tables e below (T2.setTop (mkF m 48 #[.val (.int p0), .val (.int p1), .val (.int p2), .val (.int p3), .val (.int p4), .val (.int (0 : Int32)), .val (.int v2_s0), .val (.int ((p0 >>> ((2 : Int32) &&& 31)) &&& (3 : Int32))), .unset, .unset, .unset, .unset] [(.int (1 : Int32)), (.int ((p0 >>> ((2 : Int32) &&& 31)) &&& (3 : Int32)))])) _
        refine XS.icmpNo X2.here hx rfl (hb hby at_48) rfl (teq hc4).2 ?_
        show Steps p.tables e below (T2.setTop (mkF m 51 #[.val (.int p0), .val (.int p1), .val (.int p2), .val (.int p3), .val (.int p4), .val (.int (0 : Int32)), .val (.int v2_s0), .val (.int ((p0 >>> ((2 : Int32) &&& 31)) &&& (3 : Int32))), .unset, .unset, .unset, .unset] [])) _
        refine XS.iloadN X2.here hx rfl (hb hby at_51) rfl ?_
        show Steps p.tables e below (T2.setTop (mkF m 52 #[.val (.int p0), .val (.int p1), .val (.int p2), .val (.int p3), .val (.int p4), .val (.int (0 : Int32)), .val (.int v2_s0), .val (.int ((p0 >>> ((2 : Int32) &&& 31)) &&& (3 : Int32))), .unset, .unset, .unset, .unset] [(.int p1)])) _
        refine XS.istore X2.here hx rfl (hb hby at_52) rfl (l' := #[.val (.int p0), .val (.int p1), .val (.int p2), .val (.int p3), .val (.int p4), .val (.int (0 : Int32)), .val (.int v2_s0), .val (.int ((p0 >>> ((2 : Int32) &&& 31)) &&& (3 : Int32))), .val (.int p1), .unset, .unset, .unset]) rfl ?_
        show Steps p.tables e below (T2.setTop (mkF m 54 #[.val (.int p0), .val (.int p1), .val (.int p2), .val (.int p3), .val (.int p4), .val (.int (0 : Int32)), .val (.int v2_s0), .val (.int ((p0 >>> ((2 : Int32) &&& 31)) &&& (3 : Int32))), .val (.int p1), .unset, .unset, .unset] [])) _
        refine XS.goto X2.here hx rfl (pc0 := 54) (pc' := 76) rfl (hb hby at_54) (by decide) (by decide) ?_
        exact kt
      · by_cases hc5 : ((p0 >>> ((2 : Int32) &&& 31)) &&& (3 : Int32)) = (2 : Int32)
        · rw [if_neg hc3, if_neg hc4, if_pos hc5] at Hv6_l8
          refine ⟨T2, X2, e2, fun target kt => ?_⟩
          rw [Hv6_l8] at kt
          show Steps p.tables e below (T2.setTop (mkF m 36 #[.val (.int p0), .val (.int p1), .val (.int p2), .val (.int p3), .val (.int p4), .val (.int (0 : Int32)), .val (.int v2_s0), .val (.int ((p0 >>> ((2 : Int32) &&& 31)) &&& (3 : Int32))), .unset, .unset, .unset, .unset] [(.int ((p0 >>> ((2 : Int32) &&& 31)) &&& (3 : Int32)))])) _
          refine XS.ifYes X2.here hx rfl (pc0 := 36) (pc' := 45) rfl (hb hby at_36) rfl ((if0 _ _).trans (feq hc3).2) (by decide) (by decide) ?_
          show Steps p.tables e below (T2.setTop (mkF m 45 #[.val (.int p0), .val (.int p1), .val (.int p2), .val (.int p3), .val (.int p4), .val (.int (0 : Int32)), .val (.int v2_s0), .val (.int ((p0 >>> ((2 : Int32) &&& 31)) &&& (3 : Int32))), .unset, .unset, .unset, .unset] [])) _
          refine XS.iload X2.here hx rfl (hb hby at_45) rfl ?_
          show Steps p.tables e below (T2.setTop (mkF m 47 #[.val (.int p0), .val (.int p1), .val (.int p2), .val (.int p3), .val (.int p4), .val (.int (0 : Int32)), .val (.int v2_s0), .val (.int ((p0 >>> ((2 : Int32) &&& 31)) &&& (3 : Int32))), .unset, .unset, .unset, .unset] [(.int ((p0 >>> ((2 : Int32) &&& 31)) &&& (3 : Int32)))])) _
          refine XS.iconst X2.here hx rfl (hb hby at_47) ?_
          show Steps p.tables e below (T2.setTop (mkF m 48 #[.val (.int p0), .val (.int p1), .val (.int p2), .val (.int p3), .val (.int p4), .val (.int (0 : Int32)), .val (.int v2_s0), .val (.int ((p0 >>> ((2 : Int32) &&& 31)) &&& (3 : Int32))), .unset, .unset, .unset, .unset] [(.int (1 : Int32)), (.int ((p0 >>> ((2 : Int32) &&& 31)) &&& (3 : Int32)))])) _
          refine XS.icmpYes X2.here hx rfl (pc0 := 48) (pc' := 57) rfl (hb hby at_48) rfl (feq hc4).2 (by decide) (by decide) ?_
          show Steps p.tables e below (T2.setTop (mkF m 57 #[.val (.int p0), .val (.int p1), .val (.int p2), .val (.int p3), .val (.int p4), .val (.int (0 : Int32)), .val (.int v2_s0), .val (.int ((p0 >>> ((2 : Int32) &&& 31)) &&& (3 : Int32))), .unset, .unset, .unset, .unset] [])) _
          refine XS.iload X2.here hx rfl (hb hby at_57) rfl ?_
          show Steps p.tables e below (T2.setTop (mkF m 59 #[.val (.int p0), .val (.int p1), .val (.int p2), .val (.int p3), .val (.int p4), .val (.int (0 : Int32)), .val (.int v2_s0), .val (.int ((p0 >>> ((2 : Int32) &&& 31)) &&& (3 : Int32))), .unset, .unset, .unset, .unset] [(.int ((p0 >>> ((2 : Int32) &&& 31)) &&& (3 : Int32)))])) _
          refine XS.iconst X2.here hx rfl (hb hby at_59) ?_
          show Steps p.tables e below (T2.setTop (mkF m 60 #[.val (.int p0), .val (.int p1), .val (.int p2), .val (.int p3), .val (.int p4), .val (.int (0 : Int32)), .val (.int v2_s0), .val (.int ((p0 >>> ((2 : Int32) &&& 31)) &&& (3 : Int32))), .unset, .unset, .unset, .unset] [(.int (2 : Int32)), (.int ((p0 >>> ((2 : Int32) &&& 31)) &&& (3 : Int32)))])) _
          refine XS.icmpNo X2.here hx rfl (hb hby at_60) rfl (teq hc5).2 ?_
          show Steps p.tables e below (T2.setTop (mkF m 63 #[.val (.int p0), .val (.int p1), .val (.int p2), .val (.int p3), .val (.int p4), .val (.int (0 : Int32)), .val (.int v2_s0), .val (.int ((p0 >>> ((2 : Int32) &&& 31)) &&& (3 : Int32))), .unset, .unset, .unset, .unset] [])) _
          refine XS.iloadN X2.here hx rfl (hb hby at_63) rfl ?_
          show Steps p.tables e below (T2.setTop (mkF m 64 #[.val (.int p0), .val (.int p1), .val (.int p2), .val (.int p3), .val (.int p4), .val (.int (0 : Int32)), .val (.int v2_s0), .val (.int ((p0 >>> ((2 : Int32) &&& 31)) &&& (3 : Int32))), .unset, .unset, .unset, .unset] [(.int p1)])) _
          refine XS.iconst X2.here hx rfl (hb hby at_64) ?_
          show Steps p.tables e below (T2.setTop (mkF m 65 #[.val (.int p0), .val (.int p1), .val (.int p2), .val (.int p3), .val (.int p4), .val (.int (0 : Int32)), .val (.int v2_s0), .val (.int ((p0 >>> ((2 : Int32) &&& 31)) &&& (3 : Int32))), .unset, .unset, .unset, .unset] [(.int (1 : Int32)), (.int p1)])) _
          refine XS.iadd X2.here hx rfl (hb hby at_65) rfl ?_
          show Steps p.tables e below (T2.setTop (mkF m 66 #[.val (.int p0), .val (.int p1), .val (.int p2), .val (.int p3), .val (.int p4), .val (.int (0 : Int32)), .val (.int v2_s0), .val (.int ((p0 >>> ((2 : Int32) &&& 31)) &&& (3 : Int32))), .unset, .unset, .unset, .unset] [(.int (p1 + (1 : Int32)))])) _
          refine XS.istore X2.here hx rfl (hb hby at_66) rfl (l' := #[.val (.int p0), .val (.int p1), .val (.int p2), .val (.int p3), .val (.int p4), .val (.int (0 : Int32)), .val (.int v2_s0), .val (.int ((p0 >>> ((2 : Int32) &&& 31)) &&& (3 : Int32))), .val (.int (p1 + (1 : Int32))), .unset, .unset, .unset]) rfl ?_
          show Steps p.tables e below (T2.setTop (mkF m 68 #[.val (.int p0), .val (.int p1), .val (.int p2), .val (.int p3), .val (.int p4), .val (.int (0 : Int32)), .val (.int v2_s0), .val (.int ((p0 >>> ((2 : Int32) &&& 31)) &&& (3 : Int32))), .val (.int (p1 + (1 : Int32))), .unset, .unset, .unset] [])) _
          refine XS.goto X2.here hx rfl (pc0 := 68) (pc' := 76) rfl (hb hby at_68) (by decide) (by decide) ?_
          exact kt
        · rw [if_neg hc3, if_neg hc4, if_neg hc5] at Hv6_l8
          refine ⟨T2, X2, e2, fun target kt => ?_⟩
          rw [Hv6_l8] at kt
          show Steps p.tables e below (T2.setTop (mkF m 36 #[.val (.int p0), .val (.int p1), .val (.int p2), .val (.int p3), .val (.int p4), .val (.int (0 : Int32)), .val (.int v2_s0), .val (.int ((p0 >>> ((2 : Int32) &&& 31)) &&& (3 : Int32))), .unset, .unset, .unset, .unset] [(.int ((p0 >>> ((2 : Int32) &&& 31)) &&& (3 : Int32)))])) _
          refine XS.ifYes X2.here hx rfl (pc0 := 36) (pc' := 45) rfl (hb hby at_36) rfl ((if0 _ _).trans (feq hc3).2) (by decide) (by decide) ?_
          show Steps p.tables e below (T2.setTop (mkF m 45 #[.val (.int p0), .val (.int p1), .val (.int p2), .val (.int p3), .val (.int p4), .val (.int (0 : Int32)), .val (.int v2_s0), .val (.int ((p0 >>> ((2 : Int32) &&& 31)) &&& (3 : Int32))), .unset, .unset, .unset, .unset] [])) _
          refine XS.iload X2.here hx rfl (hb hby at_45) rfl ?_
          show Steps p.tables e below (T2.setTop (mkF m 47 #[.val (.int p0), .val (.int p1), .val (.int p2), .val (.int p3), .val (.int p4), .val (.int (0 : Int32)), .val (.int v2_s0), .val (.int ((p0 >>> ((2 : Int32) &&& 31)) &&& (3 : Int32))), .unset, .unset, .unset, .unset] [(.int ((p0 >>> ((2 : Int32) &&& 31)) &&& (3 : Int32)))])) _
          refine XS.iconst X2.here hx rfl (hb hby at_47) ?_
          show Steps p.tables e below (T2.setTop (mkF m 48 #[.val (.int p0), .val (.int p1), .val (.int p2), .val (.int p3), .val (.int p4), .val (.int (0 : Int32)), .val (.int v2_s0), .val (.int ((p0 >>> ((2 : Int32) &&& 31)) &&& (3 : Int32))), .unset, .unset, .unset, .unset] [(.int (1 : Int32)), (.int ((p0 >>> ((2 : Int32) &&& 31)) &&& (3 : Int32)))])) _
          refine XS.icmpYes X2.here hx rfl (pc0 := 48) (pc' := 57) rfl (hb hby at_48) rfl (feq hc4).2 (by decide) (by decide) ?_
          show Steps p.tables e below (T2.setTop (mkF m 57 #[.val (.int p0), .val (.int p1), .val (.int p2), .val (.int p3), .val (.int p4), .val (.int (0 : Int32)), .val (.int v2_s0), .val (.int ((p0 >>> ((2 : Int32) &&& 31)) &&& (3 : Int32))), .unset, .unset, .unset, .unset] [])) _
          refine XS.iload X2.here hx rfl (hb hby at_57) rfl ?_
          show Steps p.tables e below (T2.setTop (mkF m 59 #[.val (.int p0), .val (.int p1), .val (.int p2), .val (.int p3), .val (.int p4), .val (.int (0 : Int32)), .val (.int v2_s0), .val (.int ((p0 >>> ((2 : Int32) &&& 31)) &&& (3 : Int32))), .unset, .unset, .unset, .unset] [(.int ((p0 >>> ((2 : Int32) &&& 31)) &&& (3 : Int32)))])) _
          refine XS.iconst X2.here hx rfl (hb hby at_59) ?_
          show Steps p.tables e below (T2.setTop (mkF m 60 #[.val (.int p0), .val (.int p1), .val (.int p2), .val (.int p3), .val (.int p4), .val (.int (0 : Int32)), .val (.int v2_s0), .val (.int ((p0 >>> ((2 : Int32) &&& 31)) &&& (3 : Int32))), .unset, .unset, .unset, .unset] [(.int (2 : Int32)), (.int ((p0 >>> ((2 : Int32) &&& 31)) &&& (3 : Int32)))])) _
          refine XS.icmpYes X2.here hx rfl (pc0 := 60) (pc' := 71) rfl (hb hby at_60) rfl (feq hc5).2 (by decide) (by decide) ?_
          show Steps p.tables e below (T2.setTop (mkF m 71 #[.val (.int p0), .val (.int p1), .val (.int p2), .val (.int p3), .val (.int p4), .val (.int (0 : Int32)), .val (.int v2_s0), .val (.int ((p0 >>> ((2 : Int32) &&& 31)) &&& (3 : Int32))), .unset, .unset, .unset, .unset] [])) _
          refine XS.iloadN X2.here hx rfl (hb hby at_71) rfl ?_
          show Steps p.tables e below (T2.setTop (mkF m 72 #[.val (.int p0), .val (.int p1), .val (.int p2), .val (.int p3), .val (.int p4), .val (.int (0 : Int32)), .val (.int v2_s0), .val (.int ((p0 >>> ((2 : Int32) &&& 31)) &&& (3 : Int32))), .unset, .unset, .unset, .unset] [(.int p1)])) _
          refine XS.iconst X2.here hx rfl (hb hby at_72) ?_
          show Steps p.tables e below (T2.setTop (mkF m 73 #[.val (.int p0), .val (.int p1), .val (.int p2), .val (.int p3), .val (.int p4), .val (.int (0 : Int32)), .val (.int v2_s0), .val (.int ((p0 >>> ((2 : Int32) &&& 31)) &&& (3 : Int32))), .unset, .unset, .unset, .unset] [(.int (1 : Int32)), (.int p1)])) _
          refine XS.isub X2.here hx rfl (hb hby at_73) rfl ?_
          show Steps p.tables e below (T2.setTop (mkF m 74 #[.val (.int p0), .val (.int p1), .val (.int p2), .val (.int p3), .val (.int p4), .val (.int (0 : Int32)), .val (.int v2_s0), .val (.int ((p0 >>> ((2 : Int32) &&& 31)) &&& (3 : Int32))), .unset, .unset, .unset, .unset] [(.int (p1 - (1 : Int32)))])) _
          refine XS.istore X2.here hx rfl (hb hby at_74) rfl (l' := #[.val (.int p0), .val (.int p1), .val (.int p2), .val (.int p3), .val (.int p4), .val (.int (0 : Int32)), .val (.int v2_s0), .val (.int ((p0 >>> ((2 : Int32) &&& 31)) &&& (3 : Int32))), .val (.int (p1 - (1 : Int32))), .unset, .unset, .unset]) rfl ?_
          exact kt)
  obtain ⟨T7, h7, X7, e7, E7, A7, D7, -, st7⟩ := newO X6 hx hZ hown (hw _ (List.mem_of_getElem? (i := 0) rfl)) (hw _ (List.mem_of_getElem? (i := 1) rfl)) (hw _ (List.mem_of_getElem? (i := 2) rfl)) e6 (g := (mkF m 85 #[.val (.int p0), .val (.int p1), .val (.int p2), .val (.int p3), .val (.int p4), .val (.int (0 : Int32)), .val (.int v2_s0), .val (.int ((p0 >>> ((2 : Int32) &&& 31)) &&& (3 : Int32))), .val (.int v6_l8), .unset, .unset, .unset] [])) rfl (hb hby at_85) (by decide) (by decide)
  obtain ⟨b7, g7⟩ : ∃ z, z = h0.size := ⟨_, rfl⟩
  rw [← g7] at A7 D7 st7
  have g_b7 : n0 ≤ b7 := Nat.le_trans Z0 (Nat.le_of_eq g7.symm)
  have sz_b7 : h0.size ≤ b7 := Nat.le_trans (Keep.refl h0 []).1 (Nat.le_of_eq g7.symm)
  have F_partitions_b7 : Fld Z h7 b7 "com/example/ledgerline/ledgerline/server/TopicSettings" "partitions" "I" (.int (0 : Int32)) := D7 (Or.inr (hw _ (List.mem_of_getElem? (i := 15) rfl))) (ty := .int) (by decide)
  have F_replicationFactor_b7 : Fld Z h7 b7 "com/example/ledgerline/ledgerline/server/TopicSettings" "replicationFactor" "I" (.int (0 : Int32)) := D7 (Or.inr (hw _ (List.mem_of_getElem? (i := 17) rfl))) (ty := .int) (by decide)
  obtain ⟨_, _, ⟨T8, L8, k8, n8⟩, -, X8, ⟨Lc8, hQ8, l8, y8, z8⟩, st8⟩ := X7.specialBack hx (y := (⟨"com/example/ledgerline/ledgerline/server/TopicSettings", "<init>", "(II)V"⟩ : MethodName)) rfl hown (mvT hZ (hw _ (List.mem_of_getElem? (i := 3) rfl))) (mvT hZ (hw _ (List.mem_of_getElem? (i := 4) rfl))) (mvT hZ (hw _ (List.mem_of_getElem? (i := 5) rfl))) (by decide) (backOf (W := 1) (rm1 l Z a0 hw [] b7 p1 p2 (.int (0 : Int32)) (.int (0 : Int32)) h7 n0 (Nat.le_trans Z0 E7.1) A7 F_partitions_b7 g_b7 F_replicationFactor_b7) hZ (hw _ (List.mem_of_getElem? (i := 5) rfl)) (hw _ (List.mem_of_getElem? (i := 2) rfl)) (by decide) (by decide)) (g := (mkF m 91 #[.val (.int p0), .val (.int p1), .val (.int p2), .val (.int p3), .val (.int p4), .val (.int (0 : Int32)), .val (.int v2_s0), .val (.int ((p0 >>> ((2 : Int32) &&& 31)) &&& (3 : Int32))), .val (.int v6_l8), .unset, .unset, .unset] [(.int p2), (.int p1), (.ref b7), (.ref b7)])) rfl (by rw [hml]; rfl) (Steps.refl _) (a := b7) (argsL := [(.int p1), (.int p2)]) (rest := [(.ref b7)]) (lenOf pd_0a_0 rfl) rfl (by show 2 * 0 + _ ≤ _; exact Nat.le_of_eq rfl) (hb hby at_91) (fun _ _ => ⟨rfl, e7, (by decide : 1 + 0 ≤ _), (by decide : 2 + 0 ≤ _)⟩)
  dsimp only [Pt.U, Pt.locs, Pt.cells, Pt.slots] at X8 l8 y8 z8 st8 hQ8
  subst l8 y8 z8
  obtain ⟨rfl, N8q, K8, G8_0, G8_1, G8_2⟩ := hQ8
  have N8 := Fr.app N0 N8q
  obtain ⟨T9, h9, X9, e9, E9, A9, D9, -, st9⟩ := newO X8 hx hZ hown (hw _ (List.mem_of_getElem? (i := 0) rfl)) (hw _ (List.mem_of_getElem? (i := 1) rfl)) (hw _ (List.mem_of_getElem? (i := 2) rfl)) rfl (g := (mkF m 96 #[.val (.int p0), .val (.int p1), .val (.int p2), .val (.int p3), .val (.int p4), .val (.int (0 : Int32)), .val (.int v2_s0), .val (.int ((p0 >>> ((2 : Int32) &&& 31)) &&& (3 : Int32))), .val (.int v6_l8), .val (.ref b7), .unset, .unset] [])) rfl (hb hby at_96) (by decide) (by decide)
  obtain ⟨b9, g9⟩ : ∃ z, z = T8.heap.size := ⟨_, rfl⟩
  rw [← g9] at A9 D9 st9
  have g_b9 : n0 ≤ b9 := Nat.le_trans (Nat.le_trans (Nat.le_trans Z0 E7.1) K8.1) (Nat.le_of_eq g9.symm)
  have sz_b9 : h0.size ≤ b9 := Nat.le_trans (((Keep.refl h0 []).ext E7).trans K8 (allS (Or.inr sz_b7) all0)).1 (Nat.le_of_eq g9.symm)
  have F_partitions_b9 : Fld Z h9 b9 "com/example/ledgerline/ledgerline/server/TopicSettings" "partitions" "I" (.int (0 : Int32)) := D9 (Or.inr (hw _ (List.mem_of_getElem? (i := 15) rfl))) (ty := .int) (by decide)
  have F_replicationFactor_b9 : Fld Z h9 b9 "com/example/ledgerline/ledgerline/server/TopicSettings" "replicationFactor" "I" (.int (0 : Int32)) := D9 (Or.inr (hw _ (List.mem_of_getElem? (i := 17) rfl))) (ty := .int) (by decide)
  obtain ⟨_, _, ⟨T10, L10, k10, n10⟩, -, X10, ⟨Lc10, hQ10, l10, y10, z10⟩, st10⟩ := X9.specialBack hx (y := (⟨"com/example/ledgerline/ledgerline/server/TopicSettings", "<init>", "(II)V"⟩ : MethodName)) rfl hown (mvT hZ (hw _ (List.mem_of_getElem? (i := 3) rfl))) (mvT hZ (hw _ (List.mem_of_getElem? (i := 4) rfl))) (mvT hZ (hw _ (List.mem_of_getElem? (i := 5) rfl))) (by decide) (backOf (W := 1) (rm1 l Z a0 hw [] b9 v6_l8 v2_s0 (.int (0 : Int32)) (.int (0 : Int32)) h9 n0 (Nat.le_trans (Nat.le_trans (Nat.le_trans Z0 E7.1) K8.1) E9.1) A9 F_partitions_b9 g_b9 F_replicationFactor_b9) hZ (hw _ (List.mem_of_getElem? (i := 5) rfl)) (hw _ (List.mem_of_getElem? (i := 2) rfl)) (by decide) (by decide)) (g := (mkF m 104 #[.val (.int p0), .val (.int p1), .val (.int p2), .val (.int p3), .val (.int p4), .val (.int (0 : Int32)), .val (.int v2_s0), .val (.int ((p0 >>> ((2 : Int32) &&& 31)) &&& (3 : Int32))), .val (.int v6_l8), .val (.ref b7), .unset, .unset] [(.int v2_s0), (.int v6_l8), (.ref b9), (.ref b9)])) rfl (by rw [hml]; rfl) (Steps.refl _) (a := b9) (argsL := [(.int v6_l8), (.int v2_s0)]) (rest := [(.ref b9)]) (lenOf pd_0a_0 rfl) rfl (by show 2 * 0 + _ ≤ _; exact Nat.le_of_eq rfl) (hb hby at_104) (fun _ _ => ⟨rfl, e9, (by decide : 2 + 0 ≤ _), (by decide : 4 + 0 ≤ _)⟩)
  dsimp only [Pt.U, Pt.locs, Pt.cells, Pt.slots] at X10 l10 y10 z10 st10 hQ10
  subst l10 y10 z10
  obtain ⟨rfl, N10q, K10, G10_0, G10_1, G10_2⟩ := hQ10
  have N10 := Fr.app N8 N10q
  obtain ⟨v13_s0, Hv13_s0⟩ : ∃ z : Int32, z = (if ((v6_l8.toInt64) - (p1.toInt64)) < (1 : Int64) then (0 : Int32) else (1 : Int32)) := ⟨_, rfl⟩
  obtain ⟨v14_l11, Hv14_l11⟩ : ∃ z : Int32, z = (if ((v2_s0.toInt64) - (p2.toInt64)) = (0 : Int64) then v13_s0 else (0 : Int32)) := ⟨_, rfl⟩
  obtain ⟨T14, X14, e14, st14⟩ := own_seg X10 T10.heap (mkF m 128 #[.val (.int p0), .val (.int p1), .val (.int p2), .val (.int p3), .val (.int p4), .val (.int (0 : Int32)), .val (.int v2_s0), .val (.int ((p0 >>> ((2 : Int32) &&& 31)) &&& (3 : Int32))), .val (.int v6_l8), .val (.ref b7), .val (.ref b9), .unset] [(.int (lcmpW ((v2_s0.toInt64) - (p2.toInt64)) (0 : Int64)))]) (mkF m 155 #[.val (.int p0), .val (.int p1), .val (.int p2), .val (.int p3), .val (.int p4), .val (.int (0 : Int32)), .val (.int v2_s0), .val (.int ((p0 >>> ((2 : Int32) &&& 31)) &&& (3 : Int32))), .val (.int v6_l8), .val (.ref b7), .val (.ref b9), .val (.int v14_l11)] []) (by
    by_cases hc11 : ((v2_s0.toInt64) - (p2.toInt64)) = (0 : Int64)
    · obtain ⟨T13, X13, e13, st13⟩ := own_seg X10 T10.heap (mkF m 145 #[.val (.int p0), .val (.int p1), .val (.int p2), .val (.int p3), .val (.int p4), .val (.int (0 : Int32)), .val (.int v2_s0), .val (.int ((p0 >>> ((2 : Int32) &&& 31)) &&& (3 : Int32))), .val (.int v6_l8), .val (.ref b7), .val (.ref b9), .unset] [(.int (lcmpW ((v6_l8.toInt64) - (p1.toInt64)) (1 : Int64)))]) (mkF m 153 #[.val (.int p0), .val (.int p1), .val (.int p2), .val (.int p3), .val (.int p4), .val (.int (0 : Int32)), .val (.int v2_s0), .val (.int ((p0 >>> ((2 : Int32) &&& 31)) &&& (3 : Int32))), .val (.int v6_l8), .val (.ref b7), .val (.ref b9), .unset] [(.int v13_s0)]) (by
        by_cases hc12 : ((v6_l8.toInt64) - (p1.toInt64)) < (1 : Int64)
        · rw [if_pos hc12] at Hv13_s0
          refine ⟨T10, X10, rfl, fun target kt => ?_⟩
          rw [Hv13_s0] at kt
          show Steps p.tables e below (T10.setTop (mkF m 145 #[.val (.int p0), .val (.int p1), .val (.int p2), .val (.int p3), .val (.int p4), .val (.int (0 : Int32)), .val (.int v2_s0), .val (.int ((p0 >>> ((2 : Int32) &&& 31)) &&& (3 : Int32))), .val (.int v6_l8), .val (.ref b7), .val (.ref b9), .unset] [(.int (lcmpW ((v6_l8.toInt64) - (p1.toInt64)) (1 : Int64)))])) _
          refine XS.ifYes X10.here hx rfl (pc0 := 145) (pc' := 152) rfl (hb hby at_145) rfl ((if0 _ _).trans (tlt ((lw_lt _ _).mpr hc12)).1) (by decide) (by decide) ?_
          show Steps p.tables e below (T10.setTop (mkF m 152 #[.val (.int p0), .val (.int p1), .val (.int p2), .val (.int p3), .val (.int p4), .val (.int (0 : Int32)), .val (.int v2_s0), .val (.int ((p0 >>> ((2 : Int32) &&& 31)) &&& (3 : Int32))), .val (.int v6_l8), .val (.ref b7), .val (.ref b9), .unset] [])) _
          refine XS.iconst X10.here hx rfl (hb hby at_152) ?_
          exact kt
        · rw [if_neg hc12] at Hv13_s0
          refine ⟨T10, X10, rfl, fun target kt => ?_⟩
          rw [Hv13_s0] at kt
          show Steps p.tables e below (T10.setTop (mkF m 145 #[.val (.int p0), .val (.int p1), .val (.int p2), .val (.int p3), .val (.int p4), .val (.int (0 : Int32)), .val (.int v2_s0), .val (.int ((p0 >>> ((2 : Int32) &&& 31)) &&& (3 : Int32))), .val (.int v6_l8), .val (.ref b7), .val (.ref b9), .unset] [(.int (lcmpW ((v6_l8.toInt64) - (p1.toInt64)) (1 : Int64)))])) _
          refine XS.ifNo X10.here hx rfl (hb hby at_145) rfl ((if0 _ _).trans (flt (fun q => hc12 ((lw_lt _ _).mp q))).1) ?_
          show Steps p.tables e below (T10.setTop (mkF m 148 #[.val (.int p0), .val (.int p1), .val (.int p2), .val (.int p3), .val (.int p4), .val (.int (0 : Int32)), .val (.int v2_s0), .val (.int ((p0 >>> ((2 : Int32) &&& 31)) &&& (3 : Int32))), .val (.int v6_l8), .val (.ref b7), .val (.ref b9), .unset] [])) _
          refine XS.iconst X10.here hx rfl (hb hby at_148) ?_
          show Steps p.tables e below (T10.setTop (mkF m 149 #[.val (.int p0), .val (.int p1), .val (.int p2), .val (.int p3), .val (.int p4), .val (.int (0 : Int32)), .val (.int v2_s0), .val (.int ((p0 >>> ((2 : Int32) &&& 31)) &&& (3 : Int32))), .val (.int v6_l8), .val (.ref b7), .val (.ref b9), .unset] [(.int (1 : Int32))])) _
          refine XS.goto X10.here hx rfl (pc0 := 149) (pc' := 153) rfl (hb hby at_149) (by decide) (by decide) ?_
          exact kt)
      rw [if_pos hc11] at Hv14_l11
      refine ⟨T13, X13, e13, fun target kt => ?_⟩
      rw [Hv14_l11] at kt
      show Steps p.tables e below (T10.setTop (mkF m 128 #[.val (.int p0), .val (.int p1), .val (.int p2), .val (.int p3), .val (.int p4), .val (.int (0 : Int32)), .val (.int v2_s0), .val (.int ((p0 >>> ((2 : Int32) &&& 31)) &&& (3 : Int32))), .val (.int v6_l8), .val (.ref b7), .val (.ref b9), .unset] [(.int (lcmpW ((v2_s0.toInt64) - (p2.toInt64)) (0 : Int64)))])) _
      refine XS.ifYes X10.here hx rfl (pc0 := 128) (pc' := 137) rfl (hb hby at_128) rfl ((if0 _ _).trans (teq ((lw_eq _ _).mpr hc11)).1) (by decide) (by decide) ?_
      show Steps p.tables e below (T10.setTop (mkF m 137 #[.val (.int p0), .val (.int p1), .val (.int p2), .val (.int p3), .val (.int p4), .val (.int (0 : Int32)), .val (.int v2_s0), .val (.int ((p0 >>> ((2 : Int32) &&& 31)) &&& (3 : Int32))), .val (.int v6_l8), .val (.ref b7), .val (.ref b9), .unset] [])) _
      refine XS.iload X10.here hx rfl (hb hby at_137) rfl ?_
      show Steps p.tables e below (T10.setTop (mkF m 139 #[.val (.int p0), .val (.int p1), .val (.int p2), .val (.int p3), .val (.int p4), .val (.int (0 : Int32)), .val (.int v2_s0), .val (.int ((p0 >>> ((2 : Int32) &&& 31)) &&& (3 : Int32))), .val (.int v6_l8), .val (.ref b7), .val (.ref b9), .unset] [(.int v6_l8)])) _
      refine XS.i2l X10.here hx rfl (hb hby at_139) rfl ?_
      show Steps p.tables e below (T10.setTop (mkF m 140 #[.val (.int p0), .val (.int p1), .val (.int p2), .val (.int p3), .val (.int p4), .val (.int (0 : Int32)), .val (.int v2_s0), .val (.int ((p0 >>> ((2 : Int32) &&& 31)) &&& (3 : Int32))), .val (.int v6_l8), .val (.ref b7), .val (.ref b9), .unset] [(.long (v6_l8.toInt64))])) _
      refine XS.iloadN X10.here hx rfl (hb hby at_140) rfl ?_
      show Steps p.tables e below (T10.setTop (mkF m 141 #[.val (.int p0), .val (.int p1), .val (.int p2), .val (.int p3), .val (.int p4), .val (.int (0 : Int32)), .val (.int v2_s0), .val (.int ((p0 >>> ((2 : Int32) &&& 31)) &&& (3 : Int32))), .val (.int v6_l8), .val (.ref b7), .val (.ref b9), .unset] [(.int p1), (.long (v6_l8.toInt64))])) _
      refine XS.i2l X10.here hx rfl (hb hby at_141) rfl ?_
      show Steps p.tables e below (T10.setTop (mkF m 142 #[.val (.int p0), .val (.int p1), .val (.int p2), .val (.int p3), .val (.int p4), .val (.int (0 : Int32)), .val (.int v2_s0), .val (.int ((p0 >>> ((2 : Int32) &&& 31)) &&& (3 : Int32))), .val (.int v6_l8), .val (.ref b7), .val (.ref b9), .unset] [(.long (p1.toInt64)), (.long (v6_l8.toInt64))])) _
      refine XS.lsub X10.here hx rfl (hb hby at_142) rfl ?_
      show Steps p.tables e below (T10.setTop (mkF m 143 #[.val (.int p0), .val (.int p1), .val (.int p2), .val (.int p3), .val (.int p4), .val (.int (0 : Int32)), .val (.int v2_s0), .val (.int ((p0 >>> ((2 : Int32) &&& 31)) &&& (3 : Int32))), .val (.int v6_l8), .val (.ref b7), .val (.ref b9), .unset] [(.long ((v6_l8.toInt64) - (p1.toInt64)))])) _
      refine XS.lconst X10.here hx rfl (hb hby at_143) ?_
      show Steps p.tables e below (T10.setTop (mkF m 144 #[.val (.int p0), .val (.int p1), .val (.int p2), .val (.int p3), .val (.int p4), .val (.int (0 : Int32)), .val (.int v2_s0), .val (.int ((p0 >>> ((2 : Int32) &&& 31)) &&& (3 : Int32))), .val (.int v6_l8), .val (.ref b7), .val (.ref b9), .unset] [(.long (1 : Int64)), (.long ((v6_l8.toInt64) - (p1.toInt64)))])) _
      refine XS.lcmp X10.here hx rfl (hb hby at_144) rfl ?_
      show Steps p.tables e below (T10.setTop (mkF m 145 #[.val (.int p0), .val (.int p1), .val (.int p2), .val (.int p3), .val (.int p4), .val (.int (0 : Int32)), .val (.int v2_s0), .val (.int ((p0 >>> ((2 : Int32) &&& 31)) &&& (3 : Int32))), .val (.int v6_l8), .val (.ref b7), .val (.ref b9), .unset] [(.int (lcmpW ((v6_l8.toInt64) - (p1.toInt64)) (1 : Int64)))])) _
      refine st13 _ ?_
      show Steps p.tables e below (T13.setTop (mkF m 153 #[.val (.int p0), .val (.int p1), .val (.int p2), .val (.int p3), .val (.int p4), .val (.int (0 : Int32)), .val (.int v2_s0), .val (.int ((p0 >>> ((2 : Int32) &&& 31)) &&& (3 : Int32))), .val (.int v6_l8), .val (.ref b7), .val (.ref b9), .unset] [(.int v13_s0)])) _
      refine XS.istore X13.here hx rfl (hb hby at_153) rfl (l' := #[.val (.int p0), .val (.int p1), .val (.int p2), .val (.int p3), .val (.int p4), .val (.int (0 : Int32)), .val (.int v2_s0), .val (.int ((p0 >>> ((2 : Int32) &&& 31)) &&& (3 : Int32))), .val (.int v6_l8), .val (.ref b7), .val (.ref b9), .val (.int v13_s0)]) rfl ?_
      exact kt
    · rw [if_neg hc11] at Hv14_l11
      refine ⟨T10, X10, rfl, fun target kt => ?_⟩
      rw [Hv14_l11] at kt
      show Steps p.tables e below (T10.setTop (mkF m 128 #[.val (.int p0), .val (.int p1), .val (.int p2), .val (.int p3), .val (.int p4), .val (.int (0 : Int32)), .val (.int v2_s0), .val (.int ((p0 >>> ((2 : Int32) &&& 31)) &&& (3 : Int32))), .val (.int v6_l8), .val (.ref b7), .val (.ref b9), .unset] [(.int (lcmpW ((v2_s0.toInt64) - (p2.toInt64)) (0 : Int64)))])) _
      refine XS.ifNo X10.here hx rfl (hb hby at_128) rfl ((if0 _ _).trans (feq (fun q => hc11 ((lw_eq _ _).mp q))).1) ?_
      show Steps p.tables e below (T10.setTop (mkF m 131 #[.val (.int p0), .val (.int p1), .val (.int p2), .val (.int p3), .val (.int p4), .val (.int (0 : Int32)), .val (.int v2_s0), .val (.int ((p0 >>> ((2 : Int32) &&& 31)) &&& (3 : Int32))), .val (.int v6_l8), .val (.ref b7), .val (.ref b9), .unset] [])) _
      refine XS.iconst X10.here hx rfl (hb hby at_131) ?_
      show Steps p.tables e below (T10.setTop (mkF m 132 #[.val (.int p0), .val (.int p1), .val (.int p2), .val (.int p3), .val (.int p4), .val (.int (0 : Int32)), .val (.int v2_s0), .val (.int ((p0 >>> ((2 : Int32) &&& 31)) &&& (3 : Int32))), .val (.int v6_l8), .val (.ref b7), .val (.ref b9), .unset] [(.int (0 : Int32))])) _
      refine XS.istore X10.here hx rfl (hb hby at_132) rfl (l' := #[.val (.int p0), .val (.int p1), .val (.int p2), .val (.int p3), .val (.int p4), .val (.int (0 : Int32)), .val (.int v2_s0), .val (.int ((p0 >>> ((2 : Int32) &&& 31)) &&& (3 : Int32))), .val (.int v6_l8), .val (.ref b7), .val (.ref b9), .val (.int (0 : Int32))]) rfl ?_
      show Steps p.tables e below (T10.setTop (mkF m 134 #[.val (.int p0), .val (.int p1), .val (.int p2), .val (.int p3), .val (.int p4), .val (.int (0 : Int32)), .val (.int v2_s0), .val (.int ((p0 >>> ((2 : Int32) &&& 31)) &&& (3 : Int32))), .val (.int v6_l8), .val (.ref b7), .val (.ref b9), .val (.int (0 : Int32))] [])) _
      refine XS.goto X10.here hx rfl (pc0 := 134) (pc' := 155) rfl (hb hby at_134) (by decide) (by decide) ?_
      exact kt)
  obtain ⟨_, _, ⟨T15, L15, k15, n15⟩, -, X15, ⟨Lc15, hQ15, l15, y15, z15⟩, st15⟩ := Jvm.LawKit.callS X14 hx (y := (⟨"com/example/ledgerline/ledgerline/server/TopicSettings", "mayBecome", "(Lcom/example/ledgerline/ledgerline/server/TopicSettings;Lcom/example/ledgerline/ledgerline/server/TopicSettings;)Z"⟩ : MethodName)) hown (mvT hZ (hw _ (List.mem_of_getElem? (i := 18) rfl))) (mvT hZ (hw _ (List.mem_of_getElem? (i := 19) rfl))) (mvT hZ (hw _ (List.mem_of_getElem? (i := 2) rfl))) (mvT hZ (hw _ (List.mem_of_getElem? (i := 20) rfl))) (by decide) (backOf (W := 0) (rm4 l Z a0 hw [] b7 b9 v2_s0 p2 v6_l8 p1 T10.heap n0 (Nat.le_trans (Nat.le_trans (Nat.le_trans (Nat.le_trans Z0 E7.1) K8.1) E9.1) K10.1) G10_2 ((G8_2.ext E9).keep K10 (ninS (Nat.ne_of_lt (Nat.lt_of_lt_of_le G8_0.lt (Nat.le_of_eq g9.symm))) nin0)) G10_1 ((G8_1.ext E9).keep K10 (ninS (Nat.ne_of_lt (Nat.lt_of_lt_of_le G8_0.lt (Nat.le_of_eq g9.symm))) nin0))) hZ (hw _ (List.mem_of_getElem? (i := 20) rfl)) (hw _ (List.mem_of_getElem? (i := 2) rfl)) (by decide) (by decide)) (g := (mkF m 159 #[.val (.int p0), .val (.int p1), .val (.int p2), .val (.int p3), .val (.int p4), .val (.int (0 : Int32)), .val (.int v2_s0), .val (.int ((p0 >>> ((2 : Int32) &&& 31)) &&& (3 : Int32))), .val (.int v6_l8), .val (.ref b7), .val (.ref b9), .val (.int v14_l11)] [(.ref b9), (.ref b7)])) rfl (by rw [hml]; rfl) (argsL := [(.ref b7), (.ref b9)]) (rest := []) (lenOf pd_0a_1 rfl) rfl (by show 2 * 0 + _ ≤ _; exact Nat.le_of_eq rfl) (hb hby at_159) (fun _ _ => ⟨rfl, e14, (by decide : 2 + 0 ≤ _), (by decide : 4 + 0 ≤ _)⟩)
  dsimp only [Pt.U, Pt.locs, Pt.cells, Pt.slots] at X15 l15 y15 z15 st15 hQ15
  subst l15 y15 z15
  obtain ⟨rfl, rfl, e15⟩ := hQ15
  try rw [List.append_nil] at X15
  obtain ⟨v17_s0, Hv17_s0⟩ : ∃ z : Int32, z = (if (F4 v2_s0 p2 v6_l8 p1) = v14_l11 then (1 : Int32) else (0 : Int32)) := ⟨_, rfl⟩
  obtain ⟨T17, X17, e17, st17⟩ := own_seg X15 T10.heap (mkF m 164 #[.val (.int p0), .val (.int p1), .val (.int p2), .val (.int p3), .val (.int p4), .val (.int (0 : Int32)), .val (.int v2_s0), .val (.int ((p0 >>> ((2 : Int32) &&& 31)) &&& (3 : Int32))), .val (.int v6_l8), .val (.ref b7), .val (.ref b9), .val (.int v14_l11)] [(.int v14_l11), (.int (F4 v2_s0 p2 v6_l8 p1))]) (mkF m 172 #[.val (.int p0), .val (.int p1), .val (.int p2), .val (.int p3), .val (.int p4), .val (.int (0 : Int32)), .val (.int v2_s0), .val (.int ((p0 >>> ((2 : Int32) &&& 31)) &&& (3 : Int32))), .val (.int v6_l8), .val (.ref b7), .val (.ref b9), .val (.int v14_l11)] [(.int v17_s0)]) (by
    by_cases hc16 : (F4 v2_s0 p2 v6_l8 p1) = v14_l11
    · rw [if_pos hc16] at Hv17_s0
      refine ⟨T15, X15, e15, fun target kt => ?_⟩
      rw [Hv17_s0] at kt
      show Steps p.tables e below (T15.setTop (mkF m 164 #[.val (.int p0), .val (.int p1), .val (.int p2), .val (.int p3), .val (.int p4), .val (.int (0 : Int32)), .val (.int v2_s0), .val (.int ((p0 >>> ((2 : Int32) &&& 31)) &&& (3 : Int32))), .val (.int v6_l8), .val (.ref b7), .val (.ref b9), .val (.int v14_l11)] [(.int v14_l11), (.int (F4 v2_s0 p2 v6_l8 p1))])) _
      refine XS.icmpNo X15.here hx rfl (hb hby at_164) rfl (teq hc16).2 ?_
      show Steps p.tables e below (T15.setTop (mkF m 167 #[.val (.int p0), .val (.int p1), .val (.int p2), .val (.int p3), .val (.int p4), .val (.int (0 : Int32)), .val (.int v2_s0), .val (.int ((p0 >>> ((2 : Int32) &&& 31)) &&& (3 : Int32))), .val (.int v6_l8), .val (.ref b7), .val (.ref b9), .val (.int v14_l11)] [])) _
      refine XS.iconst X15.here hx rfl (hb hby at_167) ?_
      show Steps p.tables e below (T15.setTop (mkF m 168 #[.val (.int p0), .val (.int p1), .val (.int p2), .val (.int p3), .val (.int p4), .val (.int (0 : Int32)), .val (.int v2_s0), .val (.int ((p0 >>> ((2 : Int32) &&& 31)) &&& (3 : Int32))), .val (.int v6_l8), .val (.ref b7), .val (.ref b9), .val (.int v14_l11)] [(.int (1 : Int32))])) _
      refine XS.goto X15.here hx rfl (pc0 := 168) (pc' := 172) rfl (hb hby at_168) (by decide) (by decide) ?_
      exact kt
    · rw [if_neg hc16] at Hv17_s0
      refine ⟨T15, X15, e15, fun target kt => ?_⟩
      rw [Hv17_s0] at kt
      show Steps p.tables e below (T15.setTop (mkF m 164 #[.val (.int p0), .val (.int p1), .val (.int p2), .val (.int p3), .val (.int p4), .val (.int (0 : Int32)), .val (.int v2_s0), .val (.int ((p0 >>> ((2 : Int32) &&& 31)) &&& (3 : Int32))), .val (.int v6_l8), .val (.ref b7), .val (.ref b9), .val (.int v14_l11)] [(.int v14_l11), (.int (F4 v2_s0 p2 v6_l8 p1))])) _
      refine XS.icmpYes X15.here hx rfl (pc0 := 164) (pc' := 171) rfl (hb hby at_164) rfl (feq hc16).2 (by decide) (by decide) ?_
      show Steps p.tables e below (T15.setTop (mkF m 171 #[.val (.int p0), .val (.int p1), .val (.int p2), .val (.int p3), .val (.int p4), .val (.int (0 : Int32)), .val (.int v2_s0), .val (.int ((p0 >>> ((2 : Int32) &&& 31)) &&& (3 : Int32))), .val (.int v6_l8), .val (.ref b7), .val (.ref b9), .val (.int v14_l11)] [])) _
      refine XS.iconst X15.here hx rfl (hb hby at_171) ?_
      exact kt)
  have hfin : nar .boolean v17_s0 = 1 := by rw [plain_a p0 p1 p2 p3 p4 v2_s0 Hv2_s0 v6_l8 Hv6_l8 v13_s0 Hv13_s0 v14_l11 Hv14_l11 v17_s0 Hv17_s0 hc3]; rfl
  obtain ⟨fs, hr, hrun, hended, hW, hsame⟩ := X17.leave (v := some (.int (nar .boolean v17_s0))) (fun h => by rw [Bd.returns] at h; cases h)
  refine ⟨_, _, pre0 _ ?_, hrun, hended, _, _, rfl, ?_, ⟨_, rfl⟩, hW, hsame.mono (by decide) (by decide)⟩
  · show Steps p.tables e below (s₁.setTop (mkF m 0 #[.val (.int p0), .val (.int p1), .val (.int p2), .val (.int p3), .val (.int p4), .unset, .unset, .unset, .unset, .unset, .unset, .unset] [])) _
    refine XS.iloadN X0.here hx rfl (hb hby at_0) rfl ?_
    show Steps p.tables e below (s₁.setTop (mkF m 1 #[.val (.int p0), .val (.int p1), .val (.int p2), .val (.int p3), .val (.int p4), .unset, .unset, .unset, .unset, .unset, .unset, .unset] [(.int p0)])) _
    refine XS.iconst X0.here hx rfl (hb hby at_1) ?_
    show Steps p.tables e below (s₁.setTop (mkF m 2 #[.val (.int p0), .val (.int p1), .val (.int p2), .val (.int p3), .val (.int p4), .unset, .unset, .unset, .unset, .unset, .unset, .unset] [(.int (1 : Int32)), (.int p0)])) _
    refine XS.iand X0.here hx rfl (hb hby at_2) rfl ?_
    show Steps p.tables e below (s₁.setTop (mkF m 3 #[.val (.int p0), .val (.int p1), .val (.int p2), .val (.int p3), .val (.int p4), .unset, .unset, .unset, .unset, .unset, .unset, .unset] [(.int (p0 &&& (1 : Int32)))])) _
    refine XS.ifYes X0.here hx rfl (pc0 := 3) (pc' := 10) rfl (hb hby at_3) rfl ((if0 _ _).trans (teq hc3).1) (by decide) (by decide) ?_
    show Steps p.tables e below (s₁.setTop (mkF m 10 #[.val (.int p0), .val (.int p1), .val (.int p2), .val (.int p3), .val (.int p4), .unset, .unset, .unset, .unset, .unset, .unset, .unset] [])) _
    refine XS.iconst X0.here hx rfl (hb hby at_10) ?_
    show Steps p.tables e below (s₁.setTop (mkF m 11 #[.val (.int p0), .val (.int p1), .val (.int p2), .val (.int p3), .val (.int p4), .unset, .unset, .unset, .unset, .unset, .unset, .unset] [(.int (0 : Int32))])) _
    refine XS.istore X0.here hx rfl (hb hby at_11) rfl (l' := #[.val (.int p0), .val (.int p1), .val (.int p2), .val (.int p3), .val (.int p4), .val (.int (0 : Int32)), .unset, .unset, .unset, .unset, .unset, .unset]) rfl ?_
    show Steps p.tables e below (s₁.setTop (mkF m 13 #[.val (.int p0), .val (.int p1), .val (.int p2), .val (.int p3), .val (.int p4), .val (.int (0 : Int32)), .unset, .unset, .unset, .unset, .unset, .unset] [])) _
    refine XS.iloadN X0.here hx rfl (hb hby at_13) rfl ?_
    show Steps p.tables e below (s₁.setTop (mkF m 14 #[.val (.int p0), .val (.int p1), .val (.int p2), .val (.int p3), .val (.int p4), .val (.int (0 : Int32)), .unset, .unset, .unset, .unset, .unset, .unset] [(.int p0)])) _
    refine XS.iconst X0.here hx rfl (hb hby at_14) ?_
    show Steps p.tables e below (s₁.setTop (mkF m 15 #[.val (.int p0), .val (.int p1), .val (.int p2), .val (.int p3), .val (.int p4), .val (.int (0 : Int32)), .unset, .unset, .unset, .unset, .unset, .unset] [(.int (2 : Int32)), (.int p0)])) _
    refine XS.iand X0.here hx rfl (hb hby at_15) rfl ?_
    show Steps p.tables e below (s₁.setTop (mkF m 16 #[.val (.int p0), .val (.int p1), .val (.int p2), .val (.int p3), .val (.int p4), .val (.int (0 : Int32)), .unset, .unset, .unset, .unset, .unset, .unset] [(.int (p0 &&& (2 : Int32)))])) _
    refine st2 _ ?_
    show Steps p.tables e below (T2.setTop (mkF m 25 #[.val (.int p0), .val (.int p1), .val (.int p2), .val (.int p3), .val (.int p4), .val (.int (0 : Int32)), .unset, .unset, .unset, .unset, .unset, .unset] [(.int v2_s0)])) _
    refine XS.istore X2.here hx rfl (hb hby at_25) rfl (l' := #[.val (.int p0), .val (.int p1), .val (.int p2), .val (.int p3), .val (.int p4), .val (.int (0 : Int32)), .val (.int v2_s0), .unset, .unset, .unset, .unset, .unset]) rfl ?_
    show Steps p.tables e below (T2.setTop (mkF m 27 #[.val (.int p0), .val (.int p1), .val (.int p2), .val (.int p3), .val (.int p4), .val (.int (0 : Int32)), .val (.int v2_s0), .unset, .unset, .unset, .unset, .unset] [])) _
    refine XS.iloadN X2.here hx rfl (hb hby at_27) rfl ?_
    show Steps p.tables e below (T2.setTop (mkF m 28 #[.val (.int p0), .val (.int p1), .val (.int p2), .val (.int p3), .val (.int p4), .val (.int (0 : Int32)), .val (.int v2_s0), .unset, .unset, .unset, .unset, .unset] [(.int p0)])) _
    refine XS.iconst X2.here hx rfl (hb hby at_28) ?_
    show Steps p.tables e below (T2.setTop (mkF m 29 #[.val (.int p0), .val (.int p1), .val (.int p2), .val (.int p3), .val (.int p4), .val (.int (0 : Int32)), .val (.int v2_s0), .unset, .unset, .unset, .unset, .unset] [(.int (2 : Int32)), (.int p0)])) _
    refine XS.ishr X2.here hx rfl (hb hby at_29) rfl ?_
    show Steps p.tables e below (T2.setTop (mkF m 30 #[.val (.int p0), .val (.int p1), .val (.int p2), .val (.int p3), .val (.int p4), .val (.int (0 : Int32)), .val (.int v2_s0), .unset, .unset, .unset, .unset, .unset] [(.int (p0 >>> ((2 : Int32) &&& 31)))])) _
    refine XS.iconst X2.here hx rfl (hb hby at_30) ?_
    show Steps p.tables e below (T2.setTop (mkF m 31 #[.val (.int p0), .val (.int p1), .val (.int p2), .val (.int p3), .val (.int p4), .val (.int (0 : Int32)), .val (.int v2_s0), .unset, .unset, .unset, .unset, .unset] [(.int (3 : Int32)), (.int (p0 >>> ((2 : Int32) &&& 31)))])) _
    refine XS.iand X2.here hx rfl (hb hby at_31) rfl ?_
    show Steps p.tables e below (T2.setTop (mkF m 32 #[.val (.int p0), .val (.int p1), .val (.int p2), .val (.int p3), .val (.int p4), .val (.int (0 : Int32)), .val (.int v2_s0), .unset, .unset, .unset, .unset, .unset] [(.int ((p0 >>> ((2 : Int32) &&& 31)) &&& (3 : Int32)))])) _
    refine XS.istore X2.here hx rfl (hb hby at_32) rfl (l' := #[.val (.int p0), .val (.int p1), .val (.int p2), .val (.int p3), .val (.int p4), .val (.int (0 : Int32)), .val (.int v2_s0), .val (.int ((p0 >>> ((2 : Int32) &&& 31)) &&& (3 : Int32))), .unset, .unset, .unset, .unset]) rfl ?_
    show Steps p.tables e below (T2.setTop (mkF m 34 #[.val (.int p0), .val (.int p1), .val (.int p2), .val (.int p3), .val (.int p4), .val (.int (0 : Int32)), .val (.int v2_s0), .val (.int ((p0 >>> ((2 : Int32) &&& 31)) &&& (3 : Int32))), .unset, .unset, .unset, .unset] [])) _
    refine XS.iload X2.here hx rfl (hb hby at_34) rfl ?_
    show Steps p.tables e below (T2.setTop (mkF m 36 #[.val (.int p0), .val (.int p1), .val (.int p2), .val (.int p3), .val (.int p4), .val (.int (0 : Int32)), .val (.int v2_s0), .val (.int ((p0 >>> ((2 : Int32) &&& 31)) &&& (3 : Int32))), .unset, .unset, .unset, .unset] [(.int ((p0 >>> ((2 : Int32) &&& 31)) &&& (3 : Int32)))])) _
    refine st6 _ ?_
    show Steps p.tables e below (T6.setTop (mkF m 76 #[.val (.int p0), .val (.int p1), .val (.int p2), .val (.int p3), .val (.int p4), .val (.int (0 : Int32)), .val (.int v2_s0), .val (.int ((p0 >>> ((2 : Int32) &&& 31)) &&& (3 : Int32))), .val (.int v6_l8), .unset, .unset, .unset] [])) _
    refine XS.iload X6.here hx rfl (hb hby at_76) rfl ?_
    show Steps p.tables e below (T6.setTop (mkF m 78 #[.val (.int p0), .val (.int p1), .val (.int p2), .val (.int p3), .val (.int p4), .val (.int (0 : Int32)), .val (.int v2_s0), .val (.int ((p0 >>> ((2 : Int32) &&& 31)) &&& (3 : Int32))), .val (.int v6_l8), .unset, .unset, .unset] [(.int (0 : Int32))])) _
    refine XS.ifYes X6.here hx rfl (pc0 := 78) (pc' := 85) rfl (hb hby at_78) rfl ((if0 _ _).trans (teq (rfl : (0 : Int32) = (0 : Int32))).1) (by decide) (by decide) ?_
    show Steps p.tables e below (T6.setTop (mkF m 85 #[.val (.int p0), .val (.int p1), .val (.int p2), .val (.int p3), .val (.int p4), .val (.int (0 : Int32)), .val (.int v2_s0), .val (.int ((p0 >>> ((2 : Int32) &&& 31)) &&& (3 : Int32))), .val (.int v6_l8), .unset, .unset, .unset] [])) _
    refine st7 _ ?_
    show Steps p.tables e below (T7.setTop (mkF m 88 #[.val (.int p0), .val (.int p1), .val (.int p2), .val (.int p3), .val (.int p4), .val (.int (0 : Int32)), .val (.int v2_s0), .val (.int ((p0 >>> ((2 : Int32) &&& 31)) &&& (3 : Int32))), .val (.int v6_l8), .unset, .unset, .unset] [(.ref b7)])) _
    refine XS.dup X7.here hx rfl (hb hby at_88) rfl rfl ?_
    show Steps p.tables e below (T7.setTop (mkF m 89 #[.val (.int p0), .val (.int p1), .val (.int p2), .val (.int p3), .val (.int p4), .val (.int (0 : Int32)), .val (.int v2_s0), .val (.int ((p0 >>> ((2 : Int32) &&& 31)) &&& (3 : Int32))), .val (.int v6_l8), .unset, .unset, .unset] [(.ref b7), (.ref b7)])) _
    refine XS.iloadN X7.here hx rfl (hb hby at_89) rfl ?_
    show Steps p.tables e below (T7.setTop (mkF m 90 #[.val (.int p0), .val (.int p1), .val (.int p2), .val (.int p3), .val (.int p4), .val (.int (0 : Int32)), .val (.int v2_s0), .val (.int ((p0 >>> ((2 : Int32) &&& 31)) &&& (3 : Int32))), .val (.int v6_l8), .unset, .unset, .unset] [(.int p1), (.ref b7), (.ref b7)])) _
    refine XS.iloadN X7.here hx rfl (hb hby at_90) rfl ?_
    show Steps p.tables e below (T7.setTop (mkF m 91 #[.val (.int p0), .val (.int p1), .val (.int p2), .val (.int p3), .val (.int p4), .val (.int (0 : Int32)), .val (.int v2_s0), .val (.int ((p0 >>> ((2 : Int32) &&& 31)) &&& (3 : Int32))), .val (.int v6_l8), .unset, .unset, .unset] [(.int p2), (.int p1), (.ref b7), (.ref b7)])) _
    refine st8.trans ?_
    show Steps p.tables e below (T8.setTop (mkF m 94 #[.val (.int p0), .val (.int p1), .val (.int p2), .val (.int p3), .val (.int p4), .val (.int (0 : Int32)), .val (.int v2_s0), .val (.int ((p0 >>> ((2 : Int32) &&& 31)) &&& (3 : Int32))), .val (.int v6_l8), .unset, .unset, .unset] [(.ref b7)])) _
    refine XS.astore X8.here hx rfl (hb hby at_94) rfl rfl (l' := #[.val (.int p0), .val (.int p1), .val (.int p2), .val (.int p3), .val (.int p4), .val (.int (0 : Int32)), .val (.int v2_s0), .val (.int ((p0 >>> ((2 : Int32) &&& 31)) &&& (3 : Int32))), .val (.int v6_l8), .val (.ref b7), .unset, .unset]) rfl ?_
    show Steps p.tables e below (T8.setTop (mkF m 96 #[.val (.int p0), .val (.int p1), .val (.int p2), .val (.int p3), .val (.int p4), .val (.int (0 : Int32)), .val (.int v2_s0), .val (.int ((p0 >>> ((2 : Int32) &&& 31)) &&& (3 : Int32))), .val (.int v6_l8), .val (.ref b7), .unset, .unset] [])) _
    refine st9 _ ?_
    show Steps p.tables e below (T9.setTop (mkF m 99 #[.val (.int p0), .val (.int p1), .val (.int p2), .val (.int p3), .val (.int p4), .val (.int (0 : Int32)), .val (.int v2_s0), .val (.int ((p0 >>> ((2 : Int32) &&& 31)) &&& (3 : Int32))), .val (.int v6_l8), .val (.ref b7), .unset, .unset] [(.ref b9)])) _
    refine XS.dup X9.here hx rfl (hb hby at_99) rfl rfl ?_
    show Steps p.tables e below (T9.setTop (mkF m 100 #[.val (.int p0), .val (.int p1), .val (.int p2), .val (.int p3), .val (.int p4), .val (.int (0 : Int32)), .val (.int v2_s0), .val (.int ((p0 >>> ((2 : Int32) &&& 31)) &&& (3 : Int32))), .val (.int v6_l8), .val (.ref b7), .unset, .unset] [(.ref b9), (.ref b9)])) _
    refine XS.iload X9.here hx rfl (hb hby at_100) rfl ?_
    show Steps p.tables e below (T9.setTop (mkF m 102 #[.val (.int p0), .val (.int p1), .val (.int p2), .val (.int p3), .val (.int p4), .val (.int (0 : Int32)), .val (.int v2_s0), .val (.int ((p0 >>> ((2 : Int32) &&& 31)) &&& (3 : Int32))), .val (.int v6_l8), .val (.ref b7), .unset, .unset] [(.int v6_l8), (.ref b9), (.ref b9)])) _
    refine XS.iload X9.here hx rfl (hb hby at_102) rfl ?_
    show Steps p.tables e below (T9.setTop (mkF m 104 #[.val (.int p0), .val (.int p1), .val (.int p2), .val (.int p3), .val (.int p4), .val (.int (0 : Int32)), .val (.int v2_s0), .val (.int ((p0 >>> ((2 : Int32) &&& 31)) &&& (3 : Int32))), .val (.int v6_l8), .val (.ref b7), .unset, .unset] [(.int v2_s0), (.int v6_l8), (.ref b9), (.ref b9)])) _
    refine st10.trans ?_
    show Steps p.tables e below (T10.setTop (mkF m 107 #[.val (.int p0), .val (.int p1), .val (.int p2), .val (.int p3), .val (.int p4), .val (.int (0 : Int32)), .val (.int v2_s0), .val (.int ((p0 >>> ((2 : Int32) &&& 31)) &&& (3 : Int32))), .val (.int v6_l8), .val (.ref b7), .unset, .unset] [(.ref b9)])) _
    refine XS.astore X10.here hx rfl (hb hby at_107) rfl rfl (l' := #[.val (.int p0), .val (.int p1), .val (.int p2), .val (.int p3), .val (.int p4), .val (.int (0 : Int32)), .val (.int v2_s0), .val (.int ((p0 >>> ((2 : Int32) &&& 31)) &&& (3 : Int32))), .val (.int v6_l8), .val (.ref b7), .val (.ref b9), .unset]) rfl ?_
    show Steps p.tables e below (T10.setTop (mkF m 109 #[.val (.int p0), .val (.int p1), .val (.int p2), .val (.int p3), .val (.int p4), .val (.int (0 : Int32)), .val (.int v2_s0), .val (.int ((p0 >>> ((2 : Int32) &&& 31)) &&& (3 : Int32))), .val (.int v6_l8), .val (.ref b7), .val (.ref b9), .unset] [])) _
    refine XS.iload X10.here hx rfl (hb hby at_109) rfl ?_
    show Steps p.tables e below (T10.setTop (mkF m 111 #[.val (.int p0), .val (.int p1), .val (.int p2), .val (.int p3), .val (.int p4), .val (.int (0 : Int32)), .val (.int v2_s0), .val (.int ((p0 >>> ((2 : Int32) &&& 31)) &&& (3 : Int32))), .val (.int v6_l8), .val (.ref b7), .val (.ref b9), .unset] [(.int (0 : Int32))])) _
    refine XS.ifYes X10.here hx rfl (pc0 := 111) (pc' := 120) rfl (hb hby at_111) rfl ((if0 _ _).trans (teq (rfl : (0 : Int32) = (0 : Int32))).1) (by decide) (by decide) ?_
    show Steps p.tables e below (T10.setTop (mkF m 120 #[.val (.int p0), .val (.int p1), .val (.int p2), .val (.int p3), .val (.int p4), .val (.int (0 : Int32)), .val (.int v2_s0), .val (.int ((p0 >>> ((2 : Int32) &&& 31)) &&& (3 : Int32))), .val (.int v6_l8), .val (.ref b7), .val (.ref b9), .unset] [])) _
    refine XS.iload X10.here hx rfl (hb hby at_120) rfl ?_
    show Steps p.tables e below (T10.setTop (mkF m 122 #[.val (.int p0), .val (.int p1), .val (.int p2), .val (.int p3), .val (.int p4), .val (.int (0 : Int32)), .val (.int v2_s0), .val (.int ((p0 >>> ((2 : Int32) &&& 31)) &&& (3 : Int32))), .val (.int v6_l8), .val (.ref b7), .val (.ref b9), .unset] [(.int v2_s0)])) _
    refine XS.i2l X10.here hx rfl (hb hby at_122) rfl ?_
    show Steps p.tables e below (T10.setTop (mkF m 123 #[.val (.int p0), .val (.int p1), .val (.int p2), .val (.int p3), .val (.int p4), .val (.int (0 : Int32)), .val (.int v2_s0), .val (.int ((p0 >>> ((2 : Int32) &&& 31)) &&& (3 : Int32))), .val (.int v6_l8), .val (.ref b7), .val (.ref b9), .unset] [(.long (v2_s0.toInt64))])) _
    refine XS.iloadN X10.here hx rfl (hb hby at_123) rfl ?_
    show Steps p.tables e below (T10.setTop (mkF m 124 #[.val (.int p0), .val (.int p1), .val (.int p2), .val (.int p3), .val (.int p4), .val (.int (0 : Int32)), .val (.int v2_s0), .val (.int ((p0 >>> ((2 : Int32) &&& 31)) &&& (3 : Int32))), .val (.int v6_l8), .val (.ref b7), .val (.ref b9), .unset] [(.int p2), (.long (v2_s0.toInt64))])) _
    refine XS.i2l X10.here hx rfl (hb hby at_124) rfl ?_
    show Steps p.tables e below (T10.setTop (mkF m 125 #[.val (.int p0), .val (.int p1), .val (.int p2), .val (.int p3), .val (.int p4), .val (.int (0 : Int32)), .val (.int v2_s0), .val (.int ((p0 >>> ((2 : Int32) &&& 31)) &&& (3 : Int32))), .val (.int v6_l8), .val (.ref b7), .val (.ref b9), .unset] [(.long (p2.toInt64)), (.long (v2_s0.toInt64))])) _
    refine XS.lsub X10.here hx rfl (hb hby at_125) rfl ?_
    show Steps p.tables e below (T10.setTop (mkF m 126 #[.val (.int p0), .val (.int p1), .val (.int p2), .val (.int p3), .val (.int p4), .val (.int (0 : Int32)), .val (.int v2_s0), .val (.int ((p0 >>> ((2 : Int32) &&& 31)) &&& (3 : Int32))), .val (.int v6_l8), .val (.ref b7), .val (.ref b9), .unset] [(.long ((v2_s0.toInt64) - (p2.toInt64)))])) _
    refine XS.lconst X10.here hx rfl (hb hby at_126) ?_
    show Steps p.tables e below (T10.setTop (mkF m 127 #[.val (.int p0), .val (.int p1), .val (.int p2), .val (.int p3), .val (.int p4), .val (.int (0 : Int32)), .val (.int v2_s0), .val (.int ((p0 >>> ((2 : Int32) &&& 31)) &&& (3 : Int32))), .val (.int v6_l8), .val (.ref b7), .val (.ref b9), .unset] [(.long (0 : Int64)), (.long ((v2_s0.toInt64) - (p2.toInt64)))])) _
    refine XS.lcmp X10.here hx rfl (hb hby at_127) rfl ?_
    show Steps p.tables e below (T10.setTop (mkF m 128 #[.val (.int p0), .val (.int p1), .val (.int p2), .val (.int p3), .val (.int p4), .val (.int (0 : Int32)), .val (.int v2_s0), .val (.int ((p0 >>> ((2 : Int32) &&& 31)) &&& (3 : Int32))), .val (.int v6_l8), .val (.ref b7), .val (.ref b9), .unset] [(.int (lcmpW ((v2_s0.toInt64) - (p2.toInt64)) (0 : Int64)))])) _
    refine st14 _ ?_
    show Steps p.tables e below (T14.setTop (mkF m 155 #[.val (.int p0), .val (.int p1), .val (.int p2), .val (.int p3), .val (.int p4), .val (.int (0 : Int32)), .val (.int v2_s0), .val (.int ((p0 >>> ((2 : Int32) &&& 31)) &&& (3 : Int32))), .val (.int v6_l8), .val (.ref b7), .val (.ref b9), .val (.int v14_l11)] [])) _
    refine XS.aload X14.here hx rfl (hb hby at_155) rfl rfl ?_
    show Steps p.tables e below (T14.setTop (mkF m 157 #[.val (.int p0), .val (.int p1), .val (.int p2), .val (.int p3), .val (.int p4), .val (.int (0 : Int32)), .val (.int v2_s0), .val (.int ((p0 >>> ((2 : Int32) &&& 31)) &&& (3 : Int32))), .val (.int v6_l8), .val (.ref b7), .val (.ref b9), .val (.int v14_l11)] [(.ref b7)])) _
    refine XS.aload X14.here hx rfl (hb hby at_157) rfl rfl ?_
    show Steps p.tables e below (T14.setTop (mkF m 159 #[.val (.int p0), .val (.int p1), .val (.int p2), .val (.int p3), .val (.int p4), .val (.int (0 : Int32)), .val (.int v2_s0), .val (.int ((p0 >>> ((2 : Int32) &&& 31)) &&& (3 : Int32))), .val (.int v6_l8), .val (.ref b7), .val (.ref b9), .val (.int v14_l11)] [(.ref b9), (.ref b7)])) _
    refine st15 _ ?_
    show Steps p.tables e below (T15.setTop (mkF m 162 #[.val (.int p0), .val (.int p1), .val (.int p2), .val (.int p3), .val (.int p4), .val (.int (0 : Int32)), .val (.int v2_s0), .val (.int ((p0 >>> ((2 : Int32) &&& 31)) &&& (3 : Int32))), .val (.int v6_l8), .val (.ref b7), .val (.ref b9), .val (.int v14_l11)] [(.int (F4 v2_s0 p2 v6_l8 p1))])) _
    refine XS.iload X15.here hx rfl (hb hby at_162) rfl ?_
    show Steps p.tables e below (T15.setTop (mkF m 164 #[.val (.int p0), .val (.int p1), .val (.int p2), .val (.int p3), .val (.int p4), .val (.int (0 : Int32)), .val (.int v2_s0), .val (.int ((p0 >>> ((2 : Int32) &&& 31)) &&& (3 : Int32))), .val (.int v6_l8), .val (.ref b7), .val (.ref b9), .val (.int v14_l11)] [(.int v14_l11), (.int (F4 v2_s0 p2 v6_l8 p1))])) _
    refine st17 _ ?_
    show Steps p.tables e below (T17.setTop (mkF m 172 #[.val (.int p0), .val (.int p1), .val (.int p2), .val (.int p3), .val (.int p4), .val (.int (0 : Int32)), .val (.int v2_s0), .val (.int ((p0 >>> ((2 : Int32) &&& 31)) &&& (3 : Int32))), .val (.int v6_l8), .val (.ref b7), .val (.ref b9), .val (.int v14_l11)] [(.int v17_s0)])) _
    exact retN X17 hx (t := .boolean) Bd.returns (by simp) (hb hby at_172) hr
  · exact ⟨congrArg (fun z => some (Value.int z)) hfin, N10⟩
theorem plain_b (p0 : Int32) (p1 : Int32) (p2 : Int32) (p3 : Int32) (p4 : Int32) (v11_s0 : Int32) (Hv11_s0 : v11_s0 = (if (F4n) = (1 : Int32) then (1 : Int32) else (0 : Int32))) (hc3 : ¬ ((p0 &&& (1 : Int32)) = (0 : Int32))) : v11_s0 = 1 := by
  rw [Hv11_s0]; exact if_pos rfl

theorem pn_0b : plainName "com/example/ledgerline/ledgerline/server/TopicSettingsMayBecomePinLaw" = true := by first | (simp [plainName, overriddenIn]; done) | decide +kernel
theorem pd_0b_0 : parseMethodDescriptor "(II)V" = some ⟨[.int, .int], none⟩ := by decide +kernel
theorem pd_0b_1 : parseMethodDescriptor "(Lcom/example/ledgerline/ledgerline/server/TopicSettings;Lcom/example/ledgerline/ledgerline/server/TopicSettings;)Z" = some ⟨[(.object "com/example/ledgerline/ledgerline/server/TopicSettings"), (.object "com/example/ledgerline/ledgerline/server/TopicSettings")], some .boolean⟩ := by decide +kernel
theorem ef_0b (m : MethodId) (p0 : Int32) (p1 : Int32) (p2 : Int32) (p3 : Int32) (p4 : Int32) : entryFrame m #[(.int p0), (.int p1), (.int p2), (.int p3), (.int p4)] maxLocals = mkF m 0 #[.val (.int p0), .val (.int p1), .val (.int p2), .val (.int p3), .val (.int p4), .unset, .unset, .unset, .unset, .unset, .unset, .unset] [] := by first | (simp [entryFrame, mkF, argsToLocals, Value.category, maxLocals]; done) | rfl
set_option maxRecDepth 65536 in
set_option maxHeartbeats 40000000 in
theorem rm0b (l : Launch) (Z : State) (a0 : Array Value) (hw : ∀ d ∈ tables_1, d.before a0 Z = true) (ws : List Jvm.Cond) (p0 : Int32) (p1 : Int32) (p2 : Int32) (p3 : Int32) (p4 : Int32) (h0 : Heap) (n0 : Nat) (Z0 : n0 ≤ h0.size) (hc3 : ¬ ((p0 &&& (1 : Int32)) = (0 : Int32))) :
    MetFree l x (head1 (Jvm.Cond.code x code maxLocals ret :: ws) room_1) (fun a U => a = #[(.int p0), (.int p1), (.int p2), (.int p3), (.int p4)] ∧ Z.Warmed39 U.vm ∧ U.heap = h0) (fun _ _ _ _ _ => True) (fun _ U o U' => ∃ v L, o = .returned v ∧ (v = some (.int 1) ∧ Fr n0 L) ∧ FrameEnd U o U' L room_1.cells room_1.slots) := by
  refine MetFree.of_bodySF (plainFor_of_name pn_0b) hisR ?_
  intro p e s m args below meth c s₁ Bd hml0 hP hK
  obtain ⟨rfl, hZ, hh⟩ := hP
  have hx := Bd.exec
  have hby := Bd.bytes
  have hml : c.maxLocals = 12 := hml0
  have hown : s.vm.findClass "com/example/ledgerline/ledgerline/server/TopicSettingsMayBecomePinLaw" = some m.cls := findClass_of_methodNamed Bd.named
  have hnm := (name_of_methodNamed Bd.named Bd.method).1
  have X0 : Stand p l e room_1 s m #[(.int p0), (.int p1), (.int p2), (.int p3), (.int p4)] below meth c s₁ [] 0 0 := Stand.of_body Bd
  have e0 : s₁.heap = h0 := by rw [← hh, Bd.state]; rfl
  have N0 := Fr.nil n0
  have pre0 : ∀ t, Steps p.tables e below (s₁.setTop (mkF m 0 #[.val (.int p0), .val (.int p1), .val (.int p2), .val (.int p3), .val (.int p4), .unset, .unset, .unset, .unset, .unset, .unset, .unset] [])) t → Steps p.tables e below (s₁.setTop (entryFrame m #[(.int p0), (.int p1), (.int p2), (.int p3), (.int p4)] maxLocals)) t := fun t k => castTop (ef_0b m p0 p1 p2 p3 p4) k
  obtain ⟨v2_s0, Hv2_s0⟩ : ∃ z : Int32, z = (if (p0 &&& (2 : Int32)) = (0 : Int32) then p4 else p2) := ⟨_, rfl⟩
  obtain ⟨T2, X2, e2, st2⟩ := own_seg X0 h0 (mkF m 16 #[.val (.int p0), .val (.int p1), .val (.int p2), .val (.int p3), .val (.int p4), .val (.int (1 : Int32)), .unset, .unset, .unset, .unset, .unset, .unset] [(.int (p0 &&& (2 : Int32)))]) (mkF m 25 #[.val (.int p0), .val (.int p1), .val (.int p2), .val (.int p3), .val (.int p4), .val (.int (1 : Int32)), .unset, .unset, .unset, .unset, .unset, .unset] [(.int v2_s0)]) (by
    by_cases hc1 : (p0 &&& (2 : Int32)) = (0 : Int32)
    · rw [if_pos hc1] at Hv2_s0
      refine ⟨s₁, X0, e0, fun target kt => ?_⟩
      rw [Hv2_s0] at kt
      show Steps p.tables e below (s₁.setTop (mkF m 16 #[.val (.int p0), .val (.int p1), .val (.int p2), .val (.int p3), .val (.int p4), .val (.int (1 : Int32)), .unset, .unset, .unset, .unset, .unset, .unset] [(.int (p0 &&& (2 : Int32)))])) _
      refine XS.ifYes X0.here hx rfl (pc0 := 16) (pc' := 23) rfl (hb hby at_16) rfl ((if0 _ _).trans (teq hc1).1) (by decide) (by decide) ?_
      show Steps p.tables e below (s₁.setTop (mkF m 23 #[.val (.int p0), .val (.int p1), .val (.int p2), .val (.int p3), .val (.int p4), .val (.int (1 : Int32)), .unset, .unset, .unset, .unset, .unset, .unset] [])) _
      refine XS.iload X0.here hx rfl (hb hby at_23) rfl ?_
      exact kt
    · rw [if_neg hc1] at Hv2_s0
      refine ⟨s₁, X0, e0, fun target kt => ?_⟩
      rw [Hv2_s0] at kt
      show Steps p.tables e below (s₁.setTop (mkF m 16 #[.val (.int p0), .val (.int p1), .val (.int p2), .val (.int p3), .val (.int p4), .val (.int (1 : Int32)), .unset, .unset, .unset, .unset, .unset, .unset] [(.int (p0 &&& (2 : Int32)))])) _
      refine XS.ifNo X0.here hx rfl (hb hby at_16) rfl ((if0 _ _).trans (feq hc1).1) ?_
      show Steps p.tables e below (s₁.setTop (mkF m 19 #[.val (.int p0), .val (.int p1), .val (.int p2), .val (.int p3), .val (.int p4), .val (.int (1 : Int32)), .unset, .unset, .unset, .unset, .unset, .unset] [])) _
      refine XS.iloadN X0.here hx rfl (hb hby at_19) rfl ?_
      show Steps p.tables e below (s₁.setTop (mkF m 20 #[.val (.int p0), .val (.int p1), .val (.int p2), .val (.int p3), .val (.int p4), .val (.int (1 : Int32)), .unset, .unset, .unset, .unset, .unset, .unset] [(.int p2)])) _
      refine XS.goto X0.here hx rfl (pc0 := 20) (pc' := 25) rfl (hb hby at_20) (by decide) (by decide) ?_
      exact kt)
  obtain ⟨v6_l8, Hv6_l8⟩ : ∃ z : Int32, z = (if ((p0 >>> ((2 : Int32) &&& 31)) &&& (3 : Int32)) = (0 : Int32) then p3 else (if ((p0 >>> ((2 : Int32) &&& 31)) &&& (3 : Int32)) = (1 : Int32) then p1 else (if ((p0 >>> ((2 : Int32) &&& 31)) &&& (3 : Int32)) = (2 : Int32) then (p1 + (1 : Int32)) else (p1 - (1 : Int32))))) := ⟨_, rfl⟩
  obtain ⟨T6, X6, e6, st6⟩ := own_seg X2 h0 (mkF m 36 #[.val (.int p0), .val (.int p1), .val (.int p2), .val (.int p3), .val (.int p4), .val (.int (1 : Int32)), .val (.int v2_s0), .val (.int ((p0 >>> ((2 : Int32) &&& 31)) &&& (3 : Int32))), .unset, .unset, .unset, .unset] [(.int ((p0 >>> ((2 : Int32) &&& 31)) &&& (3 : Int32)))]) (mkF m 76 #[.val (.int p0), .val (.int p1), .val (.int p2), .val (.int p3), .val (.int p4), .val (.int (1 : Int32)), .val (.int v2_s0), .val (.int ((p0 >>> ((2 : Int32) &&& 31)) &&& (3 : Int32))), .val (.int v6_l8), .unset, .unset, .unset] []) (by
    by_cases hc3 : ((p0 >>> ((2 : Int32) &&& 31)) &&& (3 : Int32)) = (0 : Int32)
    · rw [if_pos hc3] at Hv6_l8
      refine ⟨T2, X2, e2, fun target kt => ?_⟩
      rw [Hv6_l8] at kt
      show Steps p.tables e below (T2.setTop (mkF m 36 #[.val (.int p0), .val (.int p1), .val (.int p2), .val (.int p3), .val (.int p4), .val (.int (1 : Int32)), .val (.int v2_s0), .val (.int ((p0 >>> ((2 : Int32) &&& 31)) &&& (3 : Int32))), .unset, .unset, .unset, .unset] [(.int ((p0 >>> ((2 : Int32) &&& 31)) &&& (3 : Int32)))])) _
      refine XS.ifNo X2.here hx rfl (hb hby at_36) rfl ((if0 _ _).trans (teq hc3).2) ?_
      show Steps p.tables e below (T2.setTop (mkF m 39 #[.val (.int p0), .val (.int p1), .val (.int p2), .val (.int p3), .val (.int p4), .val (.int (1 : Int32)), .val (.int v2_s0), .val (.int ((p0 >>> ((2 : Int32) &&& 31)) &&& (3 : Int32))), .unset, .unset, .unset, .unset] [])) _
      refine XS.iloadN X2.here hx rfl (hb hby at_39) rfl ?_
      show Steps p.tables e below (T2.setTop (mkF m 40 #[.val (.int p0), .val (.int p1), .val (.int p2), .val (.int p3), .val (.int p4), .val (.int (1 : Int32)), .val (.int v2_s0), .val (.int ((p0 >>> ((2 : Int32) &&& 31)) &&& (3 : Int32))), .unset, .unset, .unset, .unset] [(.int p3)])) _
      refine XS.istore X2.here hx rfl (hb hby at_40) rfl (l' := #[.val (.int p0), .val (.int p1), .val (.int p2), .val (.int p3), .val (.int p4), .val (.int (1 : Int32)), .val (.int v2_s0), .val (.int ((p0 >>> ((2 : Int32) &&& 31)) &&& (3 : Int32))), .val (.int p3), .unset, .unset, .unset]) rfl ?_
      show Steps p.tables e below (T2.setTop (mkF m 42 #[.val (.int p0), .val (.int p1), .val (.int p2), .val (.int p3), .val (.int p4), .val (.int (1 : Int32)), .val (.int v2_s0), .val (.int ((p0 >>> ((2 : Int32) &&& 31)) &&& (3 : Int32))), .val (.int p3), .unset, .unset, .unset] [])) _
      refine XS.goto X2.here hx rfl (pc0 := 42) (pc' := 76) rfl (hb hby at_42) (by decide) (by decide) ?_
      exact kt
    · by_cases hc4 : ((p0 >>> ((2 : Int32) &&& 31)) &&& (3 : Int32)) = (1 : Int32)
      · rw [if_neg hc3, if_pos hc4] at Hv6_l8
        refine ⟨T2, X2, e2, fun target kt => ?_⟩
        rw [Hv6_l8] at kt
        show Steps p.tables e below (T2.setTop (mkF m 36 #[.val (.int p0), .val (.int p1), .val (.int p2), .val (.int p3), .val (.int p4), .val (.int (1 : Int32)), .val (.int v2_s0), .val (.int ((p0 >>> ((2 : Int32) &&& 31)) &&& (3 : Int32))), .unset, .unset, .unset, .unset] [(.int ((p0 >>> ((2 : Int32) &&& 31)) &&& (3 : Int32)))])) _
        refine XS.ifYes X2.here hx rfl (pc0 := 36) (pc' := 45) rfl (hb hby at_36) rfl ((if0 _ _).trans (feq hc3).2) (by decide) (by decide) ?_
        show Steps p.tables e below (T2.setTop (mkF m 45 #[.val (.int p0), .val (.int p1), .val (.int p2), .val (.int p3), .val (.int p4), .val (.int (1 : Int32)), .val (.int v2_s0), .val (.int ((p0 >>> ((2 : Int32) &&& 31)) &&& (3 : Int32))), .unset, .unset, .unset, .unset] [])) _
        refine XS.iload X2.here hx rfl (hb hby at_45) rfl ?_
        show Steps p.tables e below (T2.setTop (mkF m 47 #[.val (.int p0), .val (.int p1), .val (.int p2), .val (.int p3), .val (.int p4), .val (.int (1 : Int32)), .val (.int v2_s0), .val (.int ((p0 >>> ((2 : Int32) &&& 31)) &&& (3 : Int32))), .unset, .unset, .unset, .unset] [(.int ((p0 >>> ((2 : Int32) &&& 31)) &&& (3 : Int32)))])) _
        refine XS.iconst X2.here hx rfl (hb hby at_47) ?_
        show Steps p.tables e below (T2.setTop (mkF m 48 #[.val (.int p0), .val (.int p1), .val (.int p2), .val (.int p3), .val (.int p4), .val (.int (1 : Int32)), .val (.int v2_s0), .val (.int ((p0 >>> ((2 : Int32) &&& 31)) &&& (3 : Int32))), .unset, .unset, .unset, .unset] [(.int (1 : Int32)), (.int ((p0 >>> ((2 : Int32) &&& 31)) &&& (3 : Int32)))])) _
        refine XS.icmpNo X2.here hx rfl (hb hby at_48) rfl (teq hc4).2 ?_
        show Steps p.tables e below (T2.setTop (mkF m 51 #[.val (.int p0), .val (.int p1), .val (.int p2), .val (.int p3), .val (.int p4), .val (.int (1 : Int32)), .val (.int v2_s0), .val (.int ((p0 >>> ((2 : Int32) &&& 31)) &&& (3 : Int32))), .unset, .unset, .unset, .unset] [])) _
        refine XS.iloadN X2.here hx rfl (hb hby at_51) rfl ?_
        show Steps p.tables e below (T2.setTop (mkF m 52 #[.val (.int p0), .val (.int p1), .val (.int p2), .val (.int p3), .val (.int p4), .val (.int (1 : Int32)), .val (.int v2_s0), .val (.int ((p0 >>> ((2 : Int32) &&& 31)) &&& (3 : Int32))), .unset, .unset, .unset, .unset] [(.int p1)])) _
        refine XS.istore X2.here hx rfl (hb hby at_52) rfl (l' := #[.val (.int p0), .val (.int p1), .val (.int p2), .val (.int p3), .val (.int p4), .val (.int (1 : Int32)), .val (.int v2_s0), .val (.int ((p0 >>> ((2 : Int32) &&& 31)) &&& (3 : Int32))), .val (.int p1), .unset, .unset, .unset]) rfl ?_
        show Steps p.tables e below (T2.setTop (mkF m 54 #[.val (.int p0), .val (.int p1), .val (.int p2), .val (.int p3), .val (.int p4), .val (.int (1 : Int32)), .val (.int v2_s0), .val (.int ((p0 >>> ((2 : Int32) &&& 31)) &&& (3 : Int32))), .val (.int p1), .unset, .unset, .unset] [])) _
        refine XS.goto X2.here hx rfl (pc0 := 54) (pc' := 76) rfl (hb hby at_54) (by decide) (by decide) ?_
        exact kt
      · by_cases hc5 : ((p0 >>> ((2 : Int32) &&& 31)) &&& (3 : Int32)) = (2 : Int32)
        · rw [if_neg hc3, if_neg hc4, if_pos hc5] at Hv6_l8
          refine ⟨T2, X2, e2, fun target kt => ?_⟩
          rw [Hv6_l8] at kt
          show Steps p.tables e below (T2.setTop (mkF m 36 #[.val (.int p0), .val (.int p1), .val (.int p2), .val (.int p3), .val (.int p4), .val (.int (1 : Int32)), .val (.int v2_s0), .val (.int ((p0 >>> ((2 : Int32) &&& 31)) &&& (3 : Int32))), .unset, .unset, .unset, .unset] [(.int ((p0 >>> ((2 : Int32) &&& 31)) &&& (3 : Int32)))])) _
          refine XS.ifYes X2.here hx rfl (pc0 := 36) (pc' := 45) rfl (hb hby at_36) rfl ((if0 _ _).trans (feq hc3).2) (by decide) (by decide) ?_
          show Steps p.tables e below (T2.setTop (mkF m 45 #[.val (.int p0), .val (.int p1), .val (.int p2), .val (.int p3), .val (.int p4), .val (.int (1 : Int32)), .val (.int v2_s0), .val (.int ((p0 >>> ((2 : Int32) &&& 31)) &&& (3 : Int32))), .unset, .unset, .unset, .unset] [])) _
          refine XS.iload X2.here hx rfl (hb hby at_45) rfl ?_
          show Steps p.tables e below (T2.setTop (mkF m 47 #[.val (.int p0), .val (.int p1), .val (.int p2), .val (.int p3), .val (.int p4), .val (.int (1 : Int32)), .val (.int v2_s0), .val (.int ((p0 >>> ((2 : Int32) &&& 31)) &&& (3 : Int32))), .unset, .unset, .unset, .unset] [(.int ((p0 >>> ((2 : Int32) &&& 31)) &&& (3 : Int32)))])) _
          refine XS.iconst X2.here hx rfl (hb hby at_47) ?_
          show Steps p.tables e below (T2.setTop (mkF m 48 #[.val (.int p0), .val (.int p1), .val (.int p2), .val (.int p3), .val (.int p4), .val (.int (1 : Int32)), .val (.int v2_s0), .val (.int ((p0 >>> ((2 : Int32) &&& 31)) &&& (3 : Int32))), .unset, .unset, .unset, .unset] [(.int (1 : Int32)), (.int ((p0 >>> ((2 : Int32) &&& 31)) &&& (3 : Int32)))])) _
          refine XS.icmpYes X2.here hx rfl (pc0 := 48) (pc' := 57) rfl (hb hby at_48) rfl (feq hc4).2 (by decide) (by decide) ?_
          show Steps p.tables e below (T2.setTop (mkF m 57 #[.val (.int p0), .val (.int p1), .val (.int p2), .val (.int p3), .val (.int p4), .val (.int (1 : Int32)), .val (.int v2_s0), .val (.int ((p0 >>> ((2 : Int32) &&& 31)) &&& (3 : Int32))), .unset, .unset, .unset, .unset] [])) _
          refine XS.iload X2.here hx rfl (hb hby at_57) rfl ?_
          show Steps p.tables e below (T2.setTop (mkF m 59 #[.val (.int p0), .val (.int p1), .val (.int p2), .val (.int p3), .val (.int p4), .val (.int (1 : Int32)), .val (.int v2_s0), .val (.int ((p0 >>> ((2 : Int32) &&& 31)) &&& (3 : Int32))), .unset, .unset, .unset, .unset] [(.int ((p0 >>> ((2 : Int32) &&& 31)) &&& (3 : Int32)))])) _
          refine XS.iconst X2.here hx rfl (hb hby at_59) ?_
          show Steps p.tables e below (T2.setTop (mkF m 60 #[.val (.int p0), .val (.int p1), .val (.int p2), .val (.int p3), .val (.int p4), .val (.int (1 : Int32)), .val (.int v2_s0), .val (.int ((p0 >>> ((2 : Int32) &&& 31)) &&& (3 : Int32))), .unset, .unset, .unset, .unset] [(.int (2 : Int32)), (.int ((p0 >>> ((2 : Int32) &&& 31)) &&& (3 : Int32)))])) _
          refine XS.icmpNo X2.here hx rfl (hb hby at_60) rfl (teq hc5).2 ?_
          show Steps p.tables e below (T2.setTop (mkF m 63 #[.val (.int p0), .val (.int p1), .val (.int p2), .val (.int p3), .val (.int p4), .val (.int (1 : Int32)), .val (.int v2_s0), .val (.int ((p0 >>> ((2 : Int32) &&& 31)) &&& (3 : Int32))), .unset, .unset, .unset, .unset] [])) _
          refine XS.iloadN X2.here hx rfl (hb hby at_63) rfl ?_
          show Steps p.tables e below (T2.setTop (mkF m 64 #[.val (.int p0), .val (.int p1), .val (.int p2), .val (.int p3), .val (.int p4), .val (.int (1 : Int32)), .val (.int v2_s0), .val (.int ((p0 >>> ((2 : Int32) &&& 31)) &&& (3 : Int32))), .unset, .unset, .unset, .unset] [(.int p1)])) _
          refine XS.iconst X2.here hx rfl (hb hby at_64) ?_
          show Steps p.tables e below (T2.setTop (mkF m 65 #[.val (.int p0), .val (.int p1), .val (.int p2), .val (.int p3), .val (.int p4), .val (.int (1 : Int32)), .val (.int v2_s0), .val (.int ((p0 >>> ((2 : Int32) &&& 31)) &&& (3 : Int32))), .unset, .unset, .unset, .unset] [(.int (1 : Int32)), (.int p1)])) _
          refine XS.iadd X2.here hx rfl (hb hby at_65) rfl ?_
          show Steps p.tables e below (T2.setTop (mkF m 66 #[.val (.int p0), .val (.int p1), .val (.int p2), .val (.int p3), .val (.int p4), .val (.int (1 : Int32)), .val (.int v2_s0), .val (.int ((p0 >>> ((2 : Int32) &&& 31)) &&& (3 : Int32))), .unset, .unset, .unset, .unset] [(.int (p1 + (1 : Int32)))])) _
          refine XS.istore X2.here hx rfl (hb hby at_66) rfl (l' := #[.val (.int p0), .val (.int p1), .val (.int p2), .val (.int p3), .val (.int p4), .val (.int (1 : Int32)), .val (.int v2_s0), .val (.int ((p0 >>> ((2 : Int32) &&& 31)) &&& (3 : Int32))), .val (.int (p1 + (1 : Int32))), .unset, .unset, .unset]) rfl ?_
          show Steps p.tables e below (T2.setTop (mkF m 68 #[.val (.int p0), .val (.int p1), .val (.int p2), .val (.int p3), .val (.int p4), .val (.int (1 : Int32)), .val (.int v2_s0), .val (.int ((p0 >>> ((2 : Int32) &&& 31)) &&& (3 : Int32))), .val (.int (p1 + (1 : Int32))), .unset, .unset, .unset] [])) _
          refine XS.goto X2.here hx rfl (pc0 := 68) (pc' := 76) rfl (hb hby at_68) (by decide) (by decide) ?_
          exact kt
        · rw [if_neg hc3, if_neg hc4, if_neg hc5] at Hv6_l8
          refine ⟨T2, X2, e2, fun target kt => ?_⟩
          rw [Hv6_l8] at kt
          show Steps p.tables e below (T2.setTop (mkF m 36 #[.val (.int p0), .val (.int p1), .val (.int p2), .val (.int p3), .val (.int p4), .val (.int (1 : Int32)), .val (.int v2_s0), .val (.int ((p0 >>> ((2 : Int32) &&& 31)) &&& (3 : Int32))), .unset, .unset, .unset, .unset] [(.int ((p0 >>> ((2 : Int32) &&& 31)) &&& (3 : Int32)))])) _
          refine XS.ifYes X2.here hx rfl (pc0 := 36) (pc' := 45) rfl (hb hby at_36) rfl ((if0 _ _).trans (feq hc3).2) (by decide) (by decide) ?_
          show Steps p.tables e below (T2.setTop (mkF m 45 #[.val (.int p0), .val (.int p1), .val (.int p2), .val (.int p3), .val (.int p4), .val (.int (1 : Int32)), .val (.int v2_s0), .val (.int ((p0 >>> ((2 : Int32) &&& 31)) &&& (3 : Int32))), .unset, .unset, .unset, .unset] [])) _
          refine XS.iload X2.here hx rfl (hb hby at_45) rfl ?_
          show Steps p.tables e below (T2.setTop (mkF m 47 #[.val (.int p0), .val (.int p1), .val (.int p2), .val (.int p3), .val (.int p4), .val (.int (1 : Int32)), .val (.int v2_s0), .val (.int ((p0 >>> ((2 : Int32) &&& 31)) &&& (3 : Int32))), .unset, .unset, .unset, .unset] [(.int ((p0 >>> ((2 : Int32) &&& 31)) &&& (3 : Int32)))])) _
          refine XS.iconst X2.here hx rfl (hb hby at_47) ?_
          show Steps p.tables e below (T2.setTop (mkF m 48 #[.val (.int p0), .val (.int p1), .val (.int p2), .val (.int p3), .val (.int p4), .val (.int (1 : Int32)), .val (.int v2_s0), .val (.int ((p0 >>> ((2 : Int32) &&& 31)) &&& (3 : Int32))), .unset, .unset, .unset, .unset] [(.int (1 : Int32)), (.int ((p0 >>> ((2 : Int32) &&& 31)) &&& (3 : Int32)))])) _
          refine XS.icmpYes X2.here hx rfl (pc0 := 48) (pc' := 57) rfl (hb hby at_48) rfl (feq hc4).2 (by decide) (by decide) ?_
          show Steps p.tables e below (T2.setTop (mkF m 57 #[.val (.int p0), .val (.int p1), .val (.int p2), .val (.int p3), .val (.int p4), .val (.int (1 : Int32)), .val (.int v2_s0), .val (.int ((p0 >>> ((2 : Int32) &&& 31)) &&& (3 : Int32))), .unset, .unset, .unset, .unset] [])) _
          refine XS.iload X2.here hx rfl (hb hby at_57) rfl ?_
          show Steps p.tables e below (T2.setTop (mkF m 59 #[.val (.int p0), .val (.int p1), .val (.int p2), .val (.int p3), .val (.int p4), .val (.int (1 : Int32)), .val (.int v2_s0), .val (.int ((p0 >>> ((2 : Int32) &&& 31)) &&& (3 : Int32))), .unset, .unset, .unset, .unset] [(.int ((p0 >>> ((2 : Int32) &&& 31)) &&& (3 : Int32)))])) _
          refine XS.iconst X2.here hx rfl (hb hby at_59) ?_
          show Steps p.tables e below (T2.setTop (mkF m 60 #[.val (.int p0), .val (.int p1), .val (.int p2), .val (.int p3), .val (.int p4), .val (.int (1 : Int32)), .val (.int v2_s0), .val (.int ((p0 >>> ((2 : Int32) &&& 31)) &&& (3 : Int32))), .unset, .unset, .unset, .unset] [(.int (2 : Int32)), (.int ((p0 >>> ((2 : Int32) &&& 31)) &&& (3 : Int32)))])) _
          refine XS.icmpYes X2.here hx rfl (pc0 := 60) (pc' := 71) rfl (hb hby at_60) rfl (feq hc5).2 (by decide) (by decide) ?_
          show Steps p.tables e below (T2.setTop (mkF m 71 #[.val (.int p0), .val (.int p1), .val (.int p2), .val (.int p3), .val (.int p4), .val (.int (1 : Int32)), .val (.int v2_s0), .val (.int ((p0 >>> ((2 : Int32) &&& 31)) &&& (3 : Int32))), .unset, .unset, .unset, .unset] [])) _
          refine XS.iloadN X2.here hx rfl (hb hby at_71) rfl ?_
          show Steps p.tables e below (T2.setTop (mkF m 72 #[.val (.int p0), .val (.int p1), .val (.int p2), .val (.int p3), .val (.int p4), .val (.int (1 : Int32)), .val (.int v2_s0), .val (.int ((p0 >>> ((2 : Int32) &&& 31)) &&& (3 : Int32))), .unset, .unset, .unset, .unset] [(.int p1)])) _
          refine XS.iconst X2.here hx rfl (hb hby at_72) ?_
          show Steps p.tables e below (T2.setTop (mkF m 73 #[.val (.int p0), .val (.int p1), .val (.int p2), .val (.int p3), .val (.int p4), .val (.int (1 : Int32)), .val (.int v2_s0), .val (.int ((p0 >>> ((2 : Int32) &&& 31)) &&& (3 : Int32))), .unset, .unset, .unset, .unset] [(.int (1 : Int32)), (.int p1)])) _
          refine XS.isub X2.here hx rfl (hb hby at_73) rfl ?_
          show Steps p.tables e below (T2.setTop (mkF m 74 #[.val (.int p0), .val (.int p1), .val (.int p2), .val (.int p3), .val (.int p4), .val (.int (1 : Int32)), .val (.int v2_s0), .val (.int ((p0 >>> ((2 : Int32) &&& 31)) &&& (3 : Int32))), .unset, .unset, .unset, .unset] [(.int (p1 - (1 : Int32)))])) _
          refine XS.istore X2.here hx rfl (hb hby at_74) rfl (l' := #[.val (.int p0), .val (.int p1), .val (.int p2), .val (.int p3), .val (.int p4), .val (.int (1 : Int32)), .val (.int v2_s0), .val (.int ((p0 >>> ((2 : Int32) &&& 31)) &&& (3 : Int32))), .val (.int (p1 - (1 : Int32))), .unset, .unset, .unset]) rfl ?_
          exact kt)
  obtain ⟨T7, h7, X7, e7, E7, A7, D7, -, st7⟩ := newO X6 hx hZ hown (hw _ (List.mem_of_getElem? (i := 0) rfl)) (hw _ (List.mem_of_getElem? (i := 1) rfl)) (hw _ (List.mem_of_getElem? (i := 2) rfl)) e6 (g := (mkF m 96 #[.val (.int p0), .val (.int p1), .val (.int p2), .val (.int p3), .val (.int p4), .val (.int (1 : Int32)), .val (.int v2_s0), .val (.int ((p0 >>> ((2 : Int32) &&& 31)) &&& (3 : Int32))), .val (.int v6_l8), .val .null, .unset, .unset] [])) rfl (hb hby at_96) (by decide) (by decide)
  obtain ⟨b7, g7⟩ : ∃ z, z = h0.size := ⟨_, rfl⟩
  rw [← g7] at A7 D7 st7
  have g_b7 : n0 ≤ b7 := Nat.le_trans Z0 (Nat.le_of_eq g7.symm)
  have sz_b7 : h0.size ≤ b7 := Nat.le_trans (Keep.refl h0 []).1 (Nat.le_of_eq g7.symm)
  have F_partitions_b7 : Fld Z h7 b7 "com/example/ledgerline/ledgerline/server/TopicSettings" "partitions" "I" (.int (0 : Int32)) := D7 (Or.inr (hw _ (List.mem_of_getElem? (i := 15) rfl))) (ty := .int) (by decide)
  have F_replicationFactor_b7 : Fld Z h7 b7 "com/example/ledgerline/ledgerline/server/TopicSettings" "replicationFactor" "I" (.int (0 : Int32)) := D7 (Or.inr (hw _ (List.mem_of_getElem? (i := 17) rfl))) (ty := .int) (by decide)
  obtain ⟨_, _, ⟨T8, L8, k8, n8⟩, -, X8, ⟨Lc8, hQ8, l8, y8, z8⟩, st8⟩ := X7.specialBack hx (y := (⟨"com/example/ledgerline/ledgerline/server/TopicSettings", "<init>", "(II)V"⟩ : MethodName)) rfl hown (mvT hZ (hw _ (List.mem_of_getElem? (i := 3) rfl))) (mvT hZ (hw _ (List.mem_of_getElem? (i := 4) rfl))) (mvT hZ (hw _ (List.mem_of_getElem? (i := 5) rfl))) (by decide) (backOf (W := 1) (rm1 l Z a0 hw [] b7 v6_l8 v2_s0 (.int (0 : Int32)) (.int (0 : Int32)) h7 n0 (Nat.le_trans Z0 E7.1) A7 F_partitions_b7 g_b7 F_replicationFactor_b7) hZ (hw _ (List.mem_of_getElem? (i := 5) rfl)) (hw _ (List.mem_of_getElem? (i := 2) rfl)) (by decide) (by decide)) (g := (mkF m 104 #[.val (.int p0), .val (.int p1), .val (.int p2), .val (.int p3), .val (.int p4), .val (.int (1 : Int32)), .val (.int v2_s0), .val (.int ((p0 >>> ((2 : Int32) &&& 31)) &&& (3 : Int32))), .val (.int v6_l8), .val .null, .unset, .unset] [(.int v2_s0), (.int v6_l8), (.ref b7), (.ref b7)])) rfl (by rw [hml]; rfl) (Steps.refl _) (a := b7) (argsL := [(.int v6_l8), (.int v2_s0)]) (rest := [(.ref b7)]) (lenOf pd_0b_0 rfl) rfl (by show 2 * 0 + _ ≤ _; exact Nat.le_of_eq rfl) (hb hby at_104) (fun _ _ => ⟨rfl, e7, (by decide : 1 + 0 ≤ _), (by decide : 2 + 0 ≤ _)⟩)
  dsimp only [Pt.U, Pt.locs, Pt.cells, Pt.slots] at X8 l8 y8 z8 st8 hQ8
  subst l8 y8 z8
  obtain ⟨rfl, N8q, K8, G8_0, G8_1, G8_2⟩ := hQ8
  have N8 := Fr.app N0 N8q
  obtain ⟨_, _, ⟨T9, L9, k9, n9⟩, -, X9, ⟨Lc9, hQ9, l9, y9, z9⟩, st9⟩ := Jvm.LawKit.callS X8 hx (y := (⟨"com/example/ledgerline/ledgerline/server/TopicSettings", "mayBecome", "(Lcom/example/ledgerline/ledgerline/server/TopicSettings;Lcom/example/ledgerline/ledgerline/server/TopicSettings;)Z"⟩ : MethodName)) hown (mvT hZ (hw _ (List.mem_of_getElem? (i := 18) rfl))) (mvT hZ (hw _ (List.mem_of_getElem? (i := 19) rfl))) (mvT hZ (hw _ (List.mem_of_getElem? (i := 2) rfl))) (mvT hZ (hw _ (List.mem_of_getElem? (i := 20) rfl))) (by decide) (backOf (W := 0) (rm4n l Z a0 hw [] b7 T8.heap n0 (Nat.le_trans (Nat.le_trans Z0 E7.1) K8.1)) hZ (hw _ (List.mem_of_getElem? (i := 20) rfl)) (hw _ (List.mem_of_getElem? (i := 2) rfl)) (by decide) (by decide)) (g := (mkF m 159 #[.val (.int p0), .val (.int p1), .val (.int p2), .val (.int p3), .val (.int p4), .val (.int (1 : Int32)), .val (.int v2_s0), .val (.int ((p0 >>> ((2 : Int32) &&& 31)) &&& (3 : Int32))), .val (.int v6_l8), .val .null, .val (.ref b7), .val (.int (1 : Int32))] [(.ref b7), .null])) rfl (by rw [hml]; rfl) (argsL := [.null, (.ref b7)]) (rest := []) (lenOf pd_0b_1 rfl) rfl (by show 2 * 0 + _ ≤ _; exact Nat.le_of_eq rfl) (hb hby at_159) (fun _ _ => ⟨rfl, rfl, (by decide : 1 + 0 ≤ _), (by decide : 2 + 0 ≤ _)⟩)
  dsimp only [Pt.U, Pt.locs, Pt.cells, Pt.slots] at X9 l9 y9 z9 st9 hQ9
  subst l9 y9 z9
  obtain ⟨rfl, rfl, e9⟩ := hQ9
  try rw [List.append_nil] at X9
  obtain ⟨v11_s0, Hv11_s0⟩ : ∃ z : Int32, z = (if (F4n) = (1 : Int32) then (1 : Int32) else (0 : Int32)) := ⟨_, rfl⟩
  obtain ⟨T11, X11, e11, st11⟩ := own_seg X9 T8.heap (mkF m 164 #[.val (.int p0), .val (.int p1), .val (.int p2), .val (.int p3), .val (.int p4), .val (.int (1 : Int32)), .val (.int v2_s0), .val (.int ((p0 >>> ((2 : Int32) &&& 31)) &&& (3 : Int32))), .val (.int v6_l8), .val .null, .val (.ref b7), .val (.int (1 : Int32))] [(.int (1 : Int32)), (.int (F4n))]) (mkF m 172 #[.val (.int p0), .val (.int p1), .val (.int p2), .val (.int p3), .val (.int p4), .val (.int (1 : Int32)), .val (.int v2_s0), .val (.int ((p0 >>> ((2 : Int32) &&& 31)) &&& (3 : Int32))), .val (.int v6_l8), .val .null, .val (.ref b7), .val (.int (1 : Int32))] [(.int v11_s0)]) (by
    by_cases hc10 : (F4n) = (1 : Int32)
    · rw [if_pos hc10] at Hv11_s0
      refine ⟨T9, X9, e9, fun target kt => ?_⟩
      rw [Hv11_s0] at kt
      show Steps p.tables e below (T9.setTop (mkF m 164 #[.val (.int p0), .val (.int p1), .val (.int p2), .val (.int p3), .val (.int p4), .val (.int (1 : Int32)), .val (.int v2_s0), .val (.int ((p0 >>> ((2 : Int32) &&& 31)) &&& (3 : Int32))), .val (.int v6_l8), .val .null, .val (.ref b7), .val (.int (1 : Int32))] [(.int (1 : Int32)), (.int (F4n))])) _
      refine XS.icmpNo X9.here hx rfl (hb hby at_164) rfl (teq hc10).2 ?_
      show Steps p.tables e below (T9.setTop (mkF m 167 #[.val (.int p0), .val (.int p1), .val (.int p2), .val (.int p3), .val (.int p4), .val (.int (1 : Int32)), .val (.int v2_s0), .val (.int ((p0 >>> ((2 : Int32) &&& 31)) &&& (3 : Int32))), .val (.int v6_l8), .val .null, .val (.ref b7), .val (.int (1 : Int32))] [])) _
      refine XS.iconst X9.here hx rfl (hb hby at_167) ?_
      show Steps p.tables e below (T9.setTop (mkF m 168 #[.val (.int p0), .val (.int p1), .val (.int p2), .val (.int p3), .val (.int p4), .val (.int (1 : Int32)), .val (.int v2_s0), .val (.int ((p0 >>> ((2 : Int32) &&& 31)) &&& (3 : Int32))), .val (.int v6_l8), .val .null, .val (.ref b7), .val (.int (1 : Int32))] [(.int (1 : Int32))])) _
      refine XS.goto X9.here hx rfl (pc0 := 168) (pc' := 172) rfl (hb hby at_168) (by decide) (by decide) ?_
      exact kt
    · rw [if_neg hc10] at Hv11_s0
      refine ⟨T9, X9, e9, fun target kt => ?_⟩
      rw [Hv11_s0] at kt
      show Steps p.tables e below (T9.setTop (mkF m 164 #[.val (.int p0), .val (.int p1), .val (.int p2), .val (.int p3), .val (.int p4), .val (.int (1 : Int32)), .val (.int v2_s0), .val (.int ((p0 >>> ((2 : Int32) &&& 31)) &&& (3 : Int32))), .val (.int v6_l8), .val .null, .val (.ref b7), .val (.int (1 : Int32))] [(.int (1 : Int32)), (.int (F4n))])) _
      refine XS.icmpYes X9.here hx rfl (pc0 := 164) (pc' := 171) rfl (hb hby at_164) rfl (feq hc10).2 (by decide) (by decide) ?_
      show Steps p.tables e below (T9.setTop (mkF m 171 #[.val (.int p0), .val (.int p1), .val (.int p2), .val (.int p3), .val (.int p4), .val (.int (1 : Int32)), .val (.int v2_s0), .val (.int ((p0 >>> ((2 : Int32) &&& 31)) &&& (3 : Int32))), .val (.int v6_l8), .val .null, .val (.ref b7), .val (.int (1 : Int32))] [])) _
      refine XS.iconst X9.here hx rfl (hb hby at_171) ?_
      exact kt)
  have hfin : nar .boolean v11_s0 = 1 := by rw [plain_b p0 p1 p2 p3 p4 v11_s0 Hv11_s0 hc3]; rfl
  obtain ⟨fs, hr, hrun, hended, hW, hsame⟩ := X11.leave (v := some (.int (nar .boolean v11_s0))) (fun h => by rw [Bd.returns] at h; cases h)
  refine ⟨_, _, pre0 _ ?_, hrun, hended, _, _, rfl, ?_, ⟨_, rfl⟩, hW, hsame.mono (by decide) (by decide)⟩
  · show Steps p.tables e below (s₁.setTop (mkF m 0 #[.val (.int p0), .val (.int p1), .val (.int p2), .val (.int p3), .val (.int p4), .unset, .unset, .unset, .unset, .unset, .unset, .unset] [])) _
    refine XS.iloadN X0.here hx rfl (hb hby at_0) rfl ?_
    show Steps p.tables e below (s₁.setTop (mkF m 1 #[.val (.int p0), .val (.int p1), .val (.int p2), .val (.int p3), .val (.int p4), .unset, .unset, .unset, .unset, .unset, .unset, .unset] [(.int p0)])) _
    refine XS.iconst X0.here hx rfl (hb hby at_1) ?_
    show Steps p.tables e below (s₁.setTop (mkF m 2 #[.val (.int p0), .val (.int p1), .val (.int p2), .val (.int p3), .val (.int p4), .unset, .unset, .unset, .unset, .unset, .unset, .unset] [(.int (1 : Int32)), (.int p0)])) _
    refine XS.iand X0.here hx rfl (hb hby at_2) rfl ?_
    show Steps p.tables e below (s₁.setTop (mkF m 3 #[.val (.int p0), .val (.int p1), .val (.int p2), .val (.int p3), .val (.int p4), .unset, .unset, .unset, .unset, .unset, .unset, .unset] [(.int (p0 &&& (1 : Int32)))])) _
    refine XS.ifNo X0.here hx rfl (hb hby at_3) rfl ((if0 _ _).trans (feq hc3).1) ?_
    show Steps p.tables e below (s₁.setTop (mkF m 6 #[.val (.int p0), .val (.int p1), .val (.int p2), .val (.int p3), .val (.int p4), .unset, .unset, .unset, .unset, .unset, .unset, .unset] [])) _
    refine XS.iconst X0.here hx rfl (hb hby at_6) ?_
    show Steps p.tables e below (s₁.setTop (mkF m 7 #[.val (.int p0), .val (.int p1), .val (.int p2), .val (.int p3), .val (.int p4), .unset, .unset, .unset, .unset, .unset, .unset, .unset] [(.int (1 : Int32))])) _
    refine XS.goto X0.here hx rfl (pc0 := 7) (pc' := 11) rfl (hb hby at_7) (by decide) (by decide) ?_
    show Steps p.tables e below (s₁.setTop (mkF m 11 #[.val (.int p0), .val (.int p1), .val (.int p2), .val (.int p3), .val (.int p4), .unset, .unset, .unset, .unset, .unset, .unset, .unset] [(.int (1 : Int32))])) _
    refine XS.istore X0.here hx rfl (hb hby at_11) rfl (l' := #[.val (.int p0), .val (.int p1), .val (.int p2), .val (.int p3), .val (.int p4), .val (.int (1 : Int32)), .unset, .unset, .unset, .unset, .unset, .unset]) rfl ?_
    show Steps p.tables e below (s₁.setTop (mkF m 13 #[.val (.int p0), .val (.int p1), .val (.int p2), .val (.int p3), .val (.int p4), .val (.int (1 : Int32)), .unset, .unset, .unset, .unset, .unset, .unset] [])) _
    refine XS.iloadN X0.here hx rfl (hb hby at_13) rfl ?_
    show Steps p.tables e below (s₁.setTop (mkF m 14 #[.val (.int p0), .val (.int p1), .val (.int p2), .val (.int p3), .val (.int p4), .val (.int (1 : Int32)), .unset, .unset, .unset, .unset, .unset, .unset] [(.int p0)])) _
    refine XS.iconst X0.here hx rfl (hb hby at_14) ?_
    show Steps p.tables e below (s₁.setTop (mkF m 15 #[.val (.int p0), .val (.int p1), .val (.int p2), .val (.int p3), .val (.int p4), .val (.int (1 : Int32)), .unset, .unset, .unset, .unset, .unset, .unset] [(.int (2 : Int32)), (.int p0)])) _
    refine XS.iand X0.here hx rfl (hb hby at_15) rfl ?_
    show Steps p.tables e below (s₁.setTop (mkF m 16 #[.val (.int p0), .val (.int p1), .val (.int p2), .val (.int p3), .val (.int p4), .val (.int (1 : Int32)), .unset, .unset, .unset, .unset, .unset, .unset] [(.int (p0 &&& (2 : Int32)))])) _
    refine st2 _ ?_
    show Steps p.tables e below (T2.setTop (mkF m 25 #[.val (.int p0), .val (.int p1), .val (.int p2), .val (.int p3), .val (.int p4), .val (.int (1 : Int32)), .unset, .unset, .unset, .unset, .unset, .unset] [(.int v2_s0)])) _
    refine XS.istore X2.here hx rfl (hb hby at_25) rfl (l' := #[.val (.int p0), .val (.int p1), .val (.int p2), .val (.int p3), .val (.int p4), .val (.int (1 : Int32)), .val (.int v2_s0), .unset, .unset, .unset, .unset, .unset]) rfl ?_
    show Steps p.tables e below (T2.setTop (mkF m 27 #[.val (.int p0), .val (.int p1), .val (.int p2), .val (.int p3), .val (.int p4), .val (.int (1 : Int32)), .val (.int v2_s0), .unset, .unset, .unset, .unset, .unset] [])) _
    refine XS.iloadN X2.here hx rfl (hb hby at_27) rfl ?_
    show Steps p.tables e below (T2.setTop (mkF m 28 #[.val (.int p0), .val (.int p1), .val (.int p2), .val (.int p3), .val (.int p4), .val (.int (1 : Int32)), .val (.int v2_s0), .unset, .unset, .unset, .unset, .unset] [(.int p0)])) _
    refine XS.iconst X2.here hx rfl (hb hby at_28) ?_
    show Steps p.tables e below (T2.setTop (mkF m 29 #[.val (.int p0), .val (.int p1), .val (.int p2), .val (.int p3), .val (.int p4), .val (.int (1 : Int32)), .val (.int v2_s0), .unset, .unset, .unset, .unset, .unset] [(.int (2 : Int32)), (.int p0)])) _
    refine XS.ishr X2.here hx rfl (hb hby at_29) rfl ?_
    show Steps p.tables e below (T2.setTop (mkF m 30 #[.val (.int p0), .val (.int p1), .val (.int p2), .val (.int p3), .val (.int p4), .val (.int (1 : Int32)), .val (.int v2_s0), .unset, .unset, .unset, .unset, .unset] [(.int (p0 >>> ((2 : Int32) &&& 31)))])) _
    refine XS.iconst X2.here hx rfl (hb hby at_30) ?_
    show Steps p.tables e below (T2.setTop (mkF m 31 #[.val (.int p0), .val (.int p1), .val (.int p2), .val (.int p3), .val (.int p4), .val (.int (1 : Int32)), .val (.int v2_s0), .unset, .unset, .unset, .unset, .unset] [(.int (3 : Int32)), (.int (p0 >>> ((2 : Int32) &&& 31)))])) _
    refine XS.iand X2.here hx rfl (hb hby at_31) rfl ?_
    show Steps p.tables e below (T2.setTop (mkF m 32 #[.val (.int p0), .val (.int p1), .val (.int p2), .val (.int p3), .val (.int p4), .val (.int (1 : Int32)), .val (.int v2_s0), .unset, .unset, .unset, .unset, .unset] [(.int ((p0 >>> ((2 : Int32) &&& 31)) &&& (3 : Int32)))])) _
    refine XS.istore X2.here hx rfl (hb hby at_32) rfl (l' := #[.val (.int p0), .val (.int p1), .val (.int p2), .val (.int p3), .val (.int p4), .val (.int (1 : Int32)), .val (.int v2_s0), .val (.int ((p0 >>> ((2 : Int32) &&& 31)) &&& (3 : Int32))), .unset, .unset, .unset, .unset]) rfl ?_
    show Steps p.tables e below (T2.setTop (mkF m 34 #[.val (.int p0), .val (.int p1), .val (.int p2), .val (.int p3), .val (.int p4), .val (.int (1 : Int32)), .val (.int v2_s0), .val (.int ((p0 >>> ((2 : Int32) &&& 31)) &&& (3 : Int32))), .unset, .unset, .unset, .unset] [])) _
    refine XS.iload X2.here hx rfl (hb hby at_34) rfl ?_
    show Steps p.tables e below (T2.setTop (mkF m 36 #[.val (.int p0), .val (.int p1), .val (.int p2), .val (.int p3), .val (.int p4), .val (.int (1 : Int32)), .val (.int v2_s0), .val (.int ((p0 >>> ((2 : Int32) &&& 31)) &&& (3 : Int32))), .unset, .unset, .unset, .unset] [(.int ((p0 >>> ((2 : Int32) &&& 31)) &&& (3 : Int32)))])) _
    refine st6 _ ?_
    show Steps p.tables e below (T6.setTop (mkF m 76 #[.val (.int p0), .val (.int p1), .val (.int p2), .val (.int p3), .val (.int p4), .val (.int (1 : Int32)), .val (.int v2_s0), .val (.int ((p0 >>> ((2 : Int32) &&& 31)) &&& (3 : Int32))), .val (.int v6_l8), .unset, .unset, .unset] [])) _
    refine XS.iload X6.here hx rfl (hb hby at_76) rfl ?_
    show Steps p.tables e below (T6.setTop (mkF m 78 #[.val (.int p0), .val (.int p1), .val (.int p2), .val (.int p3), .val (.int p4), .val (.int (1 : Int32)), .val (.int v2_s0), .val (.int ((p0 >>> ((2 : Int32) &&& 31)) &&& (3 : Int32))), .val (.int v6_l8), .unset, .unset, .unset] [(.int (1 : Int32))])) _
    refine XS.ifNo X6.here hx rfl (hb hby at_78) rfl ((if0 _ _).trans (feq (by decide : ¬ ((1 : Int32) = (0 : Int32)))).1) ?_
    show Steps p.tables e below (T6.setTop (mkF m 81 #[.val (.int p0), .val (.int p1), .val (.int p2), .val (.int p3), .val (.int p4), .val (.int (1 : Int32)), .val (.int v2_s0), .val (.int ((p0 >>> ((2 : Int32) &&& 31)) &&& (3 : Int32))), .val (.int v6_l8), .unset, .unset, .unset] [])) _
    refine XS.aconstNull X6.here hx rfl (hb hby at_81) ?_
    show Steps p.tables e below (T6.setTop (mkF m 82 #[.val (.int p0), .val (.int p1), .val (.int p2), .val (.int p3), .val (.int p4), .val (.int (1 : Int32)), .val (.int v2_s0), .val (.int ((p0 >>> ((2 : Int32) &&& 31)) &&& (3 : Int32))), .val (.int v6_l8), .unset, .unset, .unset] [.null])) _
    refine XS.goto X6.here hx rfl (pc0 := 82) (pc' := 94) rfl (hb hby at_82) (by decide) (by decide) ?_
    show Steps p.tables e below (T6.setTop (mkF m 94 #[.val (.int p0), .val (.int p1), .val (.int p2), .val (.int p3), .val (.int p4), .val (.int (1 : Int32)), .val (.int v2_s0), .val (.int ((p0 >>> ((2 : Int32) &&& 31)) &&& (3 : Int32))), .val (.int v6_l8), .unset, .unset, .unset] [.null])) _
    refine XS.astore X6.here hx rfl (hb hby at_94) rfl rfl (l' := #[.val (.int p0), .val (.int p1), .val (.int p2), .val (.int p3), .val (.int p4), .val (.int (1 : Int32)), .val (.int v2_s0), .val (.int ((p0 >>> ((2 : Int32) &&& 31)) &&& (3 : Int32))), .val (.int v6_l8), .val .null, .unset, .unset]) rfl ?_
    show Steps p.tables e below (T6.setTop (mkF m 96 #[.val (.int p0), .val (.int p1), .val (.int p2), .val (.int p3), .val (.int p4), .val (.int (1 : Int32)), .val (.int v2_s0), .val (.int ((p0 >>> ((2 : Int32) &&& 31)) &&& (3 : Int32))), .val (.int v6_l8), .val .null, .unset, .unset] [])) _
    refine st7 _ ?_
    show Steps p.tables e below (T7.setTop (mkF m 99 #[.val (.int p0), .val (.int p1), .val (.int p2), .val (.int p3), .val (.int p4), .val (.int (1 : Int32)), .val (.int v2_s0), .val (.int ((p0 >>> ((2 : Int32) &&& 31)) &&& (3 : Int32))), .val (.int v6_l8), .val .null, .unset, .unset] [(.ref b7)])) _
    refine XS.dup X7.here hx rfl (hb hby at_99) rfl rfl ?_
    show Steps p.tables e below (T7.setTop (mkF m 100 #[.val (.int p0), .val (.int p1), .val (.int p2), .val (.int p3), .val (.int p4), .val (.int (1 : Int32)), .val (.int v2_s0), .val (.int ((p0 >>> ((2 : Int32) &&& 31)) &&& (3 : Int32))), .val (.int v6_l8), .val .null, .unset, .unset] [(.ref b7), (.ref b7)])) _
    refine XS.iload X7.here hx rfl (hb hby at_100) rfl ?_
    show Steps p.tables e below (T7.setTop (mkF m 102 #[.val (.int p0), .val (.int p1), .val (.int p2), .val (.int p3), .val (.int p4), .val (.int (1 : Int32)), .val (.int v2_s0), .val (.int ((p0 >>> ((2 : Int32) &&& 31)) &&& (3 : Int32))), .val (.int v6_l8), .val .null, .unset, .unset] [(.int v6_l8), (.ref b7), (.ref b7)])) _
    refine XS.iload X7.here hx rfl (hb hby at_102) rfl ?_
    show Steps p.tables e below (T7.setTop (mkF m 104 #[.val (.int p0), .val (.int p1), .val (.int p2), .val (.int p3), .val (.int p4), .val (.int (1 : Int32)), .val (.int v2_s0), .val (.int ((p0 >>> ((2 : Int32) &&& 31)) &&& (3 : Int32))), .val (.int v6_l8), .val .null, .unset, .unset] [(.int v2_s0), (.int v6_l8), (.ref b7), (.ref b7)])) _
    refine st8.trans ?_
    show Steps p.tables e below (T8.setTop (mkF m 107 #[.val (.int p0), .val (.int p1), .val (.int p2), .val (.int p3), .val (.int p4), .val (.int (1 : Int32)), .val (.int v2_s0), .val (.int ((p0 >>> ((2 : Int32) &&& 31)) &&& (3 : Int32))), .val (.int v6_l8), .val .null, .unset, .unset] [(.ref b7)])) _
    refine XS.astore X8.here hx rfl (hb hby at_107) rfl rfl (l' := #[.val (.int p0), .val (.int p1), .val (.int p2), .val (.int p3), .val (.int p4), .val (.int (1 : Int32)), .val (.int v2_s0), .val (.int ((p0 >>> ((2 : Int32) &&& 31)) &&& (3 : Int32))), .val (.int v6_l8), .val .null, .val (.ref b7), .unset]) rfl ?_
    show Steps p.tables e below (T8.setTop (mkF m 109 #[.val (.int p0), .val (.int p1), .val (.int p2), .val (.int p3), .val (.int p4), .val (.int (1 : Int32)), .val (.int v2_s0), .val (.int ((p0 >>> ((2 : Int32) &&& 31)) &&& (3 : Int32))), .val (.int v6_l8), .val .null, .val (.ref b7), .unset] [])) _
    refine XS.iload X8.here hx rfl (hb hby at_109) rfl ?_
    show Steps p.tables e below (T8.setTop (mkF m 111 #[.val (.int p0), .val (.int p1), .val (.int p2), .val (.int p3), .val (.int p4), .val (.int (1 : Int32)), .val (.int v2_s0), .val (.int ((p0 >>> ((2 : Int32) &&& 31)) &&& (3 : Int32))), .val (.int v6_l8), .val .null, .val (.ref b7), .unset] [(.int (1 : Int32))])) _
    refine XS.ifNo X8.here hx rfl (hb hby at_111) rfl ((if0 _ _).trans (feq (by decide : ¬ ((1 : Int32) = (0 : Int32)))).1) ?_
    show Steps p.tables e below (T8.setTop (mkF m 114 #[.val (.int p0), .val (.int p1), .val (.int p2), .val (.int p3), .val (.int p4), .val (.int (1 : Int32)), .val (.int v2_s0), .val (.int ((p0 >>> ((2 : Int32) &&& 31)) &&& (3 : Int32))), .val (.int v6_l8), .val .null, .val (.ref b7), .unset] [])) _
    refine XS.iconst X8.here hx rfl (hb hby at_114) ?_
    show Steps p.tables e below (T8.setTop (mkF m 115 #[.val (.int p0), .val (.int p1), .val (.int p2), .val (.int p3), .val (.int p4), .val (.int (1 : Int32)), .val (.int v2_s0), .val (.int ((p0 >>> ((2 : Int32) &&& 31)) &&& (3 : Int32))), .val (.int v6_l8), .val .null, .val (.ref b7), .unset] [(.int (1 : Int32))])) _
    refine XS.istore X8.here hx rfl (hb hby at_115) rfl (l' := #[.val (.int p0), .val (.int p1), .val (.int p2), .val (.int p3), .val (.int p4), .val (.int (1 : Int32)), .val (.int v2_s0), .val (.int ((p0 >>> ((2 : Int32) &&& 31)) &&& (3 : Int32))), .val (.int v6_l8), .val .null, .val (.ref b7), .val (.int (1 : Int32))]) rfl ?_
    show Steps p.tables e below (T8.setTop (mkF m 117 #[.val (.int p0), .val (.int p1), .val (.int p2), .val (.int p3), .val (.int p4), .val (.int (1 : Int32)), .val (.int v2_s0), .val (.int ((p0 >>> ((2 : Int32) &&& 31)) &&& (3 : Int32))), .val (.int v6_l8), .val .null, .val (.ref b7), .val (.int (1 : Int32))] [])) _
    refine XS.goto X8.here hx rfl (pc0 := 117) (pc' := 155) rfl (hb hby at_117) (by decide) (by decide) ?_
    show Steps p.tables e below (T8.setTop (mkF m 155 #[.val (.int p0), .val (.int p1), .val (.int p2), .val (.int p3), .val (.int p4), .val (.int (1 : Int32)), .val (.int v2_s0), .val (.int ((p0 >>> ((2 : Int32) &&& 31)) &&& (3 : Int32))), .val (.int v6_l8), .val .null, .val (.ref b7), .val (.int (1 : Int32))] [])) _
    refine XS.aload X8.here hx rfl (hb hby at_155) rfl rfl ?_
    show Steps p.tables e below (T8.setTop (mkF m 157 #[.val (.int p0), .val (.int p1), .val (.int p2), .val (.int p3), .val (.int p4), .val (.int (1 : Int32)), .val (.int v2_s0), .val (.int ((p0 >>> ((2 : Int32) &&& 31)) &&& (3 : Int32))), .val (.int v6_l8), .val .null, .val (.ref b7), .val (.int (1 : Int32))] [.null])) _
    refine XS.aload X8.here hx rfl (hb hby at_157) rfl rfl ?_
    show Steps p.tables e below (T8.setTop (mkF m 159 #[.val (.int p0), .val (.int p1), .val (.int p2), .val (.int p3), .val (.int p4), .val (.int (1 : Int32)), .val (.int v2_s0), .val (.int ((p0 >>> ((2 : Int32) &&& 31)) &&& (3 : Int32))), .val (.int v6_l8), .val .null, .val (.ref b7), .val (.int (1 : Int32))] [(.ref b7), .null])) _
    refine st9 _ ?_
    show Steps p.tables e below (T9.setTop (mkF m 162 #[.val (.int p0), .val (.int p1), .val (.int p2), .val (.int p3), .val (.int p4), .val (.int (1 : Int32)), .val (.int v2_s0), .val (.int ((p0 >>> ((2 : Int32) &&& 31)) &&& (3 : Int32))), .val (.int v6_l8), .val .null, .val (.ref b7), .val (.int (1 : Int32))] [(.int (F4n))])) _
    refine XS.iload X9.here hx rfl (hb hby at_162) rfl ?_
    show Steps p.tables e below (T9.setTop (mkF m 164 #[.val (.int p0), .val (.int p1), .val (.int p2), .val (.int p3), .val (.int p4), .val (.int (1 : Int32)), .val (.int v2_s0), .val (.int ((p0 >>> ((2 : Int32) &&& 31)) &&& (3 : Int32))), .val (.int v6_l8), .val .null, .val (.ref b7), .val (.int (1 : Int32))] [(.int (1 : Int32)), (.int (F4n))])) _
    refine st11 _ ?_
    show Steps p.tables e below (T11.setTop (mkF m 172 #[.val (.int p0), .val (.int p1), .val (.int p2), .val (.int p3), .val (.int p4), .val (.int (1 : Int32)), .val (.int v2_s0), .val (.int ((p0 >>> ((2 : Int32) &&& 31)) &&& (3 : Int32))), .val (.int v6_l8), .val .null, .val (.ref b7), .val (.int (1 : Int32))] [(.int v11_s0)])) _
    exact retN X11 hx (t := .boolean) Bd.returns (by simp) (hb hby at_172) hr
  · exact ⟨congrArg (fun z => some (Value.int z)) hfin, N8⟩
set_option maxRecDepth 65536 in
set_option maxHeartbeats 40000000 in
theorem rm0 (l : Launch) (Z : State) (a0 : Array Value) (hw : ∀ d ∈ tables_1, d.before a0 Z = true) (ws : List Jvm.Cond) (p0 : Int32) (p1 : Int32) (p2 : Int32) (p3 : Int32) (p4 : Int32) (h0 : Heap) (n0 : Nat) (Z0 : n0 ≤ h0.size) :
    MetFree l x (head1 (Jvm.Cond.code x code maxLocals ret :: ws) room_1) (fun a U => a = #[(.int p0), (.int p1), (.int p2), (.int p3), (.int p4)] ∧ Z.Warmed39 U.vm ∧ U.heap = h0) (fun _ _ _ _ _ => True) (fun _ U o U' => ∃ v L, o = .returned v ∧ (v = some (.int 1) ∧ Fr n0 L) ∧ FrameEnd U o U' L room_1.cells room_1.slots) := by
  by_cases hc : (p0 &&& (1 : Int32)) = (0 : Int32)
  · exact rm0a l Z a0 hw ws p0 p1 p2 p3 p4 h0 n0 Z0 hc
  · exact rm0b l Z a0 hw ws p0 p1 p2 p3 p4 h0 n0 Z0 hc
set_option maxRecDepth 65536 in
set_option maxHeartbeats 40000000 in
theorem comes_1 {Post : Tables → Env → Array Value → State → Outcome → State → Prop} (hpost : ∀ tb e args s v u, (limb_1_1.after args s (.returned v) u = true ∧ limb_1_2.after args s (.returned v) u = true ∧ True) → FrameEnd s (.returned v) u (Jvm.fieldLocs frame_1_writes args s ++ Jvm.arrayLocs frame_1_arrays args s ++ Jvm.staticLocs frame_1_statics s) 16 128 → Post tb e args s (.returned v) u) :
    ArmFor flags0 classFile x code maxLocals ret World_1 tables_1 room_1 Calls_1 rest_1 Pre_1 Post := by
  intro l hfl _ _ p e ha hc hk s m args below hf hA hF happ hP
  obtain ⟨hcalls, hrest, hpre⟩ := hP
  obtain ⟨-, -, -, hnamed, -, -, -, hat⟩ := (Spec.applies_iff hf).mp happ
  obtain ⟨hg, hn⟩ := and_e (Cond.before_iff.mp (show (Jvm.Cond.and given_1 narrow_1).before args s = true from hpre))
  obtain ⟨gg1, gg2⟩ := and_e hg
  obtain ⟨gg3, gg4⟩ := and_e gg2
  obtain ⟨gg5, gg6⟩ := and_e gg4
  obtain ⟨gg7, gg8⟩ := and_e gg6
  obtain ⟨gg9, gg10⟩ := and_e gg8
  obtain ⟨w0, w1, w2, w3, w4, rfl⟩ : ∃ w0 w1 w2 w3 w4 : Value, args = #[w0, w1, w2, w3, w4] := by
    have hs : args.size = 5 := by simpa [Cond.value, given_1] using gg1
    obtain ⟨L⟩ := args
    match L, hs with
    | [w0, w1, w2, w3, w4], _ => exact ⟨w0, w1, w2, w3, w4, rfl⟩
  have hw := fun d (hd : d ∈ tables_1) => atoms_spec (ws := Jvm.Cond.code x code maxLocals ret :: tables_1) hat d (List.mem_cons_of_mem _ hd)
  obtain ⟨i0, ei0⟩ := is_v gg3
  obtain rfl : w0 = (.int i0) := Option.some.inj ei0
  obtain ⟨i1, ei1⟩ := is_v gg5
  obtain rfl : w1 = (.int i1) := Option.some.inj ei1
  obtain ⟨i2, ei2⟩ := is_v gg7
  obtain rfl : w2 = (.int i2) := Option.some.inj ei2
  obtain ⟨i3, ei3⟩ := is_v gg9
  obtain rfl : w3 = (.int i3) := Option.some.inj ei3
  obtain ⟨i4, ei4⟩ := is_v gg10
  obtain rfl : w4 = (.int i4) := Option.some.inj ei4
  obtain ⟨n, o, h1, h2, h3, _, L, rfl, ⟨rfl, N⟩, hq⟩ := rm0 l s _ hw tables_1 i0 i1 i2 i3 i4 s.heap s.heap.size (Nat.le_refl _) p e ha hc hk s m _ below hf ((Spec.applies_iff_loose hf).mp happ).1 ⟨rfl, State.Warmed39.refl s, rfl⟩ trivial
  refine ⟨n, _, h1, h2, h3, hpost _ _ _ _ _ _ ⟨Cond.after_iff.mpr rfl, Cond.after_iff.mpr (eq_i res_at (Term.int_eval (1)) rfl), trivial⟩ ⟨hq.1, hq.2.1, (hq.2.2.sift fun y hy => Or.inr (N y hy)).mono (by decide) (by decide)⟩⟩
theorem main_1_1 : Claimed_1_1 := comes_1 fun _ _ _ _ _ _ h hF => ⟨h.1, hF⟩
theorem main_1_2 : Claimed_1_2 := comes_1 fun _ _ _ _ _ _ h hF => ⟨h.2.1, hF⟩
end Jvm.Pilot.@@N@@
namespace Jvm.Pilot.@@N@@
open Jvm Jvm.ClassFile Sem Op Lib Jvm.Free Jvm.Stand Jvm.Pilot.@@N@@.Jvm.D
/-! MADE BY PROGRAM (witnessworld.py) out of the Statement's table words and the real class files: 10 classes; the members and pool entries that the words name. The judged class is class 1, her method 1. -/
namespace start1
open Jvm.ClassFile
def u (s : String) : CpInfo := .utf8 (stringToUtf16 s)
/-- a pool by its gaps: so many unusable entries, then the entry; so many at the end -/
def gap : Nat → List CpInfo → List CpInfo
  | 0, r => r
  | n + 1, r => .unusable :: gap n r
def poolList (es : List (Nat × CpInfo)) (last : Nat) : List CpInfo := es.foldr (fun e r => gap e.1 (e.2 :: r)) (gap last [])
def pool (es : List (Nat × CpInfo)) (last : Nat) : Array CpInfo := ⟨poolList es last⟩
def fileOf (pool : Array CpInfo) (this : Nat) (attrs : Array Attribute := #[]) (ms : Array MethodInfo := #[]) (fl : Nat := 33) (sup : Nat := 0) (ifs : Array Nat := #[]) (fds : Array FieldInfo := #[]) : ClassFile where
  minorVersion := 0
  majorVersion := 65
  constantPool := pool
  accessFlags := fl
  thisClass := this
  superClass := sup
  interfaces := ifs
  fields := fds
  methods := ms
  attributes := attrs
def plain (name : String) (sup : Option ClassId) : Class where
  name := name
  kind := .ordinary
  loader := none
  accessFlags := 33
  super := sup
  interfaces := #[]
  cf := none
  fields := #[]
  methods := #[]
  instanceTypes := #[]
  staticTypes := #[]
  resolved := #[]
  callSites := []
  init := .initialized
  statics := none
  mirror := none

def pool0 : Array CpInfo := pool [(5, u "<init>"), (0, u "()V"), (1, .class_ 10), (1, u "java/lang/Object")] 113

def k0c0 : Code := { maxStack := 0, maxLocals := 1, code := object_method_1_code, exceptionTable := #[], attributes := #[] }
def k0m0 : Method := { name := "<init>", desc := "()V", sig := { parameters := [], returnType := none }, accessFlags := 1, code := some k0c0 }
/-- java/lang/Object -/
def k0 : Class := { plain "java/lang/Object" none with
  accessFlags := 33
  interfaces := #[]
  cf := some (fileOf pool0 8 #[] #[{ accessFlags := 1, nameIndex := 5, descriptorIndex := 6, attributes := #[] }] 33 0 #[] #[])
  fields := #[]
  methods := #[k0m0]
  instanceTypes := #[]
  staticTypes := #[]
  resolved := Array.replicate 124 none
  statics := none }

def pool1 : Array CpInfo := pool [(2, .class_ 4), (1, u "java/lang/Object"), (0, u "<init>"), (0, u "()V"), (0, .class_ 8), (0, u "com/example/ledgerline/ledgerline/server/TopicSettings"), (0, .methodref 7 10), (0, .nameAndType 5 11), (0, u "(II)V"), (0, .methodref 7 13), (0, .nameAndType 14 15), (0, u "mayBecome"), (0, u "(Lcom/example/ledgerline/ledgerline/server/TopicSettings;Lcom/example/ledgerline/ledgerline/server/TopicSettings;)Z"), (0, .class_ 17), (0, u "com/example/ledgerline/ledgerline/server/TopicSettingsMayBecomePinLaw"), (2, u "law"), (0, u "(IIIII)Z")] 3

def k1m0 : Method := { name := "<init>", desc := "()V", sig := { parameters := [], returnType := none }, accessFlags := 1, code := none }
def k1c1 : Code := { maxStack := 4, maxLocals := 12, code := code, exceptionTable := #[], attributes := #[] }
def k1m1 : Method := { name := "law", desc := "(IIIII)Z", sig := { parameters := [.int, .int, .int, .int, .int], returnType := some .boolean }, accessFlags := 9, code := some k1c1 }
/-- com/example/ledgerline/ledgerline/server/TopicSettingsMayBecomePinLaw -/
def k1 : Class := { plain "com/example/ledgerline/ledgerline/server/TopicSettingsMayBecomePinLaw" (some 0) with
  accessFlags := 49
  interfaces := #[]
  cf := some (fileOf pool1 16 #[] #[{ accessFlags := 1, nameIndex := 5, descriptorIndex := 6, attributes := #[] }, { accessFlags := 9, nameIndex := 20, descriptorIndex := 21, attributes := #[] }] 49 2 #[] #[])
  fields := #[]
  methods := #[k1m0, k1m1]
  instanceTypes := #[]
  staticTypes := #[]
  resolved := Array.replicate 25 none
  statics := none }

def pool2 : Array CpInfo := pool [(1, .methodref 2 3), (0, .class_ 4), (0, .nameAndType 5 6), (0, u "java/lang/Object"), (0, u "<init>"), (0, u "()V"), (0, .class_ 8), (0, u "java/lang/Record")] 13

def k2c0 : Code := { maxStack := 1, maxLocals := 1, code := jdk_30_method_1_code, exceptionTable := #[], attributes := #[] }
def k2m0 : Method := { name := "<init>", desc := "()V", sig := { parameters := [], returnType := none }, accessFlags := 4, code := some k2c0 }
/-- java/lang/Record -/
def k2 : Class := { plain "java/lang/Record" (some 0) with
  accessFlags := 1057
  interfaces := #[]
  cf := some (fileOf pool2 7 #[] #[{ accessFlags := 4, nameIndex := 5, descriptorIndex := 6, attributes := #[] }] 1057 2 #[] #[])
  fields := #[]
  methods := #[k2m0]
  instanceTypes := #[]
  staticTypes := #[]
  resolved := Array.replicate 22 none
  statics := none }

def pool3 : Array CpInfo := pool [(1, .methodref 2 3), (0, .class_ 4), (0, .nameAndType 5 6), (0, u "java/lang/Record"), (0, u "<init>"), (0, u "()V"), (0, .fieldref 8 9), (0, .class_ 10), (0, .nameAndType 11 12), (0, u "com/example/ledgerline/ledgerline/server/TopicSettings"), (0, u "partitions"), (0, u "I"), (0, .fieldref 8 14), (0, .nameAndType 15 12), (0, u "replicationFactor"), (9, u "(II)V"), (8, .class_ 36), (1, u "com/example/ledgerline/ledgerline/server/TopicSettings$Setting"), (37, u "mayBecome"), (0, u "(Lcom/example/ledgerline/ledgerline/server/TopicSettings;Lcom/example/ledgerline/ledgerline/server/TopicSettings;)Z"), (7, .class_ 84), (0, u "com/example/ledgerline/ledgerline/server/TopicSettings$Reported")] 27

def k3c0 : Code := { maxStack := 2, maxLocals := 3, code := prog_258_method_1_code, exceptionTable := #[], attributes := #[] }
def k3m0 : Method := { name := "<init>", desc := "(II)V", sig := { parameters := [.int, .int], returnType := none }, accessFlags := 1, code := some k3c0 }
def k3c1 : Code := { maxStack := 2, maxLocals := 2, code := prog_258_method_6_code, exceptionTable := #[], attributes := #[] }
def k3m1 : Method := { name := "mayBecome", desc := "(Lcom/example/ledgerline/ledgerline/server/TopicSettings;Lcom/example/ledgerline/ledgerline/server/TopicSettings;)Z", sig := { parameters := [(.object "com/example/ledgerline/ledgerline/server/TopicSettings"), (.object "com/example/ledgerline/ledgerline/server/TopicSettings")], returnType := some .boolean }, accessFlags := 8, code := some k3c1 }
/-- com/example/ledgerline/ledgerline/server/TopicSettings -/
def k3 : Class := { plain "com/example/ledgerline/ledgerline/server/TopicSettings" (some 2) with
  accessFlags := 49
  interfaces := #[]
  cf := some (fileOf pool3 8 #[.nestMembers #[83, 34]] #[{ accessFlags := 1, nameIndex := 5, descriptorIndex := 25, attributes := #[] }, { accessFlags := 8, nameIndex := 74, descriptorIndex := 75, attributes := #[] }] 49 2 #[] #[{ accessFlags := 18, nameIndex := 11, descriptorIndex := 12, attributes := #[] }, { accessFlags := 18, nameIndex := 15, descriptorIndex := 12, attributes := #[] }])
  fields := #[{ name := "partitions", type := .int, accessFlags := 18, slot := 0, constantValue := 0 }, { name := "replicationFactor", type := .int, accessFlags := 18, slot := 1, constantValue := 0 }]
  methods := #[k3m0, k3m1]
  instanceTypes := #[.int, .int]
  staticTypes := #[]
  resolved := Array.replicate 112 none
  statics := none }

def pool4 : Array CpInfo := pool [(1, u "java/lang/Cloneable"), (0, .class_ 1), (0, u "java/lang/Object"), (0, .class_ 3)] 3

/-- java/lang/Cloneable -/
def k4 : Class := { plain "java/lang/Cloneable" (some 0) with
  accessFlags := 1537
  interfaces := #[]
  cf := some (fileOf pool4 2 #[] #[] 1537 4 #[] #[])
  fields := #[]
  methods := #[]
  instanceTypes := #[]
  staticTypes := #[]
  resolved := Array.replicate 8 none
  statics := none }

def pool5 : Array CpInfo := pool [(1, u "java/io/Serializable"), (0, .class_ 1), (0, u "java/lang/Object"), (0, .class_ 3)] 3

/-- java/io/Serializable -/
def k5 : Class := { plain "java/io/Serializable" (some 0) with
  accessFlags := 1537
  interfaces := #[]
  cf := some (fileOf pool5 2 #[] #[] 1537 4 #[] #[])
  fields := #[]
  methods := #[]
  instanceTypes := #[]
  staticTypes := #[]
  resolved := Array.replicate 8 none
  statics := none }

/-- the primitive byte -/
def k6 : Class := { plain "byte" none with kind := .primitive 'B', accessFlags := 0x411 }
/-- [B -/
def k7 : Class := { plain "[B" (some 0) with kind := .array 6 .byte, interfaces := #[4, 5], accessFlags := 1041 }

/-- the primitive int -/
def k8 : Class := { plain "int" none with kind := .primitive 'I', accessFlags := 0x411 }
/-- [I -/
def k9 : Class := { plain "[I" (some 0) with kind := .array 8 .int, interfaces := #[4, 5], accessFlags := 1041 }

def heap : Heap := #[]
def classes : Array Class := #[k0, k1, k2, k3, k4, k5, k6, k7, k8, k9]
def interned : List (Array UInt16 × Addr) := []
def slotsUsed : Nat := 0
def theMethod : MethodId := ⟨1, 1⟩
def args0 : Array Value := #[.int 5, .int 5, .int 5, .int 5, .int 5]
def aboutOver (below : List Frame) : State where
  vm := { classes := classes, interned := interned.toArray }
  heap := heap
  slotsUsed := slotsUsed
  threads := #[{ frames := .invoking theMethod args0 :: below }]
def below0 : List Frame := [.native { method := ⟨0, 0⟩, args := #[] }]
def about1 : State := aboutOver below0
def p0 : Program := .bare "" "" ""
def e0 : Env := launch0.env 0 0 0
theorem w_frames : about1.frames = Frame.invoking theMethod args0 :: below0 := rfl
set_option maxRecDepth 65536 in
theorem w_args : argsFit about1.vm theMethod args0 = true := by decide +kernel
set_option maxRecDepth 65536 in
theorem w_heap : heapFits about1 = true := by decide +kernel
set_option maxRecDepth 65536 in
theorem w_runnable : about1.curStatus? = some .runnable := by decide +kernel
set_option maxRecDepth 65536 in
theorem w_alone : about1.alone = true := by decide +kernel
set_option maxRecDepth 65536 in
theorem w_named : about1.methodNamed? x = some theMethod := by decide +kernel
set_option maxRecDepth 65536 in
theorem w_hears : about1.hears theMethod below0 = true := by decide +kernel
set_option maxRecDepth 65536 in
theorem w_ripe : about1.ripe theMethod args0 below0 = true := by decide +kernel
theorem w_running : about1.status = .running := rfl
set_option maxRecDepth 65536 in
theorem w_room : about1.hasRoom e0.platform room_1 = true :=
  launch0.hasRoom_least _ room_1 (by decide +kernel) (by decide +kernel) (by decide +kernel) (by decide +kernel) (by decide +kernel) (by decide +kernel)
theorem allAtoms_all (ts : List Jvm.Cond) (a : Array Jvm.Value) (st : Jvm.State) : (allAtoms ts).before a st = ts.all (fun c => c.before a st) := by
  induction ts with
  | nil => rfl
  | cons c t ih =>
    show (Jvm.Cond.and c (allAtoms t)).before a st = _
    rw [Jvm.Cond.before_and, ih, List.all_cons]
def words1 : List Jvm.Cond := Jvm.Cond.code x code maxLocals ret :: tables_1
/-- a 'code' word, met by the world's own term for the bytes: nothing is compared byte by byte -/
theorem code_word {y : MethodName} {bytes : ByteArray} {mx : Nat} {rt : Option FieldType} {a : Array Value} {s : State} {m : MethodId} {meth : Method} {c : Code} (h1 : s.methodNamed? y = some m) (h2 : s.vm.method? m = some meth) (h3 : meth.code = some c) (h4 : c.code = bytes)
    (h5 : (c.maxLocals == mx && c.exceptionTable.isEmpty && decide (c.maxStack ≤ mostOperands) && decide (meth.sig.returnType = rt) && !meth.locks && decide (parseMethodDescriptor y.desc = some meth.sig)) = true) : (Jvm.Cond.code y bytes mx rt).before a s = true := by
  simp only [Bool.and_eq_true, beq_iff_eq, Bool.not_eq_true', decide_eq_true_eq] at h5
  obtain ⟨⟨⟨⟨⟨g1, g2⟩, g3⟩, g4⟩, g5⟩, g6⟩ := h5
  simp [Cond.before, Cond.holds, Cond.value, h1, h2, h3, h4, g1, g2, g3, g4, g5, g6]
def isCode : Jvm.Cond → Bool
  | .code _ _ _ _ => true
  | _ => false
theorem all_split {L : List Jvm.Cond} {P : Jvm.Cond → Bool} (h1 : L.all (fun c => isCode c || P c) = true) (h2 : ∀ c ∈ L.filter isCode, P c = true) : L.all P = true := by
  refine List.all_eq_true.mpr fun c hc => ?_
  have h := List.all_eq_true.mp h1 c hc
  rcases Bool.eq_false_or_eq_true (isCode c) with hi | hi
  · exact h2 c (List.mem_filter.mpr ⟨hc, hi⟩)
  · simpa [hi] using h
set_option maxRecDepth 65536 in
theorem w_c0 : (Jvm.Cond.code x code maxLocals ret).before args0 about1 = true := code_word (m := ⟨1, 1⟩) (meth := k1m1) (c := k1c1) (by decide +kernel) rfl rfl rfl (by decide +kernel)
set_option maxRecDepth 65536 in
theorem w_c1 : (Jvm.Cond.code ({ cls := "com/example/ledgerline/ledgerline/server/TopicSettings", name := "<init>", desc := "(II)V" } : Jvm.MethodName) prog_258_method_1_code (3 : Nat) (Option.none : Option Jvm.ClassFile.FieldType)).before args0 about1 = true := code_word (m := ⟨3, 0⟩) (meth := k3m0) (c := k3c0) (by decide +kernel) rfl rfl rfl (by decide +kernel)
set_option maxRecDepth 65536 in
theorem w_c2 : (Jvm.Cond.code ({ cls := "java/lang/Record", name := "<init>", desc := "()V" } : Jvm.MethodName) jdk_30_method_1_code (1 : Nat) (Option.none : Option Jvm.ClassFile.FieldType)).before args0 about1 = true := code_word (m := ⟨2, 0⟩) (meth := k2m0) (c := k2c0) (by decide +kernel) rfl rfl rfl (by decide +kernel)
set_option maxRecDepth 65536 in
theorem w_c3 : (Jvm.Cond.code ({ cls := "java/lang/Object", name := "<init>", desc := "()V" } : Jvm.MethodName) object_method_1_code (1 : Nat) (Option.none : Option Jvm.ClassFile.FieldType)).before args0 about1 = true := code_word (m := ⟨0, 0⟩) (meth := k0m0) (c := k0c0) (by decide +kernel) rfl rfl rfl (by decide +kernel)
set_option maxRecDepth 65536 in
theorem w_c4 : (Jvm.Cond.code ({ cls := "com/example/ledgerline/ledgerline/server/TopicSettings", name := "mayBecome", desc := "(Lcom/example/ledgerline/ledgerline/server/TopicSettings;Lcom/example/ledgerline/ledgerline/server/TopicSettings;)Z" } : Jvm.MethodName) prog_258_method_6_code (2 : Nat) (Option.some Jvm.ClassFile.FieldType.boolean)).before args0 about1 = true := code_word (m := ⟨3, 1⟩) (meth := k3m1) (c := k3c1) (by decide +kernel) rfl rfl rfl (by decide +kernel)
def codes1 : List Jvm.Cond := [Jvm.Cond.code x code maxLocals ret, Jvm.Cond.code ({ cls := "com/example/ledgerline/ledgerline/server/TopicSettings", name := "<init>", desc := "(II)V" } : Jvm.MethodName) prog_258_method_1_code (3 : Nat) (Option.none : Option Jvm.ClassFile.FieldType), Jvm.Cond.code ({ cls := "java/lang/Record", name := "<init>", desc := "()V" } : Jvm.MethodName) jdk_30_method_1_code (1 : Nat) (Option.none : Option Jvm.ClassFile.FieldType), Jvm.Cond.code ({ cls := "java/lang/Object", name := "<init>", desc := "()V" } : Jvm.MethodName) object_method_1_code (1 : Nat) (Option.none : Option Jvm.ClassFile.FieldType), Jvm.Cond.code ({ cls := "com/example/ledgerline/ledgerline/server/TopicSettings", name := "mayBecome", desc := "(Lcom/example/ledgerline/ledgerline/server/TopicSettings;Lcom/example/ledgerline/ledgerline/server/TopicSettings;)Z" } : Jvm.MethodName) prog_258_method_6_code (2 : Nat) (Option.some Jvm.ClassFile.FieldType.boolean)]
set_option maxRecDepth 65536 in
theorem codes_eq : words1.filter isCode = codes1 := rfl
theorem w_codes : ∀ c ∈ words1.filter isCode, c.before args0 about1 = true := by
  rw [codes_eq]
  intro c hc
  simp only [codes1, List.mem_cons, List.not_mem_nil, or_false] at hc
  rcases hc with rfl | rfl | rfl | rfl | rfl
  · exact w_c0
  · exact w_c1
  · exact w_c2
  · exact w_c3
  · exact w_c4
set_option maxRecDepth 65536 in
theorem w_t1 : words1.all (fun c => isCode c || c.before args0 about1) = true := by decide +kernel
theorem w_tables : (allAtoms (Jvm.Cond.code x code maxLocals ret :: tables_1)).before args0 about1 = true := by
  rw [allAtoms_all]
  show words1.all (fun c => c.before args0 about1) = true
  refine all_split ?_ w_codes
  rw [w_t1]
set_option maxRecDepth 65536 in
theorem w_case : (Jvm.Cond.and given_1 narrow_1).before args0 about1 = true := by decide +kernel
theorem w_applies : (headSpec (Jvm.Cond.code x code maxLocals ret :: tables_1) room_1).applies x e0.platform about1 = true :=
  (Spec.applies_iff w_frames).mpr ⟨w_running, w_runnable, w_alone, w_named, w_hears, w_ripe, w_room, w_tables⟩
theorem atStart : AtStart classFile x code maxLocals ret World_1 tables_1 room_1 Calls_1 rest_1 Pre_1 launch0 p0 e0 about1 theMethod args0 below0 :=
  ⟨lists_1, trivial, launch0.admits_env _ _ _, launch0.least_env, fairChoices_fair.cas, fairChoices_fair.clock, w_frames, w_args, w_heap, w_applies, trivial, trivial, w_case⟩
end start1
theorem witness_1 : WitnessClaimed_1 := ⟨start1.p0, start1.e0, start1.about1, start1.theMethod, start1.args0, start1.below0, start1.atStart⟩
end Jvm.Pilot.@@N@@
