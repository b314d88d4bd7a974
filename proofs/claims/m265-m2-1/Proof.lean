import JvmDerived
import JvmDerived.Pilot.@@N@@Statement
import JvmDerived.Pilot.@@N@@Code
set_option linter.unusedVariables false
set_option linter.unusedSimpArgs false
@@BLOCK:NumsL.lean.txt@@
namespace Jvm.RoadKit
open Sem ClassFile Op Lib Jvm.Stand Jvm.Free Jvm.LawKit
section New
variable {p : Program} {l : Launch} {e : Env} {R : Room} {s : State} {m : MethodId} {args : Array Value} {below : List Frame} {meth : Method} {c : Code} {T : State} {locs : List Loc} {cells slots : Nat}
theorem retI (X : Stand p l e R s m args below meth c T locs cells slots) (hx : p.tables.exec = Jvm.exec) {pc : Nat} {Ls : Array Slot} {z : Int32} {rest : List Value} (hret : meth.sig.returnType = some .int) (hd : decode c.code pc = .ok (.ireturn, 1)) {fs : List Frame}
    (hl : ∀ (f : JFrame) (acts : List Action), f.method = m → f.locked = none → f.entered = [] → (doReturn e (T.setTop f) acts (some (.int z))).1 = T.setFrames fs) : Steps p.tables e below (T.setTop (mkF m pc Ls (.int z :: rest))) (T.setFrames fs) :=
  retOut X hx hret rfl (Or.inl ⟨rfl, Or.inl rfl, z, rfl⟩) hd hl
theorem retJ (X : Stand p l e R s m args below meth c T locs cells slots) (hx : p.tables.exec = Jvm.exec) {pc : Nat} {Ls : Array Slot} {z : Int64} {rest : List Value} (hret : meth.sig.returnType = some .long) (hd : decode c.code pc = .ok (.lreturn, 1)) {fs : List Frame}
    (hl : ∀ (f : JFrame) (acts : List Action), f.method = m → f.locked = none → f.entered = [] → (doReturn e (T.setTop f) acts (some (.long z))).1 = T.setFrames fs) : Steps p.tables e below (T.setTop (mkF m pc Ls (.long z :: rest))) (T.setFrames fs) :=
  retOut X hx hret rfl (Or.inr (Or.inl ⟨rfl, rfl, z, rfl⟩)) hd hl
theorem retA (X : Stand p l e R s m args below meth c T locs cells slots) (hx : p.tables.exec = Jvm.exec) {pc : Nat} {Ls : Array Slot} {w : Value} {t : FieldType} {rest : List Value} (hret : meth.sig.returnType = some t) (ht : t.isReference = true) (hn : narrow t w = w) (hw : w.isRef = true) (hd : decode c.code pc = .ok (.areturn, 1)) {fs : List Frame}
    (hl : ∀ (f : JFrame) (acts : List Action), f.method = m → f.locked = none → f.entered = [] → (doReturn e (T.setTop f) acts (some w)).1 = T.setFrames fs) : Steps p.tables e below (T.setTop (mkF m pc Ls (w :: rest))) (T.setFrames fs) :=
  retOut X hx hret hn (Or.inr (Or.inr (Or.inr (Or.inr ⟨rfl, ht, hw⟩)))) hd hl
/-- what an array of ints that is written down holds at a place -/
def own_at (vs : List Value) (d : Value) (j : Int32) : Int32 := match vs.getD j.toNatClampNeg d with | .int x => x | _ => 0
def own_ints (vs : List Value) : Bool := vs.all fun v => match v with | .int _ => true | _ => false
theorem own_at_eq {vs : List Value} {d : Value} (h : own_ints (d :: vs) = true) (j : Int32) : vs.getD j.toNatClampNeg d = .int (own_at vs d j) := by
  have q : vs.getD j.toNatClampNeg d ∈ d :: vs := by
    rw [List.getD_eq_getElem?_getD]
    cases e : vs[j.toNatClampNeg]? with
    | none => simp
    | some w => exact List.mem_cons_of_mem _ (List.mem_of_getElem? e)
  have r := List.all_eq_true.mp h _ q
  unfold own_at
  cases e : vs.getD j.toNatClampNeg d <;> rw [e] at r <;> first | rfl | cases r
/-- a piece of a road from the frame F to the frame G, by whatever states between -/
theorem own_seg (X : Stand p l e R s m args below meth c T locs cells slots) (h : Heap) (F G : JFrame)
    (k : ∃ T', Stand p l e R s m args below meth c T' locs cells slots ∧ T'.heap = h ∧ ∀ target, Steps p.tables e below (T'.setTop G) target → Steps p.tables e below (T.setTop F) target) :
    ∃ T', Stand p l e R s m args below meth c T' locs cells slots ∧ T'.heap = h ∧ ∀ target, Steps p.tables e below (T'.setTop G) target → Steps p.tables e below (T.setTop F) target := k
end New
end Jvm.RoadKit
namespace Jvm.Pilot.@@N@@
open Jvm Jvm.ClassFile Sem Op Lib Jvm.Free Jvm.Stand Jvm.LawKit Jvm.RoadKit Bundle Jvm.Pilot.@@N@@.Jvm.D
theorem d1_0 : decode prog_88_method_2_code 0 = .ok (.iconst 2, 1) := by decide +kernel
theorem d1_1 : decode prog_88_method_2_code 1 = .ok (.iload_n 0, 1) := by decide +kernel
theorem d1_2 : decode prog_88_method_2_code 2 = .ok (.imul, 1) := by decide +kernel
theorem d1_3 : decode prog_88_method_2_code 3 = .ok (.iload_n 1, 1) := by decide +kernel
theorem d1_4 : decode prog_88_method_2_code 4 = .ok (.ifCond .eq 7, 3) := by decide +kernel
theorem d1_7 : decode prog_88_method_2_code 7 = .ok (.iconst 0, 1) := by decide +kernel
theorem d1_8 : decode prog_88_method_2_code 8 = .ok (.goto 4, 3) := by decide +kernel
theorem d1_11 : decode prog_88_method_2_code 11 = .ok (.iconst 1, 1) := by decide +kernel
theorem d1_12 : decode prog_88_method_2_code 12 = .ok (.iadd, 1) := by decide +kernel
theorem d1_13 : decode prog_88_method_2_code 13 = .ok (.ireturn, 1) := by decide +kernel
theorem pn_1 : plainName "com/example/interpolith/interpolith/service/Literals" = true := by first | (simp [plainName, overriddenIn]; done) | decide +kernel
theorem ef_1 (m : MethodId) (p0 : Int32) (p1 : Int32) : entryFrame m #[(.int p0), (.int p1)] 2 = mkF m 0 #[.val (.int p0), .val (.int p1)] [] := by first | (simp [entryFrame, mkF, argsToLocals, Value.category]; done) | rfl
def F1 (p0 : Int32) (p1 : Int32) : Int32 := (((2 : Int32) * p0) + (if p1 = (0 : Int32) then (1 : Int32) else (0 : Int32)))
def Q1 (Z : State) (p0 : Int32) (p1 : Int32) (h0 : Heap) (n0 : Nat) (v : Option Value) (h : Heap) (L : List Loc) : Prop := v = some (.int (F1 p0 p1)) ∧ L = [] ∧ h = h0
set_option maxRecDepth 65536 in
set_option maxHeartbeats 40000000 in
theorem rm1 (l : Launch) (Z : State) (a0 : Array Value) (hw : ∀ d ∈ tables_1, d.before a0 Z = true) (ws : List Jvm.Cond) (p0 : Int32) (p1 : Int32) (h0 : Heap) (n0 : Nat) (Z0 : n0 ≤ h0.size) :
    MetFree l (⟨"com/example/interpolith/interpolith/service/Literals", "of", "(IZ)I"⟩ : MethodName) (head1 (Jvm.Cond.code (⟨"com/example/interpolith/interpolith/service/Literals", "of", "(IZ)I"⟩ : MethodName) prog_88_method_2_code 2 (some .int) :: ws) ({ frames := 0, cells := 0, slots := 0, locals := 0 } : Room)) (fun a U => a = #[(.int p0), (.int p1)] ∧ Z.Warmed39 U.vm ∧ U.heap = h0) (fun _ _ _ _ _ => True) (fun _ U o U' => ∃ v L, o = .returned v ∧ Q1 Z p0 p1 h0 n0 v U'.heap L ∧ FrameEnd U o U' L ({ frames := 0, cells := 0, slots := 0, locals := 0 } : Room).cells ({ frames := 0, cells := 0, slots := 0, locals := 0 } : Room).slots) := by
  refine MetFree.of_bodySF (plainFor_of_name pn_1) hisR ?_
  intro p e s m args below meth c s₁ Bd hml0 hP hK
  obtain ⟨rfl, hZ, hh⟩ := hP
  have hx := Bd.exec
  have hby := Bd.bytes
  have hml : c.maxLocals = 2 := hml0
  have hown : s.vm.findClass "com/example/interpolith/interpolith/service/Literals" = some m.cls := findClass_of_methodNamed Bd.named
  have hnm := (name_of_methodNamed Bd.named Bd.method).1
  have X0 : Stand p l e ({ frames := 0, cells := 0, slots := 0, locals := 0 } : Room) s m #[(.int p0), (.int p1)] below meth c s₁ [] 0 0 := Stand.of_body Bd
  have e0 : s₁.heap = h0 := by rw [← hh, Bd.state]; rfl
  have N0 := Fr.nil n0
  have pre0 : ∀ t, Steps p.tables e below (s₁.setTop (mkF m 0 #[.val (.int p0), .val (.int p1)] [])) t → Steps p.tables e below (s₁.setTop (entryFrame m #[(.int p0), (.int p1)] 2)) t := fun t k => castTop (ef_1 m p0 p1) k
  obtain ⟨v2_s0, Hv2_s0⟩ : ∃ z : Int32, z = (if p1 = (0 : Int32) then (1 : Int32) else (0 : Int32)) := ⟨_, rfl⟩
  obtain ⟨T2, X2, e2, st2⟩ := own_seg X0 h0 (mkF m 4 #[.val (.int p0), .val (.int p1)] [(.int p1), (.int ((2 : Int32) * p0))]) (mkF m 12 #[.val (.int p0), .val (.int p1)] [(.int v2_s0), (.int ((2 : Int32) * p0))]) (by
    by_cases hc1 : p1 = (0 : Int32)
    · rw [if_pos hc1] at Hv2_s0
      refine ⟨s₁, X0, e0, fun target kt => ?_⟩
      rw [Hv2_s0] at kt
      show Steps p.tables e below (s₁.setTop (mkF m 4 #[.val (.int p0), .val (.int p1)] [(.int p1), (.int ((2 : Int32) * p0))])) _
      refine XS.ifYes X0.here hx rfl (pc0 := 4) (pc' := 11) rfl (hb hby d1_4) rfl ((if0 _ _).trans (teq hc1).1) (by decide) (by decide) ?_
      show Steps p.tables e below (s₁.setTop (mkF m 11 #[.val (.int p0), .val (.int p1)] [(.int ((2 : Int32) * p0))])) _
      refine XS.iconst X0.here hx rfl (hb hby d1_11) ?_
      exact kt
    · rw [if_neg hc1] at Hv2_s0
      refine ⟨s₁, X0, e0, fun target kt => ?_⟩
      rw [Hv2_s0] at kt
      show Steps p.tables e below (s₁.setTop (mkF m 4 #[.val (.int p0), .val (.int p1)] [(.int p1), (.int ((2 : Int32) * p0))])) _
      refine XS.ifNo X0.here hx rfl (hb hby d1_4) rfl ((if0 _ _).trans (feq hc1).1) ?_
      show Steps p.tables e below (s₁.setTop (mkF m 7 #[.val (.int p0), .val (.int p1)] [(.int ((2 : Int32) * p0))])) _
      refine XS.iconst X0.here hx rfl (hb hby d1_7) ?_
      show Steps p.tables e below (s₁.setTop (mkF m 8 #[.val (.int p0), .val (.int p1)] [(.int (0 : Int32)), (.int ((2 : Int32) * p0))])) _
      refine XS.goto X0.here hx rfl (pc0 := 8) (pc' := 12) rfl (hb hby d1_8) (by decide) (by decide) ?_
      exact kt)
  have hfin : (((2 : Int32) * p0) + v2_s0) = F1 p0 p1 := by
    rw [Hv2_s0]; unfold F1
    first | rfl | (repeat' split) <;> rfl
  obtain ⟨fs, hr, hrun, hended, hW, hsame⟩ := X2.leave (v := some (.int (((2 : Int32) * p0) + v2_s0))) (fun h => by rw [Bd.returns] at h; cases h)
  refine ⟨_, _, pre0 _ ?_, hrun, hended, _, _, rfl, ?_, ⟨_, rfl⟩, hW, hsame.mono (by decide) (by decide)⟩
  · show Steps p.tables e below (s₁.setTop (mkF m 0 #[.val (.int p0), .val (.int p1)] [])) _
    refine XS.iconst X0.here hx rfl (hb hby d1_0) ?_
    show Steps p.tables e below (s₁.setTop (mkF m 1 #[.val (.int p0), .val (.int p1)] [(.int (2 : Int32))])) _
    refine XS.iloadN X0.here hx rfl (hb hby d1_1) rfl ?_
    show Steps p.tables e below (s₁.setTop (mkF m 2 #[.val (.int p0), .val (.int p1)] [(.int p0), (.int (2 : Int32))])) _
    refine XS.imul X0.here hx rfl (hb hby d1_2) rfl ?_
    show Steps p.tables e below (s₁.setTop (mkF m 3 #[.val (.int p0), .val (.int p1)] [(.int ((2 : Int32) * p0))])) _
    refine XS.iloadN X0.here hx rfl (hb hby d1_3) rfl ?_
    show Steps p.tables e below (s₁.setTop (mkF m 4 #[.val (.int p0), .val (.int p1)] [(.int p1), (.int ((2 : Int32) * p0))])) _
    refine st2 _ ?_
    show Steps p.tables e below (T2.setTop (mkF m 12 #[.val (.int p0), .val (.int p1)] [(.int v2_s0), (.int ((2 : Int32) * p0))])) _
    refine XS.iadd X2.here hx rfl (hb hby d1_12) rfl ?_
    show Steps p.tables e below (T2.setTop (mkF m 13 #[.val (.int p0), .val (.int p1)] [(.int (((2 : Int32) * p0) + v2_s0))])) _
    exact retI X2 hx Bd.returns (hb hby d1_13) hr
  · show Q1 Z p0 p1 h0 n0 _ T2.heap _
    exact ⟨congrArg (fun z => some (Value.int z)) hfin, rfl, e2⟩
theorem own_xor1 (a : Nat) : a ^^^ 1 = 2 * (a / 2) + (a + 1) % 2 := by
  have h1 : (a ^^^ 1) / 2 = a / 2 := by rw [Nat.xor_div_two]; simp
  have h2 : (a ^^^ 1) % 2 = 1 ↔ ¬ ((a % 2 = 1) ↔ (1 % 2 = 1)) := Nat.xor_mod_two_eq_one
  omega
theorem own_xor (y : Int32) (h : 0 ≤ y.toInt) : (y ^^^ 1).toInt = 2 * (y.toInt / 2) + (y.toInt + 1) % 2 := by
  have e : (y ^^^ 1).toBitVec.toNat = y.toBitVec.toNat ^^^ 1 := by
    show (y.toBitVec ^^^ (1 : Int32).toBitVec).toNat = _
    rw [BitVec.toNat_xor]; rfl
  have hy := y.toBitVec.isLt
  have d1 : y.toInt = y.toBitVec.toInt := rfl
  have d2 : (y ^^^ 1).toInt = (y ^^^ 1).toBitVec.toInt := rfl
  rw [BitVec.toInt_eq_toNat_cond] at d1 d2
  rw [own_xor1] at e
  split at d1 <;> split at d2 <;> omega
theorem own_even (x : Int32) (h1 : 0 ≤ x.toInt) (h2 : x.toInt < 2 ^ 30) : (2 * x + 0).toInt = 2 * x.toInt ∧ (2 * x + 1).toInt = 2 * x.toInt + 1 := by
  have a2 : (2 : Int32).toInt = 2 := rfl
  have a1 : (1 : Int32).toInt = 1 := rfl
  have a0 : (0 : Int32).toInt = 0 := rfl
  have e : (2 * x).toInt = (2 : Int32).toInt * x.toInt := Jvm.Kit.i32_mul (by rw [a2]; omega) (by rw [a2]; omega)
  rw [a2] at e
  have e0 : (2 * x + 0).toInt = (2 * x).toInt + (0 : Int32).toInt := Jvm.Kit.i32_add (by omega) (by omega)
  have e1 : (2 * x + 1).toInt = (2 * x).toInt + (1 : Int32).toInt := Jvm.Kit.i32_add (by omega) (by omega)
  omega
theorem own_bits (y : Int32) : (y &&& 1).toInt = y.toInt % 2 ∧ (y >>> ((1 : Int32) &&& 31)).toInt = y.toInt / 2 :=
  ⟨Jvm.Kit.i32_mask y 1 (k := 1) (by decide) (by decide), Jvm.Kit.i32_shr y ((1 : Int32) &&& 31) (k := 1) (by decide)⟩
theorem plain_law (p0 : Int32) (p1 : Int32) (v2_s0 : Int32) (Hv2_s0 : v2_s0 = (if (p1 &&& (1 : Int32)) = (0 : Int32) then (0 : Int32) else (1 : Int32))) (v12_s0 : Int32) (Hv12_s0 : v12_s0 = (if ((F1 (p0 &&& (1073741823 : Int32)) v2_s0) >>> ((1 : Int32) &&& 31)) = (p0 &&& (1073741823 : Int32)) then (1 : Int32) else (0 : Int32))) (v8_s0 : Int32) (Hv8_s0 : v8_s0 = (if v2_s0 = (0 : Int32) then (1 : Int32) else (0 : Int32))) (v10_s0 : Int32) (Hv10_s0 : v10_s0 = (if ((F1 (p0 &&& (1073741823 : Int32)) v2_s0) &&& (1 : Int32)) = v8_s0 then (1 : Int32) else (0 : Int32))) (v5_s0 : Int32) (Hv5_s0 : v5_s0 = (if v2_s0 = (0 : Int32) then (1 : Int32) else (0 : Int32))) (v14_s0 : Int32) (Hv14_s0 : v14_s0 = (if (F1 (p0 &&& (1073741823 : Int32)) v5_s0) = ((F1 (p0 &&& (1073741823 : Int32)) v2_s0) ^^^ (1 : Int32)) then (1 : Int32) else (0 : Int32))) (v19_s0 : Int32) (Hv19_s0 : v19_s0 = (if (F1 (p0 &&& (1073741823 : Int32)) v2_s0) < (0 : Int32) then (0 : Int32) else (if v12_s0 = (0 : Int32) then (0 : Int32) else (if v10_s0 = (0 : Int32) then (0 : Int32) else (if v14_s0 = (0 : Int32) then (0 : Int32) else (1 : Int32)))))) : v19_s0 = 1 := by
  have ex : (p0 &&& (1073741823 : Int32)).toInt = p0.toInt % 2 ^ 30 := Jvm.Kit.i32_mask p0 1073741823 (k := 30) (by decide) (by decide)
  generalize (p0 &&& (1073741823 : Int32)) = x at *
  have hx1 : 0 ≤ x.toInt := by omega
  have hx2 : x.toInt < 2 ^ 30 := by omega
  obtain ⟨f0, f1⟩ := own_even x hx1 hx2
  have a1 : (1 : Int32).toInt = 1 := rfl
  have a0 : (0 : Int32).toInt = 0 := rfl
  have n10 : ¬ (1 : Int32) = 0 := by decide
  have hv : v2_s0 = 0 ∨ v2_s0 = 1 := by rw [Hv2_s0]; split <;> simp
  have G0 : F1 x 0 = 2 * x + 1 := by unfold F1; rw [if_pos rfl]
  have G1 : F1 x 1 = 2 * x + 0 := by unfold F1; rw [if_neg n10]
  rcases hv with hv | hv
  · rw [hv, if_pos rfl] at Hv8_s0 Hv5_s0
    rw [hv, G0] at Hv12_s0 Hv10_s0 Hv19_s0 Hv14_s0
    rw [Hv8_s0] at Hv10_s0
    rw [Hv5_s0, G1] at Hv14_s0
    obtain ⟨b1, b2⟩ := own_bits (2 * x + 1)
    have b3 := own_xor (2 * x + 1) (by omega)
    rw [if_pos (Int32.toInt_inj.mp (by omega))] at Hv12_s0
    rw [if_pos (Int32.toInt_inj.mp (by omega))] at Hv10_s0
    rw [if_pos (Int32.toInt_inj.mp (by omega))] at Hv14_s0
    rw [Hv19_s0, if_neg (by rw [Int32.lt_iff_toInt_lt]; omega), Hv12_s0, Hv10_s0, Hv14_s0, if_neg n10, if_neg n10, if_neg n10]
  · rw [hv, if_neg n10] at Hv8_s0 Hv5_s0
    rw [hv, G1] at Hv12_s0 Hv10_s0 Hv19_s0 Hv14_s0
    rw [Hv8_s0] at Hv10_s0
    rw [Hv5_s0, G0] at Hv14_s0
    obtain ⟨b1, b2⟩ := own_bits (2 * x + 0)
    have b3 := own_xor (2 * x + 0) (by omega)
    rw [if_pos (Int32.toInt_inj.mp (by omega))] at Hv12_s0
    rw [if_pos (Int32.toInt_inj.mp (by omega))] at Hv10_s0
    rw [if_pos (Int32.toInt_inj.mp (by omega))] at Hv14_s0
    rw [Hv19_s0, if_neg (by rw [Int32.lt_iff_toInt_lt]; omega), Hv12_s0, Hv10_s0, Hv14_s0, if_neg n10, if_neg n10, if_neg n10]

theorem pn_0 : plainName "com/example/interpolith/interpolith/service/LiteralsOfPinLaw" = true := by first | (simp [plainName, overriddenIn]; done) | decide +kernel
theorem pd_0_0 : parseMethodDescriptor "(IZ)I" = some ⟨[.int, .boolean], some .int⟩ := by decide +kernel
theorem ef_0 (m : MethodId) (p0 : Int32) (p1 : Int32) : entryFrame m #[(.int p0), (.int p1)] maxLocals = mkF m 0 #[.val (.int p0), .val (.int p1), .unset, .unset, .unset, .unset, .unset, .unset, .unset] [] := by first | (simp [entryFrame, mkF, argsToLocals, Value.category, maxLocals]; done) | rfl
set_option maxRecDepth 65536 in
set_option maxHeartbeats 40000000 in
theorem rm0 (l : Launch) (Z : State) (a0 : Array Value) (hw : ∀ d ∈ tables_1, d.before a0 Z = true) (ws : List Jvm.Cond) (p0 : Int32) (p1 : Int32) (h0 : Heap) (n0 : Nat) (Z0 : n0 ≤ h0.size) :
    MetFree l x (head1 (Jvm.Cond.code x code maxLocals ret :: ws) room_1) (fun a U => a = #[(.int p0), (.int p1)] ∧ Z.Warmed39 U.vm ∧ U.heap = h0) (fun _ _ _ _ _ => True) (fun _ U o U' => ∃ v L, o = .returned v ∧ (v = some (.int 1) ∧ Fr n0 L) ∧ FrameEnd U o U' L room_1.cells room_1.slots) := by
  refine MetFree.of_bodySF (plainFor_of_name pn_0) hisR ?_
  intro p e s m args below meth c s₁ Bd hml0 hP hK
  obtain ⟨rfl, hZ, hh⟩ := hP
  have hx := Bd.exec
  have hby := Bd.bytes
  have hml : c.maxLocals = 9 := hml0
  have hown : s.vm.findClass "com/example/interpolith/interpolith/service/LiteralsOfPinLaw" = some m.cls := findClass_of_methodNamed Bd.named
  have hnm := (name_of_methodNamed Bd.named Bd.method).1
  have X0 : Stand p l e room_1 s m #[(.int p0), (.int p1)] below meth c s₁ [] 0 0 := Stand.of_body Bd
  have e0 : s₁.heap = h0 := by rw [← hh, Bd.state]; rfl
  have N0 := Fr.nil n0
  have pre0 : ∀ t, Steps p.tables e below (s₁.setTop (mkF m 0 #[.val (.int p0), .val (.int p1), .unset, .unset, .unset, .unset, .unset, .unset, .unset] [])) t → Steps p.tables e below (s₁.setTop (entryFrame m #[(.int p0), (.int p1)] maxLocals)) t := fun t k => castTop (ef_0 m p0 p1) k
  obtain ⟨v2_s0, Hv2_s0⟩ : ∃ z : Int32, z = (if (p1 &&& (1 : Int32)) = (0 : Int32) then (0 : Int32) else (1 : Int32)) := ⟨_, rfl⟩
  obtain ⟨T2, X2, e2, st2⟩ := own_seg X0 h0 (mkF m 8 #[.val (.int p0), .val (.int p1), .val (.int (p0 &&& (1073741823 : Int32))), .unset, .unset, .unset, .unset, .unset, .unset] [(.int (p1 &&& (1 : Int32)))]) (mkF m 16 #[.val (.int p0), .val (.int p1), .val (.int (p0 &&& (1073741823 : Int32))), .unset, .unset, .unset, .unset, .unset, .unset] [(.int v2_s0)]) (by
    by_cases hc1 : (p1 &&& (1 : Int32)) = (0 : Int32)
    · rw [if_pos hc1] at Hv2_s0
      refine ⟨s₁, X0, e0, fun target kt => ?_⟩
      rw [Hv2_s0] at kt
      show Steps p.tables e below (s₁.setTop (mkF m 8 #[.val (.int p0), .val (.int p1), .val (.int (p0 &&& (1073741823 : Int32))), .unset, .unset, .unset, .unset, .unset, .unset] [(.int (p1 &&& (1 : Int32)))])) _
      refine XS.ifYes X0.here hx rfl (pc0 := 8) (pc' := 15) rfl (hb hby at_8) rfl ((if0 _ _).trans (teq hc1).1) (by decide) (by decide) ?_
      show Steps p.tables e below (s₁.setTop (mkF m 15 #[.val (.int p0), .val (.int p1), .val (.int (p0 &&& (1073741823 : Int32))), .unset, .unset, .unset, .unset, .unset, .unset] [])) _
      refine XS.iconst X0.here hx rfl (hb hby at_15) ?_
      exact kt
    · rw [if_neg hc1] at Hv2_s0
      refine ⟨s₁, X0, e0, fun target kt => ?_⟩
      rw [Hv2_s0] at kt
      show Steps p.tables e below (s₁.setTop (mkF m 8 #[.val (.int p0), .val (.int p1), .val (.int (p0 &&& (1073741823 : Int32))), .unset, .unset, .unset, .unset, .unset, .unset] [(.int (p1 &&& (1 : Int32)))])) _
      refine XS.ifNo X0.here hx rfl (hb hby at_8) rfl ((if0 _ _).trans (feq hc1).1) ?_
      show Steps p.tables e below (s₁.setTop (mkF m 11 #[.val (.int p0), .val (.int p1), .val (.int (p0 &&& (1073741823 : Int32))), .unset, .unset, .unset, .unset, .unset, .unset] [])) _
      refine XS.iconst X0.here hx rfl (hb hby at_11) ?_
      show Steps p.tables e below (s₁.setTop (mkF m 12 #[.val (.int p0), .val (.int p1), .val (.int (p0 &&& (1073741823 : Int32))), .unset, .unset, .unset, .unset, .unset, .unset] [(.int (1 : Int32))])) _
      refine XS.goto X0.here hx rfl (pc0 := 12) (pc' := 16) rfl (hb hby at_12) (by decide) (by decide) ?_
      exact kt)
  obtain ⟨_, _, ⟨T3, L3, k3, n3⟩, -, X3, ⟨Lc3, hQ3, l3, y3, z3⟩, st3⟩ := Jvm.LawKit.callS X2 hx (y := (⟨"com/example/interpolith/interpolith/service/Literals", "of", "(IZ)I"⟩ : MethodName)) hown (mvT hZ (hw _ (List.mem_of_getElem? (i := 1) rfl))) (mvT hZ (hw _ (List.mem_of_getElem? (i := 2) rfl))) (mvT hZ (hw _ (List.mem_of_getElem? (i := 3) rfl))) (mvT hZ (hw _ (List.mem_of_getElem? (i := 4) rfl))) (by decide) (backOf (W := 0) (rm1 l Z a0 hw [] (p0 &&& (1073741823 : Int32)) v2_s0 h0 n0 Z0) hZ (hw _ (List.mem_of_getElem? (i := 4) rfl)) (hw _ (List.mem_of_getElem? (i := 3) rfl)) (by decide) (by decide)) (g := (mkF m 19 #[.val (.int p0), .val (.int p1), .val (.int (p0 &&& (1073741823 : Int32))), .val (.int v2_s0), .unset, .unset, .unset, .unset, .unset] [(.int v2_s0), (.int (p0 &&& (1073741823 : Int32)))])) rfl (by rw [hml]; rfl) (argsL := [(.int (p0 &&& (1073741823 : Int32))), (.int v2_s0)]) (rest := []) (lenOf pd_0_0 rfl) rfl (by show 2 * 0 + _ ≤ _; exact Nat.le_of_eq rfl) (hb hby at_19) (fun _ _ => ⟨rfl, e2, (by decide : 0 + 0 ≤ _), (by decide : 0 + 0 ≤ _)⟩)
  dsimp only [Pt.U, Pt.locs, Pt.cells, Pt.slots] at X3 l3 y3 z3 st3 hQ3
  subst l3 y3 z3
  obtain ⟨rfl, rfl, e3⟩ := hQ3
  try rw [List.append_nil] at X3
  obtain ⟨v5_s0, Hv5_s0⟩ : ∃ z : Int32, z = (if v2_s0 = (0 : Int32) then (1 : Int32) else (0 : Int32)) := ⟨_, rfl⟩
  obtain ⟨T5, X5, e5, st5⟩ := own_seg X3 h0 (mkF m 26 #[.val (.int p0), .val (.int p1), .val (.int (p0 &&& (1073741823 : Int32))), .val (.int v2_s0), .val (.int (F1 (p0 &&& (1073741823 : Int32)) v2_s0)), .unset, .unset, .unset, .unset] [(.int v2_s0), (.int (p0 &&& (1073741823 : Int32)))]) (mkF m 34 #[.val (.int p0), .val (.int p1), .val (.int (p0 &&& (1073741823 : Int32))), .val (.int v2_s0), .val (.int (F1 (p0 &&& (1073741823 : Int32)) v2_s0)), .unset, .unset, .unset, .unset] [(.int v5_s0), (.int (p0 &&& (1073741823 : Int32)))]) (by
    by_cases hc4 : v2_s0 = (0 : Int32)
    · rw [if_pos hc4] at Hv5_s0
      refine ⟨T3, X3, e3, fun target kt => ?_⟩
      rw [Hv5_s0] at kt
      show Steps p.tables e below (T3.setTop (mkF m 26 #[.val (.int p0), .val (.int p1), .val (.int (p0 &&& (1073741823 : Int32))), .val (.int v2_s0), .val (.int (F1 (p0 &&& (1073741823 : Int32)) v2_s0)), .unset, .unset, .unset, .unset] [(.int v2_s0), (.int (p0 &&& (1073741823 : Int32)))])) _
      refine XS.ifNo X3.here hx rfl (hb hby at_26) rfl ((if0 _ _).trans (teq hc4).2) ?_
      show Steps p.tables e below (T3.setTop (mkF m 29 #[.val (.int p0), .val (.int p1), .val (.int (p0 &&& (1073741823 : Int32))), .val (.int v2_s0), .val (.int (F1 (p0 &&& (1073741823 : Int32)) v2_s0)), .unset, .unset, .unset, .unset] [(.int (p0 &&& (1073741823 : Int32)))])) _
      refine XS.iconst X3.here hx rfl (hb hby at_29) ?_
      show Steps p.tables e below (T3.setTop (mkF m 30 #[.val (.int p0), .val (.int p1), .val (.int (p0 &&& (1073741823 : Int32))), .val (.int v2_s0), .val (.int (F1 (p0 &&& (1073741823 : Int32)) v2_s0)), .unset, .unset, .unset, .unset] [(.int (1 : Int32)), (.int (p0 &&& (1073741823 : Int32)))])) _
      refine XS.goto X3.here hx rfl (pc0 := 30) (pc' := 34) rfl (hb hby at_30) (by decide) (by decide) ?_
      exact kt
    · rw [if_neg hc4] at Hv5_s0
      refine ⟨T3, X3, e3, fun target kt => ?_⟩
      rw [Hv5_s0] at kt
      show Steps p.tables e below (T3.setTop (mkF m 26 #[.val (.int p0), .val (.int p1), .val (.int (p0 &&& (1073741823 : Int32))), .val (.int v2_s0), .val (.int (F1 (p0 &&& (1073741823 : Int32)) v2_s0)), .unset, .unset, .unset, .unset] [(.int v2_s0), (.int (p0 &&& (1073741823 : Int32)))])) _
      refine XS.ifYes X3.here hx rfl (pc0 := 26) (pc' := 33) rfl (hb hby at_26) rfl ((if0 _ _).trans (feq hc4).2) (by decide) (by decide) ?_
      show Steps p.tables e below (T3.setTop (mkF m 33 #[.val (.int p0), .val (.int p1), .val (.int (p0 &&& (1073741823 : Int32))), .val (.int v2_s0), .val (.int (F1 (p0 &&& (1073741823 : Int32)) v2_s0)), .unset, .unset, .unset, .unset] [(.int (p0 &&& (1073741823 : Int32)))])) _
      refine XS.iconst X3.here hx rfl (hb hby at_33) ?_
      exact kt)
  obtain ⟨_, _, ⟨T6, L6, k6, n6⟩, -, X6, ⟨Lc6, hQ6, l6, y6, z6⟩, st6⟩ := Jvm.LawKit.callS X5 hx (y := (⟨"com/example/interpolith/interpolith/service/Literals", "of", "(IZ)I"⟩ : MethodName)) hown (mvT hZ (hw _ (List.mem_of_getElem? (i := 1) rfl))) (mvT hZ (hw _ (List.mem_of_getElem? (i := 2) rfl))) (mvT hZ (hw _ (List.mem_of_getElem? (i := 3) rfl))) (mvT hZ (hw _ (List.mem_of_getElem? (i := 4) rfl))) (by decide) (backOf (W := 0) (rm1 l Z a0 hw [] (p0 &&& (1073741823 : Int32)) v5_s0 h0 n0 Z0) hZ (hw _ (List.mem_of_getElem? (i := 4) rfl)) (hw _ (List.mem_of_getElem? (i := 3) rfl)) (by decide) (by decide)) (g := (mkF m 34 #[.val (.int p0), .val (.int p1), .val (.int (p0 &&& (1073741823 : Int32))), .val (.int v2_s0), .val (.int (F1 (p0 &&& (1073741823 : Int32)) v2_s0)), .unset, .unset, .unset, .unset] [(.int v5_s0), (.int (p0 &&& (1073741823 : Int32)))])) rfl (by rw [hml]; rfl) (argsL := [(.int (p0 &&& (1073741823 : Int32))), (.int v5_s0)]) (rest := []) (lenOf pd_0_0 rfl) rfl (by show 2 * 0 + _ ≤ _; exact Nat.le_of_eq rfl) (hb hby at_34) (fun _ _ => ⟨rfl, e5, (by decide : 0 + 0 ≤ _), (by decide : 0 + 0 ≤ _)⟩)
  dsimp only [Pt.U, Pt.locs, Pt.cells, Pt.slots] at X6 l6 y6 z6 st6 hQ6
  subst l6 y6 z6
  obtain ⟨rfl, rfl, e6⟩ := hQ6
  try rw [List.append_nil] at X6
  obtain ⟨v8_s0, Hv8_s0⟩ : ∃ z : Int32, z = (if v2_s0 = (0 : Int32) then (1 : Int32) else (0 : Int32)) := ⟨_, rfl⟩
  obtain ⟨T8, X8, e8, st8⟩ := own_seg X6 h0 (mkF m 44 #[.val (.int p0), .val (.int p1), .val (.int (p0 &&& (1073741823 : Int32))), .val (.int v2_s0), .val (.int (F1 (p0 &&& (1073741823 : Int32)) v2_s0)), .val (.int (F1 (p0 &&& (1073741823 : Int32)) v5_s0)), .unset, .unset, .unset] [(.int v2_s0), (.int ((F1 (p0 &&& (1073741823 : Int32)) v2_s0) &&& (1 : Int32)))]) (mkF m 52 #[.val (.int p0), .val (.int p1), .val (.int (p0 &&& (1073741823 : Int32))), .val (.int v2_s0), .val (.int (F1 (p0 &&& (1073741823 : Int32)) v2_s0)), .val (.int (F1 (p0 &&& (1073741823 : Int32)) v5_s0)), .unset, .unset, .unset] [(.int v8_s0), (.int ((F1 (p0 &&& (1073741823 : Int32)) v2_s0) &&& (1 : Int32)))]) (by
    by_cases hc7 : v2_s0 = (0 : Int32)
    · rw [if_pos hc7] at Hv8_s0
      refine ⟨T6, X6, e6, fun target kt => ?_⟩
      rw [Hv8_s0] at kt
      show Steps p.tables e below (T6.setTop (mkF m 44 #[.val (.int p0), .val (.int p1), .val (.int (p0 &&& (1073741823 : Int32))), .val (.int v2_s0), .val (.int (F1 (p0 &&& (1073741823 : Int32)) v2_s0)), .val (.int (F1 (p0 &&& (1073741823 : Int32)) v5_s0)), .unset, .unset, .unset] [(.int v2_s0), (.int ((F1 (p0 &&& (1073741823 : Int32)) v2_s0) &&& (1 : Int32)))])) _
      refine XS.ifYes X6.here hx rfl (pc0 := 44) (pc' := 51) rfl (hb hby at_44) rfl ((if0 _ _).trans (teq hc7).1) (by decide) (by decide) ?_
      show Steps p.tables e below (T6.setTop (mkF m 51 #[.val (.int p0), .val (.int p1), .val (.int (p0 &&& (1073741823 : Int32))), .val (.int v2_s0), .val (.int (F1 (p0 &&& (1073741823 : Int32)) v2_s0)), .val (.int (F1 (p0 &&& (1073741823 : Int32)) v5_s0)), .unset, .unset, .unset] [(.int ((F1 (p0 &&& (1073741823 : Int32)) v2_s0) &&& (1 : Int32)))])) _
      refine XS.iconst X6.here hx rfl (hb hby at_51) ?_
      exact kt
    · rw [if_neg hc7] at Hv8_s0
      refine ⟨T6, X6, e6, fun target kt => ?_⟩
      rw [Hv8_s0] at kt
      show Steps p.tables e below (T6.setTop (mkF m 44 #[.val (.int p0), .val (.int p1), .val (.int (p0 &&& (1073741823 : Int32))), .val (.int v2_s0), .val (.int (F1 (p0 &&& (1073741823 : Int32)) v2_s0)), .val (.int (F1 (p0 &&& (1073741823 : Int32)) v5_s0)), .unset, .unset, .unset] [(.int v2_s0), (.int ((F1 (p0 &&& (1073741823 : Int32)) v2_s0) &&& (1 : Int32)))])) _
      refine XS.ifNo X6.here hx rfl (hb hby at_44) rfl ((if0 _ _).trans (feq hc7).1) ?_
      show Steps p.tables e below (T6.setTop (mkF m 47 #[.val (.int p0), .val (.int p1), .val (.int (p0 &&& (1073741823 : Int32))), .val (.int v2_s0), .val (.int (F1 (p0 &&& (1073741823 : Int32)) v2_s0)), .val (.int (F1 (p0 &&& (1073741823 : Int32)) v5_s0)), .unset, .unset, .unset] [(.int ((F1 (p0 &&& (1073741823 : Int32)) v2_s0) &&& (1 : Int32)))])) _
      refine XS.iconst X6.here hx rfl (hb hby at_47) ?_
      show Steps p.tables e below (T6.setTop (mkF m 48 #[.val (.int p0), .val (.int p1), .val (.int (p0 &&& (1073741823 : Int32))), .val (.int v2_s0), .val (.int (F1 (p0 &&& (1073741823 : Int32)) v2_s0)), .val (.int (F1 (p0 &&& (1073741823 : Int32)) v5_s0)), .unset, .unset, .unset] [(.int (0 : Int32)), (.int ((F1 (p0 &&& (1073741823 : Int32)) v2_s0) &&& (1 : Int32)))])) _
      refine XS.goto X6.here hx rfl (pc0 := 48) (pc' := 52) rfl (hb hby at_48) (by decide) (by decide) ?_
      exact kt)
  obtain ⟨v10_s0, Hv10_s0⟩ : ∃ z : Int32, z = (if ((F1 (p0 &&& (1073741823 : Int32)) v2_s0) &&& (1 : Int32)) = v8_s0 then (1 : Int32) else (0 : Int32)) := ⟨_, rfl⟩
  obtain ⟨T10, X10, e10, st10⟩ := own_seg X8 h0 (mkF m 52 #[.val (.int p0), .val (.int p1), .val (.int (p0 &&& (1073741823 : Int32))), .val (.int v2_s0), .val (.int (F1 (p0 &&& (1073741823 : Int32)) v2_s0)), .val (.int (F1 (p0 &&& (1073741823 : Int32)) v5_s0)), .unset, .unset, .unset] [(.int v8_s0), (.int ((F1 (p0 &&& (1073741823 : Int32)) v2_s0) &&& (1 : Int32)))]) (mkF m 60 #[.val (.int p0), .val (.int p1), .val (.int (p0 &&& (1073741823 : Int32))), .val (.int v2_s0), .val (.int (F1 (p0 &&& (1073741823 : Int32)) v2_s0)), .val (.int (F1 (p0 &&& (1073741823 : Int32)) v5_s0)), .unset, .unset, .unset] [(.int v10_s0)]) (by
    by_cases hc9 : ((F1 (p0 &&& (1073741823 : Int32)) v2_s0) &&& (1 : Int32)) = v8_s0
    · rw [if_pos hc9] at Hv10_s0
      refine ⟨T8, X8, e8, fun target kt => ?_⟩
      rw [Hv10_s0] at kt
      show Steps p.tables e below (T8.setTop (mkF m 52 #[.val (.int p0), .val (.int p1), .val (.int (p0 &&& (1073741823 : Int32))), .val (.int v2_s0), .val (.int (F1 (p0 &&& (1073741823 : Int32)) v2_s0)), .val (.int (F1 (p0 &&& (1073741823 : Int32)) v5_s0)), .unset, .unset, .unset] [(.int v8_s0), (.int ((F1 (p0 &&& (1073741823 : Int32)) v2_s0) &&& (1 : Int32)))])) _
      refine XS.icmpNo X8.here hx rfl (hb hby at_52) rfl (teq hc9).2 ?_
      show Steps p.tables e below (T8.setTop (mkF m 55 #[.val (.int p0), .val (.int p1), .val (.int (p0 &&& (1073741823 : Int32))), .val (.int v2_s0), .val (.int (F1 (p0 &&& (1073741823 : Int32)) v2_s0)), .val (.int (F1 (p0 &&& (1073741823 : Int32)) v5_s0)), .unset, .unset, .unset] [])) _
      refine XS.iconst X8.here hx rfl (hb hby at_55) ?_
      show Steps p.tables e below (T8.setTop (mkF m 56 #[.val (.int p0), .val (.int p1), .val (.int (p0 &&& (1073741823 : Int32))), .val (.int v2_s0), .val (.int (F1 (p0 &&& (1073741823 : Int32)) v2_s0)), .val (.int (F1 (p0 &&& (1073741823 : Int32)) v5_s0)), .unset, .unset, .unset] [(.int (1 : Int32))])) _
      refine XS.goto X8.here hx rfl (pc0 := 56) (pc' := 60) rfl (hb hby at_56) (by decide) (by decide) ?_
      exact kt
    · rw [if_neg hc9] at Hv10_s0
      refine ⟨T8, X8, e8, fun target kt => ?_⟩
      rw [Hv10_s0] at kt
      show Steps p.tables e below (T8.setTop (mkF m 52 #[.val (.int p0), .val (.int p1), .val (.int (p0 &&& (1073741823 : Int32))), .val (.int v2_s0), .val (.int (F1 (p0 &&& (1073741823 : Int32)) v2_s0)), .val (.int (F1 (p0 &&& (1073741823 : Int32)) v5_s0)), .unset, .unset, .unset] [(.int v8_s0), (.int ((F1 (p0 &&& (1073741823 : Int32)) v2_s0) &&& (1 : Int32)))])) _
      refine XS.icmpYes X8.here hx rfl (pc0 := 52) (pc' := 59) rfl (hb hby at_52) rfl (feq hc9).2 (by decide) (by decide) ?_
      show Steps p.tables e below (T8.setTop (mkF m 59 #[.val (.int p0), .val (.int p1), .val (.int (p0 &&& (1073741823 : Int32))), .val (.int v2_s0), .val (.int (F1 (p0 &&& (1073741823 : Int32)) v2_s0)), .val (.int (F1 (p0 &&& (1073741823 : Int32)) v5_s0)), .unset, .unset, .unset] [])) _
      refine XS.iconst X8.here hx rfl (hb hby at_59) ?_
      exact kt)
  obtain ⟨v12_s0, Hv12_s0⟩ : ∃ z : Int32, z = (if ((F1 (p0 &&& (1073741823 : Int32)) v2_s0) >>> ((1 : Int32) &&& 31)) = (p0 &&& (1073741823 : Int32)) then (1 : Int32) else (0 : Int32)) := ⟨_, rfl⟩
  obtain ⟨T12, X12, e12, st12⟩ := own_seg X10 h0 (mkF m 67 #[.val (.int p0), .val (.int p1), .val (.int (p0 &&& (1073741823 : Int32))), .val (.int v2_s0), .val (.int (F1 (p0 &&& (1073741823 : Int32)) v2_s0)), .val (.int (F1 (p0 &&& (1073741823 : Int32)) v5_s0)), .val (.int v10_s0), .unset, .unset] [(.int (p0 &&& (1073741823 : Int32))), (.int ((F1 (p0 &&& (1073741823 : Int32)) v2_s0) >>> ((1 : Int32) &&& 31)))]) (mkF m 75 #[.val (.int p0), .val (.int p1), .val (.int (p0 &&& (1073741823 : Int32))), .val (.int v2_s0), .val (.int (F1 (p0 &&& (1073741823 : Int32)) v2_s0)), .val (.int (F1 (p0 &&& (1073741823 : Int32)) v5_s0)), .val (.int v10_s0), .unset, .unset] [(.int v12_s0)]) (by
    by_cases hc11 : ((F1 (p0 &&& (1073741823 : Int32)) v2_s0) >>> ((1 : Int32) &&& 31)) = (p0 &&& (1073741823 : Int32))
    · rw [if_pos hc11] at Hv12_s0
      refine ⟨T10, X10, e10, fun target kt => ?_⟩
      rw [Hv12_s0] at kt
      show Steps p.tables e below (T10.setTop (mkF m 67 #[.val (.int p0), .val (.int p1), .val (.int (p0 &&& (1073741823 : Int32))), .val (.int v2_s0), .val (.int (F1 (p0 &&& (1073741823 : Int32)) v2_s0)), .val (.int (F1 (p0 &&& (1073741823 : Int32)) v5_s0)), .val (.int v10_s0), .unset, .unset] [(.int (p0 &&& (1073741823 : Int32))), (.int ((F1 (p0 &&& (1073741823 : Int32)) v2_s0) >>> ((1 : Int32) &&& 31)))])) _
      refine XS.icmpNo X10.here hx rfl (hb hby at_67) rfl (teq hc11).2 ?_
      show Steps p.tables e below (T10.setTop (mkF m 70 #[.val (.int p0), .val (.int p1), .val (.int (p0 &&& (1073741823 : Int32))), .val (.int v2_s0), .val (.int (F1 (p0 &&& (1073741823 : Int32)) v2_s0)), .val (.int (F1 (p0 &&& (1073741823 : Int32)) v5_s0)), .val (.int v10_s0), .unset, .unset] [])) _
      refine XS.iconst X10.here hx rfl (hb hby at_70) ?_
      show Steps p.tables e below (T10.setTop (mkF m 71 #[.val (.int p0), .val (.int p1), .val (.int (p0 &&& (1073741823 : Int32))), .val (.int v2_s0), .val (.int (F1 (p0 &&& (1073741823 : Int32)) v2_s0)), .val (.int (F1 (p0 &&& (1073741823 : Int32)) v5_s0)), .val (.int v10_s0), .unset, .unset] [(.int (1 : Int32))])) _
      refine XS.goto X10.here hx rfl (pc0 := 71) (pc' := 75) rfl (hb hby at_71) (by decide) (by decide) ?_
      exact kt
    · rw [if_neg hc11] at Hv12_s0
      refine ⟨T10, X10, e10, fun target kt => ?_⟩
      rw [Hv12_s0] at kt
      show Steps p.tables e below (T10.setTop (mkF m 67 #[.val (.int p0), .val (.int p1), .val (.int (p0 &&& (1073741823 : Int32))), .val (.int v2_s0), .val (.int (F1 (p0 &&& (1073741823 : Int32)) v2_s0)), .val (.int (F1 (p0 &&& (1073741823 : Int32)) v5_s0)), .val (.int v10_s0), .unset, .unset] [(.int (p0 &&& (1073741823 : Int32))), (.int ((F1 (p0 &&& (1073741823 : Int32)) v2_s0) >>> ((1 : Int32) &&& 31)))])) _
      refine XS.icmpYes X10.here hx rfl (pc0 := 67) (pc' := 74) rfl (hb hby at_67) rfl (feq hc11).2 (by decide) (by decide) ?_
      show Steps p.tables e below (T10.setTop (mkF m 74 #[.val (.int p0), .val (.int p1), .val (.int (p0 &&& (1073741823 : Int32))), .val (.int v2_s0), .val (.int (F1 (p0 &&& (1073741823 : Int32)) v2_s0)), .val (.int (F1 (p0 &&& (1073741823 : Int32)) v5_s0)), .val (.int v10_s0), .unset, .unset] [])) _
      refine XS.iconst X10.here hx rfl (hb hby at_74) ?_
      exact kt)
  obtain ⟨v14_s0, Hv14_s0⟩ : ∃ z : Int32, z = (if (F1 (p0 &&& (1073741823 : Int32)) v5_s0) = ((F1 (p0 &&& (1073741823 : Int32)) v2_s0) ^^^ (1 : Int32)) then (1 : Int32) else (0 : Int32)) := ⟨_, rfl⟩
  obtain ⟨T14, X14, e14, st14⟩ := own_seg X12 h0 (mkF m 83 #[.val (.int p0), .val (.int p1), .val (.int (p0 &&& (1073741823 : Int32))), .val (.int v2_s0), .val (.int (F1 (p0 &&& (1073741823 : Int32)) v2_s0)), .val (.int (F1 (p0 &&& (1073741823 : Int32)) v5_s0)), .val (.int v10_s0), .val (.int v12_s0), .unset] [(.int ((F1 (p0 &&& (1073741823 : Int32)) v2_s0) ^^^ (1 : Int32))), (.int (F1 (p0 &&& (1073741823 : Int32)) v5_s0))]) (mkF m 91 #[.val (.int p0), .val (.int p1), .val (.int (p0 &&& (1073741823 : Int32))), .val (.int v2_s0), .val (.int (F1 (p0 &&& (1073741823 : Int32)) v2_s0)), .val (.int (F1 (p0 &&& (1073741823 : Int32)) v5_s0)), .val (.int v10_s0), .val (.int v12_s0), .unset] [(.int v14_s0)]) (by
    by_cases hc13 : (F1 (p0 &&& (1073741823 : Int32)) v5_s0) = ((F1 (p0 &&& (1073741823 : Int32)) v2_s0) ^^^ (1 : Int32))
    · rw [if_pos hc13] at Hv14_s0
      refine ⟨T12, X12, e12, fun target kt => ?_⟩
      rw [Hv14_s0] at kt
      show Steps p.tables e below (T12.setTop (mkF m 83 #[.val (.int p0), .val (.int p1), .val (.int (p0 &&& (1073741823 : Int32))), .val (.int v2_s0), .val (.int (F1 (p0 &&& (1073741823 : Int32)) v2_s0)), .val (.int (F1 (p0 &&& (1073741823 : Int32)) v5_s0)), .val (.int v10_s0), .val (.int v12_s0), .unset] [(.int ((F1 (p0 &&& (1073741823 : Int32)) v2_s0) ^^^ (1 : Int32))), (.int (F1 (p0 &&& (1073741823 : Int32)) v5_s0))])) _
      refine XS.icmpNo X12.here hx rfl (hb hby at_83) rfl (teq hc13).2 ?_
      show Steps p.tables e below (T12.setTop (mkF m 86 #[.val (.int p0), .val (.int p1), .val (.int (p0 &&& (1073741823 : Int32))), .val (.int v2_s0), .val (.int (F1 (p0 &&& (1073741823 : Int32)) v2_s0)), .val (.int (F1 (p0 &&& (1073741823 : Int32)) v5_s0)), .val (.int v10_s0), .val (.int v12_s0), .unset] [])) _
      refine XS.iconst X12.here hx rfl (hb hby at_86) ?_
      show Steps p.tables e below (T12.setTop (mkF m 87 #[.val (.int p0), .val (.int p1), .val (.int (p0 &&& (1073741823 : Int32))), .val (.int v2_s0), .val (.int (F1 (p0 &&& (1073741823 : Int32)) v2_s0)), .val (.int (F1 (p0 &&& (1073741823 : Int32)) v5_s0)), .val (.int v10_s0), .val (.int v12_s0), .unset] [(.int (1 : Int32))])) _
      refine XS.goto X12.here hx rfl (pc0 := 87) (pc' := 91) rfl (hb hby at_87) (by decide) (by decide) ?_
      exact kt
    · rw [if_neg hc13] at Hv14_s0
      refine ⟨T12, X12, e12, fun target kt => ?_⟩
      rw [Hv14_s0] at kt
      show Steps p.tables e below (T12.setTop (mkF m 83 #[.val (.int p0), .val (.int p1), .val (.int (p0 &&& (1073741823 : Int32))), .val (.int v2_s0), .val (.int (F1 (p0 &&& (1073741823 : Int32)) v2_s0)), .val (.int (F1 (p0 &&& (1073741823 : Int32)) v5_s0)), .val (.int v10_s0), .val (.int v12_s0), .unset] [(.int ((F1 (p0 &&& (1073741823 : Int32)) v2_s0) ^^^ (1 : Int32))), (.int (F1 (p0 &&& (1073741823 : Int32)) v5_s0))])) _
      refine XS.icmpYes X12.here hx rfl (pc0 := 83) (pc' := 90) rfl (hb hby at_83) rfl (feq hc13).2 (by decide) (by decide) ?_
      show Steps p.tables e below (T12.setTop (mkF m 90 #[.val (.int p0), .val (.int p1), .val (.int (p0 &&& (1073741823 : Int32))), .val (.int v2_s0), .val (.int (F1 (p0 &&& (1073741823 : Int32)) v2_s0)), .val (.int (F1 (p0 &&& (1073741823 : Int32)) v5_s0)), .val (.int v10_s0), .val (.int v12_s0), .unset] [])) _
      refine XS.iconst X12.here hx rfl (hb hby at_90) ?_
      exact kt)
  obtain ⟨v19_s0, Hv19_s0⟩ : ∃ z : Int32, z = (if (F1 (p0 &&& (1073741823 : Int32)) v2_s0) < (0 : Int32) then (0 : Int32) else (if v12_s0 = (0 : Int32) then (0 : Int32) else (if v10_s0 = (0 : Int32) then (0 : Int32) else (if v14_s0 = (0 : Int32) then (0 : Int32) else (1 : Int32))))) := ⟨_, rfl⟩
  obtain ⟨T19, X19, e19, st19⟩ := own_seg X14 h0 (mkF m 95 #[.val (.int p0), .val (.int p1), .val (.int (p0 &&& (1073741823 : Int32))), .val (.int v2_s0), .val (.int (F1 (p0 &&& (1073741823 : Int32)) v2_s0)), .val (.int (F1 (p0 &&& (1073741823 : Int32)) v5_s0)), .val (.int v10_s0), .val (.int v12_s0), .val (.int v14_s0)] [(.int (F1 (p0 &&& (1073741823 : Int32)) v2_s0))]) (mkF m 118 #[.val (.int p0), .val (.int p1), .val (.int (p0 &&& (1073741823 : Int32))), .val (.int v2_s0), .val (.int (F1 (p0 &&& (1073741823 : Int32)) v2_s0)), .val (.int (F1 (p0 &&& (1073741823 : Int32)) v5_s0)), .val (.int v10_s0), .val (.int v12_s0), .val (.int v14_s0)] [(.int v19_s0)]) (by
    by_cases hc15 : (F1 (p0 &&& (1073741823 : Int32)) v2_s0) < (0 : Int32)
    · rw [if_pos hc15] at Hv19_s0
      refine ⟨T14, X14, e14, fun target kt => ?_⟩
      rw [Hv19_s0] at kt
      show Steps p.tables e below (T14.setTop (mkF m 95 #[.val (.int p0), .val (.int p1), .val (.int (p0 &&& (1073741823 : Int32))), .val (.int v2_s0), .val (.int (F1 (p0 &&& (1073741823 : Int32)) v2_s0)), .val (.int (F1 (p0 &&& (1073741823 : Int32)) v5_s0)), .val (.int v10_s0), .val (.int v12_s0), .val (.int v14_s0)] [(.int (F1 (p0 &&& (1073741823 : Int32)) v2_s0))])) _
      refine XS.ifYes X14.here hx rfl (pc0 := 95) (pc' := 117) rfl (hb hby at_95) rfl ((if0 _ _).trans (tlt hc15).1) (by decide) (by decide) ?_
      show Steps p.tables e below (T14.setTop (mkF m 117 #[.val (.int p0), .val (.int p1), .val (.int (p0 &&& (1073741823 : Int32))), .val (.int v2_s0), .val (.int (F1 (p0 &&& (1073741823 : Int32)) v2_s0)), .val (.int (F1 (p0 &&& (1073741823 : Int32)) v5_s0)), .val (.int v10_s0), .val (.int v12_s0), .val (.int v14_s0)] [])) _
      refine XS.iconst X14.here hx rfl (hb hby at_117) ?_
      exact kt
    · by_cases hc16 : v12_s0 = (0 : Int32)
      · rw [if_neg hc15, if_pos hc16] at Hv19_s0
        refine ⟨T14, X14, e14, fun target kt => ?_⟩
        rw [Hv19_s0] at kt
        show Steps p.tables e below (T14.setTop (mkF m 95 #[.val (.int p0), .val (.int p1), .val (.int (p0 &&& (1073741823 : Int32))), .val (.int v2_s0), .val (.int (F1 (p0 &&& (1073741823 : Int32)) v2_s0)), .val (.int (F1 (p0 &&& (1073741823 : Int32)) v5_s0)), .val (.int v10_s0), .val (.int v12_s0), .val (.int v14_s0)] [(.int (F1 (p0 &&& (1073741823 : Int32)) v2_s0))])) _
        refine XS.ifNo X14.here hx rfl (hb hby at_95) rfl ((if0 _ _).trans (flt hc15).1) ?_
        show Steps p.tables e below (T14.setTop (mkF m 98 #[.val (.int p0), .val (.int p1), .val (.int (p0 &&& (1073741823 : Int32))), .val (.int v2_s0), .val (.int (F1 (p0 &&& (1073741823 : Int32)) v2_s0)), .val (.int (F1 (p0 &&& (1073741823 : Int32)) v5_s0)), .val (.int v10_s0), .val (.int v12_s0), .val (.int v14_s0)] [])) _
        refine XS.iload X14.here hx rfl (hb hby at_98) rfl ?_
        show Steps p.tables e below (T14.setTop (mkF m 100 #[.val (.int p0), .val (.int p1), .val (.int (p0 &&& (1073741823 : Int32))), .val (.int v2_s0), .val (.int (F1 (p0 &&& (1073741823 : Int32)) v2_s0)), .val (.int (F1 (p0 &&& (1073741823 : Int32)) v5_s0)), .val (.int v10_s0), .val (.int v12_s0), .val (.int v14_s0)] [(.int v12_s0)])) _
        refine XS.ifYes X14.here hx rfl (pc0 := 100) (pc' := 117) rfl (hb hby at_100) rfl ((if0 _ _).trans (teq hc16).1) (by decide) (by decide) ?_
        show Steps p.tables e below (T14.setTop (mkF m 117 #[.val (.int p0), .val (.int p1), .val (.int (p0 &&& (1073741823 : Int32))), .val (.int v2_s0), .val (.int (F1 (p0 &&& (1073741823 : Int32)) v2_s0)), .val (.int (F1 (p0 &&& (1073741823 : Int32)) v5_s0)), .val (.int v10_s0), .val (.int v12_s0), .val (.int v14_s0)] [])) _
        refine XS.iconst X14.here hx rfl (hb hby at_117) ?_
        exact kt
      · by_cases hc17 : v10_s0 = (0 : Int32)
        · rw [if_neg hc15, if_neg hc16, if_pos hc17] at Hv19_s0
          refine ⟨T14, X14, e14, fun target kt => ?_⟩
          rw [Hv19_s0] at kt
          show Steps p.tables e below (T14.setTop (mkF m 95 #[.val (.int p0), .val (.int p1), .val (.int (p0 &&& (1073741823 : Int32))), .val (.int v2_s0), .val (.int (F1 (p0 &&& (1073741823 : Int32)) v2_s0)), .val (.int (F1 (p0 &&& (1073741823 : Int32)) v5_s0)), .val (.int v10_s0), .val (.int v12_s0), .val (.int v14_s0)] [(.int (F1 (p0 &&& (1073741823 : Int32)) v2_s0))])) _
          refine XS.ifNo X14.here hx rfl (hb hby at_95) rfl ((if0 _ _).trans (flt hc15).1) ?_
          show Steps p.tables e below (T14.setTop (mkF m 98 #[.val (.int p0), .val (.int p1), .val (.int (p0 &&& (1073741823 : Int32))), .val (.int v2_s0), .val (.int (F1 (p0 &&& (1073741823 : Int32)) v2_s0)), .val (.int (F1 (p0 &&& (1073741823 : Int32)) v5_s0)), .val (.int v10_s0), .val (.int v12_s0), .val (.int v14_s0)] [])) _
          refine XS.iload X14.here hx rfl (hb hby at_98) rfl ?_
          show Steps p.tables e below (T14.setTop (mkF m 100 #[.val (.int p0), .val (.int p1), .val (.int (p0 &&& (1073741823 : Int32))), .val (.int v2_s0), .val (.int (F1 (p0 &&& (1073741823 : Int32)) v2_s0)), .val (.int (F1 (p0 &&& (1073741823 : Int32)) v5_s0)), .val (.int v10_s0), .val (.int v12_s0), .val (.int v14_s0)] [(.int v12_s0)])) _
          refine XS.ifNo X14.here hx rfl (hb hby at_100) rfl ((if0 _ _).trans (feq hc16).1) ?_
          show Steps p.tables e below (T14.setTop (mkF m 103 #[.val (.int p0), .val (.int p1), .val (.int (p0 &&& (1073741823 : Int32))), .val (.int v2_s0), .val (.int (F1 (p0 &&& (1073741823 : Int32)) v2_s0)), .val (.int (F1 (p0 &&& (1073741823 : Int32)) v5_s0)), .val (.int v10_s0), .val (.int v12_s0), .val (.int v14_s0)] [])) _
          refine XS.iload X14.here hx rfl (hb hby at_103) rfl ?_
          show Steps p.tables e below (T14.setTop (mkF m 105 #[.val (.int p0), .val (.int p1), .val (.int (p0 &&& (1073741823 : Int32))), .val (.int v2_s0), .val (.int (F1 (p0 &&& (1073741823 : Int32)) v2_s0)), .val (.int (F1 (p0 &&& (1073741823 : Int32)) v5_s0)), .val (.int v10_s0), .val (.int v12_s0), .val (.int v14_s0)] [(.int v10_s0)])) _
          refine XS.ifYes X14.here hx rfl (pc0 := 105) (pc' := 117) rfl (hb hby at_105) rfl ((if0 _ _).trans (teq hc17).1) (by decide) (by decide) ?_
          show Steps p.tables e below (T14.setTop (mkF m 117 #[.val (.int p0), .val (.int p1), .val (.int (p0 &&& (1073741823 : Int32))), .val (.int v2_s0), .val (.int (F1 (p0 &&& (1073741823 : Int32)) v2_s0)), .val (.int (F1 (p0 &&& (1073741823 : Int32)) v5_s0)), .val (.int v10_s0), .val (.int v12_s0), .val (.int v14_s0)] [])) _
          refine XS.iconst X14.here hx rfl (hb hby at_117) ?_
          exact kt
        · by_cases hc18 : v14_s0 = (0 : Int32)
          · rw [if_neg hc15, if_neg hc16, if_neg hc17, if_pos hc18] at Hv19_s0
            refine ⟨T14, X14, e14, fun target kt => ?_⟩
            rw [Hv19_s0] at kt
            show Steps p.tables e below (T14.setTop (mkF m 95 #[.val (.int p0), .val (.int p1), .val (.int (p0 &&& (1073741823 : Int32))), .val (.int v2_s0), .val (.int (F1 (p0 &&& (1073741823 : Int32)) v2_s0)), .val (.int (F1 (p0 &&& (1073741823 : Int32)) v5_s0)), .val (.int v10_s0), .val (.int v12_s0), .val (.int v14_s0)] [(.int (F1 (p0 &&& (1073741823 : Int32)) v2_s0))])) _
            refine XS.ifNo X14.here hx rfl (hb hby at_95) rfl ((if0 _ _).trans (flt hc15).1) ?_
            show Steps p.tables e below (T14.setTop (mkF m 98 #[.val (.int p0), .val (.int p1), .val (.int (p0 &&& (1073741823 : Int32))), .val (.int v2_s0), .val (.int (F1 (p0 &&& (1073741823 : Int32)) v2_s0)), .val (.int (F1 (p0 &&& (1073741823 : Int32)) v5_s0)), .val (.int v10_s0), .val (.int v12_s0), .val (.int v14_s0)] [])) _
            refine XS.iload X14.here hx rfl (hb hby at_98) rfl ?_
            show Steps p.tables e below (T14.setTop (mkF m 100 #[.val (.int p0), .val (.int p1), .val (.int (p0 &&& (1073741823 : Int32))), .val (.int v2_s0), .val (.int (F1 (p0 &&& (1073741823 : Int32)) v2_s0)), .val (.int (F1 (p0 &&& (1073741823 : Int32)) v5_s0)), .val (.int v10_s0), .val (.int v12_s0), .val (.int v14_s0)] [(.int v12_s0)])) _
            refine XS.ifNo X14.here hx rfl (hb hby at_100) rfl ((if0 _ _).trans (feq hc16).1) ?_
            show Steps p.tables e below (T14.setTop (mkF m 103 #[.val (.int p0), .val (.int p1), .val (.int (p0 &&& (1073741823 : Int32))), .val (.int v2_s0), .val (.int (F1 (p0 &&& (1073741823 : Int32)) v2_s0)), .val (.int (F1 (p0 &&& (1073741823 : Int32)) v5_s0)), .val (.int v10_s0), .val (.int v12_s0), .val (.int v14_s0)] [])) _
            refine XS.iload X14.here hx rfl (hb hby at_103) rfl ?_
            show Steps p.tables e below (T14.setTop (mkF m 105 #[.val (.int p0), .val (.int p1), .val (.int (p0 &&& (1073741823 : Int32))), .val (.int v2_s0), .val (.int (F1 (p0 &&& (1073741823 : Int32)) v2_s0)), .val (.int (F1 (p0 &&& (1073741823 : Int32)) v5_s0)), .val (.int v10_s0), .val (.int v12_s0), .val (.int v14_s0)] [(.int v10_s0)])) _
            refine XS.ifNo X14.here hx rfl (hb hby at_105) rfl ((if0 _ _).trans (feq hc17).1) ?_
            show Steps p.tables e below (T14.setTop (mkF m 108 #[.val (.int p0), .val (.int p1), .val (.int (p0 &&& (1073741823 : Int32))), .val (.int v2_s0), .val (.int (F1 (p0 &&& (1073741823 : Int32)) v2_s0)), .val (.int (F1 (p0 &&& (1073741823 : Int32)) v5_s0)), .val (.int v10_s0), .val (.int v12_s0), .val (.int v14_s0)] [])) _
            refine XS.iload X14.here hx rfl (hb hby at_108) rfl ?_
            show Steps p.tables e below (T14.setTop (mkF m 110 #[.val (.int p0), .val (.int p1), .val (.int (p0 &&& (1073741823 : Int32))), .val (.int v2_s0), .val (.int (F1 (p0 &&& (1073741823 : Int32)) v2_s0)), .val (.int (F1 (p0 &&& (1073741823 : Int32)) v5_s0)), .val (.int v10_s0), .val (.int v12_s0), .val (.int v14_s0)] [(.int v14_s0)])) _
            refine XS.ifYes X14.here hx rfl (pc0 := 110) (pc' := 117) rfl (hb hby at_110) rfl ((if0 _ _).trans (teq hc18).1) (by decide) (by decide) ?_
            show Steps p.tables e below (T14.setTop (mkF m 117 #[.val (.int p0), .val (.int p1), .val (.int (p0 &&& (1073741823 : Int32))), .val (.int v2_s0), .val (.int (F1 (p0 &&& (1073741823 : Int32)) v2_s0)), .val (.int (F1 (p0 &&& (1073741823 : Int32)) v5_s0)), .val (.int v10_s0), .val (.int v12_s0), .val (.int v14_s0)] [])) _
            refine XS.iconst X14.here hx rfl (hb hby at_117) ?_
            exact kt
          · rw [if_neg hc15, if_neg hc16, if_neg hc17, if_neg hc18] at Hv19_s0
            refine ⟨T14, X14, e14, fun target kt => ?_⟩
            rw [Hv19_s0] at kt
            show Steps p.tables e below (T14.setTop (mkF m 95 #[.val (.int p0), .val (.int p1), .val (.int (p0 &&& (1073741823 : Int32))), .val (.int v2_s0), .val (.int (F1 (p0 &&& (1073741823 : Int32)) v2_s0)), .val (.int (F1 (p0 &&& (1073741823 : Int32)) v5_s0)), .val (.int v10_s0), .val (.int v12_s0), .val (.int v14_s0)] [(.int (F1 (p0 &&& (1073741823 : Int32)) v2_s0))])) _
            refine XS.ifNo X14.here hx rfl (hb hby at_95) rfl ((if0 _ _).trans (flt hc15).1) ?_
            show Steps p.tables e below (T14.setTop (mkF m 98 #[.val (.int p0), .val (.int p1), .val (.int (p0 &&& (1073741823 : Int32))), .val (.int v2_s0), .val (.int (F1 (p0 &&& (1073741823 : Int32)) v2_s0)), .val (.int (F1 (p0 &&& (1073741823 : Int32)) v5_s0)), .val (.int v10_s0), .val (.int v12_s0), .val (.int v14_s0)] [])) _
            refine XS.iload X14.here hx rfl (hb hby at_98) rfl ?_
            show Steps p.tables e below (T14.setTop (mkF m 100 #[.val (.int p0), .val (.int p1), .val (.int (p0 &&& (1073741823 : Int32))), .val (.int v2_s0), .val (.int (F1 (p0 &&& (1073741823 : Int32)) v2_s0)), .val (.int (F1 (p0 &&& (1073741823 : Int32)) v5_s0)), .val (.int v10_s0), .val (.int v12_s0), .val (.int v14_s0)] [(.int v12_s0)])) _
            refine XS.ifNo X14.here hx rfl (hb hby at_100) rfl ((if0 _ _).trans (feq hc16).1) ?_
            show Steps p.tables e below (T14.setTop (mkF m 103 #[.val (.int p0), .val (.int p1), .val (.int (p0 &&& (1073741823 : Int32))), .val (.int v2_s0), .val (.int (F1 (p0 &&& (1073741823 : Int32)) v2_s0)), .val (.int (F1 (p0 &&& (1073741823 : Int32)) v5_s0)), .val (.int v10_s0), .val (.int v12_s0), .val (.int v14_s0)] [])) _
            refine XS.iload X14.here hx rfl (hb hby at_103) rfl ?_
            show Steps p.tables e below (T14.setTop (mkF m 105 #[.val (.int p0), .val (.int p1), .val (.int (p0 &&& (1073741823 : Int32))), .val (.int v2_s0), .val (.int (F1 (p0 &&& (1073741823 : Int32)) v2_s0)), .val (.int (F1 (p0 &&& (1073741823 : Int32)) v5_s0)), .val (.int v10_s0), .val (.int v12_s0), .val (.int v14_s0)] [(.int v10_s0)])) _
            refine XS.ifNo X14.here hx rfl (hb hby at_105) rfl ((if0 _ _).trans (feq hc17).1) ?_
            show Steps p.tables e below (T14.setTop (mkF m 108 #[.val (.int p0), .val (.int p1), .val (.int (p0 &&& (1073741823 : Int32))), .val (.int v2_s0), .val (.int (F1 (p0 &&& (1073741823 : Int32)) v2_s0)), .val (.int (F1 (p0 &&& (1073741823 : Int32)) v5_s0)), .val (.int v10_s0), .val (.int v12_s0), .val (.int v14_s0)] [])) _
            refine XS.iload X14.here hx rfl (hb hby at_108) rfl ?_
            show Steps p.tables e below (T14.setTop (mkF m 110 #[.val (.int p0), .val (.int p1), .val (.int (p0 &&& (1073741823 : Int32))), .val (.int v2_s0), .val (.int (F1 (p0 &&& (1073741823 : Int32)) v2_s0)), .val (.int (F1 (p0 &&& (1073741823 : Int32)) v5_s0)), .val (.int v10_s0), .val (.int v12_s0), .val (.int v14_s0)] [(.int v14_s0)])) _
            refine XS.ifNo X14.here hx rfl (hb hby at_110) rfl ((if0 _ _).trans (feq hc18).1) ?_
            show Steps p.tables e below (T14.setTop (mkF m 113 #[.val (.int p0), .val (.int p1), .val (.int (p0 &&& (1073741823 : Int32))), .val (.int v2_s0), .val (.int (F1 (p0 &&& (1073741823 : Int32)) v2_s0)), .val (.int (F1 (p0 &&& (1073741823 : Int32)) v5_s0)), .val (.int v10_s0), .val (.int v12_s0), .val (.int v14_s0)] [])) _
            refine XS.iconst X14.here hx rfl (hb hby at_113) ?_
            show Steps p.tables e below (T14.setTop (mkF m 114 #[.val (.int p0), .val (.int p1), .val (.int (p0 &&& (1073741823 : Int32))), .val (.int v2_s0), .val (.int (F1 (p0 &&& (1073741823 : Int32)) v2_s0)), .val (.int (F1 (p0 &&& (1073741823 : Int32)) v5_s0)), .val (.int v10_s0), .val (.int v12_s0), .val (.int v14_s0)] [(.int (1 : Int32))])) _
            refine XS.goto X14.here hx rfl (pc0 := 114) (pc' := 118) rfl (hb hby at_114) (by decide) (by decide) ?_
            exact kt)
  have hfin : nar .boolean v19_s0 = 1 := by rw [plain_law p0 p1 v2_s0 Hv2_s0 v12_s0 Hv12_s0 v8_s0 Hv8_s0 v10_s0 Hv10_s0 v5_s0 Hv5_s0 v14_s0 Hv14_s0 v19_s0 Hv19_s0]; rfl
  obtain ⟨fs, hr, hrun, hended, hW, hsame⟩ := X19.leave (v := some (.int (nar .boolean v19_s0))) (fun h => by rw [Bd.returns] at h; cases h)
  refine ⟨_, _, pre0 _ ?_, hrun, hended, _, _, rfl, ?_, ⟨_, rfl⟩, hW, hsame.mono (by decide) (by decide)⟩
  · show Steps p.tables e below (s₁.setTop (mkF m 0 #[.val (.int p0), .val (.int p1), .unset, .unset, .unset, .unset, .unset, .unset, .unset] [])) _
    refine XS.iloadN X0.here hx rfl (hb hby at_0) rfl ?_
    show Steps p.tables e below (s₁.setTop (mkF m 1 #[.val (.int p0), .val (.int p1), .unset, .unset, .unset, .unset, .unset, .unset, .unset] [(.int p0)])) _
    refine X0.ldcInt hx hown (mvT hZ (hw _ (List.mem_of_getElem? (i := 0) rfl))) (g := (mkF m 1 #[.val (.int p0), .val (.int p1), .unset, .unset, .unset, .unset, .unset, .unset, .unset] [(.int p0)])) rfl (hb hby at_1) _ ?_
    show Steps p.tables e below (s₁.setTop (mkF m 3 #[.val (.int p0), .val (.int p1), .unset, .unset, .unset, .unset, .unset, .unset, .unset] [(.int (1073741823 : Int32)), (.int p0)])) _
    refine XS.iand X0.here hx rfl (hb hby at_3) rfl ?_
    show Steps p.tables e below (s₁.setTop (mkF m 4 #[.val (.int p0), .val (.int p1), .unset, .unset, .unset, .unset, .unset, .unset, .unset] [(.int (p0 &&& (1073741823 : Int32)))])) _
    refine XS.istoreN X0.here hx rfl (hb hby at_4) rfl (l' := #[.val (.int p0), .val (.int p1), .val (.int (p0 &&& (1073741823 : Int32))), .unset, .unset, .unset, .unset, .unset, .unset]) rfl ?_
    show Steps p.tables e below (s₁.setTop (mkF m 5 #[.val (.int p0), .val (.int p1), .val (.int (p0 &&& (1073741823 : Int32))), .unset, .unset, .unset, .unset, .unset, .unset] [])) _
    refine XS.iloadN X0.here hx rfl (hb hby at_5) rfl ?_
    show Steps p.tables e below (s₁.setTop (mkF m 6 #[.val (.int p0), .val (.int p1), .val (.int (p0 &&& (1073741823 : Int32))), .unset, .unset, .unset, .unset, .unset, .unset] [(.int p1)])) _
    refine XS.iconst X0.here hx rfl (hb hby at_6) ?_
    show Steps p.tables e below (s₁.setTop (mkF m 7 #[.val (.int p0), .val (.int p1), .val (.int (p0 &&& (1073741823 : Int32))), .unset, .unset, .unset, .unset, .unset, .unset] [(.int (1 : Int32)), (.int p1)])) _
    refine XS.iand X0.here hx rfl (hb hby at_7) rfl ?_
    show Steps p.tables e below (s₁.setTop (mkF m 8 #[.val (.int p0), .val (.int p1), .val (.int (p0 &&& (1073741823 : Int32))), .unset, .unset, .unset, .unset, .unset, .unset] [(.int (p1 &&& (1 : Int32)))])) _
    refine st2 _ ?_
    show Steps p.tables e below (T2.setTop (mkF m 16 #[.val (.int p0), .val (.int p1), .val (.int (p0 &&& (1073741823 : Int32))), .unset, .unset, .unset, .unset, .unset, .unset] [(.int v2_s0)])) _
    refine XS.istoreN X2.here hx rfl (hb hby at_16) rfl (l' := #[.val (.int p0), .val (.int p1), .val (.int (p0 &&& (1073741823 : Int32))), .val (.int v2_s0), .unset, .unset, .unset, .unset, .unset]) rfl ?_
    show Steps p.tables e below (T2.setTop (mkF m 17 #[.val (.int p0), .val (.int p1), .val (.int (p0 &&& (1073741823 : Int32))), .val (.int v2_s0), .unset, .unset, .unset, .unset, .unset] [])) _
    refine XS.iloadN X2.here hx rfl (hb hby at_17) rfl ?_
    show Steps p.tables e below (T2.setTop (mkF m 18 #[.val (.int p0), .val (.int p1), .val (.int (p0 &&& (1073741823 : Int32))), .val (.int v2_s0), .unset, .unset, .unset, .unset, .unset] [(.int (p0 &&& (1073741823 : Int32)))])) _
    refine XS.iloadN X2.here hx rfl (hb hby at_18) rfl ?_
    show Steps p.tables e below (T2.setTop (mkF m 19 #[.val (.int p0), .val (.int p1), .val (.int (p0 &&& (1073741823 : Int32))), .val (.int v2_s0), .unset, .unset, .unset, .unset, .unset] [(.int v2_s0), (.int (p0 &&& (1073741823 : Int32)))])) _
    refine st3 _ ?_
    show Steps p.tables e below (T3.setTop (mkF m 22 #[.val (.int p0), .val (.int p1), .val (.int (p0 &&& (1073741823 : Int32))), .val (.int v2_s0), .unset, .unset, .unset, .unset, .unset] [(.int (F1 (p0 &&& (1073741823 : Int32)) v2_s0))])) _
    refine XS.istore X3.here hx rfl (hb hby at_22) rfl (l' := #[.val (.int p0), .val (.int p1), .val (.int (p0 &&& (1073741823 : Int32))), .val (.int v2_s0), .val (.int (F1 (p0 &&& (1073741823 : Int32)) v2_s0)), .unset, .unset, .unset, .unset]) rfl ?_
    show Steps p.tables e below (T3.setTop (mkF m 24 #[.val (.int p0), .val (.int p1), .val (.int (p0 &&& (1073741823 : Int32))), .val (.int v2_s0), .val (.int (F1 (p0 &&& (1073741823 : Int32)) v2_s0)), .unset, .unset, .unset, .unset] [])) _
    refine XS.iloadN X3.here hx rfl (hb hby at_24) rfl ?_
    show Steps p.tables e below (T3.setTop (mkF m 25 #[.val (.int p0), .val (.int p1), .val (.int (p0 &&& (1073741823 : Int32))), .val (.int v2_s0), .val (.int (F1 (p0 &&& (1073741823 : Int32)) v2_s0)), .unset, .unset, .unset, .unset] [(.int (p0 &&& (1073741823 : Int32)))])) _
    refine XS.iloadN X3.here hx rfl (hb hby at_25) rfl ?_
    show Steps p.tables e below (T3.setTop (mkF m 26 #[.val (.int p0), .val (.int p1), .val (.int (p0 &&& (1073741823 : Int32))), .val (.int v2_s0), .val (.int (F1 (p0 &&& (1073741823 : Int32)) v2_s0)), .unset, .unset, .unset, .unset] [(.int v2_s0), (.int (p0 &&& (1073741823 : Int32)))])) _
    refine st5 _ ?_
    show Steps p.tables e below (T5.setTop (mkF m 34 #[.val (.int p0), .val (.int p1), .val (.int (p0 &&& (1073741823 : Int32))), .val (.int v2_s0), .val (.int (F1 (p0 &&& (1073741823 : Int32)) v2_s0)), .unset, .unset, .unset, .unset] [(.int v5_s0), (.int (p0 &&& (1073741823 : Int32)))])) _
    refine st6 _ ?_
    show Steps p.tables e below (T6.setTop (mkF m 37 #[.val (.int p0), .val (.int p1), .val (.int (p0 &&& (1073741823 : Int32))), .val (.int v2_s0), .val (.int (F1 (p0 &&& (1073741823 : Int32)) v2_s0)), .unset, .unset, .unset, .unset] [(.int (F1 (p0 &&& (1073741823 : Int32)) v5_s0))])) _
    refine XS.istore X6.here hx rfl (hb hby at_37) rfl (l' := #[.val (.int p0), .val (.int p1), .val (.int (p0 &&& (1073741823 : Int32))), .val (.int v2_s0), .val (.int (F1 (p0 &&& (1073741823 : Int32)) v2_s0)), .val (.int (F1 (p0 &&& (1073741823 : Int32)) v5_s0)), .unset, .unset, .unset]) rfl ?_
    show Steps p.tables e below (T6.setTop (mkF m 39 #[.val (.int p0), .val (.int p1), .val (.int (p0 &&& (1073741823 : Int32))), .val (.int v2_s0), .val (.int (F1 (p0 &&& (1073741823 : Int32)) v2_s0)), .val (.int (F1 (p0 &&& (1073741823 : Int32)) v5_s0)), .unset, .unset, .unset] [])) _
    refine XS.iload X6.here hx rfl (hb hby at_39) rfl ?_
    show Steps p.tables e below (T6.setTop (mkF m 41 #[.val (.int p0), .val (.int p1), .val (.int (p0 &&& (1073741823 : Int32))), .val (.int v2_s0), .val (.int (F1 (p0 &&& (1073741823 : Int32)) v2_s0)), .val (.int (F1 (p0 &&& (1073741823 : Int32)) v5_s0)), .unset, .unset, .unset] [(.int (F1 (p0 &&& (1073741823 : Int32)) v2_s0))])) _
    refine XS.iconst X6.here hx rfl (hb hby at_41) ?_
    show Steps p.tables e below (T6.setTop (mkF m 42 #[.val (.int p0), .val (.int p1), .val (.int (p0 &&& (1073741823 : Int32))), .val (.int v2_s0), .val (.int (F1 (p0 &&& (1073741823 : Int32)) v2_s0)), .val (.int (F1 (p0 &&& (1073741823 : Int32)) v5_s0)), .unset, .unset, .unset] [(.int (1 : Int32)), (.int (F1 (p0 &&& (1073741823 : Int32)) v2_s0))])) _
    refine XS.iand X6.here hx rfl (hb hby at_42) rfl ?_
    show Steps p.tables e below (T6.setTop (mkF m 43 #[.val (.int p0), .val (.int p1), .val (.int (p0 &&& (1073741823 : Int32))), .val (.int v2_s0), .val (.int (F1 (p0 &&& (1073741823 : Int32)) v2_s0)), .val (.int (F1 (p0 &&& (1073741823 : Int32)) v5_s0)), .unset, .unset, .unset] [(.int ((F1 (p0 &&& (1073741823 : Int32)) v2_s0) &&& (1 : Int32)))])) _
    refine XS.iloadN X6.here hx rfl (hb hby at_43) rfl ?_
    show Steps p.tables e below (T6.setTop (mkF m 44 #[.val (.int p0), .val (.int p1), .val (.int (p0 &&& (1073741823 : Int32))), .val (.int v2_s0), .val (.int (F1 (p0 &&& (1073741823 : Int32)) v2_s0)), .val (.int (F1 (p0 &&& (1073741823 : Int32)) v5_s0)), .unset, .unset, .unset] [(.int v2_s0), (.int ((F1 (p0 &&& (1073741823 : Int32)) v2_s0) &&& (1 : Int32)))])) _
    refine st8 _ ?_
    show Steps p.tables e below (T8.setTop (mkF m 52 #[.val (.int p0), .val (.int p1), .val (.int (p0 &&& (1073741823 : Int32))), .val (.int v2_s0), .val (.int (F1 (p0 &&& (1073741823 : Int32)) v2_s0)), .val (.int (F1 (p0 &&& (1073741823 : Int32)) v5_s0)), .unset, .unset, .unset] [(.int v8_s0), (.int ((F1 (p0 &&& (1073741823 : Int32)) v2_s0) &&& (1 : Int32)))])) _
    refine st10 _ ?_
    show Steps p.tables e below (T10.setTop (mkF m 60 #[.val (.int p0), .val (.int p1), .val (.int (p0 &&& (1073741823 : Int32))), .val (.int v2_s0), .val (.int (F1 (p0 &&& (1073741823 : Int32)) v2_s0)), .val (.int (F1 (p0 &&& (1073741823 : Int32)) v5_s0)), .unset, .unset, .unset] [(.int v10_s0)])) _
    refine XS.istore X10.here hx rfl (hb hby at_60) rfl (l' := #[.val (.int p0), .val (.int p1), .val (.int (p0 &&& (1073741823 : Int32))), .val (.int v2_s0), .val (.int (F1 (p0 &&& (1073741823 : Int32)) v2_s0)), .val (.int (F1 (p0 &&& (1073741823 : Int32)) v5_s0)), .val (.int v10_s0), .unset, .unset]) rfl ?_
    show Steps p.tables e below (T10.setTop (mkF m 62 #[.val (.int p0), .val (.int p1), .val (.int (p0 &&& (1073741823 : Int32))), .val (.int v2_s0), .val (.int (F1 (p0 &&& (1073741823 : Int32)) v2_s0)), .val (.int (F1 (p0 &&& (1073741823 : Int32)) v5_s0)), .val (.int v10_s0), .unset, .unset] [])) _
    refine XS.iload X10.here hx rfl (hb hby at_62) rfl ?_
    show Steps p.tables e below (T10.setTop (mkF m 64 #[.val (.int p0), .val (.int p1), .val (.int (p0 &&& (1073741823 : Int32))), .val (.int v2_s0), .val (.int (F1 (p0 &&& (1073741823 : Int32)) v2_s0)), .val (.int (F1 (p0 &&& (1073741823 : Int32)) v5_s0)), .val (.int v10_s0), .unset, .unset] [(.int (F1 (p0 &&& (1073741823 : Int32)) v2_s0))])) _
    refine XS.iconst X10.here hx rfl (hb hby at_64) ?_
    show Steps p.tables e below (T10.setTop (mkF m 65 #[.val (.int p0), .val (.int p1), .val (.int (p0 &&& (1073741823 : Int32))), .val (.int v2_s0), .val (.int (F1 (p0 &&& (1073741823 : Int32)) v2_s0)), .val (.int (F1 (p0 &&& (1073741823 : Int32)) v5_s0)), .val (.int v10_s0), .unset, .unset] [(.int (1 : Int32)), (.int (F1 (p0 &&& (1073741823 : Int32)) v2_s0))])) _
    refine XS.ishr X10.here hx rfl (hb hby at_65) rfl ?_
    show Steps p.tables e below (T10.setTop (mkF m 66 #[.val (.int p0), .val (.int p1), .val (.int (p0 &&& (1073741823 : Int32))), .val (.int v2_s0), .val (.int (F1 (p0 &&& (1073741823 : Int32)) v2_s0)), .val (.int (F1 (p0 &&& (1073741823 : Int32)) v5_s0)), .val (.int v10_s0), .unset, .unset] [(.int ((F1 (p0 &&& (1073741823 : Int32)) v2_s0) >>> ((1 : Int32) &&& 31)))])) _
    refine XS.iloadN X10.here hx rfl (hb hby at_66) rfl ?_
    show Steps p.tables e below (T10.setTop (mkF m 67 #[.val (.int p0), .val (.int p1), .val (.int (p0 &&& (1073741823 : Int32))), .val (.int v2_s0), .val (.int (F1 (p0 &&& (1073741823 : Int32)) v2_s0)), .val (.int (F1 (p0 &&& (1073741823 : Int32)) v5_s0)), .val (.int v10_s0), .unset, .unset] [(.int (p0 &&& (1073741823 : Int32))), (.int ((F1 (p0 &&& (1073741823 : Int32)) v2_s0) >>> ((1 : Int32) &&& 31)))])) _
    refine st12 _ ?_
    show Steps p.tables e below (T12.setTop (mkF m 75 #[.val (.int p0), .val (.int p1), .val (.int (p0 &&& (1073741823 : Int32))), .val (.int v2_s0), .val (.int (F1 (p0 &&& (1073741823 : Int32)) v2_s0)), .val (.int (F1 (p0 &&& (1073741823 : Int32)) v5_s0)), .val (.int v10_s0), .unset, .unset] [(.int v12_s0)])) _
    refine XS.istore X12.here hx rfl (hb hby at_75) rfl (l' := #[.val (.int p0), .val (.int p1), .val (.int (p0 &&& (1073741823 : Int32))), .val (.int v2_s0), .val (.int (F1 (p0 &&& (1073741823 : Int32)) v2_s0)), .val (.int (F1 (p0 &&& (1073741823 : Int32)) v5_s0)), .val (.int v10_s0), .val (.int v12_s0), .unset]) rfl ?_
    show Steps p.tables e below (T12.setTop (mkF m 77 #[.val (.int p0), .val (.int p1), .val (.int (p0 &&& (1073741823 : Int32))), .val (.int v2_s0), .val (.int (F1 (p0 &&& (1073741823 : Int32)) v2_s0)), .val (.int (F1 (p0 &&& (1073741823 : Int32)) v5_s0)), .val (.int v10_s0), .val (.int v12_s0), .unset] [])) _
    refine XS.iload X12.here hx rfl (hb hby at_77) rfl ?_
    show Steps p.tables e below (T12.setTop (mkF m 79 #[.val (.int p0), .val (.int p1), .val (.int (p0 &&& (1073741823 : Int32))), .val (.int v2_s0), .val (.int (F1 (p0 &&& (1073741823 : Int32)) v2_s0)), .val (.int (F1 (p0 &&& (1073741823 : Int32)) v5_s0)), .val (.int v10_s0), .val (.int v12_s0), .unset] [(.int (F1 (p0 &&& (1073741823 : Int32)) v5_s0))])) _
    refine XS.iload X12.here hx rfl (hb hby at_79) rfl ?_
    show Steps p.tables e below (T12.setTop (mkF m 81 #[.val (.int p0), .val (.int p1), .val (.int (p0 &&& (1073741823 : Int32))), .val (.int v2_s0), .val (.int (F1 (p0 &&& (1073741823 : Int32)) v2_s0)), .val (.int (F1 (p0 &&& (1073741823 : Int32)) v5_s0)), .val (.int v10_s0), .val (.int v12_s0), .unset] [(.int (F1 (p0 &&& (1073741823 : Int32)) v2_s0)), (.int (F1 (p0 &&& (1073741823 : Int32)) v5_s0))])) _
    refine XS.iconst X12.here hx rfl (hb hby at_81) ?_
    show Steps p.tables e below (T12.setTop (mkF m 82 #[.val (.int p0), .val (.int p1), .val (.int (p0 &&& (1073741823 : Int32))), .val (.int v2_s0), .val (.int (F1 (p0 &&& (1073741823 : Int32)) v2_s0)), .val (.int (F1 (p0 &&& (1073741823 : Int32)) v5_s0)), .val (.int v10_s0), .val (.int v12_s0), .unset] [(.int (1 : Int32)), (.int (F1 (p0 &&& (1073741823 : Int32)) v2_s0)), (.int (F1 (p0 &&& (1073741823 : Int32)) v5_s0))])) _
    refine XS.ixor X12.here hx rfl (hb hby at_82) rfl ?_
    show Steps p.tables e below (T12.setTop (mkF m 83 #[.val (.int p0), .val (.int p1), .val (.int (p0 &&& (1073741823 : Int32))), .val (.int v2_s0), .val (.int (F1 (p0 &&& (1073741823 : Int32)) v2_s0)), .val (.int (F1 (p0 &&& (1073741823 : Int32)) v5_s0)), .val (.int v10_s0), .val (.int v12_s0), .unset] [(.int ((F1 (p0 &&& (1073741823 : Int32)) v2_s0) ^^^ (1 : Int32))), (.int (F1 (p0 &&& (1073741823 : Int32)) v5_s0))])) _
    refine st14 _ ?_
    show Steps p.tables e below (T14.setTop (mkF m 91 #[.val (.int p0), .val (.int p1), .val (.int (p0 &&& (1073741823 : Int32))), .val (.int v2_s0), .val (.int (F1 (p0 &&& (1073741823 : Int32)) v2_s0)), .val (.int (F1 (p0 &&& (1073741823 : Int32)) v5_s0)), .val (.int v10_s0), .val (.int v12_s0), .unset] [(.int v14_s0)])) _
    refine XS.istore X14.here hx rfl (hb hby at_91) rfl (l' := #[.val (.int p0), .val (.int p1), .val (.int (p0 &&& (1073741823 : Int32))), .val (.int v2_s0), .val (.int (F1 (p0 &&& (1073741823 : Int32)) v2_s0)), .val (.int (F1 (p0 &&& (1073741823 : Int32)) v5_s0)), .val (.int v10_s0), .val (.int v12_s0), .val (.int v14_s0)]) rfl ?_
    show Steps p.tables e below (T14.setTop (mkF m 93 #[.val (.int p0), .val (.int p1), .val (.int (p0 &&& (1073741823 : Int32))), .val (.int v2_s0), .val (.int (F1 (p0 &&& (1073741823 : Int32)) v2_s0)), .val (.int (F1 (p0 &&& (1073741823 : Int32)) v5_s0)), .val (.int v10_s0), .val (.int v12_s0), .val (.int v14_s0)] [])) _
    refine XS.iload X14.here hx rfl (hb hby at_93) rfl ?_
    show Steps p.tables e below (T14.setTop (mkF m 95 #[.val (.int p0), .val (.int p1), .val (.int (p0 &&& (1073741823 : Int32))), .val (.int v2_s0), .val (.int (F1 (p0 &&& (1073741823 : Int32)) v2_s0)), .val (.int (F1 (p0 &&& (1073741823 : Int32)) v5_s0)), .val (.int v10_s0), .val (.int v12_s0), .val (.int v14_s0)] [(.int (F1 (p0 &&& (1073741823 : Int32)) v2_s0))])) _
    refine st19 _ ?_
    show Steps p.tables e below (T19.setTop (mkF m 118 #[.val (.int p0), .val (.int p1), .val (.int (p0 &&& (1073741823 : Int32))), .val (.int v2_s0), .val (.int (F1 (p0 &&& (1073741823 : Int32)) v2_s0)), .val (.int (F1 (p0 &&& (1073741823 : Int32)) v5_s0)), .val (.int v10_s0), .val (.int v12_s0), .val (.int v14_s0)] [(.int v19_s0)])) _
    exact retN X19 hx (t := .boolean) Bd.returns (by simp) (hb hby at_118) hr
  · exact ⟨congrArg (fun z => some (Value.int z)) hfin, N0⟩
set_option maxRecDepth 65536 in
set_option maxHeartbeats 40000000 in
theorem comes_1 {Post : Tables → Env → Array Value → State → Outcome → State → Prop} (hpost : ∀ tb e args s v u, (limb_1_1.after args s (.returned v) u = true ∧ limb_1_2.after args s (.returned v) u = true ∧ True) → FrameEnd s (.returned v) u (Jvm.fieldLocs frame_1_writes args s ++ Jvm.arrayLocs frame_1_arrays args s ++ Jvm.staticLocs frame_1_statics s) 0 0 → Post tb e args s (.returned v) u) :
    ArmFor flags0 classFile x code maxLocals ret World_1 tables_1 room_1 Calls_1 rest_1 Pre_1 Post := by
  intro l hfl _ _ p e ha hc hk s m args below hf hA hF happ hP
  obtain ⟨hcalls, hrest, hpre⟩ := hP
  obtain ⟨-, -, -, hnamed, -, -, -, hat⟩ := (Spec.applies_iff hf).mp happ
  obtain ⟨hg, hn⟩ := and_e (Cond.before_iff.mp (show (Jvm.Cond.and given_1 narrow_1).before args s = true from hpre))
  obtain ⟨gg1, gg2⟩ := and_e hg
  obtain ⟨gg3, gg4⟩ := and_e gg2
  obtain ⟨w0, w1, rfl⟩ : ∃ w0 w1 : Value, args = #[w0, w1] := by
    have hs : args.size = 2 := by simpa [Cond.value, given_1] using gg1
    obtain ⟨L⟩ := args
    match L, hs with
    | [w0, w1], _ => exact ⟨w0, w1, rfl⟩
  have hw := fun d (hd : d ∈ tables_1) => atoms_spec (ws := Jvm.Cond.code x code maxLocals ret :: tables_1) hat d (List.mem_cons_of_mem _ hd)
  obtain ⟨i0, ei0⟩ := is_v gg3
  obtain rfl : w0 = (.int i0) := Option.some.inj ei0
  obtain ⟨i1, ei1⟩ := is_v gg4
  obtain rfl : w1 = (.int i1) := Option.some.inj ei1
  obtain ⟨n, o, h1, h2, h3, _, L, rfl, ⟨rfl, N⟩, hq⟩ := rm0 l s _ hw tables_1 i0 i1 s.heap s.heap.size (Nat.le_refl _) p e ha hc hk s m _ below hf ((Spec.applies_iff_loose hf).mp happ).1 ⟨rfl, State.Warmed39.refl s, rfl⟩ trivial
  refine ⟨n, _, h1, h2, h3, hpost _ _ _ _ _ _ ⟨Cond.after_iff.mpr rfl, Cond.after_iff.mpr (eq_i res_at (Term.int_eval (1)) rfl), trivial⟩ ⟨hq.1, hq.2.1, (hq.2.2.sift fun y hy => Or.inr (N y hy)).mono (by decide) (by decide)⟩⟩
theorem main_1_1 : Claimed_1_1 := comes_1 fun _ _ _ _ _ _ h hF => ⟨h.1, hF⟩
theorem main_1_2 : Claimed_1_2 := comes_1 fun _ _ _ _ _ _ h hF => ⟨h.2.1, hF⟩
end Jvm.Pilot.@@N@@
namespace Jvm.Pilot.@@N@@
open Jvm Jvm.ClassFile Sem Op Lib Jvm.Free Jvm.Stand Jvm.Pilot.@@N@@.Jvm.D
/-! MADE BY PROGRAM (witnessworld.py) out of the Statement's table words and the real class files: 9 classes; the members and pool entries that the words name. The judged class is class 1, her method 1. -/
namespace start1
open Jvm.ClassFile
def u (s : String) : CpInfo := .utf8 (stringToUtf16 s)
/-- a pool by its gaps: so many unusable entries, then the entry; so many at the end -/
def gap : Nat → List CpInfo → List CpInfo
  | 0, r => r
  | n + 1, r => .unusable :: gap n r
def poolList (es : List (Nat × CpInfo)) (last : Nat) : List CpInfo := es.foldr (fun e r => gap e.1 (e.2 :: r)) (gap last [])
def pool (es : List (Nat × CpInfo)) (last : Nat) : Array CpInfo := ⟨poolList es last⟩
def fileOf (pool : Array CpInfo) (this : Nat) (attrs : Array Attribute := #[]) (ms : Array MethodInfo := #[]) (fl : Nat := 33) (sup : Nat := 0) (ifs : Array Nat := #[]) (fds : Array FieldInfo := #[]) : ClassFile where
  minorVersion := 0
  majorVersion := 65
  constantPool := pool
  accessFlags := fl
  thisClass := this
  superClass := sup
  interfaces := ifs
  fields := fds
  methods := ms
  attributes := attrs
def plain (name : String) (sup : Option ClassId) : Class where
  name := name
  kind := .ordinary
  loader := none
  accessFlags := 33
  super := sup
  interfaces := #[]
  cf := none
  fields := #[]
  methods := #[]
  instanceTypes := #[]
  staticTypes := #[]
  resolved := #[]
  callSites := []
  init := .initialized
  statics := none
  mirror := none

def pool0 : Array CpInfo := pool [(5, u "<init>"), (0, u "()V"), (1, .class_ 10), (1, u "java/lang/Object")] 113

def k0m0 : Method := { name := "<init>", desc := "()V", sig := { parameters := [], returnType := none }, accessFlags := 1, code := none }
/-- java/lang/Object -/
def k0 : Class := { plain "java/lang/Object" none with
  accessFlags := 33
  interfaces := #[]
  cf := some (fileOf pool0 8 #[] #[{ accessFlags := 1, nameIndex := 5, descriptorIndex := 6, attributes := #[] }] 33 0 #[] #[])
  fields := #[]
  methods := #[k0m0]
  instanceTypes := #[]
  staticTypes := #[]
  resolved := Array.replicate 124 none
  statics := none }

def pool1 : Array CpInfo := pool [(2, .class_ 4), (1, u "java/lang/Object"), (0, u "<init>"), (0, u "()V"), (0, .integer 1073741823), (0, .methodref 9 10), (0, .class_ 11), (0, .nameAndType 12 13), (0, u "com/example/interpolith/interpolith/service/Literals"), (0, u "of"), (0, u "(IZ)I"), (0, .class_ 15), (0, u "com/example/interpolith/interpolith/service/LiteralsOfPinLaw"), (2, u "law"), (0, u "(II)Z")] 3

def k1m0 : Method := { name := "<init>", desc := "()V", sig := { parameters := [], returnType := none }, accessFlags := 2, code := none }
def k1c1 : Code := { maxStack := 3, maxLocals := 9, code := code, exceptionTable := #[], attributes := #[] }
def k1m1 : Method := { name := "law", desc := "(II)Z", sig := { parameters := [.int, .int], returnType := some .boolean }, accessFlags := 9, code := some k1c1 }
/-- com/example/interpolith/interpolith/service/LiteralsOfPinLaw -/
def k1 : Class := { plain "com/example/interpolith/interpolith/service/LiteralsOfPinLaw" (some 0) with
  accessFlags := 49
  interfaces := #[]
  cf := some (fileOf pool1 14 #[] #[{ accessFlags := 2, nameIndex := 5, descriptorIndex := 6, attributes := #[] }, { accessFlags := 9, nameIndex := 18, descriptorIndex := 19, attributes := #[] }] 49 2 #[] #[])
  fields := #[]
  methods := #[k1m0, k1m1]
  instanceTypes := #[]
  staticTypes := #[]
  resolved := Array.replicate 23 none
  statics := none }

def pool2 : Array CpInfo := pool [(2, .class_ 4), (1, u "java/lang/Object"), (0, u "<init>"), (0, u "()V"), (0, .class_ 8), (0, u "com/example/interpolith/interpolith/service/Literals"), (2, u "of"), (0, u "(IZ)I")] 8

def k2m0 : Method := { name := "<init>", desc := "()V", sig := { parameters := [], returnType := none }, accessFlags := 2, code := none }
def k2c1 : Code := { maxStack := 2, maxLocals := 2, code := prog_88_method_2_code, exceptionTable := #[], attributes := #[] }
def k2m1 : Method := { name := "of", desc := "(IZ)I", sig := { parameters := [.int, .boolean], returnType := some .int }, accessFlags := 8, code := some k2c1 }
/-- com/example/interpolith/interpolith/service/Literals -/
def k2 : Class := { plain "com/example/interpolith/interpolith/service/Literals" (some 0) with
  accessFlags := 48
  interfaces := #[]
  cf := some (fileOf pool2 7 #[] #[{ accessFlags := 2, nameIndex := 5, descriptorIndex := 6, attributes := #[] }, { accessFlags := 8, nameIndex := 11, descriptorIndex := 12, attributes := #[] }] 48 2 #[] #[])
  fields := #[]
  methods := #[k2m0, k2m1]
  instanceTypes := #[]
  staticTypes := #[]
  resolved := Array.replicate 21 none
  statics := none }

def pool3 : Array CpInfo := pool [(1, u "java/lang/Cloneable"), (0, .class_ 1), (0, u "java/lang/Object"), (0, .class_ 3)] 3

/-- java/lang/Cloneable -/
def k3 : Class := { plain "java/lang/Cloneable" (some 0) with
  accessFlags := 1537
  interfaces := #[]
  cf := some (fileOf pool3 2 #[] #[] 1537 4 #[] #[])
  fields := #[]
  methods := #[]
  instanceTypes := #[]
  staticTypes := #[]
  resolved := Array.replicate 8 none
  statics := none }

def pool4 : Array CpInfo := pool [(1, u "java/io/Serializable"), (0, .class_ 1), (0, u "java/lang/Object"), (0, .class_ 3)] 3

/-- java/io/Serializable -/
def k4 : Class := { plain "java/io/Serializable" (some 0) with
  accessFlags := 1537
  interfaces := #[]
  cf := some (fileOf pool4 2 #[] #[] 1537 4 #[] #[])
  fields := #[]
  methods := #[]
  instanceTypes := #[]
  staticTypes := #[]
  resolved := Array.replicate 8 none
  statics := none }

/-- the primitive byte -/
def k5 : Class := { plain "byte" none with kind := .primitive 'B', accessFlags := 0x411 }
/-- [B -/
def k6 : Class := { plain "[B" (some 0) with kind := .array 5 .byte, interfaces := #[3, 4], accessFlags := 1041 }

/-- the primitive int -/
def k7 : Class := { plain "int" none with kind := .primitive 'I', accessFlags := 0x411 }
/-- [I -/
def k8 : Class := { plain "[I" (some 0) with kind := .array 7 .int, interfaces := #[3, 4], accessFlags := 1041 }

def heap : Heap := #[]
def classes : Array Class := #[k0, k1, k2, k3, k4, k5, k6, k7, k8]
def interned : List (Array UInt16 × Addr) := []
def slotsUsed : Nat := 0
def theMethod : MethodId := ⟨1, 1⟩
def args0 : Array Value := #[.int 5, .int 5]
def aboutOver (below : List Frame) : State where
  vm := { classes := classes, interned := interned.toArray }
  heap := heap
  slotsUsed := slotsUsed
  threads := #[{ frames := .invoking theMethod args0 :: below }]
def below0 : List Frame := [.native { method := ⟨0, 0⟩, args := #[] }]
def about1 : State := aboutOver below0
def p0 : Program := .bare "" "" ""
def e0 : Env := launch0.env 0 0 0
theorem w_frames : about1.frames = Frame.invoking theMethod args0 :: below0 := rfl
set_option maxRecDepth 65536 in
theorem w_args : argsFit about1.vm theMethod args0 = true := by decide +kernel
set_option maxRecDepth 65536 in
theorem w_heap : heapFits about1 = true := by decide +kernel
set_option maxRecDepth 65536 in
theorem w_runnable : about1.curStatus? = some .runnable := by decide +kernel
set_option maxRecDepth 65536 in
theorem w_alone : about1.alone = true := by decide +kernel
set_option maxRecDepth 65536 in
theorem w_named : about1.methodNamed? x = some theMethod := by decide +kernel
set_option maxRecDepth 65536 in
theorem w_hears : about1.hears theMethod below0 = true := by decide +kernel
set_option maxRecDepth 65536 in
theorem w_ripe : about1.ripe theMethod args0 below0 = true := by decide +kernel
theorem w_running : about1.status = .running := rfl
set_option maxRecDepth 65536 in
theorem w_room : about1.hasRoom e0.platform room_1 = true :=
  launch0.hasRoom_least _ room_1 (by decide +kernel) (by decide +kernel) (by decide +kernel) (by decide +kernel) (by decide +kernel) (by decide +kernel)
theorem allAtoms_all (ts : List Jvm.Cond) (a : Array Jvm.Value) (st : Jvm.State) : (allAtoms ts).before a st = ts.all (fun c => c.before a st) := by
  induction ts with
  | nil => rfl
  | cons c t ih =>
    show (Jvm.Cond.and c (allAtoms t)).before a st = _
    rw [Jvm.Cond.before_and, ih, List.all_cons]
def words1 : List Jvm.Cond := Jvm.Cond.code x code maxLocals ret :: tables_1
/-- a 'code' word, met by the world's own term for the bytes: nothing is compared byte by byte -/
theorem code_word {y : MethodName} {bytes : ByteArray} {mx : Nat} {rt : Option FieldType} {a : Array Value} {s : State} {m : MethodId} {meth : Method} {c : Code} (h1 : s.methodNamed? y = some m) (h2 : s.vm.method? m = some meth) (h3 : meth.code = some c) (h4 : c.code = bytes)
    (h5 : (c.maxLocals == mx && c.exceptionTable.isEmpty && decide (c.maxStack ≤ mostOperands) && decide (meth.sig.returnType = rt) && !meth.locks && decide (parseMethodDescriptor y.desc = some meth.sig)) = true) : (Jvm.Cond.code y bytes mx rt).before a s = true := by
  simp only [Bool.and_eq_true, beq_iff_eq, Bool.not_eq_true', decide_eq_true_eq] at h5
  obtain ⟨⟨⟨⟨⟨g1, g2⟩, g3⟩, g4⟩, g5⟩, g6⟩ := h5
  simp [Cond.before, Cond.holds, Cond.value, h1, h2, h3, h4, g1, g2, g3, g4, g5, g6]
def isCode : Jvm.Cond → Bool
  | .code _ _ _ _ => true
  | _ => false
theorem all_split {L : List Jvm.Cond} {P : Jvm.Cond → Bool} (h1 : L.all (fun c => isCode c || P c) = true) (h2 : ∀ c ∈ L.filter isCode, P c = true) : L.all P = true := by
  refine List.all_eq_true.mpr fun c hc => ?_
  have h := List.all_eq_true.mp h1 c hc
  rcases Bool.eq_false_or_eq_true (isCode c) with hi | hi
  · exact h2 c (List.mem_filter.mpr ⟨hc, hi⟩)
  · simpa [hi] using h
set_option maxRecDepth 65536 in
theorem w_c0 : (Jvm.Cond.code x code maxLocals ret).before args0 about1 = true := code_word (m := ⟨1, 1⟩) (meth := k1m1) (c := k1c1) (by decide +kernel) rfl rfl rfl (by decide +kernel)
set_option maxRecDepth 65536 in
theorem w_c1 : (Jvm.Cond.code ({ cls := "com/example/interpolith/interpolith/service/Literals", name := "of", desc := "(IZ)I" } : Jvm.MethodName) prog_88_method_2_code (2 : Nat) (Option.some Jvm.ClassFile.FieldType.int)).before args0 about1 = true := code_word (m := ⟨2, 1⟩) (meth := k2m1) (c := k2c1) (by decide +kernel) rfl rfl rfl (by decide +kernel)
def codes1 : List Jvm.Cond := [Jvm.Cond.code x code maxLocals ret, Jvm.Cond.code ({ cls := "com/example/interpolith/interpolith/service/Literals", name := "of", desc := "(IZ)I" } : Jvm.MethodName) prog_88_method_2_code (2 : Nat) (Option.some Jvm.ClassFile.FieldType.int)]
set_option maxRecDepth 65536 in
theorem codes_eq : words1.filter isCode = codes1 := rfl
theorem w_codes : ∀ c ∈ words1.filter isCode, c.before args0 about1 = true := by
  rw [codes_eq]
  intro c hc
  simp only [codes1, List.mem_cons, List.not_mem_nil, or_false] at hc
  rcases hc with rfl | rfl
  · exact w_c0
  · exact w_c1
set_option maxRecDepth 65536 in
theorem w_t1 : words1.all (fun c => isCode c || c.before args0 about1) = true := by decide +kernel
theorem w_tables : (allAtoms (Jvm.Cond.code x code maxLocals ret :: tables_1)).before args0 about1 = true := by
  rw [allAtoms_all]
  show words1.all (fun c => c.before args0 about1) = true
  refine all_split ?_ w_codes
  rw [w_t1]
set_option maxRecDepth 65536 in
theorem w_case : (Jvm.Cond.and given_1 narrow_1).before args0 about1 = true := by decide +kernel
theorem w_applies : (headSpec (Jvm.Cond.code x code maxLocals ret :: tables_1) room_1).applies x e0.platform about1 = true :=
  (Spec.applies_iff w_frames).mpr ⟨w_running, w_runnable, w_alone, w_named, w_hears, w_ripe, w_room, w_tables⟩
theorem atStart : AtStart classFile x code maxLocals ret World_1 tables_1 room_1 Calls_1 rest_1 Pre_1 launch0 p0 e0 about1 theMethod args0 below0 :=
  ⟨lists_1, trivial, launch0.admits_env _ _ _, launch0.least_env, fairChoices_fair.cas, fairChoices_fair.clock, w_frames, w_args, w_heap, w_applies, trivial, trivial, w_case⟩
end start1
theorem witness_1 : WitnessClaimed_1 := ⟨start1.p0, start1.e0, start1.about1, start1.theMethod, start1.args0, start1.below0, start1.atStart⟩
end Jvm.Pilot.@@N@@
