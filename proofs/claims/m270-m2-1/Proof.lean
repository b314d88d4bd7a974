import JvmDerived
import JvmDerived.Pilot.@@N@@Statement
import JvmDerived.Pilot.@@N@@Code
set_option linter.unusedVariables false
set_option linter.unusedSimpArgs false
@@BLOCK:NumsL.lean.txt@@
namespace Jvm.RoadKit
open Sem ClassFile Op Lib Jvm.Stand Jvm.Free Jvm.LawKit
section New
variable {p : Program} {l : Launch} {e : Env} {R : Room} {s : State} {m : MethodId} {args : Array Value} {below : List Frame} {meth : Method} {c : Code} {T : State} {locs : List Loc} {cells slots : Nat}
theorem retI (X : Stand p l e R s m args below meth c T locs cells slots) (hx : p.tables.exec = Jvm.exec) {pc : Nat} {Ls : Array Slot} {z : Int32} {rest : List Value} (hret : meth.sig.returnType = some .int) (hd : decode c.code pc = .ok (.ireturn, 1)) {fs : List Frame}
    (hl : ∀ (f : JFrame) (acts : List Action), f.method = m → f.locked = none → f.entered = [] → (doReturn e (T.setTop f) acts (some (.int z))).1 = T.setFrames fs) : Steps p.tables e below (T.setTop (mkF m pc Ls (.int z :: rest))) (T.setFrames fs) :=
  retOut X hx hret rfl (Or.inl ⟨rfl, Or.inl rfl, z, rfl⟩) hd hl
theorem retJ (X : Stand p l e R s m args below meth c T locs cells slots) (hx : p.tables.exec = Jvm.exec) {pc : Nat} {Ls : Array Slot} {z : Int64} {rest : List Value} (hret : meth.sig.returnType = some .long) (hd : decode c.code pc = .ok (.lreturn, 1)) {fs : List Frame}
    (hl : ∀ (f : JFrame) (acts : List Action), f.method = m → f.locked = none → f.entered = [] → (doReturn e (T.setTop f) acts (some (.long z))).1 = T.setFrames fs) : Steps p.tables e below (T.setTop (mkF m pc Ls (.long z :: rest))) (T.setFrames fs) :=
  retOut X hx hret rfl (Or.inr (Or.inl ⟨rfl, rfl, z, rfl⟩)) hd hl
theorem retA (X : Stand p l e R s m args below meth c T locs cells slots) (hx : p.tables.exec = Jvm.exec) {pc : Nat} {Ls : Array Slot} {w : Value} {t : FieldType} {rest : List Value} (hret : meth.sig.returnType = some t) (ht : t.isReference = true) (hn : narrow t w = w) (hw : w.isRef = true) (hd : decode c.code pc = .ok (.areturn, 1)) {fs : List Frame}
    (hl : ∀ (f : JFrame) (acts : List Action), f.method = m → f.locked = none → f.entered = [] → (doReturn e (T.setTop f) acts (some w)).1 = T.setFrames fs) : Steps p.tables e below (T.setTop (mkF m pc Ls (w :: rest))) (T.setFrames fs) :=
  retOut X hx hret hn (Or.inr (Or.inr (Or.inr (Or.inr ⟨rfl, ht, hw⟩)))) hd hl
/-- what an array of ints that is written down holds at a place -/
def own_at (vs : List Value) (d : Value) (j : Int32) : Int32 := match vs.getD j.toNatClampNeg d with | .int x => x | _ => 0
def own_ints (vs : List Value) : Bool := vs.all fun v => match v with | .int _ => true | _ => false
theorem own_at_eq {vs : List Value} {d : Value} (h : own_ints (d :: vs) = true) (j : Int32) : vs.getD j.toNatClampNeg d = .int (own_at vs d j) := by
  have q : vs.getD j.toNatClampNeg d ∈ d :: vs := by
    rw [List.getD_eq_getElem?_getD]
    cases e : vs[j.toNatClampNeg]? with
    | none => simp
    | some w => exact List.mem_cons_of_mem _ (List.mem_of_getElem? e)
  have r := List.all_eq_true.mp h _ q
  unfold own_at
  cases e : vs.getD j.toNatClampNeg d <;> rw [e] at r <;> first | rfl | cases r
/-- a piece of a road from the frame F to the frame G, by whatever states between -/
theorem own_seg (X : Stand p l e R s m args below meth c T locs cells slots) (h : Heap) (F G : JFrame)
    (k : ∃ T', Stand p l e R s m args below meth c T' locs cells slots ∧ T'.heap = h ∧ ∀ target, Steps p.tables e below (T'.setTop G) target → Steps p.tables e below (T.setTop F) target) :
    ∃ T', Stand p l e R s m args below meth c T' locs cells slots ∧ T'.heap = h ∧ ∀ target, Steps p.tables e below (T'.setTop G) target → Steps p.tables e below (T.setTop F) target := k
end New
end Jvm.RoadKit
namespace Jvm.Pilot.@@N@@
open Jvm Jvm.ClassFile Sem Op Lib Jvm.Free Jvm.Stand Jvm.LawKit Jvm.RoadKit Bundle Jvm.Pilot.@@N@@.Jvm.D
theorem d1_0 : decode prog_10_method_3_code 0 = .ok (.iconst 2, 1) := by decide +kernel
theorem d1_1 : decode prog_10_method_3_code 1 = .ok (.istore_n 1, 1) := by decide +kernel
theorem d1_2 : decode prog_10_method_3_code 2 = .ok (.iload_n 1, 1) := by decide +kernel
theorem d1_3 : decode prog_10_method_3_code 3 = .ok (.ldc 33, 2) := by decide +kernel
theorem d1_5 : decode prog_10_method_3_code 5 = .ok (.if_icmp .ge 26, 3) := by decide +kernel
theorem d1_8 : decode prog_10_method_3_code 8 = .ok (.ldc2_w 34, 3) := by decide +kernel
theorem d1_11 : decode prog_10_method_3_code 11 = .ok (.iload_n 1, 1) := by decide +kernel
theorem d1_12 : decode prog_10_method_3_code 12 = .ok (.i2l, 1) := by decide +kernel
theorem d1_13 : decode prog_10_method_3_code 13 = .ok (.lmul, 1) := by decide +kernel
theorem d1_14 : decode prog_10_method_3_code 14 = .ok (.ldc2_w 36, 3) := by decide +kernel
theorem d1_17 : decode prog_10_method_3_code 17 = .ok (.iload_n 0, 1) := by decide +kernel
theorem d1_18 : decode prog_10_method_3_code 18 = .ok (.i2l, 1) := by decide +kernel
theorem d1_19 : decode prog_10_method_3_code 19 = .ok (.lmul, 1) := by decide +kernel
theorem d1_20 : decode prog_10_method_3_code 20 = .ok (.lcmp, 1) := by decide +kernel
theorem d1_21 : decode prog_10_method_3_code 21 = .ok (.ifCond .gt 10, 3) := by decide +kernel
theorem d1_24 : decode prog_10_method_3_code 24 = .ok (.iload_n 1, 1) := by decide +kernel
theorem d1_25 : decode prog_10_method_3_code 25 = .ok (.iconst 1, 1) := by decide +kernel
theorem d1_26 : decode prog_10_method_3_code 26 = .ok (.ishl, 1) := by decide +kernel
theorem d1_27 : decode prog_10_method_3_code 27 = .ok (.istore_n 1, 1) := by decide +kernel
theorem d1_28 : decode prog_10_method_3_code 28 = .ok (.goto (-26), 3) := by decide +kernel
theorem d1_31 : decode prog_10_method_3_code 31 = .ok (.iload_n 1, 1) := by decide +kernel
theorem d1_32 : decode prog_10_method_3_code 32 = .ok (.ireturn, 1) := by decide +kernel
/-- the loop, k turns left at the most -/
def own_loop : Nat → Int32 → Int32 → Int32
  | 0, _, b => b
  | k + 1, x, b => if b < (1073741824 : Int32) then (if (4 : Int64) * (x.toInt64) < (3 : Int64) * (b.toInt64) then b else own_loop k x (b <<< ((1 : Int32) &&& 31))) else b
def own_inv (k : Nat) (b : Int32) : Prop := 1 ≤ b.toInt ∧ b.toInt * 2 ^ k = 2 ^ 30
theorem own_loop0 {x b : Int32} : own_loop 0 x b = b := rfl
theorem own_loopE {k : Nat} {x b : Int32} (h1 : ¬ b < (1073741824 : Int32)) : own_loop (k + 1) x b = b := by
  show (if b < (1073741824 : Int32) then _ else b) = b
  exact if_neg h1
theorem own_loopX {k : Nat} {x b : Int32} (h1 : b < (1073741824 : Int32)) (h2 : (4 : Int64) * (x.toInt64) < (3 : Int64) * (b.toInt64)) : own_loop (k + 1) x b = b := by
  show (if b < (1073741824 : Int32) then (if (4 : Int64) * (x.toInt64) < (3 : Int64) * (b.toInt64) then b else _) else b) = b
  rw [if_pos h1, if_pos h2]
theorem own_loopT {k : Nat} {x b : Int32} (h1 : b < (1073741824 : Int32)) (h2 : ¬ (4 : Int64) * (x.toInt64) < (3 : Int64) * (b.toInt64)) : own_loop (k + 1) x b = own_loop k x (b <<< ((1 : Int32) &&& 31)) := by
  show (if b < (1073741824 : Int32) then (if (4 : Int64) * (x.toInt64) < (3 : Int64) * (b.toInt64) then b else _) else b) = _
  rw [if_pos h1, if_neg h2]
theorem own_m : (1073741824 : Int32).toInt = 1073741824 := rfl
theorem own_inv0 {b : Int32} (hI : own_inv 0 b) : ¬ b < (1073741824 : Int32) := by
  obtain ⟨h1, h2⟩ := hI
  rw [Int32.lt_iff_toInt_lt, own_m]; omega
theorem own_shl {b : Int32} (h0 : 1 ≤ b.toInt) (h1 : b < (1073741824 : Int32)) : (b <<< ((1 : Int32) &&& 31)).toInt = b.toInt * 2 := by
  rw [Int32.lt_iff_toInt_lt, own_m] at h1
  exact Jvm.Kit.i32_shl b ((1 : Int32) &&& 31) (k := 1) (by decide) (by omega) (by omega)
theorem own_invS {k : Nat} {b : Int32} (hI : own_inv (k + 1) b) (h1 : b < (1073741824 : Int32)) : own_inv k (b <<< ((1 : Int32) &&& 31)) := by
  obtain ⟨q1, q2⟩ := hI
  have e := own_shl q1 h1
  refine ⟨by omega, ?_⟩
  rw [e, ← q2, Int.pow_succ, Int.mul_assoc, Int.mul_comm 2]

set_option maxRecDepth 65536 in
set_option maxHeartbeats 40000000 in
theorem loop1 {p : Program} {l : Launch} {e : Env} {R : Room} {s : State} {m : MethodId} {args : Array Value} {below : List Frame} {meth : Method} {c : Code} {T0 : State} {locs : List Loc} {cells slots : Nat} {Z : State} {a0 : Array Value} (X0 : Stand p l e R s m args below meth c T0 locs cells slots) (hx : p.tables.exec = Jvm.exec) (hZ : Z.Warmed39 s.vm) (hw : ∀ d ∈ tables_1, d.before a0 Z = true) (hby : c.code = prog_10_method_3_code) (hown : s.vm.findClass "io/swarmtable/Swarmtable" = some m.cls) (p0 : Int32) : ∀ (k : Nat) (b : Int32), own_inv k b → ∀ target, Steps p.tables e below (T0.setTop (mkF m 31 #[.val (.int p0), .val (.int (own_loop k p0 b))] [])) target → Steps p.tables e below (T0.setTop (mkF m 2 #[.val (.int p0), .val (.int b)] [])) target := by
  intro k
  induction k with
  | zero =>
    intro b hI target kt
    have h1 : ¬ (b < (1073741824 : Int32)) := own_inv0 hI
    rw [own_loop0] at kt
    show Steps p.tables e below (T0.setTop (mkF m 2 #[.val (.int p0), .val (.int b)] [])) _
    refine XS.iloadN X0.here hx rfl (hb hby d1_2) rfl ?_
    show Steps p.tables e below (T0.setTop (mkF m 3 #[.val (.int p0), .val (.int b)] [(.int b)])) _
    refine X0.ldcInt hx hown (mvT hZ (hw _ (List.mem_of_getElem? (i := 4) rfl))) (g := (mkF m 3 #[.val (.int p0), .val (.int b)] [(.int b)])) rfl (hb hby d1_3) _ ?_
    show Steps p.tables e below (T0.setTop (mkF m 5 #[.val (.int p0), .val (.int b)] [(.int (1073741824 : Int32)), (.int b)])) _
    refine XS.icmpYes X0.here hx rfl (pc0 := 5) (pc' := 31) rfl (hb hby d1_5) rfl (flt h1).2.1 (by decide) (by decide) ?_
    exact kt
  | succ k ih =>
    intro b hI target kt
    by_cases h1 : b < (1073741824 : Int32)
    · by_cases h2 : (4 : Int64) * (p0.toInt64) < (3 : Int64) * (b.toInt64)
      · rw [own_loopX h1 h2] at kt
        show Steps p.tables e below (T0.setTop (mkF m 2 #[.val (.int p0), .val (.int b)] [])) _
        refine XS.iloadN X0.here hx rfl (hb hby d1_2) rfl ?_
        show Steps p.tables e below (T0.setTop (mkF m 3 #[.val (.int p0), .val (.int b)] [(.int b)])) _
        refine X0.ldcInt hx hown (mvT hZ (hw _ (List.mem_of_getElem? (i := 4) rfl))) (g := (mkF m 3 #[.val (.int p0), .val (.int b)] [(.int b)])) rfl (hb hby d1_3) _ ?_
        show Steps p.tables e below (T0.setTop (mkF m 5 #[.val (.int p0), .val (.int b)] [(.int (1073741824 : Int32)), (.int b)])) _
        refine XS.icmpNo X0.here hx rfl (hb hby d1_5) rfl (tlt h1).2.1 ?_
        show Steps p.tables e below (T0.setTop (mkF m 8 #[.val (.int p0), .val (.int b)] [])) _
        refine X0.ldc2Long hx hown (mvT hZ (hw _ (List.mem_of_getElem? (i := 5) rfl))) (g := (mkF m 8 #[.val (.int p0), .val (.int b)] [])) rfl (hb hby d1_8) _ ?_
        show Steps p.tables e below (T0.setTop (mkF m 11 #[.val (.int p0), .val (.int b)] [(.long (3 : Int64))])) _
        refine XS.iloadN X0.here hx rfl (hb hby d1_11) rfl ?_
        show Steps p.tables e below (T0.setTop (mkF m 12 #[.val (.int p0), .val (.int b)] [(.int b), (.long (3 : Int64))])) _
        refine XS.i2l X0.here hx rfl (hb hby d1_12) rfl ?_
        show Steps p.tables e below (T0.setTop (mkF m 13 #[.val (.int p0), .val (.int b)] [(.long (b.toInt64)), (.long (3 : Int64))])) _
        refine XS.lmul X0.here hx rfl (hb hby d1_13) rfl ?_
        show Steps p.tables e below (T0.setTop (mkF m 14 #[.val (.int p0), .val (.int b)] [(.long ((3 : Int64) * (b.toInt64)))])) _
        refine X0.ldc2Long hx hown (mvT hZ (hw _ (List.mem_of_getElem? (i := 6) rfl))) (g := (mkF m 14 #[.val (.int p0), .val (.int b)] [(.long ((3 : Int64) * (b.toInt64)))])) rfl (hb hby d1_14) _ ?_
        show Steps p.tables e below (T0.setTop (mkF m 17 #[.val (.int p0), .val (.int b)] [(.long (4 : Int64)), (.long ((3 : Int64) * (b.toInt64)))])) _
        refine XS.iloadN X0.here hx rfl (hb hby d1_17) rfl ?_
        show Steps p.tables e below (T0.setTop (mkF m 18 #[.val (.int p0), .val (.int b)] [(.int p0), (.long (4 : Int64)), (.long ((3 : Int64) * (b.toInt64)))])) _
        refine XS.i2l X0.here hx rfl (hb hby d1_18) rfl ?_
        show Steps p.tables e below (T0.setTop (mkF m 19 #[.val (.int p0), .val (.int b)] [(.long (p0.toInt64)), (.long (4 : Int64)), (.long ((3 : Int64) * (b.toInt64)))])) _
        refine XS.lmul X0.here hx rfl (hb hby d1_19) rfl ?_
        show Steps p.tables e below (T0.setTop (mkF m 20 #[.val (.int p0), .val (.int b)] [(.long ((4 : Int64) * (p0.toInt64))), (.long ((3 : Int64) * (b.toInt64)))])) _
        refine XS.lcmp X0.here hx rfl (hb hby d1_20) rfl ?_
        show Steps p.tables e below (T0.setTop (mkF m 21 #[.val (.int p0), .val (.int b)] [(.int (lcmpW ((3 : Int64) * (b.toInt64)) ((4 : Int64) * (p0.toInt64))))])) _
        refine XS.ifYes X0.here hx rfl (pc0 := 21) (pc' := 31) rfl (hb hby d1_21) rfl ((if0 _ _).trans (tlt ((lw_gt _ _).mpr h2)).2.2.1) (by decide) (by decide) ?_
        exact kt
      · rw [own_loopT h1 h2] at kt
        show Steps p.tables e below (T0.setTop (mkF m 2 #[.val (.int p0), .val (.int b)] [])) _
        refine XS.iloadN X0.here hx rfl (hb hby d1_2) rfl ?_
        show Steps p.tables e below (T0.setTop (mkF m 3 #[.val (.int p0), .val (.int b)] [(.int b)])) _
        refine X0.ldcInt hx hown (mvT hZ (hw _ (List.mem_of_getElem? (i := 4) rfl))) (g := (mkF m 3 #[.val (.int p0), .val (.int b)] [(.int b)])) rfl (hb hby d1_3) _ ?_
        show Steps p.tables e below (T0.setTop (mkF m 5 #[.val (.int p0), .val (.int b)] [(.int (1073741824 : Int32)), (.int b)])) _
        refine XS.icmpNo X0.here hx rfl (hb hby d1_5) rfl (tlt h1).2.1 ?_
        show Steps p.tables e below (T0.setTop (mkF m 8 #[.val (.int p0), .val (.int b)] [])) _
        refine X0.ldc2Long hx hown (mvT hZ (hw _ (List.mem_of_getElem? (i := 5) rfl))) (g := (mkF m 8 #[.val (.int p0), .val (.int b)] [])) rfl (hb hby d1_8) _ ?_
        show Steps p.tables e below (T0.setTop (mkF m 11 #[.val (.int p0), .val (.int b)] [(.long (3 : Int64))])) _
        refine XS.iloadN X0.here hx rfl (hb hby d1_11) rfl ?_
        show Steps p.tables e below (T0.setTop (mkF m 12 #[.val (.int p0), .val (.int b)] [(.int b), (.long (3 : Int64))])) _
        refine XS.i2l X0.here hx rfl (hb hby d1_12) rfl ?_
        show Steps p.tables e below (T0.setTop (mkF m 13 #[.val (.int p0), .val (.int b)] [(.long (b.toInt64)), (.long (3 : Int64))])) _
        refine XS.lmul X0.here hx rfl (hb hby d1_13) rfl ?_
        show Steps p.tables e below (T0.setTop (mkF m 14 #[.val (.int p0), .val (.int b)] [(.long ((3 : Int64) * (b.toInt64)))])) _
        refine X0.ldc2Long hx hown (mvT hZ (hw _ (List.mem_of_getElem? (i := 6) rfl))) (g := (mkF m 14 #[.val (.int p0), .val (.int b)] [(.long ((3 : Int64) * (b.toInt64)))])) rfl (hb hby d1_14) _ ?_
        show Steps p.tables e below (T0.setTop (mkF m 17 #[.val (.int p0), .val (.int b)] [(.long (4 : Int64)), (.long ((3 : Int64) * (b.toInt64)))])) _
        refine XS.iloadN X0.here hx rfl (hb hby d1_17) rfl ?_
        show Steps p.tables e below (T0.setTop (mkF m 18 #[.val (.int p0), .val (.int b)] [(.int p0), (.long (4 : Int64)), (.long ((3 : Int64) * (b.toInt64)))])) _
        refine XS.i2l X0.here hx rfl (hb hby d1_18) rfl ?_
        show Steps p.tables e below (T0.setTop (mkF m 19 #[.val (.int p0), .val (.int b)] [(.long (p0.toInt64)), (.long (4 : Int64)), (.long ((3 : Int64) * (b.toInt64)))])) _
        refine XS.lmul X0.here hx rfl (hb hby d1_19) rfl ?_
        show Steps p.tables e below (T0.setTop (mkF m 20 #[.val (.int p0), .val (.int b)] [(.long ((4 : Int64) * (p0.toInt64))), (.long ((3 : Int64) * (b.toInt64)))])) _
        refine XS.lcmp X0.here hx rfl (hb hby d1_20) rfl ?_
        show Steps p.tables e below (T0.setTop (mkF m 21 #[.val (.int p0), .val (.int b)] [(.int (lcmpW ((3 : Int64) * (b.toInt64)) ((4 : Int64) * (p0.toInt64))))])) _
        refine XS.ifNo X0.here hx rfl (hb hby d1_21) rfl ((if0 _ _).trans (flt (fun q => h2 ((lw_gt _ _).mp q))).2.2.1) ?_
        show Steps p.tables e below (T0.setTop (mkF m 24 #[.val (.int p0), .val (.int b)] [])) _
        refine XS.iloadN X0.here hx rfl (hb hby d1_24) rfl ?_
        show Steps p.tables e below (T0.setTop (mkF m 25 #[.val (.int p0), .val (.int b)] [(.int b)])) _
        refine XS.iconst X0.here hx rfl (hb hby d1_25) ?_
        show Steps p.tables e below (T0.setTop (mkF m 26 #[.val (.int p0), .val (.int b)] [(.int (1 : Int32)), (.int b)])) _
        refine XS.ishl X0.here hx rfl (hb hby d1_26) rfl ?_
        show Steps p.tables e below (T0.setTop (mkF m 27 #[.val (.int p0), .val (.int b)] [(.int (b <<< ((1 : Int32) &&& 31)))])) _
        refine XS.istoreN X0.here hx rfl (hb hby d1_27) rfl (l' := #[.val (.int p0), .val (.int (b <<< ((1 : Int32) &&& 31)))]) rfl ?_
        show Steps p.tables e below (T0.setTop (mkF m 28 #[.val (.int p0), .val (.int (b <<< ((1 : Int32) &&& 31)))] [])) _
        refine XS.goto X0.here hx rfl (pc0 := 28) (pc' := 2) rfl (hb hby d1_28) (by decide) (by decide) ?_
        exact ih _ (own_invS hI h1) target kt
    · rw [own_loopE h1] at kt
      show Steps p.tables e below (T0.setTop (mkF m 2 #[.val (.int p0), .val (.int b)] [])) _
      refine XS.iloadN X0.here hx rfl (hb hby d1_2) rfl ?_
      show Steps p.tables e below (T0.setTop (mkF m 3 #[.val (.int p0), .val (.int b)] [(.int b)])) _
      refine X0.ldcInt hx hown (mvT hZ (hw _ (List.mem_of_getElem? (i := 4) rfl))) (g := (mkF m 3 #[.val (.int p0), .val (.int b)] [(.int b)])) rfl (hb hby d1_3) _ ?_
      show Steps p.tables e below (T0.setTop (mkF m 5 #[.val (.int p0), .val (.int b)] [(.int (1073741824 : Int32)), (.int b)])) _
      refine XS.icmpYes X0.here hx rfl (pc0 := 5) (pc' := 31) rfl (hb hby d1_5) rfl (flt h1).2.1 (by decide) (by decide) ?_
      exact kt

theorem pn_1 : plainName "io/swarmtable/Swarmtable" = true := by first | (simp [plainName, overriddenIn]; done) | decide +kernel
theorem ef_1 (m : MethodId) (p0 : Int32) : entryFrame m #[(.int p0)] 2 = mkF m 0 #[.val (.int p0), .unset] [] := by first | (simp [entryFrame, mkF, argsToLocals, Value.category]; done) | rfl
def F1 (p0 : Int32) : Int32 := (own_loop 29 p0 2)
def Q1 (Z : State) (p0 : Int32) (h0 : Heap) (n0 : Nat) (v : Option Value) (h : Heap) (L : List Loc) : Prop := v = some (.int (F1 p0)) ∧ L = [] ∧ h = h0
set_option maxRecDepth 65536 in
set_option maxHeartbeats 40000000 in
theorem rm1 (l : Launch) (Z : State) (a0 : Array Value) (hw : ∀ d ∈ tables_1, d.before a0 Z = true) (ws : List Jvm.Cond) (p0 : Int32) (h0 : Heap) (n0 : Nat) (Z0 : n0 ≤ h0.size) :
    MetFree l (⟨"io/swarmtable/Swarmtable", "binsFor", "(I)I"⟩ : MethodName) (head1 (Jvm.Cond.code (⟨"io/swarmtable/Swarmtable", "binsFor", "(I)I"⟩ : MethodName) prog_10_method_3_code 2 (some .int) :: ws) ({ frames := 0, cells := 0, slots := 0, locals := 0 } : Room)) (fun a U => a = #[(.int p0)] ∧ Z.Warmed39 U.vm ∧ U.heap = h0) (fun _ _ _ _ _ => True) (fun _ U o U' => ∃ v L, o = .returned v ∧ Q1 Z p0 h0 n0 v U'.heap L ∧ FrameEnd U o U' L ({ frames := 0, cells := 0, slots := 0, locals := 0 } : Room).cells ({ frames := 0, cells := 0, slots := 0, locals := 0 } : Room).slots) := by
  refine MetFree.of_bodySF (plainFor_of_name pn_1) hisR ?_
  intro p e s m args below meth c s₁ Bd hml0 hP hK
  obtain ⟨rfl, hZ, hh⟩ := hP
  have hx := Bd.exec
  have hby := Bd.bytes
  have hml : c.maxLocals = 2 := hml0
  have hown : s.vm.findClass "io/swarmtable/Swarmtable" = some m.cls := findClass_of_methodNamed Bd.named
  have hnm := (name_of_methodNamed Bd.named Bd.method).1
  have X0 : Stand p l e ({ frames := 0, cells := 0, slots := 0, locals := 0 } : Room) s m #[(.int p0)] below meth c s₁ [] 0 0 := Stand.of_body Bd
  have e0 : s₁.heap = h0 := by rw [← hh, Bd.state]; rfl
  have N0 := Fr.nil n0
  have pre0 : ∀ t, Steps p.tables e below (s₁.setTop (mkF m 0 #[.val (.int p0), .unset] [])) t → Steps p.tables e below (s₁.setTop (entryFrame m #[(.int p0)] 2)) t := fun t k => castTop (ef_1 m p0) k
  have hfin : (own_loop 29 p0 2) = F1 p0 := by
    unfold F1
    first | rfl | (repeat' split) <;> rfl
  obtain ⟨fs, hr, hrun, hended, hW, hsame⟩ := X0.leave (v := some (.int (own_loop 29 p0 2))) (fun h => by rw [Bd.returns] at h; cases h)
  refine ⟨_, _, pre0 _ ?_, hrun, hended, _, _, rfl, ?_, ⟨_, rfl⟩, hW, hsame.mono (by decide) (by decide)⟩
  · show Steps p.tables e below (s₁.setTop (mkF m 0 #[.val (.int p0), .unset] [])) _
    refine XS.iconst X0.here hx rfl (hb hby d1_0) ?_
    show Steps p.tables e below (s₁.setTop (mkF m 1 #[.val (.int p0), .unset] [(.int (2 : Int32))])) _
    refine XS.istoreN X0.here hx rfl (hb hby d1_1) rfl (l' := #[.val (.int p0), .val (.int (2 : Int32))]) rfl ?_
    show Steps p.tables e below (s₁.setTop (mkF m 2 #[.val (.int p0), .val (.int (2 : Int32))] [])) _
    refine loop1 X0 hx hZ hw hby hown p0 29 2 ⟨by decide, by decide⟩ _ ?_
    show Steps p.tables e below (s₁.setTop (mkF m 31 #[.val (.int p0), .val (.int (own_loop 29 p0 2))] [])) _
    refine XS.iloadN X0.here hx rfl (hb hby d1_31) rfl ?_
    show Steps p.tables e below (s₁.setTop (mkF m 32 #[.val (.int p0), .val (.int (own_loop 29 p0 2))] [(.int (own_loop 29 p0 2))])) _
    exact retI X0 hx Bd.returns (hb hby d1_32) hr
  · show Q1 Z p0 h0 n0 _ s₁.heap _
    exact ⟨congrArg (fun z => some (Value.int z)) hfin, rfl, e0⟩
/-- what the loop leaves -/
theorem own_res (x : Int32) : ∀ (k : Nat) (b : Int32), own_inv k b → ∃ j : Nat, j ≤ k ∧ (own_loop k x b).toInt = b.toInt * 2 ^ j ∧
    (own_loop k x b = (1073741824 : Int32) ∨ (4 : Int64) * (x.toInt64) < (3 : Int64) * ((own_loop k x b).toInt64)) ∧
    (own_loop k x b = b ∨ ¬ (4 : Int64) * (x.toInt64) < (3 : Int64) * (((own_loop k x b) >>> ((1 : Int32) &&& 31)).toInt64)) := by
  intro k
  induction k with
  | zero =>
    intro b hI
    refine ⟨0, Nat.le_refl _, ?_, Or.inl ?_, Or.inl rfl⟩
    · rw [own_loop0]; omega
    · rw [own_loop0]; obtain ⟨h1, h2⟩ := hI; apply Int32.toInt_inj.mp; rw [own_m]; omega
  | succ k ih =>
    intro b hI
    by_cases h1 : b < (1073741824 : Int32)
    · by_cases h2 : (4 : Int64) * (x.toInt64) < (3 : Int64) * (b.toInt64)
      · refine ⟨0, Nat.zero_le _, ?_, Or.inr ?_, Or.inl (own_loopX h1 h2)⟩
        · rw [own_loopX h1 h2]; omega
        · rw [own_loopX h1 h2]; exact h2
      · obtain ⟨j, j1, j2, j3, j4⟩ := ih _ (own_invS hI h1)
        have e := own_shl hI.1 h1
        rw [own_loopT h1 h2]
        refine ⟨j + 1, by omega, ?_, j3, Or.inr ?_⟩
        · rw [j2, e, Int.pow_succ, Int.mul_assoc, Int.mul_comm 2]
        · rcases j4 with j4 | j4
          · have q : (b <<< ((1 : Int32) &&& 31)) >>> ((1 : Int32) &&& 31) = b := by
              apply Int32.toInt_inj.mp
              have s := Jvm.Kit.i32_shr (b <<< ((1 : Int32) &&& 31)) ((1 : Int32) &&& 31) (k := 1) (by decide)
              rw [s, e]; omega
            rw [j4, q]; exact h2
          · exact j4
    · refine ⟨0, Nat.zero_le _, ?_, Or.inl ?_, Or.inl (own_loopE h1)⟩
      · rw [own_loopE h1]; omega
      · rw [own_loopE h1]
        obtain ⟨q1, q2⟩ := hI
        rw [Int32.lt_iff_toInt_lt, own_m] at h1
        apply Int32.toInt_inj.mp; rw [own_m]
        have p1 : (1 : Int) ≤ 2 ^ (k + 1) := Int.pow_pos (by decide)
        have p2 : b.toInt * 1 ≤ b.toInt * 2 ^ (k + 1) := Int.mul_le_mul_of_nonneg_left p1 (by omega)
        omega
theorem own_two : ∀ j : Fin 30, (Int32.ofNat (2 ^ (j.val + 1)) &&& (Int32.ofNat (2 ^ (j.val + 1)) - (1 : Int32))) = (0 : Int32) ∧ (0 : Int32) < Int32.ofNat (2 ^ (j.val + 1)) ∧ ¬ Int32.ofNat (2 ^ (j.val + 1)) < (2 : Int32) ∧ ¬ (1073741824 : Int32) < Int32.ofNat (2 ^ (j.val + 1)) := by decide +kernel
theorem own_form (p0 : Int32) : ∃ j : Fin 30, F1 p0 = Int32.ofNat (2 ^ (j.val + 1)) := by
  obtain ⟨j, j1, j2, -⟩ := own_res p0 29 2 ⟨by decide, by decide⟩
  refine ⟨⟨j, by omega⟩, Int32.toInt_inj.mp ?_⟩
  have hp : 2 ^ (j + 1) ≤ 2 ^ 30 := Nat.pow_le_pow_right (by decide) (by omega)
  show (own_loop 29 p0 2).toInt = (Int32.ofNat (2 ^ (j + 1))).toInt
  have e : (Int32.ofNat (2 ^ (j + 1))).toInt = ((2 ^ (j + 1) : Nat) : Int) := Int32.toInt_ofNat_small (by omega)
  have a2 : (2 : Int32).toInt = 2 := rfl
  rw [j2, e, a2, Nat.pow_succ, Int.natCast_mul, Int.natCast_pow, Int.mul_comm]; rfl
theorem own_c41 (p0 v : Int32) (H : v = (if (0 : Int32) < (F1 p0) then (if ((F1 p0) &&& ((F1 p0) - (1 : Int32))) = (0 : Int32) then (1 : Int32) else (0 : Int32)) else (0 : Int32))) : ¬ v = (0 : Int32) := by
  obtain ⟨j, hj⟩ := own_form p0
  obtain ⟨a, b, c, d⟩ := own_two j
  rw [H, hj, if_pos b, if_pos a]; decide
theorem own_c45 (p0 v : Int32) (H : v = (if (F1 p0) < (2 : Int32) then (0 : Int32) else (if (1073741824 : Int32) < (F1 p0) then (0 : Int32) else (1 : Int32)))) : ¬ v = (0 : Int32) := by
  obtain ⟨j, hj⟩ := own_form p0
  obtain ⟨a, b, c, d⟩ := own_two j
  rw [H, hj, if_neg c, if_neg d]; decide
theorem plain_law (p0 : Int32) (v10_s0 : Int32) (Hv10_s0 : v10_s0 = (if (F1 p0) = (1073741824 : Int32) then (1 : Int32) else (if ((4 : Int64) * (p0.toInt64)) < ((3 : Int64) * ((F1 p0).toInt64)) then (1 : Int32) else (0 : Int32)))) (v13_s0 : Int32) (Hv13_s0 : v13_s0 = (if (F1 p0) = (2 : Int32) then (1 : Int32) else (if ((4 : Int64) * (p0.toInt64)) < ((3 : Int64) * (((F1 p0) >>> ((1 : Int32) &&& 31)).toInt64)) then (0 : Int32) else (1 : Int32)))) (v16_s0 : Int32) (Hv16_s0 : v16_s0 = (if v10_s0 = (0 : Int32) then (0 : Int32) else (if v13_s0 = (0 : Int32) then (0 : Int32) else (1 : Int32)))) : v16_s0 = 1 := by
  obtain ⟨j, -, -, h3, h4⟩ := own_res p0 29 2 ⟨by decide, by decide⟩
  have e : own_loop 29 p0 2 = F1 p0 := rfl
  rw [e] at h3 h4
  have n10 : ¬ (1 : Int32) = 0 := by decide
  have h10 : v10_s0 = 1 := by
    rw [Hv10_s0]
    rcases h3 with h3 | h3
    · exact if_pos h3
    · rw [if_pos h3]; split <;> rfl
  have h13 : v13_s0 = 1 := by
    rw [Hv13_s0]
    rcases h4 with h4 | h4
    · exact if_pos h4
    · rw [if_neg h4]; split <;> rfl
  rw [Hv16_s0, h10, h13, if_neg n10, if_neg n10]

theorem pn_0 : plainName "io/swarmtable/SwarmtableBinsForPinLaw" = true := by first | (simp [plainName, overriddenIn]; done) | decide +kernel
theorem pd_0_0 : parseMethodDescriptor "(I)I" = some ⟨[.int], some .int⟩ := by decide +kernel
theorem ef_0 (m : MethodId) (p0 : Int32) : entryFrame m #[(.int p0)] maxLocals = mkF m 0 #[.val (.int p0), .unset, .unset, .unset, .unset, .unset, .unset, .unset] [] := by first | (simp [entryFrame, mkF, argsToLocals, Value.category, maxLocals]; done) | rfl
set_option maxRecDepth 65536 in
set_option maxHeartbeats 40000000 in
theorem rm0 (l : Launch) (Z : State) (a0 : Array Value) (hw : ∀ d ∈ tables_1, d.before a0 Z = true) (ws : List Jvm.Cond) (p0 : Int32) (h0 : Heap) (n0 : Nat) (Z0 : n0 ≤ h0.size) :
    MetFree l x (head1 (Jvm.Cond.code x code maxLocals ret :: ws) room_1) (fun a U => a = #[(.int p0)] ∧ Z.Warmed39 U.vm ∧ U.heap = h0) (fun _ _ _ _ _ => True) (fun _ U o U' => ∃ v L, o = .returned v ∧ (v = some (.int 1) ∧ Fr n0 L) ∧ FrameEnd U o U' L room_1.cells room_1.slots) := by
  refine MetFree.of_bodySF (plainFor_of_name pn_0) hisR ?_
  intro p e s m args below meth c s₁ Bd hml0 hP hK
  obtain ⟨rfl, hZ, hh⟩ := hP
  have hx := Bd.exec
  have hby := Bd.bytes
  have hml : c.maxLocals = 8 := hml0
  have hown : s.vm.findClass "io/swarmtable/SwarmtableBinsForPinLaw" = some m.cls := findClass_of_methodNamed Bd.named
  have hnm := (name_of_methodNamed Bd.named Bd.method).1
  have X0 : Stand p l e room_1 s m #[(.int p0)] below meth c s₁ [] 0 0 := Stand.of_body Bd
  have e0 : s₁.heap = h0 := by rw [← hh, Bd.state]; rfl
  have N0 := Fr.nil n0
  have pre0 : ∀ t, Steps p.tables e below (s₁.setTop (mkF m 0 #[.val (.int p0), .unset, .unset, .unset, .unset, .unset, .unset, .unset] [])) t → Steps p.tables e below (s₁.setTop (entryFrame m #[(.int p0)] maxLocals)) t := fun t k => castTop (ef_0 m p0) k
  obtain ⟨_, _, ⟨T1, L1, k1, n1⟩, -, X1, ⟨Lc1, hQ1, l1, y1, z1⟩, st1⟩ := Jvm.LawKit.callS X0 hx (y := (⟨"io/swarmtable/Swarmtable", "binsFor", "(I)I"⟩ : MethodName)) hown (mvT hZ (hw _ (List.mem_of_getElem? (i := 0) rfl))) (mvT hZ (hw _ (List.mem_of_getElem? (i := 1) rfl))) (mvT hZ (hw _ (List.mem_of_getElem? (i := 2) rfl))) (mvT hZ (hw _ (List.mem_of_getElem? (i := 3) rfl))) (by decide) (backOf (W := 0) (rm1 l Z a0 hw [] p0 h0 n0 Z0) hZ (hw _ (List.mem_of_getElem? (i := 3) rfl)) (hw _ (List.mem_of_getElem? (i := 2) rfl)) (by decide) (by decide)) (g := (mkF m 1 #[.val (.int p0), .unset, .unset, .unset, .unset, .unset, .unset, .unset] [(.int p0)])) rfl (by rw [hml]; rfl) (argsL := [(.int p0)]) (rest := []) (lenOf pd_0_0 rfl) rfl (by show 2 * 0 + _ ≤ _; exact Nat.le_of_eq rfl) (hb hby at_1) (fun _ _ => ⟨rfl, e0, (by decide : 0 + 0 ≤ _), (by decide : 0 + 0 ≤ _)⟩)
  dsimp only [Pt.U, Pt.locs, Pt.cells, Pt.slots] at X1 l1 y1 z1 st1 hQ1
  subst l1 y1 z1
  obtain ⟨rfl, rfl, e1⟩ := hQ1
  try rw [List.append_nil] at X1
  obtain ⟨v4_s0, Hv4_s0⟩ : ∃ z : Int32, z = (if (0 : Int32) < (F1 p0) then (if ((F1 p0) &&& ((F1 p0) - (1 : Int32))) = (0 : Int32) then (1 : Int32) else (0 : Int32)) else (0 : Int32)) := ⟨_, rfl⟩
  obtain ⟨T4, X4, e4, st4⟩ := own_seg X1 h0 (mkF m 6 #[.val (.int p0), .val (.int (F1 p0)), .unset, .unset, .unset, .unset, .unset, .unset] [(.int (F1 p0))]) (mkF m 22 #[.val (.int p0), .val (.int (F1 p0)), .unset, .unset, .unset, .unset, .unset, .unset] [(.int v4_s0)]) (by
    by_cases hc2 : (0 : Int32) < (F1 p0)
    · by_cases hc3 : ((F1 p0) &&& ((F1 p0) - (1 : Int32))) = (0 : Int32)
      · rw [if_pos hc2, if_pos hc3] at Hv4_s0
        refine ⟨T1, X1, e1, fun target kt => ?_⟩
        rw [Hv4_s0] at kt
        show Steps p.tables e below (T1.setTop (mkF m 6 #[.val (.int p0), .val (.int (F1 p0)), .unset, .unset, .unset, .unset, .unset, .unset] [(.int (F1 p0))])) _
        refine XS.ifNo X1.here hx rfl (hb hby at_6) rfl ((if0 _ _).trans (tlt hc2).2.2.2) ?_
        show Steps p.tables e below (T1.setTop (mkF m 9 #[.val (.int p0), .val (.int (F1 p0)), .unset, .unset, .unset, .unset, .unset, .unset] [])) _
        refine XS.iloadN X1.here hx rfl (hb hby at_9) rfl ?_
        show Steps p.tables e below (T1.setTop (mkF m 10 #[.val (.int p0), .val (.int (F1 p0)), .unset, .unset, .unset, .unset, .unset, .unset] [(.int (F1 p0))])) _
        refine XS.iloadN X1.here hx rfl (hb hby at_10) rfl ?_
        show Steps p.tables e below (T1.setTop (mkF m 11 #[.val (.int p0), .val (.int (F1 p0)), .unset, .unset, .unset, .unset, .unset, .unset] [(.int (F1 p0)), (.int (F1 p0))])) _
        refine XS.iconst X1.here hx rfl (hb hby at_11) ?_
        show Steps p.tables e below (T1.setTop (mkF m 12 #[.val (.int p0), .val (.int (F1 p0)), .unset, .unset, .unset, .unset, .unset, .unset] [(.int (1 : Int32)), (.int (F1 p0)), (.int (F1 p0))])) _
        refine XS.isub X1.here hx rfl (hb hby at_12) rfl ?_
        show Steps p.tables e below (T1.setTop (mkF m 13 #[.val (.int p0), .val (.int (F1 p0)), .unset, .unset, .unset, .unset, .unset, .unset] [(.int ((F1 p0) - (1 : Int32))), (.int (F1 p0))])) _
        refine XS.iand X1.here hx rfl (hb hby at_13) rfl ?_
        show Steps p.tables e below (T1.setTop (mkF m 14 #[.val (.int p0), .val (.int (F1 p0)), .unset, .unset, .unset, .unset, .unset, .unset] [(.int ((F1 p0) &&& ((F1 p0) - (1 : Int32))))])) _
        refine XS.ifNo X1.here hx rfl (hb hby at_14) rfl ((if0 _ _).trans (teq hc3).2) ?_
        show Steps p.tables e below (T1.setTop (mkF m 17 #[.val (.int p0), .val (.int (F1 p0)), .unset, .unset, .unset, .unset, .unset, .unset] [])) _
        refine XS.iconst X1.here hx rfl (hb hby at_17) ?_
        show Steps p.tables e below (T1.setTop (mkF m 18 #[.val (.int p0), .val (.int (F1 p0)), .unset, .unset, .unset, .unset, .unset, .unset] [(.int (1 : Int32))])) _
        refine XS.goto X1.here hx rfl (pc0 := 18) (pc' := 22) rfl (hb hby at_18) (by decide) (by decide) ?_
        exact kt
      · rw [if_pos hc2, if_neg hc3] at Hv4_s0
        refine ⟨T1, X1, e1, fun target kt => ?_⟩
        rw [Hv4_s0] at kt
        show Steps p.tables e below (T1.setTop (mkF m 6 #[.val (.int p0), .val (.int (F1 p0)), .unset, .unset, .unset, .unset, .unset, .unset] [(.int (F1 p0))])) _
        refine XS.ifNo X1.here hx rfl (hb hby at_6) rfl ((if0 _ _).trans (tlt hc2).2.2.2) ?_
        show Steps p.tables e below (T1.setTop (mkF m 9 #[.val (.int p0), .val (.int (F1 p0)), .unset, .unset, .unset, .unset, .unset, .unset] [])) _
        refine XS.iloadN X1.here hx rfl (hb hby at_9) rfl ?_
        show Steps p.tables e below (T1.setTop (mkF m 10 #[.val (.int p0), .val (.int (F1 p0)), .unset, .unset, .unset, .unset, .unset, .unset] [(.int (F1 p0))])) _
        refine XS.iloadN X1.here hx rfl (hb hby at_10) rfl ?_
        show Steps p.tables e below (T1.setTop (mkF m 11 #[.val (.int p0), .val (.int (F1 p0)), .unset, .unset, .unset, .unset, .unset, .unset] [(.int (F1 p0)), (.int (F1 p0))])) _
        refine XS.iconst X1.here hx rfl (hb hby at_11) ?_
        show Steps p.tables e below (T1.setTop (mkF m 12 #[.val (.int p0), .val (.int (F1 p0)), .unset, .unset, .unset, .unset, .unset, .unset] [(.int (1 : Int32)), (.int (F1 p0)), (.int (F1 p0))])) _
        refine XS.isub X1.here hx rfl (hb hby at_12) rfl ?_
        show Steps p.tables e below (T1.setTop (mkF m 13 #[.val (.int p0), .val (.int (F1 p0)), .unset, .unset, .unset, .unset, .unset, .unset] [(.int ((F1 p0) - (1 : Int32))), (.int (F1 p0))])) _
        refine XS.iand X1.here hx rfl (hb hby at_13) rfl ?_
        show Steps p.tables e below (T1.setTop (mkF m 14 #[.val (.int p0), .val (.int (F1 p0)), .unset, .unset, .unset, .unset, .unset, .unset] [(.int ((F1 p0) &&& ((F1 p0) - (1 : Int32))))])) _
        refine XS.ifYes X1.here hx rfl (pc0 := 14) (pc' := 21) rfl (hb hby at_14) rfl ((if0 _ _).trans (feq hc3).2) (by decide) (by decide) ?_
        show Steps p.tables e below (T1.setTop (mkF m 21 #[.val (.int p0), .val (.int (F1 p0)), .unset, .unset, .unset, .unset, .unset, .unset] [])) _
        refine XS.iconst X1.here hx rfl (hb hby at_21) ?_
        exact kt
    · rw [if_neg hc2] at Hv4_s0
      refine ⟨T1, X1, e1, fun target kt => ?_⟩
      rw [Hv4_s0] at kt
      show Steps p.tables e below (T1.setTop (mkF m 6 #[.val (.int p0), .val (.int (F1 p0)), .unset, .unset, .unset, .unset, .unset, .unset] [(.int (F1 p0))])) _
      refine XS.ifYes X1.here hx rfl (pc0 := 6) (pc' := 21) rfl (hb hby at_6) rfl ((if0 _ _).trans (flt hc2).2.2.2) (by decide) (by decide) ?_
      show Steps p.tables e below (T1.setTop (mkF m 21 #[.val (.int p0), .val (.int (F1 p0)), .unset, .unset, .unset, .unset, .unset, .unset] [])) _
      refine XS.iconst X1.here hx rfl (hb hby at_21) ?_
      exact kt)
  obtain ⟨v7_s0, Hv7_s0⟩ : ∃ z : Int32, z = (if (F1 p0) < (2 : Int32) then (0 : Int32) else (if (1073741824 : Int32) < (F1 p0) then (0 : Int32) else (1 : Int32))) := ⟨_, rfl⟩
  obtain ⟨T7, X7, e7, st7⟩ := own_seg X4 h0 (mkF m 25 #[.val (.int p0), .val (.int (F1 p0)), .val (.int v4_s0), .unset, .unset, .unset, .unset, .unset] [(.int (2 : Int32)), (.int (F1 p0))]) (mkF m 39 #[.val (.int p0), .val (.int (F1 p0)), .val (.int v4_s0), .unset, .unset, .unset, .unset, .unset] [(.int v7_s0)]) (by
    by_cases hc5 : (F1 p0) < (2 : Int32)
    · rw [if_pos hc5] at Hv7_s0
      refine ⟨T4, X4, e4, fun target kt => ?_⟩
      rw [Hv7_s0] at kt
      show Steps p.tables e below (T4.setTop (mkF m 25 #[.val (.int p0), .val (.int (F1 p0)), .val (.int v4_s0), .unset, .unset, .unset, .unset, .unset] [(.int (2 : Int32)), (.int (F1 p0))])) _
      refine XS.icmpYes X4.here hx rfl (pc0 := 25) (pc' := 38) rfl (hb hby at_25) rfl (tlt hc5).1 (by decide) (by decide) ?_
      show Steps p.tables e below (T4.setTop (mkF m 38 #[.val (.int p0), .val (.int (F1 p0)), .val (.int v4_s0), .unset, .unset, .unset, .unset, .unset] [])) _
      refine XS.iconst X4.here hx rfl (hb hby at_38) ?_
      exact kt
    · by_cases hc6 : (1073741824 : Int32) < (F1 p0)
      · rw [if_neg hc5, if_pos hc6] at Hv7_s0
        refine ⟨T4, X4, e4, fun target kt => ?_⟩
        rw [Hv7_s0] at kt
        show Steps p.tables e below (T4.setTop (mkF m 25 #[.val (.int p0), .val (.int (F1 p0)), .val (.int v4_s0), .unset, .unset, .unset, .unset, .unset] [(.int (2 : Int32)), (.int (F1 p0))])) _
        refine XS.icmpNo X4.here hx rfl (hb hby at_25) rfl (flt hc5).1 ?_
        show Steps p.tables e below (T4.setTop (mkF m 28 #[.val (.int p0), .val (.int (F1 p0)), .val (.int v4_s0), .unset, .unset, .unset, .unset, .unset] [])) _
        refine XS.iloadN X4.here hx rfl (hb hby at_28) rfl ?_
        show Steps p.tables e below (T4.setTop (mkF m 29 #[.val (.int p0), .val (.int (F1 p0)), .val (.int v4_s0), .unset, .unset, .unset, .unset, .unset] [(.int (F1 p0))])) _
        refine X4.ldcInt hx hown (mvT hZ (hw _ (List.mem_of_getElem? (i := 7) rfl))) (g := (mkF m 29 #[.val (.int p0), .val (.int (F1 p0)), .val (.int v4_s0), .unset, .unset, .unset, .unset, .unset] [(.int (F1 p0))])) rfl (hb hby at_29) _ ?_
        show Steps p.tables e below (T4.setTop (mkF m 31 #[.val (.int p0), .val (.int (F1 p0)), .val (.int v4_s0), .unset, .unset, .unset, .unset, .unset] [(.int (1073741824 : Int32)), (.int (F1 p0))])) _
        refine XS.icmpYes X4.here hx rfl (pc0 := 31) (pc' := 38) rfl (hb hby at_31) rfl (tlt hc6).2.2.1 (by decide) (by decide) ?_
        show Steps p.tables e below (T4.setTop (mkF m 38 #[.val (.int p0), .val (.int (F1 p0)), .val (.int v4_s0), .unset, .unset, .unset, .unset, .unset] [])) _
        refine XS.iconst X4.here hx rfl (hb hby at_38) ?_
        exact kt
      · rw [if_neg hc5, if_neg hc6] at Hv7_s0
        refine ⟨T4, X4, e4, fun target kt => ?_⟩
        rw [Hv7_s0] at kt
        show Steps p.tables e below (T4.setTop (mkF m 25 #[.val (.int p0), .val (.int (F1 p0)), .val (.int v4_s0), .unset, .unset, .unset, .unset, .unset] [(.int (2 : Int32)), (.int (F1 p0))])) _
        refine XS.icmpNo X4.here hx rfl (hb hby at_25) rfl (flt hc5).1 ?_
        show Steps p.tables e below (T4.setTop (mkF m 28 #[.val (.int p0), .val (.int (F1 p0)), .val (.int v4_s0), .unset, .unset, .unset, .unset, .unset] [])) _
        refine XS.iloadN X4.here hx rfl (hb hby at_28) rfl ?_
        show Steps p.tables e below (T4.setTop (mkF m 29 #[.val (.int p0), .val (.int (F1 p0)), .val (.int v4_s0), .unset, .unset, .unset, .unset, .unset] [(.int (F1 p0))])) _
        refine X4.ldcInt hx hown (mvT hZ (hw _ (List.mem_of_getElem? (i := 7) rfl))) (g := (mkF m 29 #[.val (.int p0), .val (.int (F1 p0)), .val (.int v4_s0), .unset, .unset, .unset, .unset, .unset] [(.int (F1 p0))])) rfl (hb hby at_29) _ ?_
        show Steps p.tables e below (T4.setTop (mkF m 31 #[.val (.int p0), .val (.int (F1 p0)), .val (.int v4_s0), .unset, .unset, .unset, .unset, .unset] [(.int (1073741824 : Int32)), (.int (F1 p0))])) _
        refine XS.icmpNo X4.here hx rfl (hb hby at_31) rfl (flt hc6).2.2.1 ?_
        show Steps p.tables e below (T4.setTop (mkF m 34 #[.val (.int p0), .val (.int (F1 p0)), .val (.int v4_s0), .unset, .unset, .unset, .unset, .unset] [])) _
        refine XS.iconst X4.here hx rfl (hb hby at_34) ?_
        show Steps p.tables e below (T4.setTop (mkF m 35 #[.val (.int p0), .val (.int (F1 p0)), .val (.int v4_s0), .unset, .unset, .unset, .unset, .unset] [(.int (1 : Int32))])) _
        refine XS.goto X4.here hx rfl (pc0 := 35) (pc' := 39) rfl (hb hby at_35) (by decide) (by decide) ?_
        exact kt)
  obtain ⟨v10_s0, Hv10_s0⟩ : ∃ z : Int32, z = (if (F1 p0) = (1073741824 : Int32) then (1 : Int32) else (if ((4 : Int64) * (p0.toInt64)) < ((3 : Int64) * ((F1 p0).toInt64)) then (1 : Int32) else (0 : Int32))) := ⟨_, rfl⟩
  obtain ⟨T10, X10, e10, st10⟩ := own_seg X7 h0 (mkF m 61 #[.val (.int p0), .val (.int (F1 p0)), .val (.int v4_s0), .val (.int v7_s0), .val (.long ((4 : Int64) * (p0.toInt64))), .second, .unset, .unset] [(.int (1073741824 : Int32)), (.int (F1 p0))]) (mkF m 81 #[.val (.int p0), .val (.int (F1 p0)), .val (.int v4_s0), .val (.int v7_s0), .val (.long ((4 : Int64) * (p0.toInt64))), .second, .unset, .unset] [(.int v10_s0)]) (by
    by_cases hc8 : (F1 p0) = (1073741824 : Int32)
    · rw [if_pos hc8] at Hv10_s0
      refine ⟨T7, X7, e7, fun target kt => ?_⟩
      rw [Hv10_s0] at kt
      show Steps p.tables e below (T7.setTop (mkF m 61 #[.val (.int p0), .val (.int (F1 p0)), .val (.int v4_s0), .val (.int v7_s0), .val (.long ((4 : Int64) * (p0.toInt64))), .second, .unset, .unset] [(.int (1073741824 : Int32)), (.int (F1 p0))])) _
      refine XS.icmpYes X7.here hx rfl (pc0 := 61) (pc' := 76) rfl (hb hby at_61) rfl (teq hc8).1 (by decide) (by decide) ?_
      show Steps p.tables e below (T7.setTop (mkF m 76 #[.val (.int p0), .val (.int (F1 p0)), .val (.int v4_s0), .val (.int v7_s0), .val (.long ((4 : Int64) * (p0.toInt64))), .second, .unset, .unset] [])) _
      refine XS.iconst X7.here hx rfl (hb hby at_76) ?_
      show Steps p.tables e below (T7.setTop (mkF m 77 #[.val (.int p0), .val (.int (F1 p0)), .val (.int v4_s0), .val (.int v7_s0), .val (.long ((4 : Int64) * (p0.toInt64))), .second, .unset, .unset] [(.int (1 : Int32))])) _
      refine XS.goto X7.here hx rfl (pc0 := 77) (pc' := 81) rfl (hb hby at_77) (by decide) (by decide) ?_
      exact kt
    · by_cases hc9 : ((4 : Int64) * (p0.toInt64)) < ((3 : Int64) * ((F1 p0).toInt64))
      · rw [if_neg hc8, if_pos hc9] at Hv10_s0
        refine ⟨T7, X7, e7, fun target kt => ?_⟩
        rw [Hv10_s0] at kt
        show Steps p.tables e below (T7.setTop (mkF m 61 #[.val (.int p0), .val (.int (F1 p0)), .val (.int v4_s0), .val (.int v7_s0), .val (.long ((4 : Int64) * (p0.toInt64))), .second, .unset, .unset] [(.int (1073741824 : Int32)), (.int (F1 p0))])) _
        refine XS.icmpNo X7.here hx rfl (hb hby at_61) rfl (feq hc8).1 ?_
        show Steps p.tables e below (T7.setTop (mkF m 64 #[.val (.int p0), .val (.int (F1 p0)), .val (.int v4_s0), .val (.int v7_s0), .val (.long ((4 : Int64) * (p0.toInt64))), .second, .unset, .unset] [])) _
        refine X7.ldc2Long hx hown (mvT hZ (hw _ (List.mem_of_getElem? (i := 9) rfl))) (g := (mkF m 64 #[.val (.int p0), .val (.int (F1 p0)), .val (.int v4_s0), .val (.int v7_s0), .val (.long ((4 : Int64) * (p0.toInt64))), .second, .unset, .unset] [])) rfl (hb hby at_64) _ ?_
        show Steps p.tables e below (T7.setTop (mkF m 67 #[.val (.int p0), .val (.int (F1 p0)), .val (.int v4_s0), .val (.int v7_s0), .val (.long ((4 : Int64) * (p0.toInt64))), .second, .unset, .unset] [(.long (3 : Int64))])) _
        refine XS.iloadN X7.here hx rfl (hb hby at_67) rfl ?_
        show Steps p.tables e below (T7.setTop (mkF m 68 #[.val (.int p0), .val (.int (F1 p0)), .val (.int v4_s0), .val (.int v7_s0), .val (.long ((4 : Int64) * (p0.toInt64))), .second, .unset, .unset] [(.int (F1 p0)), (.long (3 : Int64))])) _
        refine XS.i2l X7.here hx rfl (hb hby at_68) rfl ?_
        show Steps p.tables e below (T7.setTop (mkF m 69 #[.val (.int p0), .val (.int (F1 p0)), .val (.int v4_s0), .val (.int v7_s0), .val (.long ((4 : Int64) * (p0.toInt64))), .second, .unset, .unset] [(.long ((F1 p0).toInt64)), (.long (3 : Int64))])) _
        refine XS.lmul X7.here hx rfl (hb hby at_69) rfl ?_
        show Steps p.tables e below (T7.setTop (mkF m 70 #[.val (.int p0), .val (.int (F1 p0)), .val (.int v4_s0), .val (.int v7_s0), .val (.long ((4 : Int64) * (p0.toInt64))), .second, .unset, .unset] [(.long ((3 : Int64) * ((F1 p0).toInt64)))])) _
        refine XS.lload X7.here hx rfl (hb hby at_70) rfl ?_
        show Steps p.tables e below (T7.setTop (mkF m 72 #[.val (.int p0), .val (.int (F1 p0)), .val (.int v4_s0), .val (.int v7_s0), .val (.long ((4 : Int64) * (p0.toInt64))), .second, .unset, .unset] [(.long ((4 : Int64) * (p0.toInt64))), (.long ((3 : Int64) * ((F1 p0).toInt64)))])) _
        refine XS.lcmp X7.here hx rfl (hb hby at_72) rfl ?_
        show Steps p.tables e below (T7.setTop (mkF m 73 #[.val (.int p0), .val (.int (F1 p0)), .val (.int v4_s0), .val (.int v7_s0), .val (.long ((4 : Int64) * (p0.toInt64))), .second, .unset, .unset] [(.int (lcmpW ((3 : Int64) * ((F1 p0).toInt64)) ((4 : Int64) * (p0.toInt64))))])) _
        refine XS.ifNo X7.here hx rfl (hb hby at_73) rfl ((if0 _ _).trans (tlt ((lw_gt _ _).mpr hc9)).2.2.2) ?_
        show Steps p.tables e below (T7.setTop (mkF m 76 #[.val (.int p0), .val (.int (F1 p0)), .val (.int v4_s0), .val (.int v7_s0), .val (.long ((4 : Int64) * (p0.toInt64))), .second, .unset, .unset] [])) _
        refine XS.iconst X7.here hx rfl (hb hby at_76) ?_
        show Steps p.tables e below (T7.setTop (mkF m 77 #[.val (.int p0), .val (.int (F1 p0)), .val (.int v4_s0), .val (.int v7_s0), .val (.long ((4 : Int64) * (p0.toInt64))), .second, .unset, .unset] [(.int (1 : Int32))])) _
        refine XS.goto X7.here hx rfl (pc0 := 77) (pc' := 81) rfl (hb hby at_77) (by decide) (by decide) ?_
        exact kt
      · rw [if_neg hc8, if_neg hc9] at Hv10_s0
        refine ⟨T7, X7, e7, fun target kt => ?_⟩
        rw [Hv10_s0] at kt
        show Steps p.tables e below (T7.setTop (mkF m 61 #[.val (.int p0), .val (.int (F1 p0)), .val (.int v4_s0), .val (.int v7_s0), .val (.long ((4 : Int64) * (p0.toInt64))), .second, .unset, .unset] [(.int (1073741824 : Int32)), (.int (F1 p0))])) _
        refine XS.icmpNo X7.here hx rfl (hb hby at_61) rfl (feq hc8).1 ?_
        show Steps p.tables e below (T7.setTop (mkF m 64 #[.val (.int p0), .val (.int (F1 p0)), .val (.int v4_s0), .val (.int v7_s0), .val (.long ((4 : Int64) * (p0.toInt64))), .second, .unset, .unset] [])) _
        refine X7.ldc2Long hx hown (mvT hZ (hw _ (List.mem_of_getElem? (i := 9) rfl))) (g := (mkF m 64 #[.val (.int p0), .val (.int (F1 p0)), .val (.int v4_s0), .val (.int v7_s0), .val (.long ((4 : Int64) * (p0.toInt64))), .second, .unset, .unset] [])) rfl (hb hby at_64) _ ?_
        show Steps p.tables e below (T7.setTop (mkF m 67 #[.val (.int p0), .val (.int (F1 p0)), .val (.int v4_s0), .val (.int v7_s0), .val (.long ((4 : Int64) * (p0.toInt64))), .second, .unset, .unset] [(.long (3 : Int64))])) _
        refine XS.iloadN X7.here hx rfl (hb hby at_67) rfl ?_
        show Steps p.tables e below (T7.setTop (mkF m 68 #[.val (.int p0), .val (.int (F1 p0)), .val (.int v4_s0), .val (.int v7_s0), .val (.long ((4 : Int64) * (p0.toInt64))), .second, .unset, .unset] [(.int (F1 p0)), (.long (3 : Int64))])) _
        refine XS.i2l X7.here hx rfl (hb hby at_68) rfl ?_
        show Steps p.tables e below (T7.setTop (mkF m 69 #[.val (.int p0), .val (.int (F1 p0)), .val (.int v4_s0), .val (.int v7_s0), .val (.long ((4 : Int64) * (p0.toInt64))), .second, .unset, .unset] [(.long ((F1 p0).toInt64)), (.long (3 : Int64))])) _
        refine XS.lmul X7.here hx rfl (hb hby at_69) rfl ?_
        show Steps p.tables e below (T7.setTop (mkF m 70 #[.val (.int p0), .val (.int (F1 p0)), .val (.int v4_s0), .val (.int v7_s0), .val (.long ((4 : Int64) * (p0.toInt64))), .second, .unset, .unset] [(.long ((3 : Int64) * ((F1 p0).toInt64)))])) _
        refine XS.lload X7.here hx rfl (hb hby at_70) rfl ?_
        show Steps p.tables e below (T7.setTop (mkF m 72 #[.val (.int p0), .val (.int (F1 p0)), .val (.int v4_s0), .val (.int v7_s0), .val (.long ((4 : Int64) * (p0.toInt64))), .second, .unset, .unset] [(.long ((4 : Int64) * (p0.toInt64))), (.long ((3 : Int64) * ((F1 p0).toInt64)))])) _
        refine XS.lcmp X7.here hx rfl (hb hby at_72) rfl ?_
        show Steps p.tables e below (T7.setTop (mkF m 73 #[.val (.int p0), .val (.int (F1 p0)), .val (.int v4_s0), .val (.int v7_s0), .val (.long ((4 : Int64) * (p0.toInt64))), .second, .unset, .unset] [(.int (lcmpW ((3 : Int64) * ((F1 p0).toInt64)) ((4 : Int64) * (p0.toInt64))))])) _
        refine XS.ifYes X7.here hx rfl (pc0 := 73) (pc' := 80) rfl (hb hby at_73) rfl ((if0 _ _).trans (flt (fun q => hc9 ((lw_gt _ _).mp q))).2.2.2) (by decide) (by decide) ?_
        show Steps p.tables e below (T7.setTop (mkF m 80 #[.val (.int p0), .val (.int (F1 p0)), .val (.int v4_s0), .val (.int v7_s0), .val (.long ((4 : Int64) * (p0.toInt64))), .second, .unset, .unset] [])) _
        refine XS.iconst X7.here hx rfl (hb hby at_80) ?_
        exact kt)
  obtain ⟨v13_s0, Hv13_s0⟩ : ∃ z : Int32, z = (if (F1 p0) = (2 : Int32) then (1 : Int32) else (if ((4 : Int64) * (p0.toInt64)) < ((3 : Int64) * (((F1 p0) >>> ((1 : Int32) &&& 31)).toInt64)) then (0 : Int32) else (1 : Int32))) := ⟨_, rfl⟩
  obtain ⟨T13, X13, e13, st13⟩ := own_seg X10 h0 (mkF m 85 #[.val (.int p0), .val (.int (F1 p0)), .val (.int v4_s0), .val (.int v7_s0), .val (.long ((4 : Int64) * (p0.toInt64))), .second, .val (.int v10_s0), .unset] [(.int (2 : Int32)), (.int (F1 p0))]) (mkF m 107 #[.val (.int p0), .val (.int (F1 p0)), .val (.int v4_s0), .val (.int v7_s0), .val (.long ((4 : Int64) * (p0.toInt64))), .second, .val (.int v10_s0), .unset] [(.int v13_s0)]) (by
    by_cases hc11 : (F1 p0) = (2 : Int32)
    · rw [if_pos hc11] at Hv13_s0
      refine ⟨T10, X10, e10, fun target kt => ?_⟩
      rw [Hv13_s0] at kt
      show Steps p.tables e below (T10.setTop (mkF m 85 #[.val (.int p0), .val (.int (F1 p0)), .val (.int v4_s0), .val (.int v7_s0), .val (.long ((4 : Int64) * (p0.toInt64))), .second, .val (.int v10_s0), .unset] [(.int (2 : Int32)), (.int (F1 p0))])) _
      refine XS.icmpYes X10.here hx rfl (pc0 := 85) (pc' := 102) rfl (hb hby at_85) rfl (teq hc11).1 (by decide) (by decide) ?_
      show Steps p.tables e below (T10.setTop (mkF m 102 #[.val (.int p0), .val (.int (F1 p0)), .val (.int v4_s0), .val (.int v7_s0), .val (.long ((4 : Int64) * (p0.toInt64))), .second, .val (.int v10_s0), .unset] [])) _
      refine XS.iconst X10.here hx rfl (hb hby at_102) ?_
      show Steps p.tables e below (T10.setTop (mkF m 103 #[.val (.int p0), .val (.int (F1 p0)), .val (.int v4_s0), .val (.int v7_s0), .val (.long ((4 : Int64) * (p0.toInt64))), .second, .val (.int v10_s0), .unset] [(.int (1 : Int32))])) _
      refine XS.goto X10.here hx rfl (pc0 := 103) (pc' := 107) rfl (hb hby at_103) (by decide) (by decide) ?_
      exact kt
    · by_cases hc12 : ((4 : Int64) * (p0.toInt64)) < ((3 : Int64) * (((F1 p0) >>> ((1 : Int32) &&& 31)).toInt64))
      · rw [if_neg hc11, if_pos hc12] at Hv13_s0
        refine ⟨T10, X10, e10, fun target kt => ?_⟩
        rw [Hv13_s0] at kt
        show Steps p.tables e below (T10.setTop (mkF m 85 #[.val (.int p0), .val (.int (F1 p0)), .val (.int v4_s0), .val (.int v7_s0), .val (.long ((4 : Int64) * (p0.toInt64))), .second, .val (.int v10_s0), .unset] [(.int (2 : Int32)), (.int (F1 p0))])) _
        refine XS.icmpNo X10.here hx rfl (hb hby at_85) rfl (feq hc11).1 ?_
        show Steps p.tables e below (T10.setTop (mkF m 88 #[.val (.int p0), .val (.int (F1 p0)), .val (.int v4_s0), .val (.int v7_s0), .val (.long ((4 : Int64) * (p0.toInt64))), .second, .val (.int v10_s0), .unset] [])) _
        refine X10.ldc2Long hx hown (mvT hZ (hw _ (List.mem_of_getElem? (i := 9) rfl))) (g := (mkF m 88 #[.val (.int p0), .val (.int (F1 p0)), .val (.int v4_s0), .val (.int v7_s0), .val (.long ((4 : Int64) * (p0.toInt64))), .second, .val (.int v10_s0), .unset] [])) rfl (hb hby at_88) _ ?_
        show Steps p.tables e below (T10.setTop (mkF m 91 #[.val (.int p0), .val (.int (F1 p0)), .val (.int v4_s0), .val (.int v7_s0), .val (.long ((4 : Int64) * (p0.toInt64))), .second, .val (.int v10_s0), .unset] [(.long (3 : Int64))])) _
        refine XS.iloadN X10.here hx rfl (hb hby at_91) rfl ?_
        show Steps p.tables e below (T10.setTop (mkF m 92 #[.val (.int p0), .val (.int (F1 p0)), .val (.int v4_s0), .val (.int v7_s0), .val (.long ((4 : Int64) * (p0.toInt64))), .second, .val (.int v10_s0), .unset] [(.int (F1 p0)), (.long (3 : Int64))])) _
        refine XS.iconst X10.here hx rfl (hb hby at_92) ?_
        show Steps p.tables e below (T10.setTop (mkF m 93 #[.val (.int p0), .val (.int (F1 p0)), .val (.int v4_s0), .val (.int v7_s0), .val (.long ((4 : Int64) * (p0.toInt64))), .second, .val (.int v10_s0), .unset] [(.int (1 : Int32)), (.int (F1 p0)), (.long (3 : Int64))])) _
        refine XS.ishr X10.here hx rfl (hb hby at_93) rfl ?_
        show Steps p.tables e below (T10.setTop (mkF m 94 #[.val (.int p0), .val (.int (F1 p0)), .val (.int v4_s0), .val (.int v7_s0), .val (.long ((4 : Int64) * (p0.toInt64))), .second, .val (.int v10_s0), .unset] [(.int ((F1 p0) >>> ((1 : Int32) &&& 31))), (.long (3 : Int64))])) _
        refine XS.i2l X10.here hx rfl (hb hby at_94) rfl ?_
        show Steps p.tables e below (T10.setTop (mkF m 95 #[.val (.int p0), .val (.int (F1 p0)), .val (.int v4_s0), .val (.int v7_s0), .val (.long ((4 : Int64) * (p0.toInt64))), .second, .val (.int v10_s0), .unset] [(.long (((F1 p0) >>> ((1 : Int32) &&& 31)).toInt64)), (.long (3 : Int64))])) _
        refine XS.lmul X10.here hx rfl (hb hby at_95) rfl ?_
        show Steps p.tables e below (T10.setTop (mkF m 96 #[.val (.int p0), .val (.int (F1 p0)), .val (.int v4_s0), .val (.int v7_s0), .val (.long ((4 : Int64) * (p0.toInt64))), .second, .val (.int v10_s0), .unset] [(.long ((3 : Int64) * (((F1 p0) >>> ((1 : Int32) &&& 31)).toInt64)))])) _
        refine XS.lload X10.here hx rfl (hb hby at_96) rfl ?_
        show Steps p.tables e below (T10.setTop (mkF m 98 #[.val (.int p0), .val (.int (F1 p0)), .val (.int v4_s0), .val (.int v7_s0), .val (.long ((4 : Int64) * (p0.toInt64))), .second, .val (.int v10_s0), .unset] [(.long ((4 : Int64) * (p0.toInt64))), (.long ((3 : Int64) * (((F1 p0) >>> ((1 : Int32) &&& 31)).toInt64)))])) _
        refine XS.lcmp X10.here hx rfl (hb hby at_98) rfl ?_
        show Steps p.tables e below (T10.setTop (mkF m 99 #[.val (.int p0), .val (.int (F1 p0)), .val (.int v4_s0), .val (.int v7_s0), .val (.long ((4 : Int64) * (p0.toInt64))), .second, .val (.int v10_s0), .unset] [(.int (lcmpW ((3 : Int64) * (((F1 p0) >>> ((1 : Int32) &&& 31)).toInt64)) ((4 : Int64) * (p0.toInt64))))])) _
        refine XS.ifYes X10.here hx rfl (pc0 := 99) (pc' := 106) rfl (hb hby at_99) rfl ((if0 _ _).trans (tlt ((lw_gt _ _).mpr hc12)).2.2.1) (by decide) (by decide) ?_
        show Steps p.tables e below (T10.setTop (mkF m 106 #[.val (.int p0), .val (.int (F1 p0)), .val (.int v4_s0), .val (.int v7_s0), .val (.long ((4 : Int64) * (p0.toInt64))), .second, .val (.int v10_s0), .unset] [])) _
        refine XS.iconst X10.here hx rfl (hb hby at_106) ?_
        exact kt
      · rw [if_neg hc11, if_neg hc12] at Hv13_s0
        refine ⟨T10, X10, e10, fun target kt => ?_⟩
        rw [Hv13_s0] at kt
        show Steps p.tables e below (T10.setTop (mkF m 85 #[.val (.int p0), .val (.int (F1 p0)), .val (.int v4_s0), .val (.int v7_s0), .val (.long ((4 : Int64) * (p0.toInt64))), .second, .val (.int v10_s0), .unset] [(.int (2 : Int32)), (.int (F1 p0))])) _
        refine XS.icmpNo X10.here hx rfl (hb hby at_85) rfl (feq hc11).1 ?_
        show Steps p.tables e below (T10.setTop (mkF m 88 #[.val (.int p0), .val (.int (F1 p0)), .val (.int v4_s0), .val (.int v7_s0), .val (.long ((4 : Int64) * (p0.toInt64))), .second, .val (.int v10_s0), .unset] [])) _
        refine X10.ldc2Long hx hown (mvT hZ (hw _ (List.mem_of_getElem? (i := 9) rfl))) (g := (mkF m 88 #[.val (.int p0), .val (.int (F1 p0)), .val (.int v4_s0), .val (.int v7_s0), .val (.long ((4 : Int64) * (p0.toInt64))), .second, .val (.int v10_s0), .unset] [])) rfl (hb hby at_88) _ ?_
        show Steps p.tables e below (T10.setTop (mkF m 91 #[.val (.int p0), .val (.int (F1 p0)), .val (.int v4_s0), .val (.int v7_s0), .val (.long ((4 : Int64) * (p0.toInt64))), .second, .val (.int v10_s0), .unset] [(.long (3 : Int64))])) _
        refine XS.iloadN X10.here hx rfl (hb hby at_91) rfl ?_
        show Steps p.tables e below (T10.setTop (mkF m 92 #[.val (.int p0), .val (.int (F1 p0)), .val (.int v4_s0), .val (.int v7_s0), .val (.long ((4 : Int64) * (p0.toInt64))), .second, .val (.int v10_s0), .unset] [(.int (F1 p0)), (.long (3 : Int64))])) _
        refine XS.iconst X10.here hx rfl (hb hby at_92) ?_
        show Steps p.tables e below (T10.setTop (mkF m 93 #[.val (.int p0), .val (.int (F1 p0)), .val (.int v4_s0), .val (.int v7_s0), .val (.long ((4 : Int64) * (p0.toInt64))), .second, .val (.int v10_s0), .unset] [(.int (1 : Int32)), (.int (F1 p0)), (.long (3 : Int64))])) _
        refine XS.ishr X10.here hx rfl (hb hby at_93) rfl ?_
        show Steps p.tables e below (T10.setTop (mkF m 94 #[.val (.int p0), .val (.int (F1 p0)), .val (.int v4_s0), .val (.int v7_s0), .val (.long ((4 : Int64) * (p0.toInt64))), .second, .val (.int v10_s0), .unset] [(.int ((F1 p0) >>> ((1 : Int32) &&& 31))), (.long (3 : Int64))])) _
        refine XS.i2l X10.here hx rfl (hb hby at_94) rfl ?_
        show Steps p.tables e below (T10.setTop (mkF m 95 #[.val (.int p0), .val (.int (F1 p0)), .val (.int v4_s0), .val (.int v7_s0), .val (.long ((4 : Int64) * (p0.toInt64))), .second, .val (.int v10_s0), .unset] [(.long (((F1 p0) >>> ((1 : Int32) &&& 31)).toInt64)), (.long (3 : Int64))])) _
        refine XS.lmul X10.here hx rfl (hb hby at_95) rfl ?_
        show Steps p.tables e below (T10.setTop (mkF m 96 #[.val (.int p0), .val (.int (F1 p0)), .val (.int v4_s0), .val (.int v7_s0), .val (.long ((4 : Int64) * (p0.toInt64))), .second, .val (.int v10_s0), .unset] [(.long ((3 : Int64) * (((F1 p0) >>> ((1 : Int32) &&& 31)).toInt64)))])) _
        refine XS.lload X10.here hx rfl (hb hby at_96) rfl ?_
        show Steps p.tables e below (T10.setTop (mkF m 98 #[.val (.int p0), .val (.int (F1 p0)), .val (.int v4_s0), .val (.int v7_s0), .val (.long ((4 : Int64) * (p0.toInt64))), .second, .val (.int v10_s0), .unset] [(.long ((4 : Int64) * (p0.toInt64))), (.long ((3 : Int64) * (((F1 p0) >>> ((1 : Int32) &&& 31)).toInt64)))])) _
        refine XS.lcmp X10.here hx rfl (hb hby at_98) rfl ?_
        show Steps p.tables e below (T10.setTop (mkF m 99 #[.val (.int p0), .val (.int (F1 p0)), .val (.int v4_s0), .val (.int v7_s0), .val (.long ((4 : Int64) * (p0.toInt64))), .second, .val (.int v10_s0), .unset] [(.int (lcmpW ((3 : Int64) * (((F1 p0) >>> ((1 : Int32) &&& 31)).toInt64)) ((4 : Int64) * (p0.toInt64))))])) _
        refine XS.ifNo X10.here hx rfl (hb hby at_99) rfl ((if0 _ _).trans (flt (fun q => hc12 ((lw_gt _ _).mp q))).2.2.1) ?_
        show Steps p.tables e below (T10.setTop (mkF m 102 #[.val (.int p0), .val (.int (F1 p0)), .val (.int v4_s0), .val (.int v7_s0), .val (.long ((4 : Int64) * (p0.toInt64))), .second, .val (.int v10_s0), .unset] [])) _
        refine XS.iconst X10.here hx rfl (hb hby at_102) ?_
        show Steps p.tables e below (T10.setTop (mkF m 103 #[.val (.int p0), .val (.int (F1 p0)), .val (.int v4_s0), .val (.int v7_s0), .val (.long ((4 : Int64) * (p0.toInt64))), .second, .val (.int v10_s0), .unset] [(.int (1 : Int32))])) _
        refine XS.goto X10.here hx rfl (pc0 := 103) (pc' := 107) rfl (hb hby at_103) (by decide) (by decide) ?_
        exact kt)
  obtain ⟨v16_s0, Hv16_s0⟩ : ∃ z : Int32, z = (if v10_s0 = (0 : Int32) then (0 : Int32) else (if v13_s0 = (0 : Int32) then (0 : Int32) else (1 : Int32))) := ⟨_, rfl⟩
  obtain ⟨T16, X16, e16, st16⟩ := own_seg X13 h0 (mkF m 111 #[.val (.int p0), .val (.int (F1 p0)), .val (.int v4_s0), .val (.int v7_s0), .val (.long ((4 : Int64) * (p0.toInt64))), .second, .val (.int v10_s0), .val (.int v13_s0)] [(.int v10_s0)]) (mkF m 124 #[.val (.int p0), .val (.int (F1 p0)), .val (.int v4_s0), .val (.int v7_s0), .val (.long ((4 : Int64) * (p0.toInt64))), .second, .val (.int v10_s0), .val (.int v13_s0)] [(.int v16_s0)]) (by
    by_cases hc14 : v10_s0 = (0 : Int32)
    · rw [if_pos hc14] at Hv16_s0
      refine ⟨T13, X13, e13, fun target kt => ?_⟩
      rw [Hv16_s0] at kt
      show Steps p.tables e below (T13.setTop (mkF m 111 #[.val (.int p0), .val (.int (F1 p0)), .val (.int v4_s0), .val (.int v7_s0), .val (.long ((4 : Int64) * (p0.toInt64))), .second, .val (.int v10_s0), .val (.int v13_s0)] [(.int v10_s0)])) _
      refine XS.ifYes X13.here hx rfl (pc0 := 111) (pc' := 123) rfl (hb hby at_111) rfl ((if0 _ _).trans (teq hc14).1) (by decide) (by decide) ?_
      show Steps p.tables e below (T13.setTop (mkF m 123 #[.val (.int p0), .val (.int (F1 p0)), .val (.int v4_s0), .val (.int v7_s0), .val (.long ((4 : Int64) * (p0.toInt64))), .second, .val (.int v10_s0), .val (.int v13_s0)] [])) _
      refine XS.iconst X13.here hx rfl (hb hby at_123) ?_
      exact kt
    · by_cases hc15 : v13_s0 = (0 : Int32)
      · rw [if_neg hc14, if_pos hc15] at Hv16_s0
        refine ⟨T13, X13, e13, fun target kt => ?_⟩
        rw [Hv16_s0] at kt
        show Steps p.tables e below (T13.setTop (mkF m 111 #[.val (.int p0), .val (.int (F1 p0)), .val (.int v4_s0), .val (.int v7_s0), .val (.long ((4 : Int64) * (p0.toInt64))), .second, .val (.int v10_s0), .val (.int v13_s0)] [(.int v10_s0)])) _
        refine XS.ifNo X13.here hx rfl (hb hby at_111) rfl ((if0 _ _).trans (feq hc14).1) ?_
        show Steps p.tables e below (T13.setTop (mkF m 114 #[.val (.int p0), .val (.int (F1 p0)), .val (.int v4_s0), .val (.int v7_s0), .val (.long ((4 : Int64) * (p0.toInt64))), .second, .val (.int v10_s0), .val (.int v13_s0)] [])) _
        refine XS.iload X13.here hx rfl (hb hby at_114) rfl ?_
        show Steps p.tables e below (T13.setTop (mkF m 116 #[.val (.int p0), .val (.int (F1 p0)), .val (.int v4_s0), .val (.int v7_s0), .val (.long ((4 : Int64) * (p0.toInt64))), .second, .val (.int v10_s0), .val (.int v13_s0)] [(.int v13_s0)])) _
        refine XS.ifYes X13.here hx rfl (pc0 := 116) (pc' := 123) rfl (hb hby at_116) rfl ((if0 _ _).trans (teq hc15).1) (by decide) (by decide) ?_
        show Steps p.tables e below (T13.setTop (mkF m 123 #[.val (.int p0), .val (.int (F1 p0)), .val (.int v4_s0), .val (.int v7_s0), .val (.long ((4 : Int64) * (p0.toInt64))), .second, .val (.int v10_s0), .val (.int v13_s0)] [])) _
        refine XS.iconst X13.here hx rfl (hb hby at_123) ?_
        exact kt
      · rw [if_neg hc14, if_neg hc15] at Hv16_s0
        refine ⟨T13, X13, e13, fun target kt => ?_⟩
        rw [Hv16_s0] at kt
        show Steps p.tables e below (T13.setTop (mkF m 111 #[.val (.int p0), .val (.int (F1 p0)), .val (.int v4_s0), .val (.int v7_s0), .val (.long ((4 : Int64) * (p0.toInt64))), .second, .val (.int v10_s0), .val (.int v13_s0)] [(.int v10_s0)])) _
        refine XS.ifNo X13.here hx rfl (hb hby at_111) rfl ((if0 _ _).trans (feq hc14).1) ?_
        show Steps p.tables e below (T13.setTop (mkF m 114 #[.val (.int p0), .val (.int (F1 p0)), .val (.int v4_s0), .val (.int v7_s0), .val (.long ((4 : Int64) * (p0.toInt64))), .second, .val (.int v10_s0), .val (.int v13_s0)] [])) _
        refine XS.iload X13.here hx rfl (hb hby at_114) rfl ?_
        show Steps p.tables e below (T13.setTop (mkF m 116 #[.val (.int p0), .val (.int (F1 p0)), .val (.int v4_s0), .val (.int v7_s0), .val (.long ((4 : Int64) * (p0.toInt64))), .second, .val (.int v10_s0), .val (.int v13_s0)] [(.int v13_s0)])) _
        refine XS.ifNo X13.here hx rfl (hb hby at_116) rfl ((if0 _ _).trans (feq hc15).1) ?_
        show Steps p.tables e below (T13.setTop (mkF m 119 #[.val (.int p0), .val (.int (F1 p0)), .val (.int v4_s0), .val (.int v7_s0), .val (.long ((4 : Int64) * (p0.toInt64))), .second, .val (.int v10_s0), .val (.int v13_s0)] [])) _
        refine XS.iconst X13.here hx rfl (hb hby at_119) ?_
        show Steps p.tables e below (T13.setTop (mkF m 120 #[.val (.int p0), .val (.int (F1 p0)), .val (.int v4_s0), .val (.int v7_s0), .val (.long ((4 : Int64) * (p0.toInt64))), .second, .val (.int v10_s0), .val (.int v13_s0)] [(.int (1 : Int32))])) _
        refine XS.goto X13.here hx rfl (pc0 := 120) (pc' := 124) rfl (hb hby at_120) (by decide) (by decide) ?_
        exact kt)
  have hfin : nar .boolean v16_s0 = 1 := by rw [plain_law p0 v10_s0 Hv10_s0 v13_s0 Hv13_s0 v16_s0 Hv16_s0]; rfl
  obtain ⟨fs, hr, hrun, hended, hW, hsame⟩ := X16.leave (v := some (.int (nar .boolean v16_s0))) (fun h => by rw [Bd.returns] at h; cases h)
  refine ⟨_, _, pre0 _ ?_, hrun, hended, _, _, rfl, ?_, ⟨_, rfl⟩, hW, hsame.mono (by decide) (by decide)⟩
  · show Steps p.tables e below (s₁.setTop (mkF m 0 #[.val (.int p0), .unset, .unset, .unset, .unset, .unset, .unset, .unset] [])) _
    refine XS.iloadN X0.here hx rfl (hb hby at_0) rfl ?_
    show Steps p.tables e below (s₁.setTop (mkF m 1 #[.val (.int p0), .unset, .unset, .unset, .unset, .unset, .unset, .unset] [(.int p0)])) _
    refine st1 _ ?_
    show Steps p.tables e below (T1.setTop (mkF m 4 #[.val (.int p0), .unset, .unset, .unset, .unset, .unset, .unset, .unset] [(.int (F1 p0))])) _
    refine XS.istoreN X1.here hx rfl (hb hby at_4) rfl (l' := #[.val (.int p0), .val (.int (F1 p0)), .unset, .unset, .unset, .unset, .unset, .unset]) rfl ?_
    show Steps p.tables e below (T1.setTop (mkF m 5 #[.val (.int p0), .val (.int (F1 p0)), .unset, .unset, .unset, .unset, .unset, .unset] [])) _
    refine XS.iloadN X1.here hx rfl (hb hby at_5) rfl ?_
    show Steps p.tables e below (T1.setTop (mkF m 6 #[.val (.int p0), .val (.int (F1 p0)), .unset, .unset, .unset, .unset, .unset, .unset] [(.int (F1 p0))])) _
    refine st4 _ ?_
    show Steps p.tables e below (T4.setTop (mkF m 22 #[.val (.int p0), .val (.int (F1 p0)), .unset, .unset, .unset, .unset, .unset, .unset] [(.int v4_s0)])) _
    refine XS.istoreN X4.here hx rfl (hb hby at_22) rfl (l' := #[.val (.int p0), .val (.int (F1 p0)), .val (.int v4_s0), .unset, .unset, .unset, .unset, .unset]) rfl ?_
    show Steps p.tables e below (T4.setTop (mkF m 23 #[.val (.int p0), .val (.int (F1 p0)), .val (.int v4_s0), .unset, .unset, .unset, .unset, .unset] [])) _
    refine XS.iloadN X4.here hx rfl (hb hby at_23) rfl ?_
    show Steps p.tables e below (T4.setTop (mkF m 24 #[.val (.int p0), .val (.int (F1 p0)), .val (.int v4_s0), .unset, .unset, .unset, .unset, .unset] [(.int (F1 p0))])) _
    refine XS.iconst X4.here hx rfl (hb hby at_24) ?_
    show Steps p.tables e below (T4.setTop (mkF m 25 #[.val (.int p0), .val (.int (F1 p0)), .val (.int v4_s0), .unset, .unset, .unset, .unset, .unset] [(.int (2 : Int32)), (.int (F1 p0))])) _
    refine st7 _ ?_
    show Steps p.tables e below (T7.setTop (mkF m 39 #[.val (.int p0), .val (.int (F1 p0)), .val (.int v4_s0), .unset, .unset, .unset, .unset, .unset] [(.int v7_s0)])) _
    refine XS.istoreN X7.here hx rfl (hb hby at_39) rfl (l' := #[.val (.int p0), .val (.int (F1 p0)), .val (.int v4_s0), .val (.int v7_s0), .unset, .unset, .unset, .unset]) rfl ?_
    show Steps p.tables e below (T7.setTop (mkF m 40 #[.val (.int p0), .val (.int (F1 p0)), .val (.int v4_s0), .val (.int v7_s0), .unset, .unset, .unset, .unset] [])) _
    refine XS.iloadN X7.here hx rfl (hb hby at_40) rfl ?_
    show Steps p.tables e below (T7.setTop (mkF m 41 #[.val (.int p0), .val (.int (F1 p0)), .val (.int v4_s0), .val (.int v7_s0), .unset, .unset, .unset, .unset] [(.int v4_s0)])) _
    refine XS.ifNo X7.here hx rfl (hb hby at_41) rfl ((if0 _ _).trans (feq (own_c41 p0 _ Hv4_s0)).1) ?_
    show Steps p.tables e below (T7.setTop (mkF m 44 #[.val (.int p0), .val (.int (F1 p0)), .val (.int v4_s0), .val (.int v7_s0), .unset, .unset, .unset, .unset] [])) _
    refine XS.iloadN X7.here hx rfl (hb hby at_44) rfl ?_
    show Steps p.tables e below (T7.setTop (mkF m 45 #[.val (.int p0), .val (.int (F1 p0)), .val (.int v4_s0), .val (.int v7_s0), .unset, .unset, .unset, .unset] [(.int v7_s0)])) _
    refine XS.ifYes X7.here hx rfl (pc0 := 45) (pc' := 50) rfl (hb hby at_45) rfl ((if0 _ _).trans (feq (own_c45 p0 _ Hv7_s0)).2) (by decide) (by decide) ?_
    show Steps p.tables e below (T7.setTop (mkF m 50 #[.val (.int p0), .val (.int (F1 p0)), .val (.int v4_s0), .val (.int v7_s0), .unset, .unset, .unset, .unset] [])) _
    refine X7.ldc2Long hx hown (mvT hZ (hw _ (List.mem_of_getElem? (i := 8) rfl))) (g := (mkF m 50 #[.val (.int p0), .val (.int (F1 p0)), .val (.int v4_s0), .val (.int v7_s0), .unset, .unset, .unset, .unset] [])) rfl (hb hby at_50) _ ?_
    show Steps p.tables e below (T7.setTop (mkF m 53 #[.val (.int p0), .val (.int (F1 p0)), .val (.int v4_s0), .val (.int v7_s0), .unset, .unset, .unset, .unset] [(.long (4 : Int64))])) _
    refine XS.iloadN X7.here hx rfl (hb hby at_53) rfl ?_
    show Steps p.tables e below (T7.setTop (mkF m 54 #[.val (.int p0), .val (.int (F1 p0)), .val (.int v4_s0), .val (.int v7_s0), .unset, .unset, .unset, .unset] [(.int p0), (.long (4 : Int64))])) _
    refine XS.i2l X7.here hx rfl (hb hby at_54) rfl ?_
    show Steps p.tables e below (T7.setTop (mkF m 55 #[.val (.int p0), .val (.int (F1 p0)), .val (.int v4_s0), .val (.int v7_s0), .unset, .unset, .unset, .unset] [(.long (p0.toInt64)), (.long (4 : Int64))])) _
    refine XS.lmul X7.here hx rfl (hb hby at_55) rfl ?_
    show Steps p.tables e below (T7.setTop (mkF m 56 #[.val (.int p0), .val (.int (F1 p0)), .val (.int v4_s0), .val (.int v7_s0), .unset, .unset, .unset, .unset] [(.long ((4 : Int64) * (p0.toInt64)))])) _
    refine XS.lstore X7.here hx rfl (hb hby at_56) rfl (l' := #[.val (.int p0), .val (.int (F1 p0)), .val (.int v4_s0), .val (.int v7_s0), .val (.long ((4 : Int64) * (p0.toInt64))), .second, .unset, .unset]) rfl ?_
    show Steps p.tables e below (T7.setTop (mkF m 58 #[.val (.int p0), .val (.int (F1 p0)), .val (.int v4_s0), .val (.int v7_s0), .val (.long ((4 : Int64) * (p0.toInt64))), .second, .unset, .unset] [])) _
    refine XS.iloadN X7.here hx rfl (hb hby at_58) rfl ?_
    show Steps p.tables e below (T7.setTop (mkF m 59 #[.val (.int p0), .val (.int (F1 p0)), .val (.int v4_s0), .val (.int v7_s0), .val (.long ((4 : Int64) * (p0.toInt64))), .second, .unset, .unset] [(.int (F1 p0))])) _
    refine X7.ldcInt hx hown (mvT hZ (hw _ (List.mem_of_getElem? (i := 7) rfl))) (g := (mkF m 59 #[.val (.int p0), .val (.int (F1 p0)), .val (.int v4_s0), .val (.int v7_s0), .val (.long ((4 : Int64) * (p0.toInt64))), .second, .unset, .unset] [(.int (F1 p0))])) rfl (hb hby at_59) _ ?_
    show Steps p.tables e below (T7.setTop (mkF m 61 #[.val (.int p0), .val (.int (F1 p0)), .val (.int v4_s0), .val (.int v7_s0), .val (.long ((4 : Int64) * (p0.toInt64))), .second, .unset, .unset] [(.int (1073741824 : Int32)), (.int (F1 p0))])) _
    refine st10 _ ?_
    show Steps p.tables e below (T10.setTop (mkF m 81 #[.val (.int p0), .val (.int (F1 p0)), .val (.int v4_s0), .val (.int v7_s0), .val (.long ((4 : Int64) * (p0.toInt64))), .second, .unset, .unset] [(.int v10_s0)])) _
    refine XS.istore X10.here hx rfl (hb hby at_81) rfl (l' := #[.val (.int p0), .val (.int (F1 p0)), .val (.int v4_s0), .val (.int v7_s0), .val (.long ((4 : Int64) * (p0.toInt64))), .second, .val (.int v10_s0), .unset]) rfl ?_
    show Steps p.tables e below (T10.setTop (mkF m 83 #[.val (.int p0), .val (.int (F1 p0)), .val (.int v4_s0), .val (.int v7_s0), .val (.long ((4 : Int64) * (p0.toInt64))), .second, .val (.int v10_s0), .unset] [])) _
    refine XS.iloadN X10.here hx rfl (hb hby at_83) rfl ?_
    show Steps p.tables e below (T10.setTop (mkF m 84 #[.val (.int p0), .val (.int (F1 p0)), .val (.int v4_s0), .val (.int v7_s0), .val (.long ((4 : Int64) * (p0.toInt64))), .second, .val (.int v10_s0), .unset] [(.int (F1 p0))])) _
    refine XS.iconst X10.here hx rfl (hb hby at_84) ?_
    show Steps p.tables e below (T10.setTop (mkF m 85 #[.val (.int p0), .val (.int (F1 p0)), .val (.int v4_s0), .val (.int v7_s0), .val (.long ((4 : Int64) * (p0.toInt64))), .second, .val (.int v10_s0), .unset] [(.int (2 : Int32)), (.int (F1 p0))])) _
    refine st13 _ ?_
    show Steps p.tables e below (T13.setTop (mkF m 107 #[.val (.int p0), .val (.int (F1 p0)), .val (.int v4_s0), .val (.int v7_s0), .val (.long ((4 : Int64) * (p0.toInt64))), .second, .val (.int v10_s0), .unset] [(.int v13_s0)])) _
    refine XS.istore X13.here hx rfl (hb hby at_107) rfl (l' := #[.val (.int p0), .val (.int (F1 p0)), .val (.int v4_s0), .val (.int v7_s0), .val (.long ((4 : Int64) * (p0.toInt64))), .second, .val (.int v10_s0), .val (.int v13_s0)]) rfl ?_
    show Steps p.tables e below (T13.setTop (mkF m 109 #[.val (.int p0), .val (.int (F1 p0)), .val (.int v4_s0), .val (.int v7_s0), .val (.long ((4 : Int64) * (p0.toInt64))), .second, .val (.int v10_s0), .val (.int v13_s0)] [])) _
    refine XS.iload X13.here hx rfl (hb hby at_109) rfl ?_
    show Steps p.tables e below (T13.setTop (mkF m 111 #[.val (.int p0), .val (.int (F1 p0)), .val (.int v4_s0), .val (.int v7_s0), .val (.long ((4 : Int64) * (p0.toInt64))), .second, .val (.int v10_s0), .val (.int v13_s0)] [(.int v10_s0)])) _
    refine st16 _ ?_
    show Steps p.tables e below (T16.setTop (mkF m 124 #[.val (.int p0), .val (.int (F1 p0)), .val (.int v4_s0), .val (.int v7_s0), .val (.long ((4 : Int64) * (p0.toInt64))), .second, .val (.int v10_s0), .val (.int v13_s0)] [(.int v16_s0)])) _
    exact retN X16 hx (t := .boolean) Bd.returns (by simp) (hb hby at_124) hr
  · exact ⟨congrArg (fun z => some (Value.int z)) hfin, N0⟩
set_option maxRecDepth 65536 in
set_option maxHeartbeats 40000000 in
theorem comes_1 {Post : Tables → Env → Array Value → State → Outcome → State → Prop} (hpost : ∀ tb e args s v u, (limb_1_1.after args s (.returned v) u = true ∧ limb_1_2.after args s (.returned v) u = true ∧ True) → FrameEnd s (.returned v) u (Jvm.fieldLocs frame_1_writes args s ++ Jvm.arrayLocs frame_1_arrays args s ++ Jvm.staticLocs frame_1_statics s) 0 0 → Post tb e args s (.returned v) u) :
    ArmFor flags0 classFile x code maxLocals ret World_1 tables_1 room_1 Calls_1 rest_1 Pre_1 Post := by
  intro l hfl _ _ p e ha hc hk s m args below hf hA hF happ hP
  obtain ⟨hcalls, hrest, hpre⟩ := hP
  obtain ⟨-, -, -, hnamed, -, -, -, hat⟩ := (Spec.applies_iff hf).mp happ
  obtain ⟨hg, hn⟩ := and_e (Cond.before_iff.mp (show (Jvm.Cond.and given_1 narrow_1).before args s = true from hpre))
  obtain ⟨gg1, gg2⟩ := and_e hg
  obtain ⟨w0, rfl⟩ : ∃ w0 : Value, args = #[w0] := by
    have hs : args.size = 1 := by simpa [Cond.value, given_1] using gg1
    obtain ⟨L⟩ := args
    match L, hs with
    | [w0], _ => exact ⟨w0, rfl⟩
  have hw := fun d (hd : d ∈ tables_1) => atoms_spec (ws := Jvm.Cond.code x code maxLocals ret :: tables_1) hat d (List.mem_cons_of_mem _ hd)
  obtain ⟨i0, ei0⟩ := is_v gg2
  obtain rfl : w0 = (.int i0) := Option.some.inj ei0
  obtain ⟨n, o, h1, h2, h3, _, L, rfl, ⟨rfl, N⟩, hq⟩ := rm0 l s _ hw tables_1 i0 s.heap s.heap.size (Nat.le_refl _) p e ha hc hk s m _ below hf ((Spec.applies_iff_loose hf).mp happ).1 ⟨rfl, State.Warmed39.refl s, rfl⟩ trivial
  refine ⟨n, _, h1, h2, h3, hpost _ _ _ _ _ _ ⟨Cond.after_iff.mpr rfl, Cond.after_iff.mpr (eq_i res_at (Term.int_eval (1)) rfl), trivial⟩ ⟨hq.1, hq.2.1, (hq.2.2.sift fun y hy => Or.inr (N y hy)).mono (by decide) (by decide)⟩⟩
theorem main_1_1 : Claimed_1_1 := comes_1 fun _ _ _ _ _ _ h hF => ⟨h.1, hF⟩
theorem main_1_2 : Claimed_1_2 := comes_1 fun _ _ _ _ _ _ h hF => ⟨h.2.1, hF⟩
end Jvm.Pilot.@@N@@
namespace Jvm.Pilot.@@N@@
open Jvm Jvm.ClassFile Sem Op Lib Jvm.Free Jvm.Stand Jvm.Pilot.@@N@@.Jvm.D
/-! MADE BY PROGRAM (witnessworld.py) out of the Statement's table words and the real class files: 12 classes; the members and pool entries that the words name. The judged class is class 1, her method 1. -/
namespace start1
open Jvm.ClassFile
def u (s : String) : CpInfo := .utf8 (stringToUtf16 s)
/-- a pool by its gaps: so many unusable entries, then the entry; so many at the end -/
def gap : Nat → List CpInfo → List CpInfo
  | 0, r => r
  | n + 1, r => .unusable :: gap n r
def poolList (es : List (Nat × CpInfo)) (last : Nat) : List CpInfo := es.foldr (fun e r => gap e.1 (e.2 :: r)) (gap last [])
def pool (es : List (Nat × CpInfo)) (last : Nat) : Array CpInfo := ⟨poolList es last⟩
def fileOf (pool : Array CpInfo) (this : Nat) (attrs : Array Attribute := #[]) (ms : Array MethodInfo := #[]) (fl : Nat := 33) (sup : Nat := 0) (ifs : Array Nat := #[]) (fds : Array FieldInfo := #[]) : ClassFile where
  minorVersion := 0
  majorVersion := 65
  constantPool := pool
  accessFlags := fl
  thisClass := this
  superClass := sup
  interfaces := ifs
  fields := fds
  methods := ms
  attributes := attrs
def plain (name : String) (sup : Option ClassId) : Class where
  name := name
  kind := .ordinary
  loader := none
  accessFlags := 33
  super := sup
  interfaces := #[]
  cf := none
  fields := #[]
  methods := #[]
  instanceTypes := #[]
  staticTypes := #[]
  resolved := #[]
  callSites := []
  init := .initialized
  statics := none
  mirror := none

def pool0 : Array CpInfo := pool [(5, u "<init>"), (0, u "()V"), (1, .class_ 10), (1, u "java/lang/Object")] 113

def k0m0 : Method := { name := "<init>", desc := "()V", sig := { parameters := [], returnType := none }, accessFlags := 1, code := none }
/-- java/lang/Object -/
def k0 : Class := { plain "java/lang/Object" none with
  accessFlags := 33
  interfaces := #[]
  cf := some (fileOf pool0 8 #[] #[{ accessFlags := 1, nameIndex := 5, descriptorIndex := 6, attributes := #[] }] 33 0 #[] #[])
  fields := #[]
  methods := #[k0m0]
  instanceTypes := #[]
  staticTypes := #[]
  resolved := Array.replicate 124 none
  statics := none }

def pool1 : Array CpInfo := pool [(2, .class_ 4), (1, u "java/lang/Object"), (0, u "<init>"), (0, u "()V"), (0, .methodref 8 9), (0, .class_ 10), (0, .nameAndType 11 12), (0, u "io/swarmtable/Swarmtable"), (0, u "binsFor"), (0, u "(I)I"), (0, .class_ 14), (0, u "io/swarmtable/SwarmtableBinsForPinLaw"), (0, .integer 1073741824), (0, .long 4), (1, .long 3), (1, u "MAX"), (0, u "I"), (3, u "law"), (0, u "(I)Z")] 3

def k1m0 : Method := { name := "<init>", desc := "()V", sig := { parameters := [], returnType := none }, accessFlags := 1, code := none }
def k1c1 : Code := { maxStack := 4, maxLocals := 8, code := code, exceptionTable := #[], attributes := #[] }
def k1m1 : Method := { name := "law", desc := "(I)Z", sig := { parameters := [.int], returnType := some .boolean }, accessFlags := 9, code := some k1c1 }
/-- io/swarmtable/SwarmtableBinsForPinLaw -/
def k1 : Class := { plain "io/swarmtable/SwarmtableBinsForPinLaw" (some 0) with
  accessFlags := 49
  interfaces := #[]
  cf := some (fileOf pool1 13 #[] #[{ accessFlags := 1, nameIndex := 5, descriptorIndex := 6, attributes := #[] }, { accessFlags := 9, nameIndex := 25, descriptorIndex := 26, attributes := #[] }] 49 2 #[] #[{ accessFlags := 26, nameIndex := 20, descriptorIndex := 21, attributes := #[] }])
  fields := #[{ name := "MAX", type := .int, accessFlags := 26, slot := 0, constantValue := 0 }]
  methods := #[k1m0, k1m1]
  instanceTypes := #[]
  staticTypes := #[.int]
  resolved := Array.replicate 30 none
  statics := none }

def pool2 : Array CpInfo := pool [(2, .class_ 4), (1, u "java/util/Map"), (31, .class_ 37), (0, u "java/util/Map$Entry"), (55, .class_ 94), (0, u "java/lang/Object")] 168

/-- java/util/Map -/
def k2 : Class := { plain "java/util/Map" (some 0) with
  accessFlags := 1537
  interfaces := #[]
  cf := some (fileOf pool2 2 #[.nestMembers #[36]] #[] 1537 93 #[] #[])
  fields := #[]
  methods := #[]
  instanceTypes := #[]
  staticTypes := #[]
  resolved := Array.replicate 263 none
  statics := none }

def pool3 : Array CpInfo := pool [(2, .class_ 4), (1, u "java/lang/Object"), (0, u "<init>"), (0, u "()V"), (1, .class_ 10), (1, u "java/util/AbstractMap"), (42, .class_ 54), (0, u "java/util/Map"), (9, u "keySet"), (0, u "Ljava/util/Set;"), (0, .class_ 67), (0, u "java/util/AbstractMap$1"), (5, u "values"), (0, u "Ljava/util/Collection;"), (0, .class_ 76), (0, u "java/util/AbstractMap$2"), (104, .class_ 182), (0, u "java/util/AbstractMap$ViewCollection"), (0, .class_ 184), (0, u "java/util/AbstractMap$SimpleImmutableEntry"), (0, .class_ 186), (0, u "java/util/AbstractMap$SimpleEntry"), (0, .class_ 188), (0, u "java/util/AbstractMap$2$1"), (0, .class_ 190), (0, u "java/util/AbstractMap$1$1")] 5

def k3m0 : Method := { name := "<init>", desc := "()V", sig := { parameters := [], returnType := none }, accessFlags := 4, code := none }
/-- java/util/AbstractMap -/
def k3 : Class := { plain "java/util/AbstractMap" (some 0) with
  accessFlags := 1057
  interfaces := #[2]
  cf := some (fileOf pool3 8 #[.nestMembers #[181, 183, 185, 75, 187, 66, 189]] #[{ accessFlags := 4, nameIndex := 5, descriptorIndex := 6, attributes := #[] }] 1057 2 #[53] #[{ accessFlags := 128, nameIndex := 64, descriptorIndex := 65, attributes := #[] }, { accessFlags := 128, nameIndex := 73, descriptorIndex := 74, attributes := #[] }])
  fields := #[{ name := "keySet", type := (.object "java/util/Set"), accessFlags := 128, slot := 0, constantValue := 0 }, { name := "values", type := (.object "java/util/Collection"), accessFlags := 128, slot := 1, constantValue := 0 }]
  methods := #[k3m0]
  instanceTypes := #[(.object "java/util/Set"), (.object "java/util/Collection")]
  staticTypes := #[]
  resolved := Array.replicate 196 none
  statics := none }

def pool4 : Array CpInfo := pool [(2, .class_ 4), (1, u "java/util/concurrent/ConcurrentMap"), (71, .class_ 77), (0, u "java/lang/Object"), (0, .class_ 79), (0, u "java/util/Map")] 77

/-- java/util/concurrent/ConcurrentMap -/
def k4 : Class := { plain "java/util/concurrent/ConcurrentMap" (some 0) with
  accessFlags := 1537
  interfaces := #[2]
  cf := some (fileOf pool4 2 #[] #[] 1537 76 #[78] #[])
  fields := #[]
  methods := #[]
  instanceTypes := #[]
  staticTypes := #[]
  resolved := Array.replicate 157 none
  statics := none }

def pool5 : Array CpInfo := pool [(2, .class_ 4), (1, u "java/util/AbstractMap"), (0, u "<init>"), (0, u "()V"), (4, .class_ 13), (1, u "io/swarmtable/Swarmtable"), (0, u "count"), (0, u "Ljava/util/concurrent/atomic/LongAdder;"), (2, u "firstBins"), (0, u "I"), (11, u "binsFor"), (0, u "(I)I"), (0, .integer 1073741824), (0, .long 3), (1, .long 4), (23, .class_ 62), (1, u "io/swarmtable/Swarmtable$Node"), (9, .class_ 73), (0, u "io/swarmtable/Swarmtable$Walk"), (2, u "table"), (0, u "Lio/swarmtable/Swarmtable$Table;"), (20, .class_ 100), (1, u "io/swarmtable/Swarmtable$Kind"), (80, u "functionsRun"), (0, u "Z"), (12, .class_ 197), (1, u "io/swarmtable/Swarmtable$Running"), (6, .class_ 206), (1, u "io/swarmtable/Swarmtable$Change"), (6, .class_ 215), (1, u "io/swarmtable/Swarmtable$Table"), (10, .class_ 227), (0, u "io/swarmtable/Swarmtable$Reservation"), (19, .class_ 248), (0, u "io/swarmtable/Swarmtable$Forward"), (57, u "Ljava/lang/Object;"), (5, u "IN_SLOT"), (10, u "RETIRED"), (0, .class_ 325), (0, u "io/swarmtable/Swarmtable$Busy"), (2, u "SLOTS"), (0, u "Ljava/lang/invoke/VarHandle;"), (8, u "RUNNING"), (0, u "Ljava/lang/ThreadLocal;"), (52, .class_ 393), (0, u "io/swarmtable/Swarmtable$EntrySet"), (3, .class_ 398), (0, u "io/swarmtable/Swarmtable$KeySet"), (1, .class_ 401), (0, u "io/swarmtable/Swarmtable$Values"), (17, u "TABLE"), (5, u "growth"), (0, u "Lio/swarmtable/Swarmtable$Growth;"), (6, .class_ 434), (0, u "io/swarmtable/Swarmtable$Growth"), (11, u "GROWTH"), (46, u "BINS"), (57, .class_ 552), (0, u "java/util/concurrent/ConcurrentMap"), (0, u "MAX_BINS"), (1, u "DEFAULT_BINS"), (1, u "STRIDE"), (74, .class_ 633), (0, u "io/swarmtable/Swarmtable$ViewEntry"), (0, .class_ 635), (0, u "io/swarmtable/Swarmtable$ViewIterator"), (0, .class_ 637), (0, u "io/swarmtable/Swarmtable$Walk$Unread"), (0, .class_ 639), (0, u "io/swarmtable/Swarmtable$Walk$Pending")] 77

def k5m0 : Method := { name := "<init>", desc := "()V", sig := { parameters := [], returnType := none }, accessFlags := 1, code := none }
def k5c1 : Code := { maxStack := 6, maxLocals := 2, code := prog_10_method_3_code, exceptionTable := #[], attributes := #[] }
def k5m1 : Method := { name := "binsFor", desc := "(I)I", sig := { parameters := [.int], returnType := some .int }, accessFlags := 8, code := some k5c1 }
/-- io/swarmtable/Swarmtable -/
def k5 : Class := { plain "io/swarmtable/Swarmtable" (some 3) with
  accessFlags := 49
  interfaces := #[4]
  cf := some (fileOf pool5 11 #[.nestMembers #[433, 632, 634, 400, 397, 392, 72, 636, 638, 195, 324, 226, 247, 60, 213, 98, 204]] #[{ accessFlags := 1, nameIndex := 5, descriptorIndex := 6, attributes := #[] }, { accessFlags := 8, nameIndex := 31, descriptorIndex := 32, attributes := #[] }] 49 2 #[551] #[{ accessFlags := 26, nameIndex := 553, descriptorIndex := 19, attributes := #[] }, { accessFlags := 26, nameIndex := 555, descriptorIndex := 19, attributes := #[] }, { accessFlags := 26, nameIndex := 557, descriptorIndex := 19, attributes := #[] }, { accessFlags := 26, nameIndex := 493, descriptorIndex := 329, attributes := #[] }, { accessFlags := 26, nameIndex := 328, descriptorIndex := 329, attributes := #[] }, { accessFlags := 26, nameIndex := 323, descriptorIndex := 306, attributes := #[] }, { accessFlags := 26, nameIndex := 312, descriptorIndex := 306, attributes := #[] }, { accessFlags := 26, nameIndex := 338, descriptorIndex := 339, attributes := #[] }, { accessFlags := 26, nameIndex := 419, descriptorIndex := 329, attributes := #[] }, { accessFlags := 26, nameIndex := 446, descriptorIndex := 329, attributes := #[] }, { accessFlags := 66, nameIndex := 76, descriptorIndex := 77, attributes := #[] }, { accessFlags := 66, nameIndex := 425, descriptorIndex := 426, attributes := #[] }, { accessFlags := 18, nameIndex := 18, descriptorIndex := 19, attributes := #[] }, { accessFlags := 2, nameIndex := 181, descriptorIndex := 182, attributes := #[] }, { accessFlags := 18, nameIndex := 14, descriptorIndex := 15, attributes := #[] }])
  fields := #[{ name := "MAX_BINS", type := .int, accessFlags := 26, slot := 0, constantValue := 0 }, { name := "DEFAULT_BINS", type := .int, accessFlags := 26, slot := 1, constantValue := 0 }, { name := "STRIDE", type := .int, accessFlags := 26, slot := 2, constantValue := 0 }, { name := "BINS", type := (.object "java/lang/invoke/VarHandle"), accessFlags := 26, slot := 3, constantValue := 0 }, { name := "SLOTS", type := (.object "java/lang/invoke/VarHandle"), accessFlags := 26, slot := 4, constantValue := 0 }, { name := "RETIRED", type := (.object "java/lang/Object"), accessFlags := 26, slot := 5, constantValue := 0 }, { name := "IN_SLOT", type := (.object "java/lang/Object"), accessFlags := 26, slot := 6, constantValue := 0 }, { name := "RUNNING", type := (.object "java/lang/ThreadLocal"), accessFlags := 26, slot := 7, constantValue := 0 }, { name := "TABLE", type := (.object "java/lang/invoke/VarHandle"), accessFlags := 26, slot := 8, constantValue := 0 }, { name := "GROWTH", type := (.object "java/lang/invoke/VarHandle"), accessFlags := 26, slot := 9, constantValue := 0 }, { name := "table", type := (.object "io/swarmtable/Swarmtable$Table"), accessFlags := 66, slot := 2, constantValue := 0 }, { name := "growth", type := (.object "io/swarmtable/Swarmtable$Growth"), accessFlags := 66, slot := 3, constantValue := 0 }, { name := "firstBins", type := .int, accessFlags := 18, slot := 4, constantValue := 0 }, { name := "functionsRun", type := .boolean, accessFlags := 2, slot := 5, constantValue := 0 }, { name := "count", type := (.object "java/util/concurrent/atomic/LongAdder"), accessFlags := 18, slot := 6, constantValue := 0 }]
  methods := #[k5m0, k5m1]
  instanceTypes := #[(.object "java/util/Set"), (.object "java/util/Collection"), (.object "io/swarmtable/Swarmtable$Table"), (.object "io/swarmtable/Swarmtable$Growth"), .int, .boolean, (.object "java/util/concurrent/atomic/LongAdder")]
  staticTypes := #[.int, .int, .int, (.object "java/lang/invoke/VarHandle"), (.object "java/lang/invoke/VarHandle"), (.object "java/lang/Object"), (.object "java/lang/Object"), (.object "java/lang/ThreadLocal"), (.object "java/lang/invoke/VarHandle"), (.object "java/lang/invoke/VarHandle")]
  resolved := Array.replicate 717 none
  statics := none }

def pool6 : Array CpInfo := pool [(1, u "java/lang/Cloneable"), (0, .class_ 1), (0, u "java/lang/Object"), (0, .class_ 3)] 3

/-- java/lang/Cloneable -/
def k6 : Class := { plain "java/lang/Cloneable" (some 0) with
  accessFlags := 1537
  interfaces := #[]
  cf := some (fileOf pool6 2 #[] #[] 1537 4 #[] #[])
  fields := #[]
  methods := #[]
  instanceTypes := #[]
  staticTypes := #[]
  resolved := Array.replicate 8 none
  statics := none }

def pool7 : Array CpInfo := pool [(1, u "java/io/Serializable"), (0, .class_ 1), (0, u "java/lang/Object"), (0, .class_ 3)] 3

/-- java/io/Serializable -/
def k7 : Class := { plain "java/io/Serializable" (some 0) with
  accessFlags := 1537
  interfaces := #[]
  cf := some (fileOf pool7 2 #[] #[] 1537 4 #[] #[])
  fields := #[]
  methods := #[]
  instanceTypes := #[]
  staticTypes := #[]
  resolved := Array.replicate 8 none
  statics := none }

/-- the primitive byte -/
def k8 : Class := { plain "byte" none with kind := .primitive 'B', accessFlags := 0x411 }
/-- [B -/
def k9 : Class := { plain "[B" (some 0) with kind := .array 8 .byte, interfaces := #[6, 7], accessFlags := 1041 }

/-- the primitive int -/
def k10 : Class := { plain "int" none with kind := .primitive 'I', accessFlags := 0x411 }
/-- [I -/
def k11 : Class := { plain "[I" (some 0) with kind := .array 10 .int, interfaces := #[6, 7], accessFlags := 1041 }

def heap : Heap := #[]
def classes : Array Class := #[k0, k1, k2, k3, k4, k5, k6, k7, k8, k9, k10, k11]
def interned : List (Array UInt16 × Addr) := []
def slotsUsed : Nat := 0
def theMethod : MethodId := ⟨1, 1⟩
def args0 : Array Value := #[.int 5]
def aboutOver (below : List Frame) : State where
  vm := { classes := classes, interned := interned.toArray }
  heap := heap
  slotsUsed := slotsUsed
  threads := #[{ frames := .invoking theMethod args0 :: below }]
def below0 : List Frame := [.native { method := ⟨0, 0⟩, args := #[] }]
def about1 : State := aboutOver below0
def p0 : Program := .bare "" "" ""
def e0 : Env := launch0.env 0 0 0
theorem w_frames : about1.frames = Frame.invoking theMethod args0 :: below0 := rfl
set_option maxRecDepth 65536 in
theorem w_args : argsFit about1.vm theMethod args0 = true := by decide +kernel
set_option maxRecDepth 65536 in
theorem w_heap : heapFits about1 = true := by decide +kernel
set_option maxRecDepth 65536 in
theorem w_runnable : about1.curStatus? = some .runnable := by decide +kernel
set_option maxRecDepth 65536 in
theorem w_alone : about1.alone = true := by decide +kernel
set_option maxRecDepth 65536 in
theorem w_named : about1.methodNamed? x = some theMethod := by decide +kernel
set_option maxRecDepth 65536 in
theorem w_hears : about1.hears theMethod below0 = true := by decide +kernel
set_option maxRecDepth 65536 in
theorem w_ripe : about1.ripe theMethod args0 below0 = true := by decide +kernel
theorem w_running : about1.status = .running := rfl
set_option maxRecDepth 65536 in
theorem w_room : about1.hasRoom e0.platform room_1 = true :=
  launch0.hasRoom_least _ room_1 (by decide +kernel) (by decide +kernel) (by decide +kernel) (by decide +kernel) (by decide +kernel) (by decide +kernel)
theorem allAtoms_all (ts : List Jvm.Cond) (a : Array Jvm.Value) (st : Jvm.State) : (allAtoms ts).before a st = ts.all (fun c => c.before a st) := by
  induction ts with
  | nil => rfl
  | cons c t ih =>
    show (Jvm.Cond.and c (allAtoms t)).before a st = _
    rw [Jvm.Cond.before_and, ih, List.all_cons]
def words1 : List Jvm.Cond := Jvm.Cond.code x code maxLocals ret :: tables_1
/-- a 'code' word, met by the world's own term for the bytes: nothing is compared byte by byte -/
theorem code_word {y : MethodName} {bytes : ByteArray} {mx : Nat} {rt : Option FieldType} {a : Array Value} {s : State} {m : MethodId} {meth : Method} {c : Code} (h1 : s.methodNamed? y = some m) (h2 : s.vm.method? m = some meth) (h3 : meth.code = some c) (h4 : c.code = bytes)
    (h5 : (c.maxLocals == mx && c.exceptionTable.isEmpty && decide (c.maxStack ≤ mostOperands) && decide (meth.sig.returnType = rt) && !meth.locks && decide (parseMethodDescriptor y.desc = some meth.sig)) = true) : (Jvm.Cond.code y bytes mx rt).before a s = true := by
  simp only [Bool.and_eq_true, beq_iff_eq, Bool.not_eq_true', decide_eq_true_eq] at h5
  obtain ⟨⟨⟨⟨⟨g1, g2⟩, g3⟩, g4⟩, g5⟩, g6⟩ := h5
  simp [Cond.before, Cond.holds, Cond.value, h1, h2, h3, h4, g1, g2, g3, g4, g5, g6]
def isCode : Jvm.Cond → Bool
  | .code _ _ _ _ => true
  | _ => false
theorem all_split {L : List Jvm.Cond} {P : Jvm.Cond → Bool} (h1 : L.all (fun c => isCode c || P c) = true) (h2 : ∀ c ∈ L.filter isCode, P c = true) : L.all P = true := by
  refine List.all_eq_true.mpr fun c hc => ?_
  have h := List.all_eq_true.mp h1 c hc
  rcases Bool.eq_false_or_eq_true (isCode c) with hi | hi
  · exact h2 c (List.mem_filter.mpr ⟨hc, hi⟩)
  · simpa [hi] using h
set_option maxRecDepth 65536 in
theorem w_c0 : (Jvm.Cond.code x code maxLocals ret).before args0 about1 = true := code_word (m := ⟨1, 1⟩) (meth := k1m1) (c := k1c1) (by decide +kernel) rfl rfl rfl (by decide +kernel)
set_option maxRecDepth 65536 in
theorem w_c1 : (Jvm.Cond.code ({ cls := "io/swarmtable/Swarmtable", name := "binsFor", desc := "(I)I" } : Jvm.MethodName) prog_10_method_3_code (2 : Nat) (Option.some Jvm.ClassFile.FieldType.int)).before args0 about1 = true := code_word (m := ⟨5, 1⟩) (meth := k5m1) (c := k5c1) (by decide +kernel) rfl rfl rfl (by decide +kernel)
def codes1 : List Jvm.Cond := [Jvm.Cond.code x code maxLocals ret, Jvm.Cond.code ({ cls := "io/swarmtable/Swarmtable", name := "binsFor", desc := "(I)I" } : Jvm.MethodName) prog_10_method_3_code (2 : Nat) (Option.some Jvm.ClassFile.FieldType.int)]
set_option maxRecDepth 65536 in
theorem codes_eq : words1.filter isCode = codes1 := rfl
theorem w_codes : ∀ c ∈ words1.filter isCode, c.before args0 about1 = true := by
  rw [codes_eq]
  intro c hc
  simp only [codes1, List.mem_cons, List.not_mem_nil, or_false] at hc
  rcases hc with rfl | rfl
  · exact w_c0
  · exact w_c1
set_option maxRecDepth 65536 in
theorem w_t1 : words1.all (fun c => isCode c || c.before args0 about1) = true := by decide +kernel
theorem w_tables : (allAtoms (Jvm.Cond.code x code maxLocals ret :: tables_1)).before args0 about1 = true := by
  rw [allAtoms_all]
  show words1.all (fun c => c.before args0 about1) = true
  refine all_split ?_ w_codes
  rw [w_t1]
set_option maxRecDepth 65536 in
theorem w_case : (Jvm.Cond.and given_1 narrow_1).before args0 about1 = true := by decide +kernel
theorem w_applies : (headSpec (Jvm.Cond.code x code maxLocals ret :: tables_1) room_1).applies x e0.platform about1 = true :=
  (Spec.applies_iff w_frames).mpr ⟨w_running, w_runnable, w_alone, w_named, w_hears, w_ripe, w_room, w_tables⟩
theorem atStart : AtStart classFile x code maxLocals ret World_1 tables_1 room_1 Calls_1 rest_1 Pre_1 launch0 p0 e0 about1 theMethod args0 below0 :=
  ⟨lists_1, trivial, launch0.admits_env _ _ _, launch0.least_env, fairChoices_fair.cas, fairChoices_fair.clock, w_frames, w_args, w_heap, w_applies, trivial, trivial, w_case⟩
end start1
theorem witness_1 : WitnessClaimed_1 := ⟨start1.p0, start1.e0, start1.about1, start1.theMethod, start1.args0, start1.below0, start1.atStart⟩
end Jvm.Pilot.@@N@@
