import JvmDerived
import JvmDerived.Pilot.@@N@@Statement
import JvmDerived.Pilot.@@N@@Code
set_option linter.unusedVariables false
set_option linter.unusedSimpArgs false
@@BLOCK:NumsL.lean.txt@@
namespace Jvm.RoadKit
open Sem ClassFile Op Lib Jvm.Stand Jvm.Free Jvm.LawKit
section New
variable {p : Program} {l : Launch} {e : Env} {R : Room} {s : State} {m : MethodId} {args : Array Value} {below : List Frame} {meth : Method} {c : Code} {T : State} {locs : List Loc} {cells slots : Nat}
theorem retI (X : Stand p l e R s m args below meth c T locs cells slots) (hx : p.tables.exec = Jvm.exec) {pc : Nat} {Ls : Array Slot} {z : Int32} {rest : List Value} (hret : meth.sig.returnType = some .int) (hd : decode c.code pc = .ok (.ireturn, 1)) {fs : List Frame}
    (hl : ∀ (f : JFrame) (acts : List Action), f.method = m → f.locked = none → f.entered = [] → (doReturn e (T.setTop f) acts (some (.int z))).1 = T.setFrames fs) : Steps p.tables e below (T.setTop (mkF m pc Ls (.int z :: rest))) (T.setFrames fs) :=
  retOut X hx hret rfl (Or.inl ⟨rfl, Or.inl rfl, z, rfl⟩) hd hl
theorem retJ (X : Stand p l e R s m args below meth c T locs cells slots) (hx : p.tables.exec = Jvm.exec) {pc : Nat} {Ls : Array Slot} {z : Int64} {rest : List Value} (hret : meth.sig.returnType = some .long) (hd : decode c.code pc = .ok (.lreturn, 1)) {fs : List Frame}
    (hl : ∀ (f : JFrame) (acts : List Action), f.method = m → f.locked = none → f.entered = [] → (doReturn e (T.setTop f) acts (some (.long z))).1 = T.setFrames fs) : Steps p.tables e below (T.setTop (mkF m pc Ls (.long z :: rest))) (T.setFrames fs) :=
  retOut X hx hret rfl (Or.inr (Or.inl ⟨rfl, rfl, z, rfl⟩)) hd hl
theorem retA (X : Stand p l e R s m args below meth c T locs cells slots) (hx : p.tables.exec = Jvm.exec) {pc : Nat} {Ls : Array Slot} {w : Value} {t : FieldType} {rest : List Value} (hret : meth.sig.returnType = some t) (ht : t.isReference = true) (hn : narrow t w = w) (hw : w.isRef = true) (hd : decode c.code pc = .ok (.areturn, 1)) {fs : List Frame}
    (hl : ∀ (f : JFrame) (acts : List Action), f.method = m → f.locked = none → f.entered = [] → (doReturn e (T.setTop f) acts (some w)).1 = T.setFrames fs) : Steps p.tables e below (T.setTop (mkF m pc Ls (w :: rest))) (T.setFrames fs) :=
  retOut X hx hret hn (Or.inr (Or.inr (Or.inr (Or.inr ⟨rfl, ht, hw⟩)))) hd hl
/-- what an array of ints that is written down holds at a place -/
def own_at (vs : List Value) (d : Value) (j : Int32) : Int32 := match vs.getD j.toNatClampNeg d with | .int x => x | _ => 0
def own_ints (vs : List Value) : Bool := vs.all fun v => match v with | .int _ => true | _ => false
theorem own_at_eq {vs : List Value} {d : Value} (h : own_ints (d :: vs) = true) (j : Int32) : vs.getD j.toNatClampNeg d = .int (own_at vs d j) := by
  have q : vs.getD j.toNatClampNeg d ∈ d :: vs := by
    rw [List.getD_eq_getElem?_getD]
    cases e : vs[j.toNatClampNeg]? with
    | none => simp
    | some w => exact List.mem_cons_of_mem _ (List.mem_of_getElem? e)
  have r := List.all_eq_true.mp h _ q
  unfold own_at
  cases e : vs.getD j.toNatClampNeg d <;> rw [e] at r <;> first | rfl | cases r
/-- a piece of a road from the frame F to the frame G, by whatever states between -/
theorem own_seg (X : Stand p l e R s m args below meth c T locs cells slots) (h : Heap) (F G : JFrame)
    (k : ∃ T', Stand p l e R s m args below meth c T' locs cells slots ∧ T'.heap = h ∧ ∀ target, Steps p.tables e below (T'.setTop G) target → Steps p.tables e below (T.setTop F) target) :
    ∃ T', Stand p l e R s m args below meth c T' locs cells slots ∧ T'.heap = h ∧ ∀ target, Steps p.tables e below (T'.setTop G) target → Steps p.tables e below (T.setTop F) target := k
end New
end Jvm.RoadKit
namespace Jvm.Pilot.@@N@@
open Jvm Jvm.ClassFile Sem Op Lib Jvm.Free Jvm.Stand Jvm.LawKit Jvm.RoadKit Bundle Jvm.Pilot.@@N@@.Jvm.D

theorem own_ix {p1 : Int32} {n : Nat} (h1 : p1.toInt = (n : Int)) (h2 : n ≤ 3) (o : Nat) (ho : o ≤ 7) : (p1 + Int32.ofNat o).toInt = (n : Int) + (o : Int) := by
  have e : (Int32.ofNat o).toInt = (o : Int) := Int32.toInt_ofNat_small (by omega)
  rw [Jvm.Kit.i32_add (by omega) (by omega), h1, e]
theorem own_ixb {p1 : Int32} {n : Nat} (h1 : p1.toInt = (n : Int)) (h2 : n ≤ 3) (o : Nat) (ho : o ≤ 7 := by decide) : ¬ (p1 + Int32.ofNat o) < 0 ∧ (p1 + Int32.ofNat o) < (11 : Int32) := by
  have e := own_ix h1 h2 o ho
  have a0 : (0 : Int32).toInt = 0 := rfl
  have a1 : (11 : Int32).toInt = 11 := rfl
  rw [Int32.lt_iff_toInt_lt, Int32.lt_iff_toInt_lt]; omega
theorem own_ixb0 {p1 : Int32} {n : Nat} (h1 : p1.toInt = (n : Int)) (h2 : n ≤ 3) : ¬ p1 < 0 ∧ p1 < (11 : Int32) := by
  have a0 : (0 : Int32).toInt = 0 := rfl
  have a1 : (11 : Int32).toInt = 11 := rfl
  rw [Int32.lt_iff_toInt_lt, Int32.lt_iff_toInt_lt]; omega
theorem own_ixj {p1 : Int32} {n : Nat} (h1 : p1.toInt = (n : Int)) (h2 : n ≤ 3) (o : Nat) (ho : o ≤ 7 := by decide) : (p1 + Int32.ofNat o).toNatClampNeg = n + o := by
  have e := own_ix h1 h2 o ho
  show (p1 + Int32.ofNat o).toInt.toNat = n + o
  omega
theorem own_ixj0 {p1 : Int32} {n : Nat} (h1 : p1.toInt = (n : Int)) : p1.toNatClampNeg = n + 0 := by
  show p1.toInt.toNat = n + 0
  omega

theorem d1_0 : decode method_2_code 0 = .ok (.aload_n 0, 1) := by decide +kernel
theorem d1_1 : decode method_2_code 1 = .ok (.iload_n 1, 1) := by decide +kernel
theorem d1_2 : decode method_2_code 2 = .ok (.lload_n 2, 1) := by decide +kernel
theorem d1_3 : decode method_2_code 3 = .ok (.l2i, 1) := by decide +kernel
theorem d1_4 : decode method_2_code 4 = .ok (.i2b, 1) := by decide +kernel
theorem d1_5 : decode method_2_code 5 = .ok (.bastore, 1) := by decide +kernel
theorem d1_6 : decode method_2_code 6 = .ok (.aload_n 0, 1) := by decide +kernel
theorem d1_7 : decode method_2_code 7 = .ok (.iload_n 1, 1) := by decide +kernel
theorem d1_8 : decode method_2_code 8 = .ok (.iconst 1, 1) := by decide +kernel
theorem d1_9 : decode method_2_code 9 = .ok (.iadd, 1) := by decide +kernel
theorem d1_10 : decode method_2_code 10 = .ok (.lload_n 2, 1) := by decide +kernel
theorem d1_11 : decode method_2_code 11 = .ok (.bipush 8, 2) := by decide +kernel
theorem d1_13 : decode method_2_code 13 = .ok (.lushr, 1) := by decide +kernel
theorem d1_14 : decode method_2_code 14 = .ok (.l2i, 1) := by decide +kernel
theorem d1_15 : decode method_2_code 15 = .ok (.i2b, 1) := by decide +kernel
theorem d1_16 : decode method_2_code 16 = .ok (.bastore, 1) := by decide +kernel
theorem d1_17 : decode method_2_code 17 = .ok (.aload_n 0, 1) := by decide +kernel
theorem d1_18 : decode method_2_code 18 = .ok (.iload_n 1, 1) := by decide +kernel
theorem d1_19 : decode method_2_code 19 = .ok (.iconst 2, 1) := by decide +kernel
theorem d1_20 : decode method_2_code 20 = .ok (.iadd, 1) := by decide +kernel
theorem d1_21 : decode method_2_code 21 = .ok (.lload_n 2, 1) := by decide +kernel
theorem d1_22 : decode method_2_code 22 = .ok (.bipush 16, 2) := by decide +kernel
theorem d1_24 : decode method_2_code 24 = .ok (.lushr, 1) := by decide +kernel
theorem d1_25 : decode method_2_code 25 = .ok (.l2i, 1) := by decide +kernel
theorem d1_26 : decode method_2_code 26 = .ok (.i2b, 1) := by decide +kernel
theorem d1_27 : decode method_2_code 27 = .ok (.bastore, 1) := by decide +kernel
theorem d1_28 : decode method_2_code 28 = .ok (.aload_n 0, 1) := by decide +kernel
theorem d1_29 : decode method_2_code 29 = .ok (.iload_n 1, 1) := by decide +kernel
theorem d1_30 : decode method_2_code 30 = .ok (.iconst 3, 1) := by decide +kernel
theorem d1_31 : decode method_2_code 31 = .ok (.iadd, 1) := by decide +kernel
theorem d1_32 : decode method_2_code 32 = .ok (.lload_n 2, 1) := by decide +kernel
theorem d1_33 : decode method_2_code 33 = .ok (.bipush 24, 2) := by decide +kernel
theorem d1_35 : decode method_2_code 35 = .ok (.lushr, 1) := by decide +kernel
theorem d1_36 : decode method_2_code 36 = .ok (.l2i, 1) := by decide +kernel
theorem d1_37 : decode method_2_code 37 = .ok (.i2b, 1) := by decide +kernel
theorem d1_38 : decode method_2_code 38 = .ok (.bastore, 1) := by decide +kernel
theorem d1_39 : decode method_2_code 39 = .ok (.aload_n 0, 1) := by decide +kernel
theorem d1_40 : decode method_2_code 40 = .ok (.iload_n 1, 1) := by decide +kernel
theorem d1_41 : decode method_2_code 41 = .ok (.iconst 4, 1) := by decide +kernel
theorem d1_42 : decode method_2_code 42 = .ok (.iadd, 1) := by decide +kernel
theorem d1_43 : decode method_2_code 43 = .ok (.lload_n 2, 1) := by decide +kernel
theorem d1_44 : decode method_2_code 44 = .ok (.bipush 32, 2) := by decide +kernel
theorem d1_46 : decode method_2_code 46 = .ok (.lushr, 1) := by decide +kernel
theorem d1_47 : decode method_2_code 47 = .ok (.l2i, 1) := by decide +kernel
theorem d1_48 : decode method_2_code 48 = .ok (.i2b, 1) := by decide +kernel
theorem d1_49 : decode method_2_code 49 = .ok (.bastore, 1) := by decide +kernel
theorem d1_50 : decode method_2_code 50 = .ok (.aload_n 0, 1) := by decide +kernel
theorem d1_51 : decode method_2_code 51 = .ok (.iload_n 1, 1) := by decide +kernel
theorem d1_52 : decode method_2_code 52 = .ok (.iconst 5, 1) := by decide +kernel
theorem d1_53 : decode method_2_code 53 = .ok (.iadd, 1) := by decide +kernel
theorem d1_54 : decode method_2_code 54 = .ok (.lload_n 2, 1) := by decide +kernel
theorem d1_55 : decode method_2_code 55 = .ok (.bipush 40, 2) := by decide +kernel
theorem d1_57 : decode method_2_code 57 = .ok (.lushr, 1) := by decide +kernel
theorem d1_58 : decode method_2_code 58 = .ok (.l2i, 1) := by decide +kernel
theorem d1_59 : decode method_2_code 59 = .ok (.i2b, 1) := by decide +kernel
theorem d1_60 : decode method_2_code 60 = .ok (.bastore, 1) := by decide +kernel
theorem d1_61 : decode method_2_code 61 = .ok (.aload_n 0, 1) := by decide +kernel
theorem d1_62 : decode method_2_code 62 = .ok (.iload_n 1, 1) := by decide +kernel
theorem d1_63 : decode method_2_code 63 = .ok (.bipush 6, 2) := by decide +kernel
theorem d1_65 : decode method_2_code 65 = .ok (.iadd, 1) := by decide +kernel
theorem d1_66 : decode method_2_code 66 = .ok (.lload_n 2, 1) := by decide +kernel
theorem d1_67 : decode method_2_code 67 = .ok (.bipush 48, 2) := by decide +kernel
theorem d1_69 : decode method_2_code 69 = .ok (.lushr, 1) := by decide +kernel
theorem d1_70 : decode method_2_code 70 = .ok (.l2i, 1) := by decide +kernel
theorem d1_71 : decode method_2_code 71 = .ok (.i2b, 1) := by decide +kernel
theorem d1_72 : decode method_2_code 72 = .ok (.bastore, 1) := by decide +kernel
theorem d1_73 : decode method_2_code 73 = .ok (.aload_n 0, 1) := by decide +kernel
theorem d1_74 : decode method_2_code 74 = .ok (.iload_n 1, 1) := by decide +kernel
theorem d1_75 : decode method_2_code 75 = .ok (.bipush 7, 2) := by decide +kernel
theorem d1_77 : decode method_2_code 77 = .ok (.iadd, 1) := by decide +kernel
theorem d1_78 : decode method_2_code 78 = .ok (.lload_n 2, 1) := by decide +kernel
theorem d1_79 : decode method_2_code 79 = .ok (.bipush 56, 2) := by decide +kernel
theorem d1_81 : decode method_2_code 81 = .ok (.lushr, 1) := by decide +kernel
theorem d1_82 : decode method_2_code 82 = .ok (.l2i, 1) := by decide +kernel
theorem d1_83 : decode method_2_code 83 = .ok (.i2b, 1) := by decide +kernel
theorem d1_84 : decode method_2_code 84 = .ok (.bastore, 1) := by decide +kernel
theorem d1_85 : decode method_2_code 85 = .ok (.return_, 1) := by decide +kernel
theorem pn_1 : plainName "com/example/ledgerline/ledgerline/storage/compression/DecompressingInputLittleEndianPinLaw" = true := by first | (simp [plainName, overriddenIn]; done) | decide +kernel
theorem ef_1 (m : MethodId) (r0 : Addr) (p1 : Int32) (q2 : Int64) : entryFrame m #[(.ref r0), (.int p1), (.long q2)] 4 = mkF m 0 #[.val (.ref r0), .val (.int p1), .val (.long q2), .second] [] := by first | (simp [entryFrame, mkF, argsToLocals, Value.category]; done) | rfl
def Q1 (Z : State) (r0 : Addr) (p1 : Int32) (q2 : Int64) (k_r0 : ClassId) (x_vs : List Value) (n_1 : Nat) (h0 : Heap) (n0 : Nat) (v : Option Value) (h : Heap) (L : List Loc) : Prop := v = none ∧ Fr n0 L ∧ Keep h0 h [r0] ∧ Arv Z h r0 k_r0 .byte (11 : Int32) ((((((((x_vs.set (n_1 + 0) (.int (nar .byte ((q2.toInt32).toInt8.toInt32)))).set (n_1 + 1) (.int (nar .byte ((((q2.toUInt64 >>> ((8 : Int32) &&& 0x3f).toInt64.toUInt64).toInt64).toInt32).toInt8.toInt32)))).set (n_1 + 2) (.int (nar .byte ((((q2.toUInt64 >>> ((16 : Int32) &&& 0x3f).toInt64.toUInt64).toInt64).toInt32).toInt8.toInt32)))).set (n_1 + 3) (.int (nar .byte ((((q2.toUInt64 >>> ((24 : Int32) &&& 0x3f).toInt64.toUInt64).toInt64).toInt32).toInt8.toInt32)))).set (n_1 + 4) (.int (nar .byte ((((q2.toUInt64 >>> ((32 : Int32) &&& 0x3f).toInt64.toUInt64).toInt64).toInt32).toInt8.toInt32)))).set (n_1 + 5) (.int (nar .byte ((((q2.toUInt64 >>> ((40 : Int32) &&& 0x3f).toInt64.toUInt64).toInt64).toInt32).toInt8.toInt32)))).set (n_1 + 6) (.int (nar .byte ((((q2.toUInt64 >>> ((48 : Int32) &&& 0x3f).toInt64.toUInt64).toInt64).toInt32).toInt8.toInt32)))).set (n_1 + 7) (.int (nar .byte ((((q2.toUInt64 >>> ((56 : Int32) &&& 0x3f).toInt64.toUInt64).toInt64).toInt32).toInt8.toInt32)))) (.int (0 : Int32))
set_option maxRecDepth 65536 in
set_option maxHeartbeats 40000000 in
theorem rm1 (l : Launch) (Z : State) (a0 : Array Value) (hw : ∀ d ∈ tables_1, d.before a0 Z = true) (ws : List Jvm.Cond) (r0 : Addr) (p1 : Int32) (q2 : Int64) (k_r0 : ClassId) (x_vs : List Value) (n_1 : Nat) (h0 : Heap) (n0 : Nat) (Z0 : n0 ≤ h0.size) (V_r0 : Arv Z h0 r0 k_r0 .byte (11 : Int32) x_vs (.int (0 : Int32))) (hlen : x_vs.length = 11) (hn1 : p1.toInt = (n_1 : Int)) (hn2 : n_1 ≤ 3) (g_r0 : n0 ≤ r0) :
    MetFree l (⟨"com/example/ledgerline/ledgerline/storage/compression/DecompressingInputLittleEndianPinLaw", "putLong", "([BIJ)V"⟩ : MethodName) (head1 (Jvm.Cond.code (⟨"com/example/ledgerline/ledgerline/storage/compression/DecompressingInputLittleEndianPinLaw", "putLong", "([BIJ)V"⟩ : MethodName) method_2_code 4 none :: ws) ({ frames := 0, cells := 0, slots := 0, locals := 0 } : Room)) (fun a U => a = #[(.ref r0), (.int p1), (.long q2)] ∧ Z.Warmed39 U.vm ∧ U.heap = h0) (fun _ _ _ _ _ => True) (fun _ U o U' => ∃ v L, o = .returned v ∧ Q1 Z r0 p1 q2 k_r0 x_vs n_1 h0 n0 v U'.heap L ∧ FrameEnd U o U' L ({ frames := 0, cells := 0, slots := 0, locals := 0 } : Room).cells ({ frames := 0, cells := 0, slots := 0, locals := 0 } : Room).slots) := by
  refine MetFree.of_bodySF (plainFor_of_name pn_1) hisR ?_
  intro p e s m args below meth c s₁ Bd hml0 hP hK
  obtain ⟨rfl, hZ, hh⟩ := hP
  have hx := Bd.exec
  have hby := Bd.bytes
  have hml : c.maxLocals = 4 := hml0
  have hown : s.vm.findClass "com/example/ledgerline/ledgerline/storage/compression/DecompressingInputLittleEndianPinLaw" = some m.cls := findClass_of_methodNamed Bd.named
  have hnm := (name_of_methodNamed Bd.named Bd.method).1
  have X0 : Stand p l e ({ frames := 0, cells := 0, slots := 0, locals := 0 } : Room) s m #[(.ref r0), (.int p1), (.long q2)] below meth c s₁ [] 0 0 := Stand.of_body Bd
  have e0 : s₁.heap = h0 := by rw [← hh, Bd.state]; rfl
  have N0 := Fr.nil n0
  have pre0 : ∀ t, Steps p.tables e below (s₁.setTop (mkF m 0 #[.val (.ref r0), .val (.int p1), .val (.long q2), .second] [])) t → Steps p.tables e below (s₁.setTop (entryFrame m #[(.ref r0), (.int p1), (.long q2)] 4)) t := fun t k => castTop (ef_1 m r0 p1 q2) k
  obtain ⟨cl1, Ar1, qk1, Sz1, M1, Hs1, G1⟩ := id V_r0
  have hin1 : ¬ (p1 < 0 ∨ cl1.slots.size ≤ (p1).toNatClampNeg) := inb_of Sz1 (own_ixb0 hn1 hn2)
  obtain ⟨T1, h1, X1, e1, W1, st1⟩ := stB X0 hx hZ e0 Ar1 (j := p1) hin1 (g := (mkF m 5 #[.val (.ref r0), .val (.int p1), .val (.long q2), .second] [(.int ((q2.toInt32).toInt8.toInt32)), (.int p1), (.ref r0)])) rfl rfl (hb hby d1_5)
  have V1 : Arv Z h1 r0 k_r0 .byte (11 : Int32) (x_vs.set (n_1 + 0) (.int (nar .byte ((q2.toInt32).toInt8.toInt32)))) (.int (0 : Int32)) := Arv.set Ar1 qk1 Sz1 M1 Hs1 G1 (fits_nar_byte _) W1 (n_1 + 0) (own_ixj0 hn1) (by (try simp only [List.length_set]); omega)
  have N1 := Fr.snoc X1 N0 g_r0
  obtain ⟨cl2, Ar2, qk2, Sz2, M2, Hs2, G2⟩ := id V1
  have hin2 : ¬ ((p1 + (1 : Int32)) < 0 ∨ cl2.slots.size ≤ ((p1 + (1 : Int32))).toNatClampNeg) := inb_of Sz2 (own_ixb hn1 hn2 1)
  obtain ⟨T2, h2, X2, e2, W2, st2⟩ := stB X1 hx hZ e1 Ar2 (j := (p1 + (1 : Int32))) hin2 (g := (mkF m 16 #[.val (.ref r0), .val (.int p1), .val (.long q2), .second] [(.int ((((q2.toUInt64 >>> ((8 : Int32) &&& 0x3f).toInt64.toUInt64).toInt64).toInt32).toInt8.toInt32)), (.int (p1 + (1 : Int32))), (.ref r0)])) rfl rfl (hb hby d1_16)
  have V2 : Arv Z h2 r0 k_r0 .byte (11 : Int32) ((x_vs.set (n_1 + 0) (.int (nar .byte ((q2.toInt32).toInt8.toInt32)))).set (n_1 + 1) (.int (nar .byte ((((q2.toUInt64 >>> ((8 : Int32) &&& 0x3f).toInt64.toUInt64).toInt64).toInt32).toInt8.toInt32)))) (.int (0 : Int32)) := Arv.set Ar2 qk2 Sz2 M2 Hs2 G2 (fits_nar_byte _) W2 (n_1 + 1) (own_ixj hn1 hn2 1) (by (try simp only [List.length_set]); omega)
  have N2 := Fr.snoc X2 N1 g_r0
  obtain ⟨cl3, Ar3, qk3, Sz3, M3, Hs3, G3⟩ := id V2
  have hin3 : ¬ ((p1 + (2 : Int32)) < 0 ∨ cl3.slots.size ≤ ((p1 + (2 : Int32))).toNatClampNeg) := inb_of Sz3 (own_ixb hn1 hn2 2)
  obtain ⟨T3, h3, X3, e3, W3, st3⟩ := stB X2 hx hZ e2 Ar3 (j := (p1 + (2 : Int32))) hin3 (g := (mkF m 27 #[.val (.ref r0), .val (.int p1), .val (.long q2), .second] [(.int ((((q2.toUInt64 >>> ((16 : Int32) &&& 0x3f).toInt64.toUInt64).toInt64).toInt32).toInt8.toInt32)), (.int (p1 + (2 : Int32))), (.ref r0)])) rfl rfl (hb hby d1_27)
  have V3 : Arv Z h3 r0 k_r0 .byte (11 : Int32) (((x_vs.set (n_1 + 0) (.int (nar .byte ((q2.toInt32).toInt8.toInt32)))).set (n_1 + 1) (.int (nar .byte ((((q2.toUInt64 >>> ((8 : Int32) &&& 0x3f).toInt64.toUInt64).toInt64).toInt32).toInt8.toInt32)))).set (n_1 + 2) (.int (nar .byte ((((q2.toUInt64 >>> ((16 : Int32) &&& 0x3f).toInt64.toUInt64).toInt64).toInt32).toInt8.toInt32)))) (.int (0 : Int32)) := Arv.set Ar3 qk3 Sz3 M3 Hs3 G3 (fits_nar_byte _) W3 (n_1 + 2) (own_ixj hn1 hn2 2) (by (try simp only [List.length_set]); omega)
  have N3 := Fr.snoc X3 N2 g_r0
  obtain ⟨cl4, Ar4, qk4, Sz4, M4, Hs4, G4⟩ := id V3
  have hin4 : ¬ ((p1 + (3 : Int32)) < 0 ∨ cl4.slots.size ≤ ((p1 + (3 : Int32))).toNatClampNeg) := inb_of Sz4 (own_ixb hn1 hn2 3)
  obtain ⟨T4, h4, X4, e4, W4, st4⟩ := stB X3 hx hZ e3 Ar4 (j := (p1 + (3 : Int32))) hin4 (g := (mkF m 38 #[.val (.ref r0), .val (.int p1), .val (.long q2), .second] [(.int ((((q2.toUInt64 >>> ((24 : Int32) &&& 0x3f).toInt64.toUInt64).toInt64).toInt32).toInt8.toInt32)), (.int (p1 + (3 : Int32))), (.ref r0)])) rfl rfl (hb hby d1_38)
  have V4 : Arv Z h4 r0 k_r0 .byte (11 : Int32) ((((x_vs.set (n_1 + 0) (.int (nar .byte ((q2.toInt32).toInt8.toInt32)))).set (n_1 + 1) (.int (nar .byte ((((q2.toUInt64 >>> ((8 : Int32) &&& 0x3f).toInt64.toUInt64).toInt64).toInt32).toInt8.toInt32)))).set (n_1 + 2) (.int (nar .byte ((((q2.toUInt64 >>> ((16 : Int32) &&& 0x3f).toInt64.toUInt64).toInt64).toInt32).toInt8.toInt32)))).set (n_1 + 3) (.int (nar .byte ((((q2.toUInt64 >>> ((24 : Int32) &&& 0x3f).toInt64.toUInt64).toInt64).toInt32).toInt8.toInt32)))) (.int (0 : Int32)) := Arv.set Ar4 qk4 Sz4 M4 Hs4 G4 (fits_nar_byte _) W4 (n_1 + 3) (own_ixj hn1 hn2 3) (by (try simp only [List.length_set]); omega)
  have N4 := Fr.snoc X4 N3 g_r0
  obtain ⟨cl5, Ar5, qk5, Sz5, M5, Hs5, G5⟩ := id V4
  have hin5 : ¬ ((p1 + (4 : Int32)) < 0 ∨ cl5.slots.size ≤ ((p1 + (4 : Int32))).toNatClampNeg) := inb_of Sz5 (own_ixb hn1 hn2 4)
  obtain ⟨T5, h5, X5, e5, W5, st5⟩ := stB X4 hx hZ e4 Ar5 (j := (p1 + (4 : Int32))) hin5 (g := (mkF m 49 #[.val (.ref r0), .val (.int p1), .val (.long q2), .second] [(.int ((((q2.toUInt64 >>> ((32 : Int32) &&& 0x3f).toInt64.toUInt64).toInt64).toInt32).toInt8.toInt32)), (.int (p1 + (4 : Int32))), (.ref r0)])) rfl rfl (hb hby d1_49)
  have V5 : Arv Z h5 r0 k_r0 .byte (11 : Int32) (((((x_vs.set (n_1 + 0) (.int (nar .byte ((q2.toInt32).toInt8.toInt32)))).set (n_1 + 1) (.int (nar .byte ((((q2.toUInt64 >>> ((8 : Int32) &&& 0x3f).toInt64.toUInt64).toInt64).toInt32).toInt8.toInt32)))).set (n_1 + 2) (.int (nar .byte ((((q2.toUInt64 >>> ((16 : Int32) &&& 0x3f).toInt64.toUInt64).toInt64).toInt32).toInt8.toInt32)))).set (n_1 + 3) (.int (nar .byte ((((q2.toUInt64 >>> ((24 : Int32) &&& 0x3f).toInt64.toUInt64).toInt64).toInt32).toInt8.toInt32)))).set (n_1 + 4) (.int (nar .byte ((((q2.toUInt64 >>> ((32 : Int32) &&& 0x3f).toInt64.toUInt64).toInt64).toInt32).toInt8.toInt32)))) (.int (0 : Int32)) := Arv.set Ar5 qk5 Sz5 M5 Hs5 G5 (fits_nar_byte _) W5 (n_1 + 4) (own_ixj hn1 hn2 4) (by (try simp only [List.length_set]); omega)
  have N5 := Fr.snoc X5 N4 g_r0
  obtain ⟨cl6, Ar6, qk6, Sz6, M6, Hs6, G6⟩ := id V5
  have hin6 : ¬ ((p1 + (5 : Int32)) < 0 ∨ cl6.slots.size ≤ ((p1 + (5 : Int32))).toNatClampNeg) := inb_of Sz6 (own_ixb hn1 hn2 5)
  obtain ⟨T6, h6, X6, e6, W6, st6⟩ := stB X5 hx hZ e5 Ar6 (j := (p1 + (5 : Int32))) hin6 (g := (mkF m 60 #[.val (.ref r0), .val (.int p1), .val (.long q2), .second] [(.int ((((q2.toUInt64 >>> ((40 : Int32) &&& 0x3f).toInt64.toUInt64).toInt64).toInt32).toInt8.toInt32)), (.int (p1 + (5 : Int32))), (.ref r0)])) rfl rfl (hb hby d1_60)
  have V6 : Arv Z h6 r0 k_r0 .byte (11 : Int32) ((((((x_vs.set (n_1 + 0) (.int (nar .byte ((q2.toInt32).toInt8.toInt32)))).set (n_1 + 1) (.int (nar .byte ((((q2.toUInt64 >>> ((8 : Int32) &&& 0x3f).toInt64.toUInt64).toInt64).toInt32).toInt8.toInt32)))).set (n_1 + 2) (.int (nar .byte ((((q2.toUInt64 >>> ((16 : Int32) &&& 0x3f).toInt64.toUInt64).toInt64).toInt32).toInt8.toInt32)))).set (n_1 + 3) (.int (nar .byte ((((q2.toUInt64 >>> ((24 : Int32) &&& 0x3f).toInt64.toUInt64).toInt64).toInt32).toInt8.toInt32)))).set (n_1 + 4) (.int (nar .byte ((((q2.toUInt64 >>> ((32 : Int32) &&& 0x3f).toInt64.toUInt64).toInt64).toInt32).toInt8.toInt32)))).set (n_1 + 5) (.int (nar .byte ((((q2.toUInt64 >>> ((40 : Int32) &&& 0x3f).toInt64.toUInt64).toInt64).toInt32).toInt8.toInt32)))) (.int (0 : Int32)) := Arv.set Ar6 qk6 Sz6 M6 Hs6 G6 (fits_nar_byte _) W6 (n_1 + 5) (own_ixj hn1 hn2 5) (by (try simp only [List.length_set]); omega)
  have N6 := Fr.snoc X6 N5 g_r0
  obtain ⟨cl7, Ar7, qk7, Sz7, M7, Hs7, G7⟩ := id V6
  have hin7 : ¬ ((p1 + (6 : Int32)) < 0 ∨ cl7.slots.size ≤ ((p1 + (6 : Int32))).toNatClampNeg) := inb_of Sz7 (own_ixb hn1 hn2 6)
  obtain ⟨T7, h7, X7, e7, W7, st7⟩ := stB X6 hx hZ e6 Ar7 (j := (p1 + (6 : Int32))) hin7 (g := (mkF m 72 #[.val (.ref r0), .val (.int p1), .val (.long q2), .second] [(.int ((((q2.toUInt64 >>> ((48 : Int32) &&& 0x3f).toInt64.toUInt64).toInt64).toInt32).toInt8.toInt32)), (.int (p1 + (6 : Int32))), (.ref r0)])) rfl rfl (hb hby d1_72)
  have V7 : Arv Z h7 r0 k_r0 .byte (11 : Int32) (((((((x_vs.set (n_1 + 0) (.int (nar .byte ((q2.toInt32).toInt8.toInt32)))).set (n_1 + 1) (.int (nar .byte ((((q2.toUInt64 >>> ((8 : Int32) &&& 0x3f).toInt64.toUInt64).toInt64).toInt32).toInt8.toInt32)))).set (n_1 + 2) (.int (nar .byte ((((q2.toUInt64 >>> ((16 : Int32) &&& 0x3f).toInt64.toUInt64).toInt64).toInt32).toInt8.toInt32)))).set (n_1 + 3) (.int (nar .byte ((((q2.toUInt64 >>> ((24 : Int32) &&& 0x3f).toInt64.toUInt64).toInt64).toInt32).toInt8.toInt32)))).set (n_1 + 4) (.int (nar .byte ((((q2.toUInt64 >>> ((32 : Int32) &&& 0x3f).toInt64.toUInt64).toInt64).toInt32).toInt8.toInt32)))).set (n_1 + 5) (.int (nar .byte ((((q2.toUInt64 >>> ((40 : Int32) &&& 0x3f).toInt64.toUInt64).toInt64).toInt32).toInt8.toInt32)))).set (n_1 + 6) (.int (nar .byte ((((q2.toUInt64 >>> ((48 : Int32) &&& 0x3f).toInt64.toUInt64).toInt64).toInt32).toInt8.toInt32)))) (.int (0 : Int32)) := Arv.set Ar7 qk7 Sz7 M7 Hs7 G7 (fits_nar_byte _) W7 (n_1 + 6) (own_ixj hn1 hn2 6) (by (try simp only [List.length_set]); omega)
  have N7 := Fr.snoc X7 N6 g_r0
  obtain ⟨cl8, Ar8, qk8, Sz8, M8, Hs8, G8⟩ := id V7
  have hin8 : ¬ ((p1 + (7 : Int32)) < 0 ∨ cl8.slots.size ≤ ((p1 + (7 : Int32))).toNatClampNeg) := inb_of Sz8 (own_ixb hn1 hn2 7)
  obtain ⟨T8, h8, X8, e8, W8, st8⟩ := stB X7 hx hZ e7 Ar8 (j := (p1 + (7 : Int32))) hin8 (g := (mkF m 84 #[.val (.ref r0), .val (.int p1), .val (.long q2), .second] [(.int ((((q2.toUInt64 >>> ((56 : Int32) &&& 0x3f).toInt64.toUInt64).toInt64).toInt32).toInt8.toInt32)), (.int (p1 + (7 : Int32))), (.ref r0)])) rfl rfl (hb hby d1_84)
  have V8 : Arv Z h8 r0 k_r0 .byte (11 : Int32) ((((((((x_vs.set (n_1 + 0) (.int (nar .byte ((q2.toInt32).toInt8.toInt32)))).set (n_1 + 1) (.int (nar .byte ((((q2.toUInt64 >>> ((8 : Int32) &&& 0x3f).toInt64.toUInt64).toInt64).toInt32).toInt8.toInt32)))).set (n_1 + 2) (.int (nar .byte ((((q2.toUInt64 >>> ((16 : Int32) &&& 0x3f).toInt64.toUInt64).toInt64).toInt32).toInt8.toInt32)))).set (n_1 + 3) (.int (nar .byte ((((q2.toUInt64 >>> ((24 : Int32) &&& 0x3f).toInt64.toUInt64).toInt64).toInt32).toInt8.toInt32)))).set (n_1 + 4) (.int (nar .byte ((((q2.toUInt64 >>> ((32 : Int32) &&& 0x3f).toInt64.toUInt64).toInt64).toInt32).toInt8.toInt32)))).set (n_1 + 5) (.int (nar .byte ((((q2.toUInt64 >>> ((40 : Int32) &&& 0x3f).toInt64.toUInt64).toInt64).toInt32).toInt8.toInt32)))).set (n_1 + 6) (.int (nar .byte ((((q2.toUInt64 >>> ((48 : Int32) &&& 0x3f).toInt64.toUInt64).toInt64).toInt32).toInt8.toInt32)))).set (n_1 + 7) (.int (nar .byte ((((q2.toUInt64 >>> ((56 : Int32) &&& 0x3f).toInt64.toUInt64).toInt64).toInt32).toInt8.toInt32)))) (.int (0 : Int32)) := Arv.set Ar8 qk8 Sz8 M8 Hs8 G8 (fits_nar_byte _) W8 (n_1 + 7) (own_ixj hn1 hn2 7) (by (try simp only [List.length_set]); omega)
  have N8 := Fr.snoc X8 N7 g_r0
  obtain ⟨fs, hr, hrun, hended, hW, hsame⟩ := X8.leave (v := none) (fun _ => rfl)
  refine ⟨_, _, pre0 _ ?_, hrun, hended, _, _, rfl, ?_, ⟨_, rfl⟩, hW, hsame.mono (by decide) (by decide)⟩
  · show Steps p.tables e below (s₁.setTop (mkF m 0 #[.val (.ref r0), .val (.int p1), .val (.long q2), .second] [])) _
    refine XS.aloadN X0.here hx rfl (hb hby d1_0) rfl rfl ?_
    show Steps p.tables e below (s₁.setTop (mkF m 1 #[.val (.ref r0), .val (.int p1), .val (.long q2), .second] [(.ref r0)])) _
    refine XS.iloadN X0.here hx rfl (hb hby d1_1) rfl ?_
    show Steps p.tables e below (s₁.setTop (mkF m 2 #[.val (.ref r0), .val (.int p1), .val (.long q2), .second] [(.int p1), (.ref r0)])) _
    refine XS.lloadN X0.here hx rfl (hb hby d1_2) rfl ?_
    show Steps p.tables e below (s₁.setTop (mkF m 3 #[.val (.ref r0), .val (.int p1), .val (.long q2), .second] [(.long q2), (.int p1), (.ref r0)])) _
    refine XS.l2i X0.here hx rfl (hb hby d1_3) rfl ?_
    show Steps p.tables e below (s₁.setTop (mkF m 4 #[.val (.ref r0), .val (.int p1), .val (.long q2), .second] [(.int (q2.toInt32)), (.int p1), (.ref r0)])) _
    refine XS.i2b X0.here hx rfl (hb hby d1_4) rfl ?_
    show Steps p.tables e below (s₁.setTop (mkF m 5 #[.val (.ref r0), .val (.int p1), .val (.long q2), .second] [(.int ((q2.toInt32).toInt8.toInt32)), (.int p1), (.ref r0)])) _
    refine st1 _ ?_
    show Steps p.tables e below (T1.setTop (mkF m 6 #[.val (.ref r0), .val (.int p1), .val (.long q2), .second] [])) _
    refine XS.aloadN X1.here hx rfl (hb hby d1_6) rfl rfl ?_
    show Steps p.tables e below (T1.setTop (mkF m 7 #[.val (.ref r0), .val (.int p1), .val (.long q2), .second] [(.ref r0)])) _
    refine XS.iloadN X1.here hx rfl (hb hby d1_7) rfl ?_
    show Steps p.tables e below (T1.setTop (mkF m 8 #[.val (.ref r0), .val (.int p1), .val (.long q2), .second] [(.int p1), (.ref r0)])) _
    refine XS.iconst X1.here hx rfl (hb hby d1_8) ?_
    show Steps p.tables e below (T1.setTop (mkF m 9 #[.val (.ref r0), .val (.int p1), .val (.long q2), .second] [(.int (1 : Int32)), (.int p1), (.ref r0)])) _
    refine XS.iadd X1.here hx rfl (hb hby d1_9) rfl ?_
    show Steps p.tables e below (T1.setTop (mkF m 10 #[.val (.ref r0), .val (.int p1), .val (.long q2), .second] [(.int (p1 + (1 : Int32))), (.ref r0)])) _
    refine XS.lloadN X1.here hx rfl (hb hby d1_10) rfl ?_
    show Steps p.tables e below (T1.setTop (mkF m 11 #[.val (.ref r0), .val (.int p1), .val (.long q2), .second] [(.long q2), (.int (p1 + (1 : Int32))), (.ref r0)])) _
    refine XS.bipush X1.here hx rfl (hb hby d1_11) ?_
    show Steps p.tables e below (T1.setTop (mkF m 13 #[.val (.ref r0), .val (.int p1), .val (.long q2), .second] [(.int (8 : Int32)), (.long q2), (.int (p1 + (1 : Int32))), (.ref r0)])) _
    refine XS.lushr X1.here hx rfl (hb hby d1_13) rfl ?_
    show Steps p.tables e below (T1.setTop (mkF m 14 #[.val (.ref r0), .val (.int p1), .val (.long q2), .second] [(.long ((q2.toUInt64 >>> ((8 : Int32) &&& 0x3f).toInt64.toUInt64).toInt64)), (.int (p1 + (1 : Int32))), (.ref r0)])) _
    refine XS.l2i X1.here hx rfl (hb hby d1_14) rfl ?_
    show Steps p.tables e below (T1.setTop (mkF m 15 #[.val (.ref r0), .val (.int p1), .val (.long q2), .second] [(.int (((q2.toUInt64 >>> ((8 : Int32) &&& 0x3f).toInt64.toUInt64).toInt64).toInt32)), (.int (p1 + (1 : Int32))), (.ref r0)])) _
    refine XS.i2b X1.here hx rfl (hb hby d1_15) rfl ?_
    show Steps p.tables e below (T1.setTop (mkF m 16 #[.val (.ref r0), .val (.int p1), .val (.long q2), .second] [(.int ((((q2.toUInt64 >>> ((8 : Int32) &&& 0x3f).toInt64.toUInt64).toInt64).toInt32).toInt8.toInt32)), (.int (p1 + (1 : Int32))), (.ref r0)])) _
    refine st2 _ ?_
    show Steps p.tables e below (T2.setTop (mkF m 17 #[.val (.ref r0), .val (.int p1), .val (.long q2), .second] [])) _
    refine XS.aloadN X2.here hx rfl (hb hby d1_17) rfl rfl ?_
    show Steps p.tables e below (T2.setTop (mkF m 18 #[.val (.ref r0), .val (.int p1), .val (.long q2), .second] [(.ref r0)])) _
    refine XS.iloadN X2.here hx rfl (hb hby d1_18) rfl ?_
    show Steps p.tables e below (T2.setTop (mkF m 19 #[.val (.ref r0), .val (.int p1), .val (.long q2), .second] [(.int p1), (.ref r0)])) _
    refine XS.iconst X2.here hx rfl (hb hby d1_19) ?_
    show Steps p.tables e below (T2.setTop (mkF m 20 #[.val (.ref r0), .val (.int p1), .val (.long q2), .second] [(.int (2 : Int32)), (.int p1), (.ref r0)])) _
    refine XS.iadd X2.here hx rfl (hb hby d1_20) rfl ?_
    show Steps p.tables e below (T2.setTop (mkF m 21 #[.val (.ref r0), .val (.int p1), .val (.long q2), .second] [(.int (p1 + (2 : Int32))), (.ref r0)])) _
    refine XS.lloadN X2.here hx rfl (hb hby d1_21) rfl ?_
    show Steps p.tables e below (T2.setTop (mkF m 22 #[.val (.ref r0), .val (.int p1), .val (.long q2), .second] [(.long q2), (.int (p1 + (2 : Int32))), (.ref r0)])) _
    refine XS.bipush X2.here hx rfl (hb hby d1_22) ?_
    show Steps p.tables e below (T2.setTop (mkF m 24 #[.val (.ref r0), .val (.int p1), .val (.long q2), .second] [(.int (16 : Int32)), (.long q2), (.int (p1 + (2 : Int32))), (.ref r0)])) _
    refine XS.lushr X2.here hx rfl (hb hby d1_24) rfl ?_
    show Steps p.tables e below (T2.setTop (mkF m 25 #[.val (.ref r0), .val (.int p1), .val (.long q2), .second] [(.long ((q2.toUInt64 >>> ((16 : Int32) &&& 0x3f).toInt64.toUInt64).toInt64)), (.int (p1 + (2 : Int32))), (.ref r0)])) _
    refine XS.l2i X2.here hx rfl (hb hby d1_25) rfl ?_
    show Steps p.tables e below (T2.setTop (mkF m 26 #[.val (.ref r0), .val (.int p1), .val (.long q2), .second] [(.int (((q2.toUInt64 >>> ((16 : Int32) &&& 0x3f).toInt64.toUInt64).toInt64).toInt32)), (.int (p1 + (2 : Int32))), (.ref r0)])) _
    refine XS.i2b X2.here hx rfl (hb hby d1_26) rfl ?_
    show Steps p.tables e below (T2.setTop (mkF m 27 #[.val (.ref r0), .val (.int p1), .val (.long q2), .second] [(.int ((((q2.toUInt64 >>> ((16 : Int32) &&& 0x3f).toInt64.toUInt64).toInt64).toInt32).toInt8.toInt32)), (.int (p1 + (2 : Int32))), (.ref r0)])) _
    refine st3 _ ?_
    show Steps p.tables e below (T3.setTop (mkF m 28 #[.val (.ref r0), .val (.int p1), .val (.long q2), .second] [])) _
    refine XS.aloadN X3.here hx rfl (hb hby d1_28) rfl rfl ?_
    show Steps p.tables e below (T3.setTop (mkF m 29 #[.val (.ref r0), .val (.int p1), .val (.long q2), .second] [(.ref r0)])) _
    refine XS.iloadN X3.here hx rfl (hb hby d1_29) rfl ?_
    show Steps p.tables e below (T3.setTop (mkF m 30 #[.val (.ref r0), .val (.int p1), .val (.long q2), .second] [(.int p1), (.ref r0)])) _
    refine XS.iconst X3.here hx rfl (hb hby d1_30) ?_
    show Steps p.tables e below (T3.setTop (mkF m 31 #[.val (.ref r0), .val (.int p1), .val (.long q2), .second] [(.int (3 : Int32)), (.int p1), (.ref r0)])) _
    refine XS.iadd X3.here hx rfl (hb hby d1_31) rfl ?_
    show Steps p.tables e below (T3.setTop (mkF m 32 #[.val (.ref r0), .val (.int p1), .val (.long q2), .second] [(.int (p1 + (3 : Int32))), (.ref r0)])) _
    refine XS.lloadN X3.here hx rfl (hb hby d1_32) rfl ?_
    show Steps p.tables e below (T3.setTop (mkF m 33 #[.val (.ref r0), .val (.int p1), .val (.long q2), .second] [(.long q2), (.int (p1 + (3 : Int32))), (.ref r0)])) _
    refine XS.bipush X3.here hx rfl (hb hby d1_33) ?_
    show Steps p.tables e below (T3.setTop (mkF m 35 #[.val (.ref r0), .val (.int p1), .val (.long q2), .second] [(.int (24 : Int32)), (.long q2), (.int (p1 + (3 : Int32))), (.ref r0)])) _
    refine XS.lushr X3.here hx rfl (hb hby d1_35) rfl ?_
    show Steps p.tables e below (T3.setTop (mkF m 36 #[.val (.ref r0), .val (.int p1), .val (.long q2), .second] [(.long ((q2.toUInt64 >>> ((24 : Int32) &&& 0x3f).toInt64.toUInt64).toInt64)), (.int (p1 + (3 : Int32))), (.ref r0)])) _
    refine XS.l2i X3.here hx rfl (hb hby d1_36) rfl ?_
    show Steps p.tables e below (T3.setTop (mkF m 37 #[.val (.ref r0), .val (.int p1), .val (.long q2), .second] [(.int (((q2.toUInt64 >>> ((24 : Int32) &&& 0x3f).toInt64.toUInt64).toInt64).toInt32)), (.int (p1 + (3 : Int32))), (.ref r0)])) _
    refine XS.i2b X3.here hx rfl (hb hby d1_37) rfl ?_
    show Steps p.tables e below (T3.setTop (mkF m 38 #[.val (.ref r0), .val (.int p1), .val (.long q2), .second] [(.int ((((q2.toUInt64 >>> ((24 : Int32) &&& 0x3f).toInt64.toUInt64).toInt64).toInt32).toInt8.toInt32)), (.int (p1 + (3 : Int32))), (.ref r0)])) _
    refine st4 _ ?_
    show Steps p.tables e below (T4.setTop (mkF m 39 #[.val (.ref r0), .val (.int p1), .val (.long q2), .second] [])) _
    refine XS.aloadN X4.here hx rfl (hb hby d1_39) rfl rfl ?_
    show Steps p.tables e below (T4.setTop (mkF m 40 #[.val (.ref r0), .val (.int p1), .val (.long q2), .second] [(.ref r0)])) _
    refine XS.iloadN X4.here hx rfl (hb hby d1_40) rfl ?_
    show Steps p.tables e below (T4.setTop (mkF m 41 #[.val (.ref r0), .val (.int p1), .val (.long q2), .second] [(.int p1), (.ref r0)])) _
    refine XS.iconst X4.here hx rfl (hb hby d1_41) ?_
    show Steps p.tables e below (T4.setTop (mkF m 42 #[.val (.ref r0), .val (.int p1), .val (.long q2), .second] [(.int (4 : Int32)), (.int p1), (.ref r0)])) _
    refine XS.iadd X4.here hx rfl (hb hby d1_42) rfl ?_
    show Steps p.tables e below (T4.setTop (mkF m 43 #[.val (.ref r0), .val (.int p1), .val (.long q2), .second] [(.int (p1 + (4 : Int32))), (.ref r0)])) _
    refine XS.lloadN X4.here hx rfl (hb hby d1_43) rfl ?_
    show Steps p.tables e below (T4.setTop (mkF m 44 #[.val (.ref r0), .val (.int p1), .val (.long q2), .second] [(.long q2), (.int (p1 + (4 : Int32))), (.ref r0)])) _
    refine XS.bipush X4.here hx rfl (hb hby d1_44) ?_
    show Steps p.tables e below (T4.setTop (mkF m 46 #[.val (.ref r0), .val (.int p1), .val (.long q2), .second] [(.int (32 : Int32)), (.long q2), (.int (p1 + (4 : Int32))), (.ref r0)])) _
    refine XS.lushr X4.here hx rfl (hb hby d1_46) rfl ?_
    show Steps p.tables e below (T4.setTop (mkF m 47 #[.val (.ref r0), .val (.int p1), .val (.long q2), .second] [(.long ((q2.toUInt64 >>> ((32 : Int32) &&& 0x3f).toInt64.toUInt64).toInt64)), (.int (p1 + (4 : Int32))), (.ref r0)])) _
    refine XS.l2i X4.here hx rfl (hb hby d1_47) rfl ?_
    show Steps p.tables e below (T4.setTop (mkF m 48 #[.val (.ref r0), .val (.int p1), .val (.long q2), .second] [(.int (((q2.toUInt64 >>> ((32 : Int32) &&& 0x3f).toInt64.toUInt64).toInt64).toInt32)), (.int (p1 + (4 : Int32))), (.ref r0)])) _
    refine XS.i2b X4.here hx rfl (hb hby d1_48) rfl ?_
    show Steps p.tables e below (T4.setTop (mkF m 49 #[.val (.ref r0), .val (.int p1), .val (.long q2), .second] [(.int ((((q2.toUInt64 >>> ((32 : Int32) &&& 0x3f).toInt64.toUInt64).toInt64).toInt32).toInt8.toInt32)), (.int (p1 + (4 : Int32))), (.ref r0)])) _
    refine st5 _ ?_
    show Steps p.tables e below (T5.setTop (mkF m 50 #[.val (.ref r0), .val (.int p1), .val (.long q2), .second] [])) _
    refine XS.aloadN X5.here hx rfl (hb hby d1_50) rfl rfl ?_
    show Steps p.tables e below (T5.setTop (mkF m 51 #[.val (.ref r0), .val (.int p1), .val (.long q2), .second] [(.ref r0)])) _
    refine XS.iloadN X5.here hx rfl (hb hby d1_51) rfl ?_
    show Steps p.tables e below (T5.setTop (mkF m 52 #[.val (.ref r0), .val (.int p1), .val (.long q2), .second] [(.int p1), (.ref r0)])) _
    refine XS.iconst X5.here hx rfl (hb hby d1_52) ?_
    show Steps p.tables e below (T5.setTop (mkF m 53 #[.val (.ref r0), .val (.int p1), .val (.long q2), .second] [(.int (5 : Int32)), (.int p1), (.ref r0)])) _
    refine XS.iadd X5.here hx rfl (hb hby d1_53) rfl ?_
    show Steps p.tables e below (T5.setTop (mkF m 54 #[.val (.ref r0), .val (.int p1), .val (.long q2), .second] [(.int (p1 + (5 : Int32))), (.ref r0)])) _
    refine XS.lloadN X5.here hx rfl (hb hby d1_54) rfl ?_
    show Steps p.tables e below (T5.setTop (mkF m 55 #[.val (.ref r0), .val (.int p1), .val (.long q2), .second] [(.long q2), (.int (p1 + (5 : Int32))), (.ref r0)])) _
    refine XS.bipush X5.here hx rfl (hb hby d1_55) ?_
    show Steps p.tables e below (T5.setTop (mkF m 57 #[.val (.ref r0), .val (.int p1), .val (.long q2), .second] [(.int (40 : Int32)), (.long q2), (.int (p1 + (5 : Int32))), (.ref r0)])) _
    refine XS.lushr X5.here hx rfl (hb hby d1_57) rfl ?_
    show Steps p.tables e below (T5.setTop (mkF m 58 #[.val (.ref r0), .val (.int p1), .val (.long q2), .second] [(.long ((q2.toUInt64 >>> ((40 : Int32) &&& 0x3f).toInt64.toUInt64).toInt64)), (.int (p1 + (5 : Int32))), (.ref r0)])) _
    refine XS.l2i X5.here hx rfl (hb hby d1_58) rfl ?_
    show Steps p.tables e below (T5.setTop (mkF m 59 #[.val (.ref r0), .val (.int p1), .val (.long q2), .second] [(.int (((q2.toUInt64 >>> ((40 : Int32) &&& 0x3f).toInt64.toUInt64).toInt64).toInt32)), (.int (p1 + (5 : Int32))), (.ref r0)])) _
    refine XS.i2b X5.here hx rfl (hb hby d1_59) rfl ?_
    show Steps p.tables e below (T5.setTop (mkF m 60 #[.val (.ref r0), .val (.int p1), .val (.long q2), .second] [(.int ((((q2.toUInt64 >>> ((40 : Int32) &&& 0x3f).toInt64.toUInt64).toInt64).toInt32).toInt8.toInt32)), (.int (p1 + (5 : Int32))), (.ref r0)])) _
    refine st6 _ ?_
    show Steps p.tables e below (T6.setTop (mkF m 61 #[.val (.ref r0), .val (.int p1), .val (.long q2), .second] [])) _
    refine XS.aloadN X6.here hx rfl (hb hby d1_61) rfl rfl ?_
    show Steps p.tables e below (T6.setTop (mkF m 62 #[.val (.ref r0), .val (.int p1), .val (.long q2), .second] [(.ref r0)])) _
    refine XS.iloadN X6.here hx rfl (hb hby d1_62) rfl ?_
    show Steps p.tables e below (T6.setTop (mkF m 63 #[.val (.ref r0), .val (.int p1), .val (.long q2), .second] [(.int p1), (.ref r0)])) _
    refine XS.bipush X6.here hx rfl (hb hby d1_63) ?_
    show Steps p.tables e below (T6.setTop (mkF m 65 #[.val (.ref r0), .val (.int p1), .val (.long q2), .second] [(.int (6 : Int32)), (.int p1), (.ref r0)])) _
    refine XS.iadd X6.here hx rfl (hb hby d1_65) rfl ?_
    show Steps p.tables e below (T6.setTop (mkF m 66 #[.val (.ref r0), .val (.int p1), .val (.long q2), .second] [(.int (p1 + (6 : Int32))), (.ref r0)])) _
    refine XS.lloadN X6.here hx rfl (hb hby d1_66) rfl ?_
    show Steps p.tables e below (T6.setTop (mkF m 67 #[.val (.ref r0), .val (.int p1), .val (.long q2), .second] [(.long q2), (.int (p1 + (6 : Int32))), (.ref r0)])) _
    refine XS.bipush X6.here hx rfl (hb hby d1_67) ?_
    show Steps p.tables e below (T6.setTop (mkF m 69 #[.val (.ref r0), .val (.int p1), .val (.long q2), .second] [(.int (48 : Int32)), (.long q2), (.int (p1 + (6 : Int32))), (.ref r0)])) _
    refine XS.lushr X6.here hx rfl (hb hby d1_69) rfl ?_
    show Steps p.tables e below (T6.setTop (mkF m 70 #[.val (.ref r0), .val (.int p1), .val (.long q2), .second] [(.long ((q2.toUInt64 >>> ((48 : Int32) &&& 0x3f).toInt64.toUInt64).toInt64)), (.int (p1 + (6 : Int32))), (.ref r0)])) _
    refine XS.l2i X6.here hx rfl (hb hby d1_70) rfl ?_
    show Steps p.tables e below (T6.setTop (mkF m 71 #[.val (.ref r0), .val (.int p1), .val (.long q2), .second] [(.int (((q2.toUInt64 >>> ((48 : Int32) &&& 0x3f).toInt64.toUInt64).toInt64).toInt32)), (.int (p1 + (6 : Int32))), (.ref r0)])) _
    refine XS.i2b X6.here hx rfl (hb hby d1_71) rfl ?_
    show Steps p.tables e below (T6.setTop (mkF m 72 #[.val (.ref r0), .val (.int p1), .val (.long q2), .second] [(.int ((((q2.toUInt64 >>> ((48 : Int32) &&& 0x3f).toInt64.toUInt64).toInt64).toInt32).toInt8.toInt32)), (.int (p1 + (6 : Int32))), (.ref r0)])) _
    refine st7 _ ?_
    show Steps p.tables e below (T7.setTop (mkF m 73 #[.val (.ref r0), .val (.int p1), .val (.long q2), .second] [])) _
    refine XS.aloadN X7.here hx rfl (hb hby d1_73) rfl rfl ?_
    show Steps p.tables e below (T7.setTop (mkF m 74 #[.val (.ref r0), .val (.int p1), .val (.long q2), .second] [(.ref r0)])) _
    refine XS.iloadN X7.here hx rfl (hb hby d1_74) rfl ?_
    show Steps p.tables e below (T7.setTop (mkF m 75 #[.val (.ref r0), .val (.int p1), .val (.long q2), .second] [(.int p1), (.ref r0)])) _
    refine XS.bipush X7.here hx rfl (hb hby d1_75) ?_
    show Steps p.tables e below (T7.setTop (mkF m 77 #[.val (.ref r0), .val (.int p1), .val (.long q2), .second] [(.int (7 : Int32)), (.int p1), (.ref r0)])) _
    refine XS.iadd X7.here hx rfl (hb hby d1_77) rfl ?_
    show Steps p.tables e below (T7.setTop (mkF m 78 #[.val (.ref r0), .val (.int p1), .val (.long q2), .second] [(.int (p1 + (7 : Int32))), (.ref r0)])) _
    refine XS.lloadN X7.here hx rfl (hb hby d1_78) rfl ?_
    show Steps p.tables e below (T7.setTop (mkF m 79 #[.val (.ref r0), .val (.int p1), .val (.long q2), .second] [(.long q2), (.int (p1 + (7 : Int32))), (.ref r0)])) _
    refine XS.bipush X7.here hx rfl (hb hby d1_79) ?_
    show Steps p.tables e below (T7.setTop (mkF m 81 #[.val (.ref r0), .val (.int p1), .val (.long q2), .second] [(.int (56 : Int32)), (.long q2), (.int (p1 + (7 : Int32))), (.ref r0)])) _
    refine XS.lushr X7.here hx rfl (hb hby d1_81) rfl ?_
    show Steps p.tables e below (T7.setTop (mkF m 82 #[.val (.ref r0), .val (.int p1), .val (.long q2), .second] [(.long ((q2.toUInt64 >>> ((56 : Int32) &&& 0x3f).toInt64.toUInt64).toInt64)), (.int (p1 + (7 : Int32))), (.ref r0)])) _
    refine XS.l2i X7.here hx rfl (hb hby d1_82) rfl ?_
    show Steps p.tables e below (T7.setTop (mkF m 83 #[.val (.ref r0), .val (.int p1), .val (.long q2), .second] [(.int (((q2.toUInt64 >>> ((56 : Int32) &&& 0x3f).toInt64.toUInt64).toInt64).toInt32)), (.int (p1 + (7 : Int32))), (.ref r0)])) _
    refine XS.i2b X7.here hx rfl (hb hby d1_83) rfl ?_
    show Steps p.tables e below (T7.setTop (mkF m 84 #[.val (.ref r0), .val (.int p1), .val (.long q2), .second] [(.int ((((q2.toUInt64 >>> ((56 : Int32) &&& 0x3f).toInt64.toUInt64).toInt64).toInt32).toInt8.toInt32)), (.int (p1 + (7 : Int32))), (.ref r0)])) _
    refine st8 _ ?_
    show Steps p.tables e below (T8.setTop (mkF m 85 #[.val (.ref r0), .val (.int p1), .val (.long q2), .second] [])) _
    exact X8.returnOut hx Bd.returns (hb hby d1_85) hr
  · show Q1 Z r0 p1 q2 k_r0 x_vs n_1 h0 n0 _ T8.heap _
    rw [e8]
    exact ⟨rfl, N8, (((((((((Keep.refl h0 [r0]).wr W1 (Or.inl (by simp))).wr W2 (Or.inl (by simp))).wr W3 (Or.inl (by simp))).wr W4 (Or.inl (by simp))).wr W5 (Or.inl (by simp))).wr W6 (Or.inl (by simp))).wr W7 (Or.inl (by simp))).wr W8 (Or.inl (by simp))), V8⟩
theorem d2_0 : decode prog_334_method_16_code 0 = .ok (.lconst 0, 1) := by decide +kernel
theorem d2_1 : decode prog_334_method_16_code 1 = .ok (.lstore_n 3, 1) := by decide +kernel
theorem d2_2 : decode prog_334_method_16_code 2 = .ok (.iconst 0, 1) := by decide +kernel
theorem d2_3 : decode prog_334_method_16_code 3 = .ok (.istore 5, 2) := by decide +kernel
theorem d2_5 : decode prog_334_method_16_code 5 = .ok (.iload 5, 2) := by decide +kernel
theorem d2_7 : decode prog_334_method_16_code 7 = .ok (.iload_n 2, 1) := by decide +kernel
theorem d2_8 : decode prog_334_method_16_code 8 = .ok (.if_icmp .ge 29, 3) := by decide +kernel
theorem d2_11 : decode prog_334_method_16_code 11 = .ok (.lload_n 3, 1) := by decide +kernel
theorem d2_12 : decode prog_334_method_16_code 12 = .ok (.aload_n 0, 1) := by decide +kernel
theorem d2_13 : decode prog_334_method_16_code 13 = .ok (.iload_n 1, 1) := by decide +kernel
theorem d2_14 : decode prog_334_method_16_code 14 = .ok (.iload 5, 2) := by decide +kernel
theorem d2_16 : decode prog_334_method_16_code 16 = .ok (.iadd, 1) := by decide +kernel
theorem d2_17 : decode prog_334_method_16_code 17 = .ok (.baload, 1) := by decide +kernel
theorem d2_18 : decode prog_334_method_16_code 18 = .ok (.i2l, 1) := by decide +kernel
theorem d2_19 : decode prog_334_method_16_code 19 = .ok (.ldc2_w 115, 3) := by decide +kernel
theorem d2_22 : decode prog_334_method_16_code 22 = .ok (.land, 1) := by decide +kernel
theorem d2_23 : decode prog_334_method_16_code 23 = .ok (.bipush 8, 2) := by decide +kernel
theorem d2_25 : decode prog_334_method_16_code 25 = .ok (.iload 5, 2) := by decide +kernel
theorem d2_27 : decode prog_334_method_16_code 27 = .ok (.imul, 1) := by decide +kernel
theorem d2_28 : decode prog_334_method_16_code 28 = .ok (.lshl, 1) := by decide +kernel
theorem d2_29 : decode prog_334_method_16_code 29 = .ok (.lor, 1) := by decide +kernel
theorem d2_30 : decode prog_334_method_16_code 30 = .ok (.lstore_n 3, 1) := by decide +kernel
theorem d2_31 : decode prog_334_method_16_code 31 = .ok (.iinc 5 1, 3) := by decide +kernel
theorem d2_34 : decode prog_334_method_16_code 34 = .ok (.goto (-29), 3) := by decide +kernel
theorem d2_37 : decode prog_334_method_16_code 37 = .ok (.lload_n 3, 1) := by decide +kernel
theorem d2_38 : decode prog_334_method_16_code 38 = .ok (.lreturn, 1) := by decide +kernel
/-- the first j bytes from p1 on, the lowest first -/
def own_le (vs : List Value) (p1 : Int32) : Nat → Int64
  | 0 => 0
  | j + 1 => own_le vs p1 j ||| ((((own_at vs (.int (0 : Int32)) (p1 + Int32.ofNat j)).toInt64) &&& (255 : Int64)) <<< (((8 : Int32) * Int32.ofNat j) &&& 0x3f).toInt64)
theorem own_lix {p1 : Int32} {n j : Nat} (h1 : p1.toInt = (n : Int)) (h2 : n ≤ 3) (hj : j < 8) : ¬ (p1 + Int32.ofNat j) < 0 ∧ (p1 + Int32.ofNat j) < (11 : Int32) := own_ixb h1 h2 j (by omega)
theorem own_jlt {p2 : Int32} {j k : Nat} (h1 : 0 ≤ p2.toInt) (h2 : p2.toInt ≤ 8) (hj : j + (k + 1) = p2.toInt.toNat) : Int32.ofNat j < p2 := by
  have e : (Int32.ofNat j).toInt = (j : Int) := Int32.toInt_ofNat_small (by omega)
  rw [Int32.lt_iff_toInt_lt]; omega
theorem own_jge {p2 : Int32} {j : Nat} (h1 : 0 ≤ p2.toInt) (h2 : p2.toInt ≤ 8) (hj : j + 0 = p2.toInt.toNat) : ¬ Int32.ofNat j < p2 := by
  have e : (Int32.ofNat j).toInt = (j : Int) := Int32.toInt_ofNat_small (by omega)
  rw [Int32.lt_iff_toInt_lt]; omega

set_option maxRecDepth 65536 in
set_option maxHeartbeats 40000000 in
theorem loopL {p : Program} {l : Launch} {e : Env} {R : Room} {s : State} {m : MethodId} {args : Array Value} {below : List Frame} {meth : Method} {c : Code} {T0 : State} {locs : List Loc} {cells slots : Nat} {Z : State} {a0 : Array Value} (X0 : Stand p l e R s m args below meth c T0 locs cells slots) (hx : p.tables.exec = Jvm.exec) (hZ : Z.Warmed39 s.vm) (hw : ∀ d ∈ tables_1, d.before a0 Z = true) (hby : c.code = prog_334_method_16_code) (hown : s.vm.findClass "com/example/ledgerline/ledgerline/storage/compression/DecompressingInput" = some m.cls) {r0 : Addr} {p1 p2 : Int32} {h0 : Heap} {k_r0 : ClassId} {x_vs : List Value} {n_1 : Nat} (e0 : T0.heap = h0) (V_r0 : Arv Z h0 r0 k_r0 .byte (11 : Int32) x_vs (.int (0 : Int32))) (hall : own_ints ((.int (0 : Int32)) :: x_vs) = true) (hn1 : p1.toInt = (n_1 : Int)) (hn2 : n_1 ≤ 3) (hc1 : 0 ≤ p2.toInt) (hc2 : p2.toInt ≤ 8) :
    ∀ (k j : Nat), j + k = p2.toInt.toNat → ∀ target, Steps p.tables e below (T0.setTop (mkF m 37 #[.val (.ref r0), .val (.int p1), .val (.int p2), .val (.long (own_le x_vs p1 p2.toInt.toNat)), .second, .val (.int (Int32.ofNat p2.toInt.toNat))] [])) target → Steps p.tables e below (T0.setTop (mkF m 5 #[.val (.ref r0), .val (.int p1), .val (.int p2), .val (.long (own_le x_vs p1 j)), .second, .val (.int (Int32.ofNat j))] [])) target := by
  intro k
  induction k with
  | zero =>
    intro j hj target kt
    have hge : ¬ (Int32.ofNat j) < p2 := own_jge hc1 hc2 hj
    rw [show p2.toInt.toNat = j from hj.symm] at kt
    show Steps p.tables e below (T0.setTop (mkF m 5 #[.val (.ref r0), .val (.int p1), .val (.int p2), .val (.long (own_le x_vs p1 j)), .second, .val (.int (Int32.ofNat j))] [])) _
    refine XS.iload X0.here hx rfl (hb hby d2_5) rfl ?_
    show Steps p.tables e below (T0.setTop (mkF m 7 #[.val (.ref r0), .val (.int p1), .val (.int p2), .val (.long (own_le x_vs p1 j)), .second, .val (.int (Int32.ofNat j))] [(.int (Int32.ofNat j))])) _
    refine XS.iloadN X0.here hx rfl (hb hby d2_7) rfl ?_
    show Steps p.tables e below (T0.setTop (mkF m 8 #[.val (.ref r0), .val (.int p1), .val (.int p2), .val (.long (own_le x_vs p1 j)), .second, .val (.int (Int32.ofNat j))] [(.int p2), (.int (Int32.ofNat j))])) _
    refine XS.icmpYes X0.here hx rfl (pc0 := 8) (pc' := 37) rfl (hb hby d2_8) rfl (flt hge).2.1 (by decide) (by decide) ?_
    exact kt
  | succ k ih =>
    intro j hj target kt
    have hlt : (Int32.ofNat j) < p2 := own_jlt hc1 hc2 hj
    replace hj : j < 8 ∧ j + 1 + k = p2.toInt.toNat := ⟨by omega, by omega⟩
    obtain ⟨hj, hj2⟩ := hj
    obtain ⟨cl1, Ar1, qk1, Sz1, M1, Hs1, G1⟩ := id V_r0
    have hin1 : ¬ ((p1 + (Int32.ofNat j)) < 0 ∨ cl1.slots.size ≤ ((p1 + (Int32.ofNat j))).toNatClampNeg) := inb_of Sz1 (own_lix hn1 hn2 hj)
    have hat1 : cl1.slots[((p1 + (Int32.ofNat j))).toNatClampNeg]? = some (.int (own_at x_vs (.int (0 : Int32)) (p1 + (Int32.ofNat j)))) := Hs1.at hin1 (own_at_eq hall _)
    show Steps p.tables e below (T0.setTop (mkF m 5 #[.val (.ref r0), .val (.int p1), .val (.int p2), .val (.long (own_le x_vs p1 j)), .second, .val (.int (Int32.ofNat j))] [])) _
    refine XS.iload X0.here hx rfl (hb hby d2_5) rfl ?_
    show Steps p.tables e below (T0.setTop (mkF m 7 #[.val (.ref r0), .val (.int p1), .val (.int p2), .val (.long (own_le x_vs p1 j)), .second, .val (.int (Int32.ofNat j))] [(.int (Int32.ofNat j))])) _
    refine XS.iloadN X0.here hx rfl (hb hby d2_7) rfl ?_
    show Steps p.tables e below (T0.setTop (mkF m 8 #[.val (.ref r0), .val (.int p1), .val (.int p2), .val (.long (own_le x_vs p1 j)), .second, .val (.int (Int32.ofNat j))] [(.int p2), (.int (Int32.ofNat j))])) _
    refine XS.icmpNo X0.here hx rfl (hb hby d2_8) rfl (tlt hlt).2.1 ?_
    show Steps p.tables e below (T0.setTop (mkF m 11 #[.val (.ref r0), .val (.int p1), .val (.int p2), .val (.long (own_le x_vs p1 j)), .second, .val (.int (Int32.ofNat j))] [])) _
    refine XS.lloadN X0.here hx rfl (hb hby d2_11) rfl ?_
    show Steps p.tables e below (T0.setTop (mkF m 12 #[.val (.ref r0), .val (.int p1), .val (.int p2), .val (.long (own_le x_vs p1 j)), .second, .val (.int (Int32.ofNat j))] [(.long (own_le x_vs p1 j))])) _
    refine XS.aloadN X0.here hx rfl (hb hby d2_12) rfl rfl ?_
    show Steps p.tables e below (T0.setTop (mkF m 13 #[.val (.ref r0), .val (.int p1), .val (.int p2), .val (.long (own_le x_vs p1 j)), .second, .val (.int (Int32.ofNat j))] [(.ref r0), (.long (own_le x_vs p1 j))])) _
    refine XS.iloadN X0.here hx rfl (hb hby d2_13) rfl ?_
    show Steps p.tables e below (T0.setTop (mkF m 14 #[.val (.ref r0), .val (.int p1), .val (.int p2), .val (.long (own_le x_vs p1 j)), .second, .val (.int (Int32.ofNat j))] [(.int p1), (.ref r0), (.long (own_le x_vs p1 j))])) _
    refine XS.iload X0.here hx rfl (hb hby d2_14) rfl ?_
    show Steps p.tables e below (T0.setTop (mkF m 16 #[.val (.ref r0), .val (.int p1), .val (.int p2), .val (.long (own_le x_vs p1 j)), .second, .val (.int (Int32.ofNat j))] [(.int (Int32.ofNat j)), (.int p1), (.ref r0), (.long (own_le x_vs p1 j))])) _
    refine XS.iadd X0.here hx rfl (hb hby d2_16) rfl ?_
    show Steps p.tables e below (T0.setTop (mkF m 17 #[.val (.ref r0), .val (.int p1), .val (.int p2), .val (.long (own_le x_vs p1 j)), .second, .val (.int (Int32.ofNat j))] [(.int (p1 + (Int32.ofNat j))), (.ref r0), (.long (own_le x_vs p1 j))])) _
    refine X0.baloadBytes hx (j := (p1 + (Int32.ofNat j))) (v := (.int (own_at x_vs (.int (0 : Int32)) (p1 + (Int32.ofNat j))))) (by rw [e0]; exact Ar1.1) (State.isArrayOf_alike hZ.alike Ar1.2.1) Ar1.2.2 hin1 hat1 (g := (mkF m 17 #[.val (.ref r0), .val (.int p1), .val (.int p2), .val (.long (own_le x_vs p1 j)), .second, .val (.int (Int32.ofNat j))] [(.int (p1 + (Int32.ofNat j))), (.ref r0), (.long (own_le x_vs p1 j))])) rfl rfl (hb hby d2_17) _ ?_
    show Steps p.tables e below (T0.setTop (mkF m 18 #[.val (.ref r0), .val (.int p1), .val (.int p2), .val (.long (own_le x_vs p1 j)), .second, .val (.int (Int32.ofNat j))] [(.int (own_at x_vs (.int (0 : Int32)) (p1 + (Int32.ofNat j)))), (.long (own_le x_vs p1 j))])) _
    refine XS.i2l X0.here hx rfl (hb hby d2_18) rfl ?_
    show Steps p.tables e below (T0.setTop (mkF m 19 #[.val (.ref r0), .val (.int p1), .val (.int p2), .val (.long (own_le x_vs p1 j)), .second, .val (.int (Int32.ofNat j))] [(.long ((own_at x_vs (.int (0 : Int32)) (p1 + (Int32.ofNat j))).toInt64)), (.long (own_le x_vs p1 j))])) _
    refine X0.ldc2Long hx hown (mvT hZ (hw _ (List.mem_of_getElem? (i := 10) rfl))) (g := (mkF m 19 #[.val (.ref r0), .val (.int p1), .val (.int p2), .val (.long (own_le x_vs p1 j)), .second, .val (.int (Int32.ofNat j))] [(.long ((own_at x_vs (.int (0 : Int32)) (p1 + (Int32.ofNat j))).toInt64)), (.long (own_le x_vs p1 j))])) rfl (hb hby d2_19) _ ?_
    show Steps p.tables e below (T0.setTop (mkF m 22 #[.val (.ref r0), .val (.int p1), .val (.int p2), .val (.long (own_le x_vs p1 j)), .second, .val (.int (Int32.ofNat j))] [(.long (255 : Int64)), (.long ((own_at x_vs (.int (0 : Int32)) (p1 + (Int32.ofNat j))).toInt64)), (.long (own_le x_vs p1 j))])) _
    refine XS.land X0.here hx rfl (hb hby d2_22) rfl ?_
    show Steps p.tables e below (T0.setTop (mkF m 23 #[.val (.ref r0), .val (.int p1), .val (.int p2), .val (.long (own_le x_vs p1 j)), .second, .val (.int (Int32.ofNat j))] [(.long (((own_at x_vs (.int (0 : Int32)) (p1 + (Int32.ofNat j))).toInt64) &&& (255 : Int64))), (.long (own_le x_vs p1 j))])) _
    refine XS.bipush X0.here hx rfl (hb hby d2_23) ?_
    show Steps p.tables e below (T0.setTop (mkF m 25 #[.val (.ref r0), .val (.int p1), .val (.int p2), .val (.long (own_le x_vs p1 j)), .second, .val (.int (Int32.ofNat j))] [(.int (8 : Int32)), (.long (((own_at x_vs (.int (0 : Int32)) (p1 + (Int32.ofNat j))).toInt64) &&& (255 : Int64))), (.long (own_le x_vs p1 j))])) _
    refine XS.iload X0.here hx rfl (hb hby d2_25) rfl ?_
    show Steps p.tables e below (T0.setTop (mkF m 27 #[.val (.ref r0), .val (.int p1), .val (.int p2), .val (.long (own_le x_vs p1 j)), .second, .val (.int (Int32.ofNat j))] [(.int (Int32.ofNat j)), (.int (8 : Int32)), (.long (((own_at x_vs (.int (0 : Int32)) (p1 + (Int32.ofNat j))).toInt64) &&& (255 : Int64))), (.long (own_le x_vs p1 j))])) _
    refine XS.imul X0.here hx rfl (hb hby d2_27) rfl ?_
    show Steps p.tables e below (T0.setTop (mkF m 28 #[.val (.ref r0), .val (.int p1), .val (.int p2), .val (.long (own_le x_vs p1 j)), .second, .val (.int (Int32.ofNat j))] [(.int ((8 : Int32) * (Int32.ofNat j))), (.long (((own_at x_vs (.int (0 : Int32)) (p1 + (Int32.ofNat j))).toInt64) &&& (255 : Int64))), (.long (own_le x_vs p1 j))])) _
    refine XS.lshl X0.here hx rfl (hb hby d2_28) rfl ?_
    show Steps p.tables e below (T0.setTop (mkF m 29 #[.val (.ref r0), .val (.int p1), .val (.int p2), .val (.long (own_le x_vs p1 j)), .second, .val (.int (Int32.ofNat j))] [(.long ((((own_at x_vs (.int (0 : Int32)) (p1 + (Int32.ofNat j))).toInt64) &&& (255 : Int64)) <<< (((8 : Int32) * (Int32.ofNat j)) &&& 0x3f).toInt64)), (.long (own_le x_vs p1 j))])) _
    refine XS.lor X0.here hx rfl (hb hby d2_29) rfl ?_
    show Steps p.tables e below (T0.setTop (mkF m 30 #[.val (.ref r0), .val (.int p1), .val (.int p2), .val (.long (own_le x_vs p1 j)), .second, .val (.int (Int32.ofNat j))] [(.long ((own_le x_vs p1 j) ||| ((((own_at x_vs (.int (0 : Int32)) (p1 + (Int32.ofNat j))).toInt64) &&& (255 : Int64)) <<< (((8 : Int32) * (Int32.ofNat j)) &&& 0x3f).toInt64)))])) _
    refine XS.lstoreN X0.here hx rfl (hb hby d2_30) rfl (l' := #[.val (.ref r0), .val (.int p1), .val (.int p2), .val (.long ((own_le x_vs p1 j) ||| ((((own_at x_vs (.int (0 : Int32)) (p1 + (Int32.ofNat j))).toInt64) &&& (255 : Int64)) <<< (((8 : Int32) * (Int32.ofNat j)) &&& 0x3f).toInt64))), .second, .val (.int (Int32.ofNat j))]) rfl ?_
    show Steps p.tables e below (T0.setTop (mkF m 31 #[.val (.ref r0), .val (.int p1), .val (.int p2), .val (.long ((own_le x_vs p1 j) ||| ((((own_at x_vs (.int (0 : Int32)) (p1 + (Int32.ofNat j))).toInt64) &&& (255 : Int64)) <<< (((8 : Int32) * (Int32.ofNat j)) &&& 0x3f).toInt64))), .second, .val (.int (Int32.ofNat j))] [])) _
    refine XS.iinc X0.here hx rfl (hb hby d2_31) rfl (l' := #[.val (.ref r0), .val (.int p1), .val (.int p2), .val (.long ((own_le x_vs p1 j) ||| ((((own_at x_vs (.int (0 : Int32)) (p1 + (Int32.ofNat j))).toInt64) &&& (255 : Int64)) <<< (((8 : Int32) * (Int32.ofNat j)) &&& 0x3f).toInt64))), .second, .val (.int ((Int32.ofNat j) + (1 : Int32)))]) rfl ?_
    show Steps p.tables e below (T0.setTop (mkF m 34 #[.val (.ref r0), .val (.int p1), .val (.int p2), .val (.long ((own_le x_vs p1 j) ||| ((((own_at x_vs (.int (0 : Int32)) (p1 + (Int32.ofNat j))).toInt64) &&& (255 : Int64)) <<< (((8 : Int32) * (Int32.ofNat j)) &&& 0x3f).toInt64))), .second, .val (.int ((Int32.ofNat j) + (1 : Int32)))] [])) _
    refine XS.goto X0.here hx rfl (pc0 := 34) (pc' := 5) rfl (hb hby d2_34) (by decide) (by decide) ?_
    show Steps p.tables e below (T0.setTop (mkF m 5 #[.val (.ref r0), .val (.int p1), .val (.int p2), .val (.long ((own_le x_vs p1 j) ||| ((((own_at x_vs (.int (0 : Int32)) (p1 + (Int32.ofNat j))).toInt64) &&& (255 : Int64)) <<< (((8 : Int32) * (Int32.ofNat j)) &&& 0x3f).toInt64))), .second, .val (.int ((Int32.ofNat j) + (1 : Int32)))] [])) _
    rw [show Int32.ofNat j + (1 : Int32) = Int32.ofNat (j + 1) from Int32.ofNat_succ j]
    exact ih (j + 1) hj2 target kt

theorem pn_2 : plainName "com/example/ledgerline/ledgerline/storage/compression/DecompressingInput" = true := by first | (simp [plainName, overriddenIn]; done) | decide +kernel
theorem ef_2 (m : MethodId) (r0 : Addr) (p1 : Int32) (p2 : Int32) : entryFrame m #[(.ref r0), (.int p1), (.int p2)] 6 = mkF m 0 #[.val (.ref r0), .val (.int p1), .val (.int p2), .unset, .unset, .unset] [] := by first | (simp [entryFrame, mkF, argsToLocals, Value.category]; done) | rfl
def Q2 (Z : State) (r0 : Addr) (p1 : Int32) (p2 : Int32) (k_r0 : ClassId) (x_vs : List Value) (n_1 : Nat) (h0 : Heap) (n0 : Nat) (v : Option Value) (h : Heap) (L : List Loc) : Prop := v = some (.long (own_le x_vs p1 p2.toInt.toNat)) ∧ L = [] ∧ h = h0
set_option maxRecDepth 65536 in
set_option maxHeartbeats 40000000 in
theorem rm2 (l : Launch) (Z : State) (a0 : Array Value) (hw : ∀ d ∈ tables_1, d.before a0 Z = true) (ws : List Jvm.Cond) (r0 : Addr) (p1 : Int32) (p2 : Int32) (k_r0 : ClassId) (x_vs : List Value) (n_1 : Nat) (h0 : Heap) (n0 : Nat) (Z0 : n0 ≤ h0.size) (V_r0 : Arv Z h0 r0 k_r0 .byte (11 : Int32) x_vs (.int (0 : Int32))) (hlen : x_vs.length = 11) (hn1 : p1.toInt = (n_1 : Int)) (hn2 : n_1 ≤ 3) (hall : own_ints ((.int (0 : Int32)) :: x_vs) = true) (hc1 : 0 ≤ p2.toInt) (hc2 : p2.toInt ≤ 8) :
    MetFree l (⟨"com/example/ledgerline/ledgerline/storage/compression/DecompressingInput", "littleEndian", "([BII)J"⟩ : MethodName) (head1 (Jvm.Cond.code (⟨"com/example/ledgerline/ledgerline/storage/compression/DecompressingInput", "littleEndian", "([BII)J"⟩ : MethodName) prog_334_method_16_code 6 (some .long) :: ws) ({ frames := 0, cells := 0, slots := 0, locals := 0 } : Room)) (fun a U => a = #[(.ref r0), (.int p1), (.int p2)] ∧ Z.Warmed39 U.vm ∧ U.heap = h0) (fun _ _ _ _ _ => True) (fun _ U o U' => ∃ v L, o = .returned v ∧ Q2 Z r0 p1 p2 k_r0 x_vs n_1 h0 n0 v U'.heap L ∧ FrameEnd U o U' L ({ frames := 0, cells := 0, slots := 0, locals := 0 } : Room).cells ({ frames := 0, cells := 0, slots := 0, locals := 0 } : Room).slots) := by
  refine MetFree.of_bodySF (plainFor_of_name pn_2) hisR ?_
  intro p e s m args below meth c s₁ Bd hml0 hP hK
  obtain ⟨rfl, hZ, hh⟩ := hP
  have hx := Bd.exec
  have hby := Bd.bytes
  have hml : c.maxLocals = 6 := hml0
  have hown : s.vm.findClass "com/example/ledgerline/ledgerline/storage/compression/DecompressingInput" = some m.cls := findClass_of_methodNamed Bd.named
  have hnm := (name_of_methodNamed Bd.named Bd.method).1
  have X0 : Stand p l e ({ frames := 0, cells := 0, slots := 0, locals := 0 } : Room) s m #[(.ref r0), (.int p1), (.int p2)] below meth c s₁ [] 0 0 := Stand.of_body Bd
  have e0 : s₁.heap = h0 := by rw [← hh, Bd.state]; rfl
  have N0 := Fr.nil n0
  have pre0 : ∀ t, Steps p.tables e below (s₁.setTop (mkF m 0 #[.val (.ref r0), .val (.int p1), .val (.int p2), .unset, .unset, .unset] [])) t → Steps p.tables e below (s₁.setTop (entryFrame m #[(.ref r0), (.int p1), (.int p2)] 6)) t := fun t k => castTop (ef_2 m r0 p1 p2) k
  have hfin : own_le x_vs p1 p2.toInt.toNat = own_le x_vs p1 p2.toInt.toNat := rfl
  obtain ⟨fs, hr, hrun, hended, hW, hsame⟩ := X0.leave (v := some (.long (own_le x_vs p1 p2.toInt.toNat))) (fun h => by rw [Bd.returns] at h; cases h)
  refine ⟨_, _, pre0 _ ?_, hrun, hended, _, _, rfl, ?_, ⟨_, rfl⟩, hW, hsame.mono (by decide) (by decide)⟩
  · show Steps p.tables e below (s₁.setTop (mkF m 0 #[.val (.ref r0), .val (.int p1), .val (.int p2), .unset, .unset, .unset] [])) _
    refine XS.lconst X0.here hx rfl (hb hby d2_0) ?_
    show Steps p.tables e below (s₁.setTop (mkF m 1 #[.val (.ref r0), .val (.int p1), .val (.int p2), .unset, .unset, .unset] [(.long (0 : Int64))])) _
    refine XS.lstoreN X0.here hx rfl (hb hby d2_1) rfl (l' := #[.val (.ref r0), .val (.int p1), .val (.int p2), .val (.long (0 : Int64)), .second, .unset]) rfl ?_
    show Steps p.tables e below (s₁.setTop (mkF m 2 #[.val (.ref r0), .val (.int p1), .val (.int p2), .val (.long (0 : Int64)), .second, .unset] [])) _
    refine XS.iconst X0.here hx rfl (hb hby d2_2) ?_
    show Steps p.tables e below (s₁.setTop (mkF m 3 #[.val (.ref r0), .val (.int p1), .val (.int p2), .val (.long (0 : Int64)), .second, .unset] [(.int (0 : Int32))])) _
    refine XS.istore X0.here hx rfl (hb hby d2_3) rfl (l' := #[.val (.ref r0), .val (.int p1), .val (.int p2), .val (.long (0 : Int64)), .second, .val (.int (0 : Int32))]) rfl ?_
    show Steps p.tables e below (s₁.setTop (mkF m 5 #[.val (.ref r0), .val (.int p1), .val (.int p2), .val (.long (0 : Int64)), .second, .val (.int (0 : Int32))] [])) _
    refine loopL X0 hx hZ hw hby hown e0 V_r0 hall hn1 hn2 hc1 hc2 (p2.toInt.toNat) 0 (by omega) _ ?_
    show Steps p.tables e below (s₁.setTop (mkF m 37 #[.val (.ref r0), .val (.int p1), .val (.int p2), .val (.long (own_le x_vs p1 p2.toInt.toNat)), .second, .val (.int (Int32.ofNat p2.toInt.toNat))] [])) _
    refine XS.lloadN X0.here hx rfl (hb hby d2_37) rfl ?_
    show Steps p.tables e below (s₁.setTop (mkF m 38 #[.val (.ref r0), .val (.int p1), .val (.int p2), .val (.long (own_le x_vs p1 p2.toInt.toNat)), .second, .val (.int (Int32.ofNat p2.toInt.toNat))] [(.long (own_le x_vs p1 p2.toInt.toNat))])) _
    exact retJ X0 hx Bd.returns (hb hby d2_38) hr
  · show Q2 Z r0 p1 p2 k_r0 x_vs n_1 h0 n0 _ s₁.heap _
    exact ⟨congrArg (fun z => some (Value.long z)) hfin, rfl, e0⟩

/-- the bits of a long, as a number -/
def own_u (q : Int64) : Nat := q.toBitVec.toNat
theorem own_toInt (q : Int64) : (q.toInt - (own_u q : Int)) % 18446744073709551616 = 0 := by
  have d : q.toInt = q.toBitVec.toInt := rfl
  have hb := q.toBitVec.isLt
  rw [BitVec.toInt_eq_toNat_cond] at d
  unfold own_u
  split at d <;> omega
theorem own_ush (q : Int64) {n : UInt64} {k : Nat} (hn : n.toNat = k) (hk : k < 64) : own_u ((q.toUInt64 >>> n).toInt64) = own_u q / 2 ^ k := by
  show ((q.toUInt64 >>> n).toInt64).toBitVec.toNat = q.toBitVec.toNat / 2 ^ k
  simp only [UInt64.toBitVec_toInt64, UInt64.toBitVec_shiftRight, Int64.toBitVec_toUInt64]
  simp [BitVec.toNat_ushiftRight, Nat.shiftRight_eq_div_pow, hn, Nat.mod_eq_of_lt hk]
theorem own_and (y m : Int64) (k : Nat) (hm : own_u m = 2 ^ k - 1) : own_u (y &&& m) = own_u y % 2 ^ k := by
  have e : own_u (y &&& m) = own_u y &&& own_u m := BitVec.toNat_and _ _
  rw [e, hm, Nat.and_two_pow_sub_one_eq_mod]
theorem own_byte (z : Int64) : own_u (((nar .byte ((z.toInt32).toInt8.toInt32)).toInt64) &&& (255 : Int64)) = own_u z % 256 := by
  have e := own_and ((nar .byte ((z.toInt32).toInt8.toInt32)).toInt64) 255 8 (by decide)
  have h1 := own_toInt ((nar .byte ((z.toInt32).toInt8.toInt32)).toInt64)
  have h2 : ((nar .byte ((z.toInt32).toInt8.toInt32)).toInt64).toInt = (nar .byte ((z.toInt32).toInt8.toInt32)).toInt := c_i2l _
  have h3 : ((nar .byte ((z.toInt32).toInt8.toInt32)).toInt - ((z.toInt32).toInt8.toInt32).toInt) % 256 = 0 := (c_i2b _).1
  have h4 := (c_i2b (z.toInt32)).1
  have h5 := c_l2i z
  have h6 := own_toInt z
  rw [e]
  omega
theorem own_get (A : List Value) (n : Nat) (b0 b1 b2 b3 b4 b5 b6 b7 d : Value) (hl : n + 8 ≤ A.length) : ((((((((A.set (n + 0) b0).set (n + 1) b1).set (n + 2) b2).set (n + 3) b3).set (n + 4) b4).set (n + 5) b5).set (n + 6) b6).set (n + 7) b7).getD (n + 0) d = b0 ∧ ((((((((A.set (n + 0) b0).set (n + 1) b1).set (n + 2) b2).set (n + 3) b3).set (n + 4) b4).set (n + 5) b5).set (n + 6) b6).set (n + 7) b7).getD (n + 1) d = b1 ∧ ((((((((A.set (n + 0) b0).set (n + 1) b1).set (n + 2) b2).set (n + 3) b3).set (n + 4) b4).set (n + 5) b5).set (n + 6) b6).set (n + 7) b7).getD (n + 2) d = b2 ∧ ((((((((A.set (n + 0) b0).set (n + 1) b1).set (n + 2) b2).set (n + 3) b3).set (n + 4) b4).set (n + 5) b5).set (n + 6) b6).set (n + 7) b7).getD (n + 3) d = b3 ∧ ((((((((A.set (n + 0) b0).set (n + 1) b1).set (n + 2) b2).set (n + 3) b3).set (n + 4) b4).set (n + 5) b5).set (n + 6) b6).set (n + 7) b7).getD (n + 4) d = b4 ∧ ((((((((A.set (n + 0) b0).set (n + 1) b1).set (n + 2) b2).set (n + 3) b3).set (n + 4) b4).set (n + 5) b5).set (n + 6) b6).set (n + 7) b7).getD (n + 5) d = b5 ∧ ((((((((A.set (n + 0) b0).set (n + 1) b1).set (n + 2) b2).set (n + 3) b3).set (n + 4) b4).set (n + 5) b5).set (n + 6) b6).set (n + 7) b7).getD (n + 6) d = b6 ∧ ((((((((A.set (n + 0) b0).set (n + 1) b1).set (n + 2) b2).set (n + 3) b3).set (n + 4) b4).set (n + 5) b5).set (n + 6) b6).set (n + 7) b7).getD (n + 7) d = b7 := by
  refine ⟨?_, ?_, ?_, ?_, ?_, ?_, ?_, ?_⟩
  all_goals
    have q1 : n + 1 < A.length := by omega
    have q2 : n + 2 < A.length := by omega
    have q3 : n + 3 < A.length := by omega
    have q4 : n + 4 < A.length := by omega
    have q5 : n + 5 < A.length := by omega
    have q6 : n + 6 < A.length := by omega
    have q7 : n + 7 < A.length := by omega
    have q0 : n < A.length := by omega
    simp [List.getD_eq_getElem?_getD, List.getElem?_set, q0, q1, q2, q3, q4, q5, q6, q7]
theorem own_is {d : Value} {vs : List Value} {i : Nat} {x : Int32} (h : own_ints (d :: vs) = true) : own_ints (d :: vs.set i (.int x)) = true := by
  refine List.all_eq_true.mpr fun v hv => ?_
  rcases List.mem_cons.mp hv with rfl | hv
  · exact List.all_eq_true.mp h _ (List.mem_cons_self ..)
  · rcases List.mem_or_eq_of_mem_set hv with hv | rfl
    · exact List.all_eq_true.mp h _ (List.mem_cons_of_mem _ hv)
    · rfl
theorem own_sh : ∀ j : Fin 8, ((((8 : Int32) * Int32.ofNat j.val) &&& 0x3f).toInt64.toBitVec.smod 64).toNat = 8 * j.val := by decide +kernel
theorem own_shlu (y : Int64) (j : Nat) (hj : j < 8) (hy : own_u y < 256) : own_u (y <<< (((8 : Int32) * Int32.ofNat j) &&& 0x3f).toInt64) = 2 ^ (8 * j) * own_u y := by
  have e : own_u (y <<< (((8 : Int32) * Int32.ofNat j) &&& 0x3f).toInt64) = (y.toBitVec <<< ((((8 : Int32) * Int32.ofNat j) &&& 0x3f).toInt64.toBitVec.smod 64)).toNat := rfl
  have hs := own_sh ⟨j, hj⟩
  have hp : 2 ^ (8 * j) ≤ 2 ^ 56 := Nat.pow_le_pow_right (by decide) (by omega)
  rw [e, BitVec.shiftLeft_eq', BitVec.toNat_shiftLeft, hs, Nat.shiftLeft_eq]
  have hu : own_u y = y.toBitVec.toNat := rfl
  rw [← hu, Nat.mul_comm]
  refine Nat.mod_eq_of_lt ?_
  calc 2 ^ (8 * j) * own_u y < 2 ^ (8 * j) * 256 := Nat.mul_lt_mul_of_pos_left hy (Nat.two_pow_pos _)
    _ ≤ 2 ^ 56 * 256 := Nat.mul_le_mul_right _ hp
    _ = 2 ^ 64 := by decide
theorem own_main (vs : List Value) (p1 : Int32) (q : Int64) (hget : ∀ j, j < 8 → own_u (((own_at vs (.int (0 : Int32)) (p1 + Int32.ofNat j)).toInt64) &&& (255 : Int64)) = own_u q / 2 ^ (8 * j) % 256) : ∀ c, c ≤ 8 → own_u (own_le vs p1 c) = own_u q % 2 ^ (8 * c) := by
  intro c
  induction c with
  | zero => intro _; show 0 = own_u q % 2 ^ 0; omega
  | succ j ih =>
    intro hj
    have e : own_u (own_le vs p1 (j + 1)) = own_u (own_le vs p1 j) ||| own_u ((((own_at vs (.int (0 : Int32)) (p1 + Int32.ofNat j)).toInt64) &&& (255 : Int64)) <<< (((8 : Int32) * Int32.ofNat j) &&& 0x3f).toInt64) := BitVec.toNat_or _ _
    have hg := hget j (by omega)
    rw [e, ih (by omega), own_shlu _ j (by omega) (by rw [hg]; exact Nat.mod_lt _ (by decide)), hg, Nat.or_comm,
      ← Nat.two_pow_add_eq_or_of_lt (Nat.mod_lt _ (Nat.two_pow_pos _)), Nat.add_comm, ← Nat.mod_mul]
    rw [show 8 * (j + 1) = 8 * j + 8 by omega, Nat.pow_add]
theorem own_mask : ∀ c : Fin 9, own_u (if Int32.ofNat c.val = (8 : Int32) then (-1 : Int64) else (((1 : Int64) <<< (((8 : Int32) * Int32.ofNat c.val) &&& 0x3f).toInt64) - (1 : Int64))) = 2 ^ (8 * c.val) - 1 := by decide +kernel
theorem own_at0 (p3 : Int32) : 0 ≤ ((p3 &&& (2147483647 : Int32)) - ((p3 &&& (2147483647 : Int32)) / (4 : Int32)) * (4 : Int32)).toInt ∧ ((p3 &&& (2147483647 : Int32)) - ((p3 &&& (2147483647 : Int32)) / (4 : Int32)) * (4 : Int32)).toInt ≤ 3 := by
  have e : (p3 &&& (2147483647 : Int32)).toInt = p3.toInt % 2 ^ 31 := Jvm.Kit.i32_mask p3 2147483647 (k := 31) (by decide) (by decide)
  generalize (p3 &&& (2147483647 : Int32)) = x at *
  have m : (x - (x / 4) * 4).toInt = x.toInt % 4 := by rw [irem_eq_mod]; exact Jvm.Kit.i32_rem_nonneg (by omega)
  rw [m]; omega
theorem own_at1 (p3 : Int32) : ((p3 &&& (2147483647 : Int32)) - ((p3 &&& (2147483647 : Int32)) / (4 : Int32)) * (4 : Int32)).toInt = ((((p3 &&& (2147483647 : Int32)) - ((p3 &&& (2147483647 : Int32)) / (4 : Int32)) * (4 : Int32)).toInt.toNat : Nat) : Int) := by have h := own_at0 p3; omega
theorem own_at2 (p3 : Int32) : ((p3 &&& (2147483647 : Int32)) - ((p3 &&& (2147483647 : Int32)) / (4 : Int32)) * (4 : Int32)).toInt.toNat ≤ 3 := by have h := own_at0 p3; omega
theorem own_cnt (p4 : Int32) : 0 ≤ ((p4 &&& (2147483647 : Int32)) - ((p4 &&& (2147483647 : Int32)) / (9 : Int32)) * (9 : Int32)).toInt ∧ ((p4 &&& (2147483647 : Int32)) - ((p4 &&& (2147483647 : Int32)) / (9 : Int32)) * (9 : Int32)).toInt ≤ 8 := by
  have e : (p4 &&& (2147483647 : Int32)).toInt = p4.toInt % 2 ^ 31 := Jvm.Kit.i32_mask p4 2147483647 (k := 31) (by decide) (by decide)
  generalize (p4 &&& (2147483647 : Int32)) = x at *
  have m : (x - (x / 9) * 9).toInt = x.toInt % 9 := by rw [irem_eq_mod]; exact Jvm.Kit.i32_rem_nonneg (by omega)
  rw [m]; omega
theorem own_cnt1 (p4 : Int32) : 0 ≤ ((p4 &&& (2147483647 : Int32)) - ((p4 &&& (2147483647 : Int32)) / (9 : Int32)) * (9 : Int32)).toInt := (own_cnt p4).1
theorem own_cnt2 (p4 : Int32) : ((p4 &&& (2147483647 : Int32)) - ((p4 &&& (2147483647 : Int32)) / (9 : Int32)) * (9 : Int32)).toInt ≤ 8 := (own_cnt p4).2
theorem own_hget (A : List Value) (hA : A.length = 11) (q0 : Int64) (p1 : Int32) (n : Nat) (h1 : p1.toInt = (n : Int)) (h2 : n ≤ 3) : ∀ j, j < 8 → own_u (((own_at ((((((((A.set (n + 0) (.int (nar .byte ((q0.toInt32).toInt8.toInt32)))).set (n + 1) (.int (nar .byte ((((q0.toUInt64 >>> ((8 : Int32) &&& 0x3f).toInt64.toUInt64).toInt64).toInt32).toInt8.toInt32)))).set (n + 2) (.int (nar .byte ((((q0.toUInt64 >>> ((16 : Int32) &&& 0x3f).toInt64.toUInt64).toInt64).toInt32).toInt8.toInt32)))).set (n + 3) (.int (nar .byte ((((q0.toUInt64 >>> ((24 : Int32) &&& 0x3f).toInt64.toUInt64).toInt64).toInt32).toInt8.toInt32)))).set (n + 4) (.int (nar .byte ((((q0.toUInt64 >>> ((32 : Int32) &&& 0x3f).toInt64.toUInt64).toInt64).toInt32).toInt8.toInt32)))).set (n + 5) (.int (nar .byte ((((q0.toUInt64 >>> ((40 : Int32) &&& 0x3f).toInt64.toUInt64).toInt64).toInt32).toInt8.toInt32)))).set (n + 6) (.int (nar .byte ((((q0.toUInt64 >>> ((48 : Int32) &&& 0x3f).toInt64.toUInt64).toInt64).toInt32).toInt8.toInt32)))).set (n + 7) (.int (nar .byte ((((q0.toUInt64 >>> ((56 : Int32) &&& 0x3f).toInt64.toUInt64).toInt64).toInt32).toInt8.toInt32)))) (.int (0 : Int32)) (p1 + Int32.ofNat j)).toInt64) &&& (255 : Int64)) = own_u q0 / 2 ^ (8 * j) % 256 := by
  intro j hj
  obtain ⟨G0, G1, G2, G3, G4, G5, G6, G7⟩ := own_get A n (.int (nar .byte ((q0.toInt32).toInt8.toInt32))) (.int (nar .byte ((((q0.toUInt64 >>> ((8 : Int32) &&& 0x3f).toInt64.toUInt64).toInt64).toInt32).toInt8.toInt32))) (.int (nar .byte ((((q0.toUInt64 >>> ((16 : Int32) &&& 0x3f).toInt64.toUInt64).toInt64).toInt32).toInt8.toInt32))) (.int (nar .byte ((((q0.toUInt64 >>> ((24 : Int32) &&& 0x3f).toInt64.toUInt64).toInt64).toInt32).toInt8.toInt32))) (.int (nar .byte ((((q0.toUInt64 >>> ((32 : Int32) &&& 0x3f).toInt64.toUInt64).toInt64).toInt32).toInt8.toInt32))) (.int (nar .byte ((((q0.toUInt64 >>> ((40 : Int32) &&& 0x3f).toInt64.toUInt64).toInt64).toInt32).toInt8.toInt32))) (.int (nar .byte ((((q0.toUInt64 >>> ((48 : Int32) &&& 0x3f).toInt64.toUInt64).toInt64).toInt32).toInt8.toInt32))) (.int (nar .byte ((((q0.toUInt64 >>> ((56 : Int32) &&& 0x3f).toInt64.toUInt64).toInt64).toInt32).toInt8.toInt32))) (.int (0 : Int32)) (by omega)
  have hi := own_ixj h1 h2 j (by omega)
  have hs : ∀ (z : Int64) (k : Nat) (s : UInt64), s.toNat = k → k < 64 → own_u (((nar .byte ((((q0.toUInt64 >>> s).toInt64).toInt32).toInt8.toInt32)).toInt64) &&& (255 : Int64)) = own_u q0 / 2 ^ k % 256 := fun _ k s e1 e2 => by rw [own_byte, own_ush q0 e1 e2]
  unfold own_at
  rw [hi]
  match j, hj with
  | 0, _ => rw [G0]; show own_u (((nar .byte ((q0.toInt32).toInt8.toInt32)).toInt64) &&& (255 : Int64)) = _; rw [own_byte]; show _ = own_u q0 / 1 % 256; rw [Nat.div_one]
  | 1, _ => rw [G1]; exact hs q0 8 ((8 : Int32) &&& 0x3f).toInt64.toUInt64 (by decide) (by decide)
  | 2, _ => rw [G2]; exact hs q0 16 ((16 : Int32) &&& 0x3f).toInt64.toUInt64 (by decide) (by decide)
  | 3, _ => rw [G3]; exact hs q0 24 ((24 : Int32) &&& 0x3f).toInt64.toUInt64 (by decide) (by decide)
  | 4, _ => rw [G4]; exact hs q0 32 ((32 : Int32) &&& 0x3f).toInt64.toUInt64 (by decide) (by decide)
  | 5, _ => rw [G5]; exact hs q0 40 ((40 : Int32) &&& 0x3f).toInt64.toUInt64 (by decide) (by decide)
  | 6, _ => rw [G6]; exact hs q0 48 ((48 : Int32) &&& 0x3f).toInt64.toUInt64 (by decide) (by decide)
  | 7, _ => rw [G7]; exact hs q0 56 ((56 : Int32) &&& 0x3f).toInt64.toUInt64 (by decide) (by decide)
theorem own_final (vs : List Value) (p1 c m : Int32) (q : Int64) (hget : ∀ j, j < 8 → own_u (((own_at vs (.int (0 : Int32)) (p1 + Int32.ofNat j)).toInt64) &&& (255 : Int64)) = own_u q / 2 ^ (8 * j) % 256) (h1 : 0 ≤ c.toInt) (h2 : c.toInt ≤ 8) (mask : Int64) (hm : mask = (if c = (8 : Int32) then (-1 : Int64) else (((1 : Int64) <<< (((8 : Int32) * c) &&& 0x3f).toInt64) - (1 : Int64)))) : own_le vs p1 c.toInt.toNat = (q &&& mask) := by
  have ec : c = Int32.ofNat c.toInt.toNat := by
    apply Int32.toInt_inj.mp
    rw [Int32.toInt_ofNat_small (by omega)]; omega
  have hk := own_mask ⟨c.toInt.toNat, by omega⟩
  dsimp only at hk
  rw [← ec, ← hm] at hk
  have a := own_main vs p1 q hget c.toInt.toNat (by omega)
  have b := own_and q mask _ hk
  apply Int64.toBitVec_inj.mp
  apply BitVec.eq_of_toNat_eq
  exact a.trans b.symm
theorem plain_law (q0 : Int64) (q1 : Int64) (p2 : Int32) (p3 : Int32) (p4 : Int32) (v8_s0 : Int64) (Hv8_s0 : v8_s0 = (if ((p4 &&& (2147483647 : Int32)) - ((p4 &&& (2147483647 : Int32)) / (9 : Int32)) * (9 : Int32)) = (8 : Int32) then (-1 : Int64) else (((1 : Int64) <<< (((8 : Int32) * ((p4 &&& (2147483647 : Int32)) - ((p4 &&& (2147483647 : Int32)) / (9 : Int32)) * (9 : Int32))) &&& 0x3f).toInt64) - (1 : Int64)))) (v11_s0 : Int32) (Hv11_s0 : v11_s0 = (if (own_le ((((((((((((((((((([(.int (0 : Int32)), (.int (0 : Int32)), (.int (0 : Int32)), (.int (0 : Int32)), (.int (0 : Int32)), (.int (0 : Int32)), (.int (0 : Int32)), (.int (0 : Int32)), (.int (0 : Int32)), (.int (0 : Int32)), (.int (0 : Int32))].set (0 + 0) (.int (nar .byte ((q1.toInt32).toInt8.toInt32)))).set (0 + 1) (.int (nar .byte ((((q1.toUInt64 >>> ((8 : Int32) &&& 0x3f).toInt64.toUInt64).toInt64).toInt32).toInt8.toInt32)))).set (0 + 2) (.int (nar .byte ((((q1.toUInt64 >>> ((16 : Int32) &&& 0x3f).toInt64.toUInt64).toInt64).toInt32).toInt8.toInt32)))).set (0 + 3) (.int (nar .byte ((((q1.toUInt64 >>> ((24 : Int32) &&& 0x3f).toInt64.toUInt64).toInt64).toInt32).toInt8.toInt32)))).set (0 + 4) (.int (nar .byte ((((q1.toUInt64 >>> ((32 : Int32) &&& 0x3f).toInt64.toUInt64).toInt64).toInt32).toInt8.toInt32)))).set (0 + 5) (.int (nar .byte ((((q1.toUInt64 >>> ((40 : Int32) &&& 0x3f).toInt64.toUInt64).toInt64).toInt32).toInt8.toInt32)))).set (0 + 6) (.int (nar .byte ((((q1.toUInt64 >>> ((48 : Int32) &&& 0x3f).toInt64.toUInt64).toInt64).toInt32).toInt8.toInt32)))).set (0 + 7) (.int (nar .byte ((((q1.toUInt64 >>> ((56 : Int32) &&& 0x3f).toInt64.toUInt64).toInt64).toInt32).toInt8.toInt32)))).set 8 (.int (nar .byte (p2.toInt8.toInt32)))).set 9 (.int (nar .byte (((p2.toUInt32 >>> ((8 : Int32) &&& 31).toUInt32).toInt32).toInt8.toInt32)))).set 10 (.int (nar .byte (((p2.toUInt32 >>> ((16 : Int32) &&& 31).toUInt32).toInt32).toInt8.toInt32)))).set ((((p3 &&& (2147483647 : Int32)) - ((p3 &&& (2147483647 : Int32)) / (4 : Int32)) * (4 : Int32))).toInt.toNat + 0) (.int (nar .byte ((q0.toInt32).toInt8.toInt32)))).set ((((p3 &&& (2147483647 : Int32)) - ((p3 &&& (2147483647 : Int32)) / (4 : Int32)) * (4 : Int32))).toInt.toNat + 1) (.int (nar .byte ((((q0.toUInt64 >>> ((8 : Int32) &&& 0x3f).toInt64.toUInt64).toInt64).toInt32).toInt8.toInt32)))).set ((((p3 &&& (2147483647 : Int32)) - ((p3 &&& (2147483647 : Int32)) / (4 : Int32)) * (4 : Int32))).toInt.toNat + 2) (.int (nar .byte ((((q0.toUInt64 >>> ((16 : Int32) &&& 0x3f).toInt64.toUInt64).toInt64).toInt32).toInt8.toInt32)))).set ((((p3 &&& (2147483647 : Int32)) - ((p3 &&& (2147483647 : Int32)) / (4 : Int32)) * (4 : Int32))).toInt.toNat + 3) (.int (nar .byte ((((q0.toUInt64 >>> ((24 : Int32) &&& 0x3f).toInt64.toUInt64).toInt64).toInt32).toInt8.toInt32)))).set ((((p3 &&& (2147483647 : Int32)) - ((p3 &&& (2147483647 : Int32)) / (4 : Int32)) * (4 : Int32))).toInt.toNat + 4) (.int (nar .byte ((((q0.toUInt64 >>> ((32 : Int32) &&& 0x3f).toInt64.toUInt64).toInt64).toInt32).toInt8.toInt32)))).set ((((p3 &&& (2147483647 : Int32)) - ((p3 &&& (2147483647 : Int32)) / (4 : Int32)) * (4 : Int32))).toInt.toNat + 5) (.int (nar .byte ((((q0.toUInt64 >>> ((40 : Int32) &&& 0x3f).toInt64.toUInt64).toInt64).toInt32).toInt8.toInt32)))).set ((((p3 &&& (2147483647 : Int32)) - ((p3 &&& (2147483647 : Int32)) / (4 : Int32)) * (4 : Int32))).toInt.toNat + 6) (.int (nar .byte ((((q0.toUInt64 >>> ((48 : Int32) &&& 0x3f).toInt64.toUInt64).toInt64).toInt32).toInt8.toInt32)))).set ((((p3 &&& (2147483647 : Int32)) - ((p3 &&& (2147483647 : Int32)) / (4 : Int32)) * (4 : Int32))).toInt.toNat + 7) (.int (nar .byte ((((q0.toUInt64 >>> ((56 : Int32) &&& 0x3f).toInt64.toUInt64).toInt64).toInt32).toInt8.toInt32)))) ((p3 &&& (2147483647 : Int32)) - ((p3 &&& (2147483647 : Int32)) / (4 : Int32)) * (4 : Int32)) ((p4 &&& (2147483647 : Int32)) - ((p4 &&& (2147483647 : Int32)) / (9 : Int32)) * (9 : Int32)).toInt.toNat) = (q0 &&& v8_s0) then (1 : Int32) else (0 : Int32))) : v11_s0 = 1 := by
  rw [Hv11_s0, if_pos]
  exact own_final _ _ _ 0 _ (own_hget _ (by simp only [List.length_set]; rfl) q0 _ _ (own_at1 p3) (own_at2 p3)) (own_cnt1 p4) (own_cnt2 p4) _ Hv8_s0

theorem pn_0 : plainName "com/example/ledgerline/ledgerline/storage/compression/DecompressingInputLittleEndianPinLaw" = true := by first | (simp [plainName, overriddenIn]; done) | decide +kernel
theorem pd_0_0 : parseMethodDescriptor "([BIJ)V" = some ⟨[(.array .byte), .int, .long], none⟩ := by decide +kernel
theorem pd_0_1 : parseMethodDescriptor "([BII)J" = some ⟨[(.array .byte), .int, .int], some .long⟩ := by decide +kernel
theorem ef_0 (m : MethodId) (q0 : Int64) (q1 : Int64) (p2 : Int32) (p3 : Int32) (p4 : Int32) : entryFrame m #[(.long q0), (.long q1), (.int p2), (.int p3), (.int p4)] maxLocals = mkF m 0 #[.val (.long q0), .second, .val (.long q1), .second, .val (.int p2), .val (.int p3), .val (.int p4), .unset, .unset, .unset, .unset, .unset, .unset, .unset] [] := by first | (simp [entryFrame, mkF, argsToLocals, Value.category, maxLocals]; done) | rfl
set_option maxRecDepth 65536 in
set_option maxHeartbeats 40000000 in
theorem rm0 (l : Launch) (Z : State) (a0 : Array Value) (hw : ∀ d ∈ tables_1, d.before a0 Z = true) (ws : List Jvm.Cond) (q0 : Int64) (q1 : Int64) (p2 : Int32) (p3 : Int32) (p4 : Int32) (h0 : Heap) (n0 : Nat) (Z0 : n0 ≤ h0.size) :
    MetFree l x (head1 (Jvm.Cond.code x code maxLocals ret :: ws) room_1) (fun a U => a = #[(.long q0), (.long q1), (.int p2), (.int p3), (.int p4)] ∧ Z.Warmed39 U.vm ∧ U.heap = h0) (fun _ _ _ _ _ => True) (fun _ U o U' => ∃ v L, o = .returned v ∧ (v = some (.int 1) ∧ Fr n0 L) ∧ FrameEnd U o U' L room_1.cells room_1.slots) := by
  refine MetFree.of_bodySF (plainFor_of_name pn_0) hisR ?_
  intro p e s m args below meth c s₁ Bd hml0 hP hK
  obtain ⟨rfl, hZ, hh⟩ := hP
  have hx := Bd.exec
  have hby := Bd.bytes
  have hml : c.maxLocals = 14 := hml0
  have hown : s.vm.findClass "com/example/ledgerline/ledgerline/storage/compression/DecompressingInputLittleEndianPinLaw" = some m.cls := findClass_of_methodNamed Bd.named
  have hnm := (name_of_methodNamed Bd.named Bd.method).1
  have X0 : Stand p l e room_1 s m #[(.long q0), (.long q1), (.int p2), (.int p3), (.int p4)] below meth c s₁ [] 0 0 := Stand.of_body Bd
  have e0 : s₁.heap = h0 := by rw [← hh, Bd.state]; rfl
  have N0 := Fr.nil n0
  have pre0 : ∀ t, Steps p.tables e below (s₁.setTop (mkF m 0 #[.val (.long q0), .second, .val (.long q1), .second, .val (.int p2), .val (.int p3), .val (.int p4), .unset, .unset, .unset, .unset, .unset, .unset, .unset] [])) t → Steps p.tables e below (s₁.setTop (entryFrame m #[(.long q0), (.long q1), (.int p2), (.int p3), (.int p4)] maxLocals)) t := fun t k => castTop (ef_0 m q0 q1 p2 p3 p4) k
  obtain ⟨T1, h1, k1, X1, e1, E1, A1, st1⟩ := newP X0 hx hZ (hw _ (List.mem_of_getElem? (i := 1) rfl)) e0 (g := (mkF m 21 #[.val (.long q0), .second, .val (.long q1), .second, .val (.int p2), .val (.int p3), .val (.int p4), .val (.int ((p3 &&& (2147483647 : Int32)) - ((p3 &&& (2147483647 : Int32)) / (4 : Int32)) * (4 : Int32))), .val (.int ((p4 &&& (2147483647 : Int32)) - ((p4 &&& (2147483647 : Int32)) / (9 : Int32)) * (9 : Int32))), .unset, .unset, .unset, .unset, .unset] [(.int (11 : Int32))])) rfl (hb hby at_21) rfl (by decide) (cap := 11) (by decide) (by decide) (by decide) (by decide)
  obtain ⟨b1, g1⟩ : ∃ z, z = h0.size := ⟨_, rfl⟩
  rw [← g1] at A1 st1
  have g_b1 : n0 ≤ b1 := Nat.le_trans Z0 (Nat.le_of_eq g1.symm)
  have sz_b1 : h0.size ≤ b1 := Nat.le_trans (Keep.refl h0 []).1 (Nat.le_of_eq g1.symm)
  have V1 : Arv Z h1 b1 k1 .byte (11 : Int32) [(.int (0 : Int32)), (.int (0 : Int32)), (.int (0 : Int32)), (.int (0 : Int32)), (.int (0 : Int32)), (.int (0 : Int32)), (.int (0 : Int32)), (.int (0 : Int32)), (.int (0 : Int32)), (.int (0 : Int32)), (.int (0 : Int32))] (.int (0 : Int32)) := (Arv.new A1 (by decide)).pad (pad_rep [] (.int (0 : Int32)) 11)
  obtain ⟨_, _, ⟨T2, L2, k2, n2⟩, -, X2, ⟨Lc2, hQ2, l2, y2, z2⟩, st2⟩ := Jvm.LawKit.callS X1 hx (y := (⟨"com/example/ledgerline/ledgerline/storage/compression/DecompressingInputLittleEndianPinLaw", "putLong", "([BIJ)V"⟩ : MethodName)) hown (mvT hZ (hw _ (List.mem_of_getElem? (i := 2) rfl))) (mvT hZ (hw _ (List.mem_of_getElem? (i := 3) rfl))) (mvT hZ (hw _ (List.mem_of_getElem? (i := 4) rfl))) (mvT hZ (hw _ (List.mem_of_getElem? (i := 5) rfl))) (by decide) (backOf (W := 0) (rm1 l Z a0 hw [] b1 (0 : Int32) q1 k1 [(.int (0 : Int32)), (.int (0 : Int32)), (.int (0 : Int32)), (.int (0 : Int32)), (.int (0 : Int32)), (.int (0 : Int32)), (.int (0 : Int32)), (.int (0 : Int32)), (.int (0 : Int32)), (.int (0 : Int32)), (.int (0 : Int32))] 0 h1 n0 (Nat.le_trans Z0 E1.1) V1 (by first | rfl | (simp only [List.length_set]; rfl)) rfl (by decide) g_b1) hZ (hw _ (List.mem_of_getElem? (i := 5) rfl)) (hw _ (List.mem_of_getElem? (i := 4) rfl)) (by decide) (by decide)) (g := (mkF m 29 #[.val (.long q0), .second, .val (.long q1), .second, .val (.int p2), .val (.int p3), .val (.int p4), .val (.int ((p3 &&& (2147483647 : Int32)) - ((p3 &&& (2147483647 : Int32)) / (4 : Int32)) * (4 : Int32))), .val (.int ((p4 &&& (2147483647 : Int32)) - ((p4 &&& (2147483647 : Int32)) / (9 : Int32)) * (9 : Int32))), .val (.ref b1), .unset, .unset, .unset, .unset] [(.long q1), (.int (0 : Int32)), (.ref b1)])) rfl (by rw [hml]; rfl) (argsL := [(.ref b1), (.int (0 : Int32)), (.long q1)]) (rest := []) (lenOf pd_0_0 rfl) rfl (by show 2 * 0 + _ ≤ _; exact Nat.le_of_eq rfl) (hb hby at_29) (fun _ _ => ⟨rfl, e1, (by decide : 1 + 0 ≤ _), (by decide : 11 + 0 ≤ _)⟩)
  dsimp only [Pt.U, Pt.locs, Pt.cells, Pt.slots] at X2 l2 y2 z2 st2 hQ2
  subst l2 y2 z2
  obtain ⟨rfl, N2q, K2, G2_0⟩ := hQ2
  have N2 := Fr.app N0 N2q
  have V2_b1 : Arv Z T2.heap b1 k1 .byte (11 : Int32) (((((((([(.int (0 : Int32)), (.int (0 : Int32)), (.int (0 : Int32)), (.int (0 : Int32)), (.int (0 : Int32)), (.int (0 : Int32)), (.int (0 : Int32)), (.int (0 : Int32)), (.int (0 : Int32)), (.int (0 : Int32)), (.int (0 : Int32))].set (0 + 0) (.int (nar .byte ((q1.toInt32).toInt8.toInt32)))).set (0 + 1) (.int (nar .byte ((((q1.toUInt64 >>> ((8 : Int32) &&& 0x3f).toInt64.toUInt64).toInt64).toInt32).toInt8.toInt32)))).set (0 + 2) (.int (nar .byte ((((q1.toUInt64 >>> ((16 : Int32) &&& 0x3f).toInt64.toUInt64).toInt64).toInt32).toInt8.toInt32)))).set (0 + 3) (.int (nar .byte ((((q1.toUInt64 >>> ((24 : Int32) &&& 0x3f).toInt64.toUInt64).toInt64).toInt32).toInt8.toInt32)))).set (0 + 4) (.int (nar .byte ((((q1.toUInt64 >>> ((32 : Int32) &&& 0x3f).toInt64.toUInt64).toInt64).toInt32).toInt8.toInt32)))).set (0 + 5) (.int (nar .byte ((((q1.toUInt64 >>> ((40 : Int32) &&& 0x3f).toInt64.toUInt64).toInt64).toInt32).toInt8.toInt32)))).set (0 + 6) (.int (nar .byte ((((q1.toUInt64 >>> ((48 : Int32) &&& 0x3f).toInt64.toUInt64).toInt64).toInt32).toInt8.toInt32)))).set (0 + 7) (.int (nar .byte ((((q1.toUInt64 >>> ((56 : Int32) &&& 0x3f).toInt64.toUInt64).toInt64).toInt32).toInt8.toInt32)))) (.int (0 : Int32)) := G2_0
  obtain ⟨cl3, Ar3, qk3, Sz3, M3, Hs3, G3⟩ := id V2_b1
  have hin3 : ¬ ((8 : Int32) < 0 ∨ cl3.slots.size ≤ ((8 : Int32)).toNatClampNeg) := inb_of Sz3 ⟨by decide, by decide⟩
  obtain ⟨T3, h3, X3, e3, W3, st3⟩ := stB X2 hx hZ rfl Ar3 (j := (8 : Int32)) hin3 (g := (mkF m 39 #[.val (.long q0), .second, .val (.long q1), .second, .val (.int p2), .val (.int p3), .val (.int p4), .val (.int ((p3 &&& (2147483647 : Int32)) - ((p3 &&& (2147483647 : Int32)) / (4 : Int32)) * (4 : Int32))), .val (.int ((p4 &&& (2147483647 : Int32)) - ((p4 &&& (2147483647 : Int32)) / (9 : Int32)) * (9 : Int32))), .val (.ref b1), .unset, .unset, .unset, .unset] [(.int (p2.toInt8.toInt32)), (.int (8 : Int32)), (.ref b1)])) rfl rfl (hb hby at_39)
  have V3 : Arv Z h3 b1 k1 .byte (11 : Int32) ((((((((([(.int (0 : Int32)), (.int (0 : Int32)), (.int (0 : Int32)), (.int (0 : Int32)), (.int (0 : Int32)), (.int (0 : Int32)), (.int (0 : Int32)), (.int (0 : Int32)), (.int (0 : Int32)), (.int (0 : Int32)), (.int (0 : Int32))].set (0 + 0) (.int (nar .byte ((q1.toInt32).toInt8.toInt32)))).set (0 + 1) (.int (nar .byte ((((q1.toUInt64 >>> ((8 : Int32) &&& 0x3f).toInt64.toUInt64).toInt64).toInt32).toInt8.toInt32)))).set (0 + 2) (.int (nar .byte ((((q1.toUInt64 >>> ((16 : Int32) &&& 0x3f).toInt64.toUInt64).toInt64).toInt32).toInt8.toInt32)))).set (0 + 3) (.int (nar .byte ((((q1.toUInt64 >>> ((24 : Int32) &&& 0x3f).toInt64.toUInt64).toInt64).toInt32).toInt8.toInt32)))).set (0 + 4) (.int (nar .byte ((((q1.toUInt64 >>> ((32 : Int32) &&& 0x3f).toInt64.toUInt64).toInt64).toInt32).toInt8.toInt32)))).set (0 + 5) (.int (nar .byte ((((q1.toUInt64 >>> ((40 : Int32) &&& 0x3f).toInt64.toUInt64).toInt64).toInt32).toInt8.toInt32)))).set (0 + 6) (.int (nar .byte ((((q1.toUInt64 >>> ((48 : Int32) &&& 0x3f).toInt64.toUInt64).toInt64).toInt32).toInt8.toInt32)))).set (0 + 7) (.int (nar .byte ((((q1.toUInt64 >>> ((56 : Int32) &&& 0x3f).toInt64.toUInt64).toInt64).toInt32).toInt8.toInt32)))).set 8 (.int (nar .byte (p2.toInt8.toInt32)))) (.int (0 : Int32)) := Arv.set Ar3 qk3 Sz3 M3 Hs3 G3 (fits_nar_byte _) W3 8 rfl (Nat.le_of_ble_eq_true rfl)
  have N3 := Fr.snoc X3 N2 g_b1
  obtain ⟨cl4, Ar4, qk4, Sz4, M4, Hs4, G4⟩ := id V3
  have hin4 : ¬ ((9 : Int32) < 0 ∨ cl4.slots.size ≤ ((9 : Int32)).toNatClampNeg) := inb_of Sz4 ⟨by decide, by decide⟩
  obtain ⟨T4, h4, X4, e4, W4, st4⟩ := stB X3 hx hZ e3 Ar4 (j := (9 : Int32)) hin4 (g := (mkF m 50 #[.val (.long q0), .second, .val (.long q1), .second, .val (.int p2), .val (.int p3), .val (.int p4), .val (.int ((p3 &&& (2147483647 : Int32)) - ((p3 &&& (2147483647 : Int32)) / (4 : Int32)) * (4 : Int32))), .val (.int ((p4 &&& (2147483647 : Int32)) - ((p4 &&& (2147483647 : Int32)) / (9 : Int32)) * (9 : Int32))), .val (.ref b1), .unset, .unset, .unset, .unset] [(.int (((p2.toUInt32 >>> ((8 : Int32) &&& 31).toUInt32).toInt32).toInt8.toInt32)), (.int (9 : Int32)), (.ref b1)])) rfl rfl (hb hby at_50)
  have V4 : Arv Z h4 b1 k1 .byte (11 : Int32) (((((((((([(.int (0 : Int32)), (.int (0 : Int32)), (.int (0 : Int32)), (.int (0 : Int32)), (.int (0 : Int32)), (.int (0 : Int32)), (.int (0 : Int32)), (.int (0 : Int32)), (.int (0 : Int32)), (.int (0 : Int32)), (.int (0 : Int32))].set (0 + 0) (.int (nar .byte ((q1.toInt32).toInt8.toInt32)))).set (0 + 1) (.int (nar .byte ((((q1.toUInt64 >>> ((8 : Int32) &&& 0x3f).toInt64.toUInt64).toInt64).toInt32).toInt8.toInt32)))).set (0 + 2) (.int (nar .byte ((((q1.toUInt64 >>> ((16 : Int32) &&& 0x3f).toInt64.toUInt64).toInt64).toInt32).toInt8.toInt32)))).set (0 + 3) (.int (nar .byte ((((q1.toUInt64 >>> ((24 : Int32) &&& 0x3f).toInt64.toUInt64).toInt64).toInt32).toInt8.toInt32)))).set (0 + 4) (.int (nar .byte ((((q1.toUInt64 >>> ((32 : Int32) &&& 0x3f).toInt64.toUInt64).toInt64).toInt32).toInt8.toInt32)))).set (0 + 5) (.int (nar .byte ((((q1.toUInt64 >>> ((40 : Int32) &&& 0x3f).toInt64.toUInt64).toInt64).toInt32).toInt8.toInt32)))).set (0 + 6) (.int (nar .byte ((((q1.toUInt64 >>> ((48 : Int32) &&& 0x3f).toInt64.toUInt64).toInt64).toInt32).toInt8.toInt32)))).set (0 + 7) (.int (nar .byte ((((q1.toUInt64 >>> ((56 : Int32) &&& 0x3f).toInt64.toUInt64).toInt64).toInt32).toInt8.toInt32)))).set 8 (.int (nar .byte (p2.toInt8.toInt32)))).set 9 (.int (nar .byte (((p2.toUInt32 >>> ((8 : Int32) &&& 31).toUInt32).toInt32).toInt8.toInt32)))) (.int (0 : Int32)) := Arv.set Ar4 qk4 Sz4 M4 Hs4 G4 (fits_nar_byte _) W4 9 rfl (Nat.le_of_ble_eq_true rfl)
  have N4 := Fr.snoc X4 N3 g_b1
  obtain ⟨cl5, Ar5, qk5, Sz5, M5, Hs5, G5⟩ := id V4
  have hin5 : ¬ ((10 : Int32) < 0 ∨ cl5.slots.size ≤ ((10 : Int32)).toNatClampNeg) := inb_of Sz5 ⟨by decide, by decide⟩
  obtain ⟨T5, h5, X5, e5, W5, st5⟩ := stB X4 hx hZ e4 Ar5 (j := (10 : Int32)) hin5 (g := (mkF m 61 #[.val (.long q0), .second, .val (.long q1), .second, .val (.int p2), .val (.int p3), .val (.int p4), .val (.int ((p3 &&& (2147483647 : Int32)) - ((p3 &&& (2147483647 : Int32)) / (4 : Int32)) * (4 : Int32))), .val (.int ((p4 &&& (2147483647 : Int32)) - ((p4 &&& (2147483647 : Int32)) / (9 : Int32)) * (9 : Int32))), .val (.ref b1), .unset, .unset, .unset, .unset] [(.int (((p2.toUInt32 >>> ((16 : Int32) &&& 31).toUInt32).toInt32).toInt8.toInt32)), (.int (10 : Int32)), (.ref b1)])) rfl rfl (hb hby at_61)
  have V5 : Arv Z h5 b1 k1 .byte (11 : Int32) ((((((((((([(.int (0 : Int32)), (.int (0 : Int32)), (.int (0 : Int32)), (.int (0 : Int32)), (.int (0 : Int32)), (.int (0 : Int32)), (.int (0 : Int32)), (.int (0 : Int32)), (.int (0 : Int32)), (.int (0 : Int32)), (.int (0 : Int32))].set (0 + 0) (.int (nar .byte ((q1.toInt32).toInt8.toInt32)))).set (0 + 1) (.int (nar .byte ((((q1.toUInt64 >>> ((8 : Int32) &&& 0x3f).toInt64.toUInt64).toInt64).toInt32).toInt8.toInt32)))).set (0 + 2) (.int (nar .byte ((((q1.toUInt64 >>> ((16 : Int32) &&& 0x3f).toInt64.toUInt64).toInt64).toInt32).toInt8.toInt32)))).set (0 + 3) (.int (nar .byte ((((q1.toUInt64 >>> ((24 : Int32) &&& 0x3f).toInt64.toUInt64).toInt64).toInt32).toInt8.toInt32)))).set (0 + 4) (.int (nar .byte ((((q1.toUInt64 >>> ((32 : Int32) &&& 0x3f).toInt64.toUInt64).toInt64).toInt32).toInt8.toInt32)))).set (0 + 5) (.int (nar .byte ((((q1.toUInt64 >>> ((40 : Int32) &&& 0x3f).toInt64.toUInt64).toInt64).toInt32).toInt8.toInt32)))).set (0 + 6) (.int (nar .byte ((((q1.toUInt64 >>> ((48 : Int32) &&& 0x3f).toInt64.toUInt64).toInt64).toInt32).toInt8.toInt32)))).set (0 + 7) (.int (nar .byte ((((q1.toUInt64 >>> ((56 : Int32) &&& 0x3f).toInt64.toUInt64).toInt64).toInt32).toInt8.toInt32)))).set 8 (.int (nar .byte (p2.toInt8.toInt32)))).set 9 (.int (nar .byte (((p2.toUInt32 >>> ((8 : Int32) &&& 31).toUInt32).toInt32).toInt8.toInt32)))).set 10 (.int (nar .byte (((p2.toUInt32 >>> ((16 : Int32) &&& 31).toUInt32).toInt32).toInt8.toInt32)))) (.int (0 : Int32)) := Arv.set Ar5 qk5 Sz5 M5 Hs5 G5 (fits_nar_byte _) W5 10 rfl (Nat.le_of_ble_eq_true rfl)
  have N5 := Fr.snoc X5 N4 g_b1
  obtain ⟨_, _, ⟨T6, L6, k6, n6⟩, -, X6, ⟨Lc6, hQ6, l6, y6, z6⟩, st6⟩ := Jvm.LawKit.callS X5 hx (y := (⟨"com/example/ledgerline/ledgerline/storage/compression/DecompressingInputLittleEndianPinLaw", "putLong", "([BIJ)V"⟩ : MethodName)) hown (mvT hZ (hw _ (List.mem_of_getElem? (i := 2) rfl))) (mvT hZ (hw _ (List.mem_of_getElem? (i := 3) rfl))) (mvT hZ (hw _ (List.mem_of_getElem? (i := 4) rfl))) (mvT hZ (hw _ (List.mem_of_getElem? (i := 5) rfl))) (by decide) (backOf (W := 0) (rm1 l Z a0 hw [] b1 ((p3 &&& (2147483647 : Int32)) - ((p3 &&& (2147483647 : Int32)) / (4 : Int32)) * (4 : Int32)) q0 k1 ((((((((((([(.int (0 : Int32)), (.int (0 : Int32)), (.int (0 : Int32)), (.int (0 : Int32)), (.int (0 : Int32)), (.int (0 : Int32)), (.int (0 : Int32)), (.int (0 : Int32)), (.int (0 : Int32)), (.int (0 : Int32)), (.int (0 : Int32))].set (0 + 0) (.int (nar .byte ((q1.toInt32).toInt8.toInt32)))).set (0 + 1) (.int (nar .byte ((((q1.toUInt64 >>> ((8 : Int32) &&& 0x3f).toInt64.toUInt64).toInt64).toInt32).toInt8.toInt32)))).set (0 + 2) (.int (nar .byte ((((q1.toUInt64 >>> ((16 : Int32) &&& 0x3f).toInt64.toUInt64).toInt64).toInt32).toInt8.toInt32)))).set (0 + 3) (.int (nar .byte ((((q1.toUInt64 >>> ((24 : Int32) &&& 0x3f).toInt64.toUInt64).toInt64).toInt32).toInt8.toInt32)))).set (0 + 4) (.int (nar .byte ((((q1.toUInt64 >>> ((32 : Int32) &&& 0x3f).toInt64.toUInt64).toInt64).toInt32).toInt8.toInt32)))).set (0 + 5) (.int (nar .byte ((((q1.toUInt64 >>> ((40 : Int32) &&& 0x3f).toInt64.toUInt64).toInt64).toInt32).toInt8.toInt32)))).set (0 + 6) (.int (nar .byte ((((q1.toUInt64 >>> ((48 : Int32) &&& 0x3f).toInt64.toUInt64).toInt64).toInt32).toInt8.toInt32)))).set (0 + 7) (.int (nar .byte ((((q1.toUInt64 >>> ((56 : Int32) &&& 0x3f).toInt64.toUInt64).toInt64).toInt32).toInt8.toInt32)))).set 8 (.int (nar .byte (p2.toInt8.toInt32)))).set 9 (.int (nar .byte (((p2.toUInt32 >>> ((8 : Int32) &&& 31).toUInt32).toInt32).toInt8.toInt32)))).set 10 (.int (nar .byte (((p2.toUInt32 >>> ((16 : Int32) &&& 31).toUInt32).toInt32).toInt8.toInt32)))) (((p3 &&& (2147483647 : Int32)) - ((p3 &&& (2147483647 : Int32)) / (4 : Int32)) * (4 : Int32))).toInt.toNat h5 n0 (Nat.le_trans (Nat.le_trans (Nat.le_trans (Nat.le_trans (Nat.le_trans Z0 E1.1) K2.1) (Keep.of_wr W3).1) (Keep.of_wr W4).1) (Keep.of_wr W5).1) V5 (by first | rfl | (simp only [List.length_set]; rfl)) (own_at1 p3) (own_at2 p3) g_b1) hZ (hw _ (List.mem_of_getElem? (i := 5) rfl)) (hw _ (List.mem_of_getElem? (i := 4) rfl)) (by decide) (by decide)) (g := (mkF m 67 #[.val (.long q0), .second, .val (.long q1), .second, .val (.int p2), .val (.int p3), .val (.int p4), .val (.int ((p3 &&& (2147483647 : Int32)) - ((p3 &&& (2147483647 : Int32)) / (4 : Int32)) * (4 : Int32))), .val (.int ((p4 &&& (2147483647 : Int32)) - ((p4 &&& (2147483647 : Int32)) / (9 : Int32)) * (9 : Int32))), .val (.ref b1), .unset, .unset, .unset, .unset] [(.long q0), (.int ((p3 &&& (2147483647 : Int32)) - ((p3 &&& (2147483647 : Int32)) / (4 : Int32)) * (4 : Int32))), (.ref b1)])) rfl (by rw [hml]; rfl) (argsL := [(.ref b1), (.int ((p3 &&& (2147483647 : Int32)) - ((p3 &&& (2147483647 : Int32)) / (4 : Int32)) * (4 : Int32))), (.long q0)]) (rest := []) (lenOf pd_0_0 rfl) rfl (by show 2 * 0 + _ ≤ _; exact Nat.le_of_eq rfl) (hb hby at_67) (fun _ _ => ⟨rfl, e5, (by decide : 1 + 0 ≤ _), (by decide : 11 + 0 ≤ _)⟩)
  dsimp only [Pt.U, Pt.locs, Pt.cells, Pt.slots] at X6 l6 y6 z6 st6 hQ6
  subst l6 y6 z6
  obtain ⟨rfl, N6q, K6, G6_0⟩ := hQ6
  have N6 := Fr.app N5 N6q
  have V6_b1 : Arv Z T6.heap b1 k1 .byte (11 : Int32) ((((((((((((((((((([(.int (0 : Int32)), (.int (0 : Int32)), (.int (0 : Int32)), (.int (0 : Int32)), (.int (0 : Int32)), (.int (0 : Int32)), (.int (0 : Int32)), (.int (0 : Int32)), (.int (0 : Int32)), (.int (0 : Int32)), (.int (0 : Int32))].set (0 + 0) (.int (nar .byte ((q1.toInt32).toInt8.toInt32)))).set (0 + 1) (.int (nar .byte ((((q1.toUInt64 >>> ((8 : Int32) &&& 0x3f).toInt64.toUInt64).toInt64).toInt32).toInt8.toInt32)))).set (0 + 2) (.int (nar .byte ((((q1.toUInt64 >>> ((16 : Int32) &&& 0x3f).toInt64.toUInt64).toInt64).toInt32).toInt8.toInt32)))).set (0 + 3) (.int (nar .byte ((((q1.toUInt64 >>> ((24 : Int32) &&& 0x3f).toInt64.toUInt64).toInt64).toInt32).toInt8.toInt32)))).set (0 + 4) (.int (nar .byte ((((q1.toUInt64 >>> ((32 : Int32) &&& 0x3f).toInt64.toUInt64).toInt64).toInt32).toInt8.toInt32)))).set (0 + 5) (.int (nar .byte ((((q1.toUInt64 >>> ((40 : Int32) &&& 0x3f).toInt64.toUInt64).toInt64).toInt32).toInt8.toInt32)))).set (0 + 6) (.int (nar .byte ((((q1.toUInt64 >>> ((48 : Int32) &&& 0x3f).toInt64.toUInt64).toInt64).toInt32).toInt8.toInt32)))).set (0 + 7) (.int (nar .byte ((((q1.toUInt64 >>> ((56 : Int32) &&& 0x3f).toInt64.toUInt64).toInt64).toInt32).toInt8.toInt32)))).set 8 (.int (nar .byte (p2.toInt8.toInt32)))).set 9 (.int (nar .byte (((p2.toUInt32 >>> ((8 : Int32) &&& 31).toUInt32).toInt32).toInt8.toInt32)))).set 10 (.int (nar .byte (((p2.toUInt32 >>> ((16 : Int32) &&& 31).toUInt32).toInt32).toInt8.toInt32)))).set ((((p3 &&& (2147483647 : Int32)) - ((p3 &&& (2147483647 : Int32)) / (4 : Int32)) * (4 : Int32))).toInt.toNat + 0) (.int (nar .byte ((q0.toInt32).toInt8.toInt32)))).set ((((p3 &&& (2147483647 : Int32)) - ((p3 &&& (2147483647 : Int32)) / (4 : Int32)) * (4 : Int32))).toInt.toNat + 1) (.int (nar .byte ((((q0.toUInt64 >>> ((8 : Int32) &&& 0x3f).toInt64.toUInt64).toInt64).toInt32).toInt8.toInt32)))).set ((((p3 &&& (2147483647 : Int32)) - ((p3 &&& (2147483647 : Int32)) / (4 : Int32)) * (4 : Int32))).toInt.toNat + 2) (.int (nar .byte ((((q0.toUInt64 >>> ((16 : Int32) &&& 0x3f).toInt64.toUInt64).toInt64).toInt32).toInt8.toInt32)))).set ((((p3 &&& (2147483647 : Int32)) - ((p3 &&& (2147483647 : Int32)) / (4 : Int32)) * (4 : Int32))).toInt.toNat + 3) (.int (nar .byte ((((q0.toUInt64 >>> ((24 : Int32) &&& 0x3f).toInt64.toUInt64).toInt64).toInt32).toInt8.toInt32)))).set ((((p3 &&& (2147483647 : Int32)) - ((p3 &&& (2147483647 : Int32)) / (4 : Int32)) * (4 : Int32))).toInt.toNat + 4) (.int (nar .byte ((((q0.toUInt64 >>> ((32 : Int32) &&& 0x3f).toInt64.toUInt64).toInt64).toInt32).toInt8.toInt32)))).set ((((p3 &&& (2147483647 : Int32)) - ((p3 &&& (2147483647 : Int32)) / (4 : Int32)) * (4 : Int32))).toInt.toNat + 5) (.int (nar .byte ((((q0.toUInt64 >>> ((40 : Int32) &&& 0x3f).toInt64.toUInt64).toInt64).toInt32).toInt8.toInt32)))).set ((((p3 &&& (2147483647 : Int32)) - ((p3 &&& (2147483647 : Int32)) / (4 : Int32)) * (4 : Int32))).toInt.toNat + 6) (.int (nar .byte ((((q0.toUInt64 >>> ((48 : Int32) &&& 0x3f).toInt64.toUInt64).toInt64).toInt32).toInt8.toInt32)))).set ((((p3 &&& (2147483647 : Int32)) - ((p3 &&& (2147483647 : Int32)) / (4 : Int32)) * (4 : Int32))).toInt.toNat + 7) (.int (nar .byte ((((q0.toUInt64 >>> ((56 : Int32) &&& 0x3f).toInt64.toUInt64).toInt64).toInt32).toInt8.toInt32)))) (.int (0 : Int32)) := G6_0
  obtain ⟨v8_s0, Hv8_s0⟩ : ∃ z : Int64, z = (if ((p4 &&& (2147483647 : Int32)) - ((p4 &&& (2147483647 : Int32)) / (9 : Int32)) * (9 : Int32)) = (8 : Int32) then (-1 : Int64) else (((1 : Int64) <<< (((8 : Int32) * ((p4 &&& (2147483647 : Int32)) - ((p4 &&& (2147483647 : Int32)) / (9 : Int32)) * (9 : Int32))) &&& 0x3f).toInt64) - (1 : Int64))) := ⟨_, rfl⟩
  obtain ⟨T8, X8, e8, st8⟩ := own_seg X6 T6.heap (mkF m 74 #[.val (.long q0), .second, .val (.long q1), .second, .val (.int p2), .val (.int p3), .val (.int p4), .val (.int ((p3 &&& (2147483647 : Int32)) - ((p3 &&& (2147483647 : Int32)) / (4 : Int32)) * (4 : Int32))), .val (.int ((p4 &&& (2147483647 : Int32)) - ((p4 &&& (2147483647 : Int32)) / (9 : Int32)) * (9 : Int32))), .val (.ref b1), .unset, .unset, .unset, .unset] [(.int (8 : Int32)), (.int ((p4 &&& (2147483647 : Int32)) - ((p4 &&& (2147483647 : Int32)) / (9 : Int32)) * (9 : Int32)))]) (mkF m 92 #[.val (.long q0), .second, .val (.long q1), .second, .val (.int p2), .val (.int p3), .val (.int p4), .val (.int ((p3 &&& (2147483647 : Int32)) - ((p3 &&& (2147483647 : Int32)) / (4 : Int32)) * (4 : Int32))), .val (.int ((p4 &&& (2147483647 : Int32)) - ((p4 &&& (2147483647 : Int32)) / (9 : Int32)) * (9 : Int32))), .val (.ref b1), .unset, .unset, .unset, .unset] [(.long v8_s0)]) (by
    by_cases hc7 : ((p4 &&& (2147483647 : Int32)) - ((p4 &&& (2147483647 : Int32)) / (9 : Int32)) * (9 : Int32)) = (8 : Int32)
    · rw [if_pos hc7] at Hv8_s0
      refine ⟨T6, X6, rfl, fun target kt => ?_⟩
      rw [Hv8_s0] at kt
      show Steps p.tables e below (T6.setTop (mkF m 74 #[.val (.long q0), .second, .val (.long q1), .second, .val (.int p2), .val (.int p3), .val (.int p4), .val (.int ((p3 &&& (2147483647 : Int32)) - ((p3 &&& (2147483647 : Int32)) / (4 : Int32)) * (4 : Int32))), .val (.int ((p4 &&& (2147483647 : Int32)) - ((p4 &&& (2147483647 : Int32)) / (9 : Int32)) * (9 : Int32))), .val (.ref b1), .unset, .unset, .unset, .unset] [(.int (8 : Int32)), (.int ((p4 &&& (2147483647 : Int32)) - ((p4 &&& (2147483647 : Int32)) / (9 : Int32)) * (9 : Int32)))])) _
      refine XS.icmpNo X6.here hx rfl (hb hby at_74) rfl (teq hc7).2 ?_
      show Steps p.tables e below (T6.setTop (mkF m 77 #[.val (.long q0), .second, .val (.long q1), .second, .val (.int p2), .val (.int p3), .val (.int p4), .val (.int ((p3 &&& (2147483647 : Int32)) - ((p3 &&& (2147483647 : Int32)) / (4 : Int32)) * (4 : Int32))), .val (.int ((p4 &&& (2147483647 : Int32)) - ((p4 &&& (2147483647 : Int32)) / (9 : Int32)) * (9 : Int32))), .val (.ref b1), .unset, .unset, .unset, .unset] [])) _
      refine X6.ldc2Long hx hown (mvT hZ (hw _ (List.mem_of_getElem? (i := 11) rfl))) (g := (mkF m 77 #[.val (.long q0), .second, .val (.long q1), .second, .val (.int p2), .val (.int p3), .val (.int p4), .val (.int ((p3 &&& (2147483647 : Int32)) - ((p3 &&& (2147483647 : Int32)) / (4 : Int32)) * (4 : Int32))), .val (.int ((p4 &&& (2147483647 : Int32)) - ((p4 &&& (2147483647 : Int32)) / (9 : Int32)) * (9 : Int32))), .val (.ref b1), .unset, .unset, .unset, .unset] [])) rfl (hb hby at_77) _ ?_
      show Steps p.tables e below (T6.setTop (mkF m 80 #[.val (.long q0), .second, .val (.long q1), .second, .val (.int p2), .val (.int p3), .val (.int p4), .val (.int ((p3 &&& (2147483647 : Int32)) - ((p3 &&& (2147483647 : Int32)) / (4 : Int32)) * (4 : Int32))), .val (.int ((p4 &&& (2147483647 : Int32)) - ((p4 &&& (2147483647 : Int32)) / (9 : Int32)) * (9 : Int32))), .val (.ref b1), .unset, .unset, .unset, .unset] [(.long (-1 : Int64))])) _
      refine XS.goto X6.here hx rfl (pc0 := 80) (pc' := 92) rfl (hb hby at_80) (by decide) (by decide) ?_
      exact kt
    · rw [if_neg hc7] at Hv8_s0
      refine ⟨T6, X6, rfl, fun target kt => ?_⟩
      rw [Hv8_s0] at kt
      show Steps p.tables e below (T6.setTop (mkF m 74 #[.val (.long q0), .second, .val (.long q1), .second, .val (.int p2), .val (.int p3), .val (.int p4), .val (.int ((p3 &&& (2147483647 : Int32)) - ((p3 &&& (2147483647 : Int32)) / (4 : Int32)) * (4 : Int32))), .val (.int ((p4 &&& (2147483647 : Int32)) - ((p4 &&& (2147483647 : Int32)) / (9 : Int32)) * (9 : Int32))), .val (.ref b1), .unset, .unset, .unset, .unset] [(.int (8 : Int32)), (.int ((p4 &&& (2147483647 : Int32)) - ((p4 &&& (2147483647 : Int32)) / (9 : Int32)) * (9 : Int32)))])) _
      refine XS.icmpYes X6.here hx rfl (pc0 := 74) (pc' := 83) rfl (hb hby at_74) rfl (feq hc7).2 (by decide) (by decide) ?_
      show Steps p.tables e below (T6.setTop (mkF m 83 #[.val (.long q0), .second, .val (.long q1), .second, .val (.int p2), .val (.int p3), .val (.int p4), .val (.int ((p3 &&& (2147483647 : Int32)) - ((p3 &&& (2147483647 : Int32)) / (4 : Int32)) * (4 : Int32))), .val (.int ((p4 &&& (2147483647 : Int32)) - ((p4 &&& (2147483647 : Int32)) / (9 : Int32)) * (9 : Int32))), .val (.ref b1), .unset, .unset, .unset, .unset] [])) _
      refine XS.lconst X6.here hx rfl (hb hby at_83) ?_
      show Steps p.tables e below (T6.setTop (mkF m 84 #[.val (.long q0), .second, .val (.long q1), .second, .val (.int p2), .val (.int p3), .val (.int p4), .val (.int ((p3 &&& (2147483647 : Int32)) - ((p3 &&& (2147483647 : Int32)) / (4 : Int32)) * (4 : Int32))), .val (.int ((p4 &&& (2147483647 : Int32)) - ((p4 &&& (2147483647 : Int32)) / (9 : Int32)) * (9 : Int32))), .val (.ref b1), .unset, .unset, .unset, .unset] [(.long (1 : Int64))])) _
      refine XS.bipush X6.here hx rfl (hb hby at_84) ?_
      show Steps p.tables e below (T6.setTop (mkF m 86 #[.val (.long q0), .second, .val (.long q1), .second, .val (.int p2), .val (.int p3), .val (.int p4), .val (.int ((p3 &&& (2147483647 : Int32)) - ((p3 &&& (2147483647 : Int32)) / (4 : Int32)) * (4 : Int32))), .val (.int ((p4 &&& (2147483647 : Int32)) - ((p4 &&& (2147483647 : Int32)) / (9 : Int32)) * (9 : Int32))), .val (.ref b1), .unset, .unset, .unset, .unset] [(.int (8 : Int32)), (.long (1 : Int64))])) _
      refine XS.iload X6.here hx rfl (hb hby at_86) rfl ?_
      show Steps p.tables e below (T6.setTop (mkF m 88 #[.val (.long q0), .second, .val (.long q1), .second, .val (.int p2), .val (.int p3), .val (.int p4), .val (.int ((p3 &&& (2147483647 : Int32)) - ((p3 &&& (2147483647 : Int32)) / (4 : Int32)) * (4 : Int32))), .val (.int ((p4 &&& (2147483647 : Int32)) - ((p4 &&& (2147483647 : Int32)) / (9 : Int32)) * (9 : Int32))), .val (.ref b1), .unset, .unset, .unset, .unset] [(.int ((p4 &&& (2147483647 : Int32)) - ((p4 &&& (2147483647 : Int32)) / (9 : Int32)) * (9 : Int32))), (.int (8 : Int32)), (.long (1 : Int64))])) _
      refine XS.imul X6.here hx rfl (hb hby at_88) rfl ?_
      show Steps p.tables e below (T6.setTop (mkF m 89 #[.val (.long q0), .second, .val (.long q1), .second, .val (.int p2), .val (.int p3), .val (.int p4), .val (.int ((p3 &&& (2147483647 : Int32)) - ((p3 &&& (2147483647 : Int32)) / (4 : Int32)) * (4 : Int32))), .val (.int ((p4 &&& (2147483647 : Int32)) - ((p4 &&& (2147483647 : Int32)) / (9 : Int32)) * (9 : Int32))), .val (.ref b1), .unset, .unset, .unset, .unset] [(.int ((8 : Int32) * ((p4 &&& (2147483647 : Int32)) - ((p4 &&& (2147483647 : Int32)) / (9 : Int32)) * (9 : Int32)))), (.long (1 : Int64))])) _
      refine XS.lshl X6.here hx rfl (hb hby at_89) rfl ?_
      show Steps p.tables e below (T6.setTop (mkF m 90 #[.val (.long q0), .second, .val (.long q1), .second, .val (.int p2), .val (.int p3), .val (.int p4), .val (.int ((p3 &&& (2147483647 : Int32)) - ((p3 &&& (2147483647 : Int32)) / (4 : Int32)) * (4 : Int32))), .val (.int ((p4 &&& (2147483647 : Int32)) - ((p4 &&& (2147483647 : Int32)) / (9 : Int32)) * (9 : Int32))), .val (.ref b1), .unset, .unset, .unset, .unset] [(.long ((1 : Int64) <<< (((8 : Int32) * ((p4 &&& (2147483647 : Int32)) - ((p4 &&& (2147483647 : Int32)) / (9 : Int32)) * (9 : Int32))) &&& 0x3f).toInt64))])) _
      refine XS.lconst X6.here hx rfl (hb hby at_90) ?_
      show Steps p.tables e below (T6.setTop (mkF m 91 #[.val (.long q0), .second, .val (.long q1), .second, .val (.int p2), .val (.int p3), .val (.int p4), .val (.int ((p3 &&& (2147483647 : Int32)) - ((p3 &&& (2147483647 : Int32)) / (4 : Int32)) * (4 : Int32))), .val (.int ((p4 &&& (2147483647 : Int32)) - ((p4 &&& (2147483647 : Int32)) / (9 : Int32)) * (9 : Int32))), .val (.ref b1), .unset, .unset, .unset, .unset] [(.long (1 : Int64)), (.long ((1 : Int64) <<< (((8 : Int32) * ((p4 &&& (2147483647 : Int32)) - ((p4 &&& (2147483647 : Int32)) / (9 : Int32)) * (9 : Int32))) &&& 0x3f).toInt64))])) _
      refine XS.lsub X6.here hx rfl (hb hby at_91) rfl ?_
      exact kt)
  obtain ⟨_, _, ⟨T9, L9, k9, n9⟩, -, X9, ⟨Lc9, hQ9, l9, y9, z9⟩, st9⟩ := Jvm.LawKit.callS X8 hx (y := (⟨"com/example/ledgerline/ledgerline/storage/compression/DecompressingInput", "littleEndian", "([BII)J"⟩ : MethodName)) hown (mvT hZ (hw _ (List.mem_of_getElem? (i := 6) rfl))) (mvT hZ (hw _ (List.mem_of_getElem? (i := 7) rfl))) (mvT hZ (hw _ (List.mem_of_getElem? (i := 8) rfl))) (mvT hZ (hw _ (List.mem_of_getElem? (i := 9) rfl))) (by decide) (backOf (W := 0) (rm2 l Z a0 hw [] b1 ((p3 &&& (2147483647 : Int32)) - ((p3 &&& (2147483647 : Int32)) / (4 : Int32)) * (4 : Int32)) ((p4 &&& (2147483647 : Int32)) - ((p4 &&& (2147483647 : Int32)) / (9 : Int32)) * (9 : Int32)) k1 ((((((((((((((((((([(.int (0 : Int32)), (.int (0 : Int32)), (.int (0 : Int32)), (.int (0 : Int32)), (.int (0 : Int32)), (.int (0 : Int32)), (.int (0 : Int32)), (.int (0 : Int32)), (.int (0 : Int32)), (.int (0 : Int32)), (.int (0 : Int32))].set (0 + 0) (.int (nar .byte ((q1.toInt32).toInt8.toInt32)))).set (0 + 1) (.int (nar .byte ((((q1.toUInt64 >>> ((8 : Int32) &&& 0x3f).toInt64.toUInt64).toInt64).toInt32).toInt8.toInt32)))).set (0 + 2) (.int (nar .byte ((((q1.toUInt64 >>> ((16 : Int32) &&& 0x3f).toInt64.toUInt64).toInt64).toInt32).toInt8.toInt32)))).set (0 + 3) (.int (nar .byte ((((q1.toUInt64 >>> ((24 : Int32) &&& 0x3f).toInt64.toUInt64).toInt64).toInt32).toInt8.toInt32)))).set (0 + 4) (.int (nar .byte ((((q1.toUInt64 >>> ((32 : Int32) &&& 0x3f).toInt64.toUInt64).toInt64).toInt32).toInt8.toInt32)))).set (0 + 5) (.int (nar .byte ((((q1.toUInt64 >>> ((40 : Int32) &&& 0x3f).toInt64.toUInt64).toInt64).toInt32).toInt8.toInt32)))).set (0 + 6) (.int (nar .byte ((((q1.toUInt64 >>> ((48 : Int32) &&& 0x3f).toInt64.toUInt64).toInt64).toInt32).toInt8.toInt32)))).set (0 + 7) (.int (nar .byte ((((q1.toUInt64 >>> ((56 : Int32) &&& 0x3f).toInt64.toUInt64).toInt64).toInt32).toInt8.toInt32)))).set 8 (.int (nar .byte (p2.toInt8.toInt32)))).set 9 (.int (nar .byte (((p2.toUInt32 >>> ((8 : Int32) &&& 31).toUInt32).toInt32).toInt8.toInt32)))).set 10 (.int (nar .byte (((p2.toUInt32 >>> ((16 : Int32) &&& 31).toUInt32).toInt32).toInt8.toInt32)))).set ((((p3 &&& (2147483647 : Int32)) - ((p3 &&& (2147483647 : Int32)) / (4 : Int32)) * (4 : Int32))).toInt.toNat + 0) (.int (nar .byte ((q0.toInt32).toInt8.toInt32)))).set ((((p3 &&& (2147483647 : Int32)) - ((p3 &&& (2147483647 : Int32)) / (4 : Int32)) * (4 : Int32))).toInt.toNat + 1) (.int (nar .byte ((((q0.toUInt64 >>> ((8 : Int32) &&& 0x3f).toInt64.toUInt64).toInt64).toInt32).toInt8.toInt32)))).set ((((p3 &&& (2147483647 : Int32)) - ((p3 &&& (2147483647 : Int32)) / (4 : Int32)) * (4 : Int32))).toInt.toNat + 2) (.int (nar .byte ((((q0.toUInt64 >>> ((16 : Int32) &&& 0x3f).toInt64.toUInt64).toInt64).toInt32).toInt8.toInt32)))).set ((((p3 &&& (2147483647 : Int32)) - ((p3 &&& (2147483647 : Int32)) / (4 : Int32)) * (4 : Int32))).toInt.toNat + 3) (.int (nar .byte ((((q0.toUInt64 >>> ((24 : Int32) &&& 0x3f).toInt64.toUInt64).toInt64).toInt32).toInt8.toInt32)))).set ((((p3 &&& (2147483647 : Int32)) - ((p3 &&& (2147483647 : Int32)) / (4 : Int32)) * (4 : Int32))).toInt.toNat + 4) (.int (nar .byte ((((q0.toUInt64 >>> ((32 : Int32) &&& 0x3f).toInt64.toUInt64).toInt64).toInt32).toInt8.toInt32)))).set ((((p3 &&& (2147483647 : Int32)) - ((p3 &&& (2147483647 : Int32)) / (4 : Int32)) * (4 : Int32))).toInt.toNat + 5) (.int (nar .byte ((((q0.toUInt64 >>> ((40 : Int32) &&& 0x3f).toInt64.toUInt64).toInt64).toInt32).toInt8.toInt32)))).set ((((p3 &&& (2147483647 : Int32)) - ((p3 &&& (2147483647 : Int32)) / (4 : Int32)) * (4 : Int32))).toInt.toNat + 6) (.int (nar .byte ((((q0.toUInt64 >>> ((48 : Int32) &&& 0x3f).toInt64.toUInt64).toInt64).toInt32).toInt8.toInt32)))).set ((((p3 &&& (2147483647 : Int32)) - ((p3 &&& (2147483647 : Int32)) / (4 : Int32)) * (4 : Int32))).toInt.toNat + 7) (.int (nar .byte ((((q0.toUInt64 >>> ((56 : Int32) &&& 0x3f).toInt64.toUInt64).toInt64).toInt32).toInt8.toInt32)))) (((p3 &&& (2147483647 : Int32)) - ((p3 &&& (2147483647 : Int32)) / (4 : Int32)) * (4 : Int32))).toInt.toNat T6.heap n0 (Nat.le_trans (Nat.le_trans (Nat.le_trans (Nat.le_trans (Nat.le_trans (Nat.le_trans Z0 E1.1) K2.1) (Keep.of_wr W3).1) (Keep.of_wr W4).1) (Keep.of_wr W5).1) K6.1) V6_b1 (by first | rfl | (simp only [List.length_set]; rfl)) (own_at1 p3) (own_at2 p3) (own_is (own_is (own_is (own_is (own_is (own_is (own_is (own_is rfl)))))))) (own_cnt1 p4) (own_cnt2 p4)) hZ (hw _ (List.mem_of_getElem? (i := 9) rfl)) (hw _ (List.mem_of_getElem? (i := 8) rfl)) (by decide) (by decide)) (g := (mkF m 106 #[.val (.long q0), .second, .val (.long q1), .second, .val (.int p2), .val (.int p3), .val (.int p4), .val (.int ((p3 &&& (2147483647 : Int32)) - ((p3 &&& (2147483647 : Int32)) / (4 : Int32)) * (4 : Int32))), .val (.int ((p4 &&& (2147483647 : Int32)) - ((p4 &&& (2147483647 : Int32)) / (9 : Int32)) * (9 : Int32))), .val (.ref b1), .val (.long v8_s0), .second, .val (.long (q0 &&& v8_s0)), .second] [(.int ((p4 &&& (2147483647 : Int32)) - ((p4 &&& (2147483647 : Int32)) / (9 : Int32)) * (9 : Int32))), (.int ((p3 &&& (2147483647 : Int32)) - ((p3 &&& (2147483647 : Int32)) / (4 : Int32)) * (4 : Int32))), (.ref b1)])) rfl (by rw [hml]; rfl) (argsL := [(.ref b1), (.int ((p3 &&& (2147483647 : Int32)) - ((p3 &&& (2147483647 : Int32)) / (4 : Int32)) * (4 : Int32))), (.int ((p4 &&& (2147483647 : Int32)) - ((p4 &&& (2147483647 : Int32)) / (9 : Int32)) * (9 : Int32)))]) (rest := []) (lenOf pd_0_1 rfl) rfl (by show 2 * 0 + _ ≤ _; exact Nat.le_of_eq rfl) (hb hby at_106) (fun _ _ => ⟨rfl, e8, (by decide : 1 + 0 ≤ _), (by decide : 11 + 0 ≤ _)⟩)
  dsimp only [Pt.U, Pt.locs, Pt.cells, Pt.slots] at X9 l9 y9 z9 st9 hQ9
  subst l9 y9 z9
  obtain ⟨rfl, rfl, e9⟩ := hQ9
  try rw [List.append_nil] at X9
  obtain ⟨v11_s0, Hv11_s0⟩ : ∃ z : Int32, z = (if (own_le ((((((((((((((((((([(.int (0 : Int32)), (.int (0 : Int32)), (.int (0 : Int32)), (.int (0 : Int32)), (.int (0 : Int32)), (.int (0 : Int32)), (.int (0 : Int32)), (.int (0 : Int32)), (.int (0 : Int32)), (.int (0 : Int32)), (.int (0 : Int32))].set (0 + 0) (.int (nar .byte ((q1.toInt32).toInt8.toInt32)))).set (0 + 1) (.int (nar .byte ((((q1.toUInt64 >>> ((8 : Int32) &&& 0x3f).toInt64.toUInt64).toInt64).toInt32).toInt8.toInt32)))).set (0 + 2) (.int (nar .byte ((((q1.toUInt64 >>> ((16 : Int32) &&& 0x3f).toInt64.toUInt64).toInt64).toInt32).toInt8.toInt32)))).set (0 + 3) (.int (nar .byte ((((q1.toUInt64 >>> ((24 : Int32) &&& 0x3f).toInt64.toUInt64).toInt64).toInt32).toInt8.toInt32)))).set (0 + 4) (.int (nar .byte ((((q1.toUInt64 >>> ((32 : Int32) &&& 0x3f).toInt64.toUInt64).toInt64).toInt32).toInt8.toInt32)))).set (0 + 5) (.int (nar .byte ((((q1.toUInt64 >>> ((40 : Int32) &&& 0x3f).toInt64.toUInt64).toInt64).toInt32).toInt8.toInt32)))).set (0 + 6) (.int (nar .byte ((((q1.toUInt64 >>> ((48 : Int32) &&& 0x3f).toInt64.toUInt64).toInt64).toInt32).toInt8.toInt32)))).set (0 + 7) (.int (nar .byte ((((q1.toUInt64 >>> ((56 : Int32) &&& 0x3f).toInt64.toUInt64).toInt64).toInt32).toInt8.toInt32)))).set 8 (.int (nar .byte (p2.toInt8.toInt32)))).set 9 (.int (nar .byte (((p2.toUInt32 >>> ((8 : Int32) &&& 31).toUInt32).toInt32).toInt8.toInt32)))).set 10 (.int (nar .byte (((p2.toUInt32 >>> ((16 : Int32) &&& 31).toUInt32).toInt32).toInt8.toInt32)))).set ((((p3 &&& (2147483647 : Int32)) - ((p3 &&& (2147483647 : Int32)) / (4 : Int32)) * (4 : Int32))).toInt.toNat + 0) (.int (nar .byte ((q0.toInt32).toInt8.toInt32)))).set ((((p3 &&& (2147483647 : Int32)) - ((p3 &&& (2147483647 : Int32)) / (4 : Int32)) * (4 : Int32))).toInt.toNat + 1) (.int (nar .byte ((((q0.toUInt64 >>> ((8 : Int32) &&& 0x3f).toInt64.toUInt64).toInt64).toInt32).toInt8.toInt32)))).set ((((p3 &&& (2147483647 : Int32)) - ((p3 &&& (2147483647 : Int32)) / (4 : Int32)) * (4 : Int32))).toInt.toNat + 2) (.int (nar .byte ((((q0.toUInt64 >>> ((16 : Int32) &&& 0x3f).toInt64.toUInt64).toInt64).toInt32).toInt8.toInt32)))).set ((((p3 &&& (2147483647 : Int32)) - ((p3 &&& (2147483647 : Int32)) / (4 : Int32)) * (4 : Int32))).toInt.toNat + 3) (.int (nar .byte ((((q0.toUInt64 >>> ((24 : Int32) &&& 0x3f).toInt64.toUInt64).toInt64).toInt32).toInt8.toInt32)))).set ((((p3 &&& (2147483647 : Int32)) - ((p3 &&& (2147483647 : Int32)) / (4 : Int32)) * (4 : Int32))).toInt.toNat + 4) (.int (nar .byte ((((q0.toUInt64 >>> ((32 : Int32) &&& 0x3f).toInt64.toUInt64).toInt64).toInt32).toInt8.toInt32)))).set ((((p3 &&& (2147483647 : Int32)) - ((p3 &&& (2147483647 : Int32)) / (4 : Int32)) * (4 : Int32))).toInt.toNat + 5) (.int (nar .byte ((((q0.toUInt64 >>> ((40 : Int32) &&& 0x3f).toInt64.toUInt64).toInt64).toInt32).toInt8.toInt32)))).set ((((p3 &&& (2147483647 : Int32)) - ((p3 &&& (2147483647 : Int32)) / (4 : Int32)) * (4 : Int32))).toInt.toNat + 6) (.int (nar .byte ((((q0.toUInt64 >>> ((48 : Int32) &&& 0x3f).toInt64.toUInt64).toInt64).toInt32).toInt8.toInt32)))).set ((((p3 &&& (2147483647 : Int32)) - ((p3 &&& (2147483647 : Int32)) / (4 : Int32)) * (4 : Int32))).toInt.toNat + 7) (.int (nar .byte ((((q0.toUInt64 >>> ((56 : Int32) &&& 0x3f).toInt64.toUInt64).toInt64).toInt32).toInt8.toInt32)))) ((p3 &&& (2147483647 : Int32)) - ((p3 &&& (2147483647 : Int32)) / (4 : Int32)) * (4 : Int32)) ((p4 &&& (2147483647 : Int32)) - ((p4 &&& (2147483647 : Int32)) / (9 : Int32)) * (9 : Int32)).toInt.toNat) = (q0 &&& v8_s0) then (1 : Int32) else (0 : Int32)) := ⟨_, rfl⟩
  obtain ⟨T11, X11, e11, st11⟩ := own_seg X9 T6.heap (mkF m 112 #[.val (.long q0), .second, .val (.long q1), .second, .val (.int p2), .val (.int p3), .val (.int p4), .val (.int ((p3 &&& (2147483647 : Int32)) - ((p3 &&& (2147483647 : Int32)) / (4 : Int32)) * (4 : Int32))), .val (.int ((p4 &&& (2147483647 : Int32)) - ((p4 &&& (2147483647 : Int32)) / (9 : Int32)) * (9 : Int32))), .val (.ref b1), .val (.long v8_s0), .second, .val (.long (q0 &&& v8_s0)), .second] [(.int (lcmpW (own_le ((((((((((((((((((([(.int (0 : Int32)), (.int (0 : Int32)), (.int (0 : Int32)), (.int (0 : Int32)), (.int (0 : Int32)), (.int (0 : Int32)), (.int (0 : Int32)), (.int (0 : Int32)), (.int (0 : Int32)), (.int (0 : Int32)), (.int (0 : Int32))].set (0 + 0) (.int (nar .byte ((q1.toInt32).toInt8.toInt32)))).set (0 + 1) (.int (nar .byte ((((q1.toUInt64 >>> ((8 : Int32) &&& 0x3f).toInt64.toUInt64).toInt64).toInt32).toInt8.toInt32)))).set (0 + 2) (.int (nar .byte ((((q1.toUInt64 >>> ((16 : Int32) &&& 0x3f).toInt64.toUInt64).toInt64).toInt32).toInt8.toInt32)))).set (0 + 3) (.int (nar .byte ((((q1.toUInt64 >>> ((24 : Int32) &&& 0x3f).toInt64.toUInt64).toInt64).toInt32).toInt8.toInt32)))).set (0 + 4) (.int (nar .byte ((((q1.toUInt64 >>> ((32 : Int32) &&& 0x3f).toInt64.toUInt64).toInt64).toInt32).toInt8.toInt32)))).set (0 + 5) (.int (nar .byte ((((q1.toUInt64 >>> ((40 : Int32) &&& 0x3f).toInt64.toUInt64).toInt64).toInt32).toInt8.toInt32)))).set (0 + 6) (.int (nar .byte ((((q1.toUInt64 >>> ((48 : Int32) &&& 0x3f).toInt64.toUInt64).toInt64).toInt32).toInt8.toInt32)))).set (0 + 7) (.int (nar .byte ((((q1.toUInt64 >>> ((56 : Int32) &&& 0x3f).toInt64.toUInt64).toInt64).toInt32).toInt8.toInt32)))).set 8 (.int (nar .byte (p2.toInt8.toInt32)))).set 9 (.int (nar .byte (((p2.toUInt32 >>> ((8 : Int32) &&& 31).toUInt32).toInt32).toInt8.toInt32)))).set 10 (.int (nar .byte (((p2.toUInt32 >>> ((16 : Int32) &&& 31).toUInt32).toInt32).toInt8.toInt32)))).set ((((p3 &&& (2147483647 : Int32)) - ((p3 &&& (2147483647 : Int32)) / (4 : Int32)) * (4 : Int32))).toInt.toNat + 0) (.int (nar .byte ((q0.toInt32).toInt8.toInt32)))).set ((((p3 &&& (2147483647 : Int32)) - ((p3 &&& (2147483647 : Int32)) / (4 : Int32)) * (4 : Int32))).toInt.toNat + 1) (.int (nar .byte ((((q0.toUInt64 >>> ((8 : Int32) &&& 0x3f).toInt64.toUInt64).toInt64).toInt32).toInt8.toInt32)))).set ((((p3 &&& (2147483647 : Int32)) - ((p3 &&& (2147483647 : Int32)) / (4 : Int32)) * (4 : Int32))).toInt.toNat + 2) (.int (nar .byte ((((q0.toUInt64 >>> ((16 : Int32) &&& 0x3f).toInt64.toUInt64).toInt64).toInt32).toInt8.toInt32)))).set ((((p3 &&& (2147483647 : Int32)) - ((p3 &&& (2147483647 : Int32)) / (4 : Int32)) * (4 : Int32))).toInt.toNat + 3) (.int (nar .byte ((((q0.toUInt64 >>> ((24 : Int32) &&& 0x3f).toInt64.toUInt64).toInt64).toInt32).toInt8.toInt32)))).set ((((p3 &&& (2147483647 : Int32)) - ((p3 &&& (2147483647 : Int32)) / (4 : Int32)) * (4 : Int32))).toInt.toNat + 4) (.int (nar .byte ((((q0.toUInt64 >>> ((32 : Int32) &&& 0x3f).toInt64.toUInt64).toInt64).toInt32).toInt8.toInt32)))).set ((((p3 &&& (2147483647 : Int32)) - ((p3 &&& (2147483647 : Int32)) / (4 : Int32)) * (4 : Int32))).toInt.toNat + 5) (.int (nar .byte ((((q0.toUInt64 >>> ((40 : Int32) &&& 0x3f).toInt64.toUInt64).toInt64).toInt32).toInt8.toInt32)))).set ((((p3 &&& (2147483647 : Int32)) - ((p3 &&& (2147483647 : Int32)) / (4 : Int32)) * (4 : Int32))).toInt.toNat + 6) (.int (nar .byte ((((q0.toUInt64 >>> ((48 : Int32) &&& 0x3f).toInt64.toUInt64).toInt64).toInt32).toInt8.toInt32)))).set ((((p3 &&& (2147483647 : Int32)) - ((p3 &&& (2147483647 : Int32)) / (4 : Int32)) * (4 : Int32))).toInt.toNat + 7) (.int (nar .byte ((((q0.toUInt64 >>> ((56 : Int32) &&& 0x3f).toInt64.toUInt64).toInt64).toInt32).toInt8.toInt32)))) ((p3 &&& (2147483647 : Int32)) - ((p3 &&& (2147483647 : Int32)) / (4 : Int32)) * (4 : Int32)) ((p4 &&& (2147483647 : Int32)) - ((p4 &&& (2147483647 : Int32)) / (9 : Int32)) * (9 : Int32)).toInt.toNat) (q0 &&& v8_s0)))]) (mkF m 120 #[.val (.long q0), .second, .val (.long q1), .second, .val (.int p2), .val (.int p3), .val (.int p4), .val (.int ((p3 &&& (2147483647 : Int32)) - ((p3 &&& (2147483647 : Int32)) / (4 : Int32)) * (4 : Int32))), .val (.int ((p4 &&& (2147483647 : Int32)) - ((p4 &&& (2147483647 : Int32)) / (9 : Int32)) * (9 : Int32))), .val (.ref b1), .val (.long v8_s0), .second, .val (.long (q0 &&& v8_s0)), .second] [(.int v11_s0)]) (by
    by_cases hc10 : (own_le ((((((((((((((((((([(.int (0 : Int32)), (.int (0 : Int32)), (.int (0 : Int32)), (.int (0 : Int32)), (.int (0 : Int32)), (.int (0 : Int32)), (.int (0 : Int32)), (.int (0 : Int32)), (.int (0 : Int32)), (.int (0 : Int32)), (.int (0 : Int32))].set (0 + 0) (.int (nar .byte ((q1.toInt32).toInt8.toInt32)))).set (0 + 1) (.int (nar .byte ((((q1.toUInt64 >>> ((8 : Int32) &&& 0x3f).toInt64.toUInt64).toInt64).toInt32).toInt8.toInt32)))).set (0 + 2) (.int (nar .byte ((((q1.toUInt64 >>> ((16 : Int32) &&& 0x3f).toInt64.toUInt64).toInt64).toInt32).toInt8.toInt32)))).set (0 + 3) (.int (nar .byte ((((q1.toUInt64 >>> ((24 : Int32) &&& 0x3f).toInt64.toUInt64).toInt64).toInt32).toInt8.toInt32)))).set (0 + 4) (.int (nar .byte ((((q1.toUInt64 >>> ((32 : Int32) &&& 0x3f).toInt64.toUInt64).toInt64).toInt32).toInt8.toInt32)))).set (0 + 5) (.int (nar .byte ((((q1.toUInt64 >>> ((40 : Int32) &&& 0x3f).toInt64.toUInt64).toInt64).toInt32).toInt8.toInt32)))).set (0 + 6) (.int (nar .byte ((((q1.toUInt64 >>> ((48 : Int32) &&& 0x3f).toInt64.toUInt64).toInt64).toInt32).toInt8.toInt32)))).set (0 + 7) (.int (nar .byte ((((q1.toUInt64 >>> ((56 : Int32) &&& 0x3f).toInt64.toUInt64).toInt64).toInt32).toInt8.toInt32)))).set 8 (.int (nar .byte (p2.toInt8.toInt32)))).set 9 (.int (nar .byte (((p2.toUInt32 >>> ((8 : Int32) &&& 31).toUInt32).toInt32).toInt8.toInt32)))).set 10 (.int (nar .byte (((p2.toUInt32 >>> ((16 : Int32) &&& 31).toUInt32).toInt32).toInt8.toInt32)))).set ((((p3 &&& (2147483647 : Int32)) - ((p3 &&& (2147483647 : Int32)) / (4 : Int32)) * (4 : Int32))).toInt.toNat + 0) (.int (nar .byte ((q0.toInt32).toInt8.toInt32)))).set ((((p3 &&& (2147483647 : Int32)) - ((p3 &&& (2147483647 : Int32)) / (4 : Int32)) * (4 : Int32))).toInt.toNat + 1) (.int (nar .byte ((((q0.toUInt64 >>> ((8 : Int32) &&& 0x3f).toInt64.toUInt64).toInt64).toInt32).toInt8.toInt32)))).set ((((p3 &&& (2147483647 : Int32)) - ((p3 &&& (2147483647 : Int32)) / (4 : Int32)) * (4 : Int32))).toInt.toNat + 2) (.int (nar .byte ((((q0.toUInt64 >>> ((16 : Int32) &&& 0x3f).toInt64.toUInt64).toInt64).toInt32).toInt8.toInt32)))).set ((((p3 &&& (2147483647 : Int32)) - ((p3 &&& (2147483647 : Int32)) / (4 : Int32)) * (4 : Int32))).toInt.toNat + 3) (.int (nar .byte ((((q0.toUInt64 >>> ((24 : Int32) &&& 0x3f).toInt64.toUInt64).toInt64).toInt32).toInt8.toInt32)))).set ((((p3 &&& (2147483647 : Int32)) - ((p3 &&& (2147483647 : Int32)) / (4 : Int32)) * (4 : Int32))).toInt.toNat + 4) (.int (nar .byte ((((q0.toUInt64 >>> ((32 : Int32) &&& 0x3f).toInt64.toUInt64).toInt64).toInt32).toInt8.toInt32)))).set ((((p3 &&& (2147483647 : Int32)) - ((p3 &&& (2147483647 : Int32)) / (4 : Int32)) * (4 : Int32))).toInt.toNat + 5) (.int (nar .byte ((((q0.toUInt64 >>> ((40 : Int32) &&& 0x3f).toInt64.toUInt64).toInt64).toInt32).toInt8.toInt32)))).set ((((p3 &&& (2147483647 : Int32)) - ((p3 &&& (2147483647 : Int32)) / (4 : Int32)) * (4 : Int32))).toInt.toNat + 6) (.int (nar .byte ((((q0.toUInt64 >>> ((48 : Int32) &&& 0x3f).toInt64.toUInt64).toInt64).toInt32).toInt8.toInt32)))).set ((((p3 &&& (2147483647 : Int32)) - ((p3 &&& (2147483647 : Int32)) / (4 : Int32)) * (4 : Int32))).toInt.toNat + 7) (.int (nar .byte ((((q0.toUInt64 >>> ((56 : Int32) &&& 0x3f).toInt64.toUInt64).toInt64).toInt32).toInt8.toInt32)))) ((p3 &&& (2147483647 : Int32)) - ((p3 &&& (2147483647 : Int32)) / (4 : Int32)) * (4 : Int32)) ((p4 &&& (2147483647 : Int32)) - ((p4 &&& (2147483647 : Int32)) / (9 : Int32)) * (9 : Int32)).toInt.toNat) = (q0 &&& v8_s0)
    · rw [if_pos hc10] at Hv11_s0
      refine ⟨T9, X9, e9, fun target kt => ?_⟩
      rw [Hv11_s0] at kt
      show Steps p.tables e below (T9.setTop (mkF m 112 #[.val (.long q0), .second, .val (.long q1), .second, .val (.int p2), .val (.int p3), .val (.int p4), .val (.int ((p3 &&& (2147483647 : Int32)) - ((p3 &&& (2147483647 : Int32)) / (4 : Int32)) * (4 : Int32))), .val (.int ((p4 &&& (2147483647 : Int32)) - ((p4 &&& (2147483647 : Int32)) / (9 : Int32)) * (9 : Int32))), .val (.ref b1), .val (.long v8_s0), .second, .val (.long (q0 &&& v8_s0)), .second] [(.int (lcmpW (own_le ((((((((((((((((((([(.int (0 : Int32)), (.int (0 : Int32)), (.int (0 : Int32)), (.int (0 : Int32)), (.int (0 : Int32)), (.int (0 : Int32)), (.int (0 : Int32)), (.int (0 : Int32)), (.int (0 : Int32)), (.int (0 : Int32)), (.int (0 : Int32))].set (0 + 0) (.int (nar .byte ((q1.toInt32).toInt8.toInt32)))).set (0 + 1) (.int (nar .byte ((((q1.toUInt64 >>> ((8 : Int32) &&& 0x3f).toInt64.toUInt64).toInt64).toInt32).toInt8.toInt32)))).set (0 + 2) (.int (nar .byte ((((q1.toUInt64 >>> ((16 : Int32) &&& 0x3f).toInt64.toUInt64).toInt64).toInt32).toInt8.toInt32)))).set (0 + 3) (.int (nar .byte ((((q1.toUInt64 >>> ((24 : Int32) &&& 0x3f).toInt64.toUInt64).toInt64).toInt32).toInt8.toInt32)))).set (0 + 4) (.int (nar .byte ((((q1.toUInt64 >>> ((32 : Int32) &&& 0x3f).toInt64.toUInt64).toInt64).toInt32).toInt8.toInt32)))).set (0 + 5) (.int (nar .byte ((((q1.toUInt64 >>> ((40 : Int32) &&& 0x3f).toInt64.toUInt64).toInt64).toInt32).toInt8.toInt32)))).set (0 + 6) (.int (nar .byte ((((q1.toUInt64 >>> ((48 : Int32) &&& 0x3f).toInt64.toUInt64).toInt64).toInt32).toInt8.toInt32)))).set (0 + 7) (.int (nar .byte ((((q1.toUInt64 >>> ((56 : Int32) &&& 0x3f).toInt64.toUInt64).toInt64).toInt32).toInt8.toInt32)))).set 8 (.int (nar .byte (p2.toInt8.toInt32)))).set 9 (.int (nar .byte (((p2.toUInt32 >>> ((8 : Int32) &&& 31).toUInt32).toInt32).toInt8.toInt32)))).set 10 (.int (nar .byte (((p2.toUInt32 >>> ((16 : Int32) &&& 31).toUInt32).toInt32).toInt8.toInt32)))).set ((((p3 &&& (2147483647 : Int32)) - ((p3 &&& (2147483647 : Int32)) / (4 : Int32)) * (4 : Int32))).toInt.toNat + 0) (.int (nar .byte ((q0.toInt32).toInt8.toInt32)))).set ((((p3 &&& (2147483647 : Int32)) - ((p3 &&& (2147483647 : Int32)) / (4 : Int32)) * (4 : Int32))).toInt.toNat + 1) (.int (nar .byte ((((q0.toUInt64 >>> ((8 : Int32) &&& 0x3f).toInt64.toUInt64).toInt64).toInt32).toInt8.toInt32)))).set ((((p3 &&& (2147483647 : Int32)) - ((p3 &&& (2147483647 : Int32)) / (4 : Int32)) * (4 : Int32))).toInt.toNat + 2) (.int (nar .byte ((((q0.toUInt64 >>> ((16 : Int32) &&& 0x3f).toInt64.toUInt64).toInt64).toInt32).toInt8.toInt32)))).set ((((p3 &&& (2147483647 : Int32)) - ((p3 &&& (2147483647 : Int32)) / (4 : Int32)) * (4 : Int32))).toInt.toNat + 3) (.int (nar .byte ((((q0.toUInt64 >>> ((24 : Int32) &&& 0x3f).toInt64.toUInt64).toInt64).toInt32).toInt8.toInt32)))).set ((((p3 &&& (2147483647 : Int32)) - ((p3 &&& (2147483647 : Int32)) / (4 : Int32)) * (4 : Int32))).toInt.toNat + 4) (.int (nar .byte ((((q0.toUInt64 >>> ((32 : Int32) &&& 0x3f).toInt64.toUInt64).toInt64).toInt32).toInt8.toInt32)))).set ((((p3 &&& (2147483647 : Int32)) - ((p3 &&& (2147483647 : Int32)) / (4 : Int32)) * (4 : Int32))).toInt.toNat + 5) (.int (nar .byte ((((q0.toUInt64 >>> ((40 : Int32) &&& 0x3f).toInt64.toUInt64).toInt64).toInt32).toInt8.toInt32)))).set ((((p3 &&& (2147483647 : Int32)) - ((p3 &&& (2147483647 : Int32)) / (4 : Int32)) * (4 : Int32))).toInt.toNat + 6) (.int (nar .byte ((((q0.toUInt64 >>> ((48 : Int32) &&& 0x3f).toInt64.toUInt64).toInt64).toInt32).toInt8.toInt32)))).set ((((p3 &&& (2147483647 : Int32)) - ((p3 &&& (2147483647 : Int32)) / (4 : Int32)) * (4 : Int32))).toInt.toNat + 7) (.int (nar .byte ((((q0.toUInt64 >>> ((56 : Int32) &&& 0x3f).toInt64.toUInt64).toInt64).toInt32).toInt8.toInt32)))) ((p3 &&& (2147483647 : Int32)) - ((p3 &&& (2147483647 : Int32)) / (4 : Int32)) * (4 : Int32)) ((p4 &&& (2147483647 : Int32)) - ((p4 &&& (2147483647 : Int32)) / (9 : Int32)) * (9 : Int32)).toInt.toNat) (q0 &&& v8_s0)))])) _
      refine XS.ifNo X9.here hx rfl (hb hby at_112) rfl ((if0 _ _).trans (teq ((lw_eq _ _).mpr hc10)).2) ?_
      show Steps p.tables e below (T9.setTop (mkF m 115 #[.val (.long q0), .second, .val (.long q1), .second, .val (.int p2), .val (.int p3), .val (.int p4), .val (.int ((p3 &&& (2147483647 : Int32)) - ((p3 &&& (2147483647 : Int32)) / (4 : Int32)) * (4 : Int32))), .val (.int ((p4 &&& (2147483647 : Int32)) - ((p4 &&& (2147483647 : Int32)) / (9 : Int32)) * (9 : Int32))), .val (.ref b1), .val (.long v8_s0), .second, .val (.long (q0 &&& v8_s0)), .second] [])) _
      refine XS.iconst X9.here hx rfl (hb hby at_115) ?_
      show Steps p.tables e below (T9.setTop (mkF m 116 #[.val (.long q0), .second, .val (.long q1), .second, .val (.int p2), .val (.int p3), .val (.int p4), .val (.int ((p3 &&& (2147483647 : Int32)) - ((p3 &&& (2147483647 : Int32)) / (4 : Int32)) * (4 : Int32))), .val (.int ((p4 &&& (2147483647 : Int32)) - ((p4 &&& (2147483647 : Int32)) / (9 : Int32)) * (9 : Int32))), .val (.ref b1), .val (.long v8_s0), .second, .val (.long (q0 &&& v8_s0)), .second] [(.int (1 : Int32))])) _
      refine XS.goto X9.here hx rfl (pc0 := 116) (pc' := 120) rfl (hb hby at_116) (by decide) (by decide) ?_
      exact kt
    · rw [if_neg hc10] at Hv11_s0
      refine ⟨T9, X9, e9, fun target kt => ?_⟩
      rw [Hv11_s0] at kt
      show Steps p.tables e below (T9.setTop (mkF m 112 #[.val (.long q0), .second, .val (.long q1), .second, .val (.int p2), .val (.int p3), .val (.int p4), .val (.int ((p3 &&& (2147483647 : Int32)) - ((p3 &&& (2147483647 : Int32)) / (4 : Int32)) * (4 : Int32))), .val (.int ((p4 &&& (2147483647 : Int32)) - ((p4 &&& (2147483647 : Int32)) / (9 : Int32)) * (9 : Int32))), .val (.ref b1), .val (.long v8_s0), .second, .val (.long (q0 &&& v8_s0)), .second] [(.int (lcmpW (own_le ((((((((((((((((((([(.int (0 : Int32)), (.int (0 : Int32)), (.int (0 : Int32)), (.int (0 : Int32)), (.int (0 : Int32)), (.int (0 : Int32)), (.int (0 : Int32)), (.int (0 : Int32)), (.int (0 : Int32)), (.int (0 : Int32)), (.int (0 : Int32))].set (0 + 0) (.int (nar .byte ((q1.toInt32).toInt8.toInt32)))).set (0 + 1) (.int (nar .byte ((((q1.toUInt64 >>> ((8 : Int32) &&& 0x3f).toInt64.toUInt64).toInt64).toInt32).toInt8.toInt32)))).set (0 + 2) (.int (nar .byte ((((q1.toUInt64 >>> ((16 : Int32) &&& 0x3f).toInt64.toUInt64).toInt64).toInt32).toInt8.toInt32)))).set (0 + 3) (.int (nar .byte ((((q1.toUInt64 >>> ((24 : Int32) &&& 0x3f).toInt64.toUInt64).toInt64).toInt32).toInt8.toInt32)))).set (0 + 4) (.int (nar .byte ((((q1.toUInt64 >>> ((32 : Int32) &&& 0x3f).toInt64.toUInt64).toInt64).toInt32).toInt8.toInt32)))).set (0 + 5) (.int (nar .byte ((((q1.toUInt64 >>> ((40 : Int32) &&& 0x3f).toInt64.toUInt64).toInt64).toInt32).toInt8.toInt32)))).set (0 + 6) (.int (nar .byte ((((q1.toUInt64 >>> ((48 : Int32) &&& 0x3f).toInt64.toUInt64).toInt64).toInt32).toInt8.toInt32)))).set (0 + 7) (.int (nar .byte ((((q1.toUInt64 >>> ((56 : Int32) &&& 0x3f).toInt64.toUInt64).toInt64).toInt32).toInt8.toInt32)))).set 8 (.int (nar .byte (p2.toInt8.toInt32)))).set 9 (.int (nar .byte (((p2.toUInt32 >>> ((8 : Int32) &&& 31).toUInt32).toInt32).toInt8.toInt32)))).set 10 (.int (nar .byte (((p2.toUInt32 >>> ((16 : Int32) &&& 31).toUInt32).toInt32).toInt8.toInt32)))).set ((((p3 &&& (2147483647 : Int32)) - ((p3 &&& (2147483647 : Int32)) / (4 : Int32)) * (4 : Int32))).toInt.toNat + 0) (.int (nar .byte ((q0.toInt32).toInt8.toInt32)))).set ((((p3 &&& (2147483647 : Int32)) - ((p3 &&& (2147483647 : Int32)) / (4 : Int32)) * (4 : Int32))).toInt.toNat + 1) (.int (nar .byte ((((q0.toUInt64 >>> ((8 : Int32) &&& 0x3f).toInt64.toUInt64).toInt64).toInt32).toInt8.toInt32)))).set ((((p3 &&& (2147483647 : Int32)) - ((p3 &&& (2147483647 : Int32)) / (4 : Int32)) * (4 : Int32))).toInt.toNat + 2) (.int (nar .byte ((((q0.toUInt64 >>> ((16 : Int32) &&& 0x3f).toInt64.toUInt64).toInt64).toInt32).toInt8.toInt32)))).set ((((p3 &&& (2147483647 : Int32)) - ((p3 &&& (2147483647 : Int32)) / (4 : Int32)) * (4 : Int32))).toInt.toNat + 3) (.int (nar .byte ((((q0.toUInt64 >>> ((24 : Int32) &&& 0x3f).toInt64.toUInt64).toInt64).toInt32).toInt8.toInt32)))).set ((((p3 &&& (2147483647 : Int32)) - ((p3 &&& (2147483647 : Int32)) / (4 : Int32)) * (4 : Int32))).toInt.toNat + 4) (.int (nar .byte ((((q0.toUInt64 >>> ((32 : Int32) &&& 0x3f).toInt64.toUInt64).toInt64).toInt32).toInt8.toInt32)))).set ((((p3 &&& (2147483647 : Int32)) - ((p3 &&& (2147483647 : Int32)) / (4 : Int32)) * (4 : Int32))).toInt.toNat + 5) (.int (nar .byte ((((q0.toUInt64 >>> ((40 : Int32) &&& 0x3f).toInt64.toUInt64).toInt64).toInt32).toInt8.toInt32)))).set ((((p3 &&& (2147483647 : Int32)) - ((p3 &&& (2147483647 : Int32)) / (4 : Int32)) * (4 : Int32))).toInt.toNat + 6) (.int (nar .byte ((((q0.toUInt64 >>> ((48 : Int32) &&& 0x3f).toInt64.toUInt64).toInt64).toInt32).toInt8.toInt32)))).set ((((p3 &&& (2147483647 : Int32)) - ((p3 &&& (2147483647 : Int32)) / (4 : Int32)) * (4 : Int32))).toInt.toNat + 7) (.int (nar .byte ((((q0.toUInt64 >>> ((56 : Int32) &&& 0x3f).toInt64.toUInt64).toInt64).toInt32).toInt8.toInt32)))) ((p3 &&& (2147483647 : Int32)) - ((p3 &&& (2147483647 : Int32)) / (4 : Int32)) * (4 : Int32)) ((p4 &&& (2147483647 : Int32)) - ((p4 &&& (2147483647 : Int32)) / (9 : Int32)) * (9 : Int32)).toInt.toNat) (q0 &&& v8_s0)))])) _
      refine XS.ifYes X9.here hx rfl (pc0 := 112) (pc' := 119) rfl (hb hby at_112) rfl ((if0 _ _).trans (feq (fun q => hc10 ((lw_eq _ _).mp q))).2) (by decide) (by decide) ?_
      show Steps p.tables e below (T9.setTop (mkF m 119 #[.val (.long q0), .second, .val (.long q1), .second, .val (.int p2), .val (.int p3), .val (.int p4), .val (.int ((p3 &&& (2147483647 : Int32)) - ((p3 &&& (2147483647 : Int32)) / (4 : Int32)) * (4 : Int32))), .val (.int ((p4 &&& (2147483647 : Int32)) - ((p4 &&& (2147483647 : Int32)) / (9 : Int32)) * (9 : Int32))), .val (.ref b1), .val (.long v8_s0), .second, .val (.long (q0 &&& v8_s0)), .second] [])) _
      refine XS.iconst X9.here hx rfl (hb hby at_119) ?_
      exact kt)
  have hfin : nar .boolean v11_s0 = 1 := by rw [plain_law q0 q1 p2 p3 p4 v8_s0 Hv8_s0 v11_s0 Hv11_s0]; rfl
  obtain ⟨fs, hr, hrun, hended, hW, hsame⟩ := X11.leave (v := some (.int (nar .boolean v11_s0))) (fun h => by rw [Bd.returns] at h; cases h)
  refine ⟨_, _, pre0 _ ?_, hrun, hended, _, _, rfl, ?_, ⟨_, rfl⟩, hW, hsame.mono (by decide) (by decide)⟩
  · show Steps p.tables e below (s₁.setTop (mkF m 0 #[.val (.long q0), .second, .val (.long q1), .second, .val (.int p2), .val (.int p3), .val (.int p4), .unset, .unset, .unset, .unset, .unset, .unset, .unset] [])) _
    refine XS.iload X0.here hx rfl (hb hby at_0) rfl ?_
    show Steps p.tables e below (s₁.setTop (mkF m 2 #[.val (.long q0), .second, .val (.long q1), .second, .val (.int p2), .val (.int p3), .val (.int p4), .unset, .unset, .unset, .unset, .unset, .unset, .unset] [(.int p3)])) _
    refine X0.ldcInt hx hown (mvT hZ (hw _ (List.mem_of_getElem? (i := 0) rfl))) (g := (mkF m 2 #[.val (.long q0), .second, .val (.long q1), .second, .val (.int p2), .val (.int p3), .val (.int p4), .unset, .unset, .unset, .unset, .unset, .unset, .unset] [(.int p3)])) rfl (hb hby at_2) _ ?_
    show Steps p.tables e below (s₁.setTop (mkF m 4 #[.val (.long q0), .second, .val (.long q1), .second, .val (.int p2), .val (.int p3), .val (.int p4), .unset, .unset, .unset, .unset, .unset, .unset, .unset] [(.int (2147483647 : Int32)), (.int p3)])) _
    refine XS.iand X0.here hx rfl (hb hby at_4) rfl ?_
    show Steps p.tables e below (s₁.setTop (mkF m 5 #[.val (.long q0), .second, .val (.long q1), .second, .val (.int p2), .val (.int p3), .val (.int p4), .unset, .unset, .unset, .unset, .unset, .unset, .unset] [(.int (p3 &&& (2147483647 : Int32)))])) _
    refine XS.iconst X0.here hx rfl (hb hby at_5) ?_
    show Steps p.tables e below (s₁.setTop (mkF m 6 #[.val (.long q0), .second, .val (.long q1), .second, .val (.int p2), .val (.int p3), .val (.int p4), .unset, .unset, .unset, .unset, .unset, .unset, .unset] [(.int (4 : Int32)), (.int (p3 &&& (2147483647 : Int32)))])) _
    refine XS.irem X0.here hx rfl (hb hby at_6) rfl (by decide) ?_
    show Steps p.tables e below (s₁.setTop (mkF m 7 #[.val (.long q0), .second, .val (.long q1), .second, .val (.int p2), .val (.int p3), .val (.int p4), .unset, .unset, .unset, .unset, .unset, .unset, .unset] [(.int ((p3 &&& (2147483647 : Int32)) - ((p3 &&& (2147483647 : Int32)) / (4 : Int32)) * (4 : Int32)))])) _
    refine XS.istore X0.here hx rfl (hb hby at_7) rfl (l' := #[.val (.long q0), .second, .val (.long q1), .second, .val (.int p2), .val (.int p3), .val (.int p4), .val (.int ((p3 &&& (2147483647 : Int32)) - ((p3 &&& (2147483647 : Int32)) / (4 : Int32)) * (4 : Int32))), .unset, .unset, .unset, .unset, .unset, .unset]) rfl ?_
    show Steps p.tables e below (s₁.setTop (mkF m 9 #[.val (.long q0), .second, .val (.long q1), .second, .val (.int p2), .val (.int p3), .val (.int p4), .val (.int ((p3 &&& (2147483647 : Int32)) - ((p3 &&& (2147483647 : Int32)) / (4 : Int32)) * (4 : Int32))), .unset, .unset, .unset, .unset, .unset, .unset] [])) _
    refine XS.iload X0.here hx rfl (hb hby at_9) rfl ?_
    show Steps p.tables e below (s₁.setTop (mkF m 11 #[.val (.long q0), .second, .val (.long q1), .second, .val (.int p2), .val (.int p3), .val (.int p4), .val (.int ((p3 &&& (2147483647 : Int32)) - ((p3 &&& (2147483647 : Int32)) / (4 : Int32)) * (4 : Int32))), .unset, .unset, .unset, .unset, .unset, .unset] [(.int p4)])) _
    refine X0.ldcInt hx hown (mvT hZ (hw _ (List.mem_of_getElem? (i := 0) rfl))) (g := (mkF m 11 #[.val (.long q0), .second, .val (.long q1), .second, .val (.int p2), .val (.int p3), .val (.int p4), .val (.int ((p3 &&& (2147483647 : Int32)) - ((p3 &&& (2147483647 : Int32)) / (4 : Int32)) * (4 : Int32))), .unset, .unset, .unset, .unset, .unset, .unset] [(.int p4)])) rfl (hb hby at_11) _ ?_
    show Steps p.tables e below (s₁.setTop (mkF m 13 #[.val (.long q0), .second, .val (.long q1), .second, .val (.int p2), .val (.int p3), .val (.int p4), .val (.int ((p3 &&& (2147483647 : Int32)) - ((p3 &&& (2147483647 : Int32)) / (4 : Int32)) * (4 : Int32))), .unset, .unset, .unset, .unset, .unset, .unset] [(.int (2147483647 : Int32)), (.int p4)])) _
    refine XS.iand X0.here hx rfl (hb hby at_13) rfl ?_
    show Steps p.tables e below (s₁.setTop (mkF m 14 #[.val (.long q0), .second, .val (.long q1), .second, .val (.int p2), .val (.int p3), .val (.int p4), .val (.int ((p3 &&& (2147483647 : Int32)) - ((p3 &&& (2147483647 : Int32)) / (4 : Int32)) * (4 : Int32))), .unset, .unset, .unset, .unset, .unset, .unset] [(.int (p4 &&& (2147483647 : Int32)))])) _
    refine XS.bipush X0.here hx rfl (hb hby at_14) ?_
    show Steps p.tables e below (s₁.setTop (mkF m 16 #[.val (.long q0), .second, .val (.long q1), .second, .val (.int p2), .val (.int p3), .val (.int p4), .val (.int ((p3 &&& (2147483647 : Int32)) - ((p3 &&& (2147483647 : Int32)) / (4 : Int32)) * (4 : Int32))), .unset, .unset, .unset, .unset, .unset, .unset] [(.int (9 : Int32)), (.int (p4 &&& (2147483647 : Int32)))])) _
    refine XS.irem X0.here hx rfl (hb hby at_16) rfl (by decide) ?_
    show Steps p.tables e below (s₁.setTop (mkF m 17 #[.val (.long q0), .second, .val (.long q1), .second, .val (.int p2), .val (.int p3), .val (.int p4), .val (.int ((p3 &&& (2147483647 : Int32)) - ((p3 &&& (2147483647 : Int32)) / (4 : Int32)) * (4 : Int32))), .unset, .unset, .unset, .unset, .unset, .unset] [(.int ((p4 &&& (2147483647 : Int32)) - ((p4 &&& (2147483647 : Int32)) / (9 : Int32)) * (9 : Int32)))])) _
    refine XS.istore X0.here hx rfl (hb hby at_17) rfl (l' := #[.val (.long q0), .second, .val (.long q1), .second, .val (.int p2), .val (.int p3), .val (.int p4), .val (.int ((p3 &&& (2147483647 : Int32)) - ((p3 &&& (2147483647 : Int32)) / (4 : Int32)) * (4 : Int32))), .val (.int ((p4 &&& (2147483647 : Int32)) - ((p4 &&& (2147483647 : Int32)) / (9 : Int32)) * (9 : Int32))), .unset, .unset, .unset, .unset, .unset]) rfl ?_
    show Steps p.tables e below (s₁.setTop (mkF m 19 #[.val (.long q0), .second, .val (.long q1), .second, .val (.int p2), .val (.int p3), .val (.int p4), .val (.int ((p3 &&& (2147483647 : Int32)) - ((p3 &&& (2147483647 : Int32)) / (4 : Int32)) * (4 : Int32))), .val (.int ((p4 &&& (2147483647 : Int32)) - ((p4 &&& (2147483647 : Int32)) / (9 : Int32)) * (9 : Int32))), .unset, .unset, .unset, .unset, .unset] [])) _
    refine XS.bipush X0.here hx rfl (hb hby at_19) ?_
    show Steps p.tables e below (s₁.setTop (mkF m 21 #[.val (.long q0), .second, .val (.long q1), .second, .val (.int p2), .val (.int p3), .val (.int p4), .val (.int ((p3 &&& (2147483647 : Int32)) - ((p3 &&& (2147483647 : Int32)) / (4 : Int32)) * (4 : Int32))), .val (.int ((p4 &&& (2147483647 : Int32)) - ((p4 &&& (2147483647 : Int32)) / (9 : Int32)) * (9 : Int32))), .unset, .unset, .unset, .unset, .unset] [(.int (11 : Int32))])) _
    refine st1 _ ?_
    show Steps p.tables e below (T1.setTop (mkF m 23 #[.val (.long q0), .second, .val (.long q1), .second, .val (.int p2), .val (.int p3), .val (.int p4), .val (.int ((p3 &&& (2147483647 : Int32)) - ((p3 &&& (2147483647 : Int32)) / (4 : Int32)) * (4 : Int32))), .val (.int ((p4 &&& (2147483647 : Int32)) - ((p4 &&& (2147483647 : Int32)) / (9 : Int32)) * (9 : Int32))), .unset, .unset, .unset, .unset, .unset] [(.ref b1)])) _
    refine XS.astore X1.here hx rfl (hb hby at_23) rfl rfl (l' := #[.val (.long q0), .second, .val (.long q1), .second, .val (.int p2), .val (.int p3), .val (.int p4), .val (.int ((p3 &&& (2147483647 : Int32)) - ((p3 &&& (2147483647 : Int32)) / (4 : Int32)) * (4 : Int32))), .val (.int ((p4 &&& (2147483647 : Int32)) - ((p4 &&& (2147483647 : Int32)) / (9 : Int32)) * (9 : Int32))), .val (.ref b1), .unset, .unset, .unset, .unset]) rfl ?_
    show Steps p.tables e below (T1.setTop (mkF m 25 #[.val (.long q0), .second, .val (.long q1), .second, .val (.int p2), .val (.int p3), .val (.int p4), .val (.int ((p3 &&& (2147483647 : Int32)) - ((p3 &&& (2147483647 : Int32)) / (4 : Int32)) * (4 : Int32))), .val (.int ((p4 &&& (2147483647 : Int32)) - ((p4 &&& (2147483647 : Int32)) / (9 : Int32)) * (9 : Int32))), .val (.ref b1), .unset, .unset, .unset, .unset] [])) _
    refine XS.aload X1.here hx rfl (hb hby at_25) rfl rfl ?_
    show Steps p.tables e below (T1.setTop (mkF m 27 #[.val (.long q0), .second, .val (.long q1), .second, .val (.int p2), .val (.int p3), .val (.int p4), .val (.int ((p3 &&& (2147483647 : Int32)) - ((p3 &&& (2147483647 : Int32)) / (4 : Int32)) * (4 : Int32))), .val (.int ((p4 &&& (2147483647 : Int32)) - ((p4 &&& (2147483647 : Int32)) / (9 : Int32)) * (9 : Int32))), .val (.ref b1), .unset, .unset, .unset, .unset] [(.ref b1)])) _
    refine XS.iconst X1.here hx rfl (hb hby at_27) ?_
    show Steps p.tables e below (T1.setTop (mkF m 28 #[.val (.long q0), .second, .val (.long q1), .second, .val (.int p2), .val (.int p3), .val (.int p4), .val (.int ((p3 &&& (2147483647 : Int32)) - ((p3 &&& (2147483647 : Int32)) / (4 : Int32)) * (4 : Int32))), .val (.int ((p4 &&& (2147483647 : Int32)) - ((p4 &&& (2147483647 : Int32)) / (9 : Int32)) * (9 : Int32))), .val (.ref b1), .unset, .unset, .unset, .unset] [(.int (0 : Int32)), (.ref b1)])) _
    refine XS.lloadN X1.here hx rfl (hb hby at_28) rfl ?_
    show Steps p.tables e below (T1.setTop (mkF m 29 #[.val (.long q0), .second, .val (.long q1), .second, .val (.int p2), .val (.int p3), .val (.int p4), .val (.int ((p3 &&& (2147483647 : Int32)) - ((p3 &&& (2147483647 : Int32)) / (4 : Int32)) * (4 : Int32))), .val (.int ((p4 &&& (2147483647 : Int32)) - ((p4 &&& (2147483647 : Int32)) / (9 : Int32)) * (9 : Int32))), .val (.ref b1), .unset, .unset, .unset, .unset] [(.long q1), (.int (0 : Int32)), (.ref b1)])) _
    refine st2 _ ?_
    show Steps p.tables e below (T2.setTop (mkF m 32 #[.val (.long q0), .second, .val (.long q1), .second, .val (.int p2), .val (.int p3), .val (.int p4), .val (.int ((p3 &&& (2147483647 : Int32)) - ((p3 &&& (2147483647 : Int32)) / (4 : Int32)) * (4 : Int32))), .val (.int ((p4 &&& (2147483647 : Int32)) - ((p4 &&& (2147483647 : Int32)) / (9 : Int32)) * (9 : Int32))), .val (.ref b1), .unset, .unset, .unset, .unset] [])) _
    refine XS.aload X2.here hx rfl (hb hby at_32) rfl rfl ?_
    show Steps p.tables e below (T2.setTop (mkF m 34 #[.val (.long q0), .second, .val (.long q1), .second, .val (.int p2), .val (.int p3), .val (.int p4), .val (.int ((p3 &&& (2147483647 : Int32)) - ((p3 &&& (2147483647 : Int32)) / (4 : Int32)) * (4 : Int32))), .val (.int ((p4 &&& (2147483647 : Int32)) - ((p4 &&& (2147483647 : Int32)) / (9 : Int32)) * (9 : Int32))), .val (.ref b1), .unset, .unset, .unset, .unset] [(.ref b1)])) _
    refine XS.bipush X2.here hx rfl (hb hby at_34) ?_
    show Steps p.tables e below (T2.setTop (mkF m 36 #[.val (.long q0), .second, .val (.long q1), .second, .val (.int p2), .val (.int p3), .val (.int p4), .val (.int ((p3 &&& (2147483647 : Int32)) - ((p3 &&& (2147483647 : Int32)) / (4 : Int32)) * (4 : Int32))), .val (.int ((p4 &&& (2147483647 : Int32)) - ((p4 &&& (2147483647 : Int32)) / (9 : Int32)) * (9 : Int32))), .val (.ref b1), .unset, .unset, .unset, .unset] [(.int (8 : Int32)), (.ref b1)])) _
    refine XS.iload X2.here hx rfl (hb hby at_36) rfl ?_
    show Steps p.tables e below (T2.setTop (mkF m 38 #[.val (.long q0), .second, .val (.long q1), .second, .val (.int p2), .val (.int p3), .val (.int p4), .val (.int ((p3 &&& (2147483647 : Int32)) - ((p3 &&& (2147483647 : Int32)) / (4 : Int32)) * (4 : Int32))), .val (.int ((p4 &&& (2147483647 : Int32)) - ((p4 &&& (2147483647 : Int32)) / (9 : Int32)) * (9 : Int32))), .val (.ref b1), .unset, .unset, .unset, .unset] [(.int p2), (.int (8 : Int32)), (.ref b1)])) _
    refine XS.i2b X2.here hx rfl (hb hby at_38) rfl ?_
    show Steps p.tables e below (T2.setTop (mkF m 39 #[.val (.long q0), .second, .val (.long q1), .second, .val (.int p2), .val (.int p3), .val (.int p4), .val (.int ((p3 &&& (2147483647 : Int32)) - ((p3 &&& (2147483647 : Int32)) / (4 : Int32)) * (4 : Int32))), .val (.int ((p4 &&& (2147483647 : Int32)) - ((p4 &&& (2147483647 : Int32)) / (9 : Int32)) * (9 : Int32))), .val (.ref b1), .unset, .unset, .unset, .unset] [(.int (p2.toInt8.toInt32)), (.int (8 : Int32)), (.ref b1)])) _
    refine st3 _ ?_
    show Steps p.tables e below (T3.setTop (mkF m 40 #[.val (.long q0), .second, .val (.long q1), .second, .val (.int p2), .val (.int p3), .val (.int p4), .val (.int ((p3 &&& (2147483647 : Int32)) - ((p3 &&& (2147483647 : Int32)) / (4 : Int32)) * (4 : Int32))), .val (.int ((p4 &&& (2147483647 : Int32)) - ((p4 &&& (2147483647 : Int32)) / (9 : Int32)) * (9 : Int32))), .val (.ref b1), .unset, .unset, .unset, .unset] [])) _
    refine XS.aload X3.here hx rfl (hb hby at_40) rfl rfl ?_
    show Steps p.tables e below (T3.setTop (mkF m 42 #[.val (.long q0), .second, .val (.long q1), .second, .val (.int p2), .val (.int p3), .val (.int p4), .val (.int ((p3 &&& (2147483647 : Int32)) - ((p3 &&& (2147483647 : Int32)) / (4 : Int32)) * (4 : Int32))), .val (.int ((p4 &&& (2147483647 : Int32)) - ((p4 &&& (2147483647 : Int32)) / (9 : Int32)) * (9 : Int32))), .val (.ref b1), .unset, .unset, .unset, .unset] [(.ref b1)])) _
    refine XS.bipush X3.here hx rfl (hb hby at_42) ?_
    show Steps p.tables e below (T3.setTop (mkF m 44 #[.val (.long q0), .second, .val (.long q1), .second, .val (.int p2), .val (.int p3), .val (.int p4), .val (.int ((p3 &&& (2147483647 : Int32)) - ((p3 &&& (2147483647 : Int32)) / (4 : Int32)) * (4 : Int32))), .val (.int ((p4 &&& (2147483647 : Int32)) - ((p4 &&& (2147483647 : Int32)) / (9 : Int32)) * (9 : Int32))), .val (.ref b1), .unset, .unset, .unset, .unset] [(.int (9 : Int32)), (.ref b1)])) _
    refine XS.iload X3.here hx rfl (hb hby at_44) rfl ?_
    show Steps p.tables e below (T3.setTop (mkF m 46 #[.val (.long q0), .second, .val (.long q1), .second, .val (.int p2), .val (.int p3), .val (.int p4), .val (.int ((p3 &&& (2147483647 : Int32)) - ((p3 &&& (2147483647 : Int32)) / (4 : Int32)) * (4 : Int32))), .val (.int ((p4 &&& (2147483647 : Int32)) - ((p4 &&& (2147483647 : Int32)) / (9 : Int32)) * (9 : Int32))), .val (.ref b1), .unset, .unset, .unset, .unset] [(.int p2), (.int (9 : Int32)), (.ref b1)])) _
    refine XS.bipush X3.here hx rfl (hb hby at_46) ?_
    show Steps p.tables e below (T3.setTop (mkF m 48 #[.val (.long q0), .second, .val (.long q1), .second, .val (.int p2), .val (.int p3), .val (.int p4), .val (.int ((p3 &&& (2147483647 : Int32)) - ((p3 &&& (2147483647 : Int32)) / (4 : Int32)) * (4 : Int32))), .val (.int ((p4 &&& (2147483647 : Int32)) - ((p4 &&& (2147483647 : Int32)) / (9 : Int32)) * (9 : Int32))), .val (.ref b1), .unset, .unset, .unset, .unset] [(.int (8 : Int32)), (.int p2), (.int (9 : Int32)), (.ref b1)])) _
    refine XS.iushr X3.here hx rfl (hb hby at_48) rfl ?_
    show Steps p.tables e below (T3.setTop (mkF m 49 #[.val (.long q0), .second, .val (.long q1), .second, .val (.int p2), .val (.int p3), .val (.int p4), .val (.int ((p3 &&& (2147483647 : Int32)) - ((p3 &&& (2147483647 : Int32)) / (4 : Int32)) * (4 : Int32))), .val (.int ((p4 &&& (2147483647 : Int32)) - ((p4 &&& (2147483647 : Int32)) / (9 : Int32)) * (9 : Int32))), .val (.ref b1), .unset, .unset, .unset, .unset] [(.int ((p2.toUInt32 >>> ((8 : Int32) &&& 31).toUInt32).toInt32)), (.int (9 : Int32)), (.ref b1)])) _
    refine XS.i2b X3.here hx rfl (hb hby at_49) rfl ?_
    show Steps p.tables e below (T3.setTop (mkF m 50 #[.val (.long q0), .second, .val (.long q1), .second, .val (.int p2), .val (.int p3), .val (.int p4), .val (.int ((p3 &&& (2147483647 : Int32)) - ((p3 &&& (2147483647 : Int32)) / (4 : Int32)) * (4 : Int32))), .val (.int ((p4 &&& (2147483647 : Int32)) - ((p4 &&& (2147483647 : Int32)) / (9 : Int32)) * (9 : Int32))), .val (.ref b1), .unset, .unset, .unset, .unset] [(.int (((p2.toUInt32 >>> ((8 : Int32) &&& 31).toUInt32).toInt32).toInt8.toInt32)), (.int (9 : Int32)), (.ref b1)])) _
    refine st4 _ ?_
    show Steps p.tables e below (T4.setTop (mkF m 51 #[.val (.long q0), .second, .val (.long q1), .second, .val (.int p2), .val (.int p3), .val (.int p4), .val (.int ((p3 &&& (2147483647 : Int32)) - ((p3 &&& (2147483647 : Int32)) / (4 : Int32)) * (4 : Int32))), .val (.int ((p4 &&& (2147483647 : Int32)) - ((p4 &&& (2147483647 : Int32)) / (9 : Int32)) * (9 : Int32))), .val (.ref b1), .unset, .unset, .unset, .unset] [])) _
    refine XS.aload X4.here hx rfl (hb hby at_51) rfl rfl ?_
    show Steps p.tables e below (T4.setTop (mkF m 53 #[.val (.long q0), .second, .val (.long q1), .second, .val (.int p2), .val (.int p3), .val (.int p4), .val (.int ((p3 &&& (2147483647 : Int32)) - ((p3 &&& (2147483647 : Int32)) / (4 : Int32)) * (4 : Int32))), .val (.int ((p4 &&& (2147483647 : Int32)) - ((p4 &&& (2147483647 : Int32)) / (9 : Int32)) * (9 : Int32))), .val (.ref b1), .unset, .unset, .unset, .unset] [(.ref b1)])) _
    refine XS.bipush X4.here hx rfl (hb hby at_53) ?_
    show Steps p.tables e below (T4.setTop (mkF m 55 #[.val (.long q0), .second, .val (.long q1), .second, .val (.int p2), .val (.int p3), .val (.int p4), .val (.int ((p3 &&& (2147483647 : Int32)) - ((p3 &&& (2147483647 : Int32)) / (4 : Int32)) * (4 : Int32))), .val (.int ((p4 &&& (2147483647 : Int32)) - ((p4 &&& (2147483647 : Int32)) / (9 : Int32)) * (9 : Int32))), .val (.ref b1), .unset, .unset, .unset, .unset] [(.int (10 : Int32)), (.ref b1)])) _
    refine XS.iload X4.here hx rfl (hb hby at_55) rfl ?_
    show Steps p.tables e below (T4.setTop (mkF m 57 #[.val (.long q0), .second, .val (.long q1), .second, .val (.int p2), .val (.int p3), .val (.int p4), .val (.int ((p3 &&& (2147483647 : Int32)) - ((p3 &&& (2147483647 : Int32)) / (4 : Int32)) * (4 : Int32))), .val (.int ((p4 &&& (2147483647 : Int32)) - ((p4 &&& (2147483647 : Int32)) / (9 : Int32)) * (9 : Int32))), .val (.ref b1), .unset, .unset, .unset, .unset] [(.int p2), (.int (10 : Int32)), (.ref b1)])) _
    refine XS.bipush X4.here hx rfl (hb hby at_57) ?_
    show Steps p.tables e below (T4.setTop (mkF m 59 #[.val (.long q0), .second, .val (.long q1), .second, .val (.int p2), .val (.int p3), .val (.int p4), .val (.int ((p3 &&& (2147483647 : Int32)) - ((p3 &&& (2147483647 : Int32)) / (4 : Int32)) * (4 : Int32))), .val (.int ((p4 &&& (2147483647 : Int32)) - ((p4 &&& (2147483647 : Int32)) / (9 : Int32)) * (9 : Int32))), .val (.ref b1), .unset, .unset, .unset, .unset] [(.int (16 : Int32)), (.int p2), (.int (10 : Int32)), (.ref b1)])) _
    refine XS.iushr X4.here hx rfl (hb hby at_59) rfl ?_
    show Steps p.tables e below (T4.setTop (mkF m 60 #[.val (.long q0), .second, .val (.long q1), .second, .val (.int p2), .val (.int p3), .val (.int p4), .val (.int ((p3 &&& (2147483647 : Int32)) - ((p3 &&& (2147483647 : Int32)) / (4 : Int32)) * (4 : Int32))), .val (.int ((p4 &&& (2147483647 : Int32)) - ((p4 &&& (2147483647 : Int32)) / (9 : Int32)) * (9 : Int32))), .val (.ref b1), .unset, .unset, .unset, .unset] [(.int ((p2.toUInt32 >>> ((16 : Int32) &&& 31).toUInt32).toInt32)), (.int (10 : Int32)), (.ref b1)])) _
    refine XS.i2b X4.here hx rfl (hb hby at_60) rfl ?_
    show Steps p.tables e below (T4.setTop (mkF m 61 #[.val (.long q0), .second, .val (.long q1), .second, .val (.int p2), .val (.int p3), .val (.int p4), .val (.int ((p3 &&& (2147483647 : Int32)) - ((p3 &&& (2147483647 : Int32)) / (4 : Int32)) * (4 : Int32))), .val (.int ((p4 &&& (2147483647 : Int32)) - ((p4 &&& (2147483647 : Int32)) / (9 : Int32)) * (9 : Int32))), .val (.ref b1), .unset, .unset, .unset, .unset] [(.int (((p2.toUInt32 >>> ((16 : Int32) &&& 31).toUInt32).toInt32).toInt8.toInt32)), (.int (10 : Int32)), (.ref b1)])) _
    refine st5 _ ?_
    show Steps p.tables e below (T5.setTop (mkF m 62 #[.val (.long q0), .second, .val (.long q1), .second, .val (.int p2), .val (.int p3), .val (.int p4), .val (.int ((p3 &&& (2147483647 : Int32)) - ((p3 &&& (2147483647 : Int32)) / (4 : Int32)) * (4 : Int32))), .val (.int ((p4 &&& (2147483647 : Int32)) - ((p4 &&& (2147483647 : Int32)) / (9 : Int32)) * (9 : Int32))), .val (.ref b1), .unset, .unset, .unset, .unset] [])) _
    refine XS.aload X5.here hx rfl (hb hby at_62) rfl rfl ?_
    show Steps p.tables e below (T5.setTop (mkF m 64 #[.val (.long q0), .second, .val (.long q1), .second, .val (.int p2), .val (.int p3), .val (.int p4), .val (.int ((p3 &&& (2147483647 : Int32)) - ((p3 &&& (2147483647 : Int32)) / (4 : Int32)) * (4 : Int32))), .val (.int ((p4 &&& (2147483647 : Int32)) - ((p4 &&& (2147483647 : Int32)) / (9 : Int32)) * (9 : Int32))), .val (.ref b1), .unset, .unset, .unset, .unset] [(.ref b1)])) _
    refine XS.iload X5.here hx rfl (hb hby at_64) rfl ?_
    show Steps p.tables e below (T5.setTop (mkF m 66 #[.val (.long q0), .second, .val (.long q1), .second, .val (.int p2), .val (.int p3), .val (.int p4), .val (.int ((p3 &&& (2147483647 : Int32)) - ((p3 &&& (2147483647 : Int32)) / (4 : Int32)) * (4 : Int32))), .val (.int ((p4 &&& (2147483647 : Int32)) - ((p4 &&& (2147483647 : Int32)) / (9 : Int32)) * (9 : Int32))), .val (.ref b1), .unset, .unset, .unset, .unset] [(.int ((p3 &&& (2147483647 : Int32)) - ((p3 &&& (2147483647 : Int32)) / (4 : Int32)) * (4 : Int32))), (.ref b1)])) _
    refine XS.lloadN X5.here hx rfl (hb hby at_66) rfl ?_
    show Steps p.tables e below (T5.setTop (mkF m 67 #[.val (.long q0), .second, .val (.long q1), .second, .val (.int p2), .val (.int p3), .val (.int p4), .val (.int ((p3 &&& (2147483647 : Int32)) - ((p3 &&& (2147483647 : Int32)) / (4 : Int32)) * (4 : Int32))), .val (.int ((p4 &&& (2147483647 : Int32)) - ((p4 &&& (2147483647 : Int32)) / (9 : Int32)) * (9 : Int32))), .val (.ref b1), .unset, .unset, .unset, .unset] [(.long q0), (.int ((p3 &&& (2147483647 : Int32)) - ((p3 &&& (2147483647 : Int32)) / (4 : Int32)) * (4 : Int32))), (.ref b1)])) _
    refine st6 _ ?_
    show Steps p.tables e below (T6.setTop (mkF m 70 #[.val (.long q0), .second, .val (.long q1), .second, .val (.int p2), .val (.int p3), .val (.int p4), .val (.int ((p3 &&& (2147483647 : Int32)) - ((p3 &&& (2147483647 : Int32)) / (4 : Int32)) * (4 : Int32))), .val (.int ((p4 &&& (2147483647 : Int32)) - ((p4 &&& (2147483647 : Int32)) / (9 : Int32)) * (9 : Int32))), .val (.ref b1), .unset, .unset, .unset, .unset] [])) _
    refine XS.iload X6.here hx rfl (hb hby at_70) rfl ?_
    show Steps p.tables e below (T6.setTop (mkF m 72 #[.val (.long q0), .second, .val (.long q1), .second, .val (.int p2), .val (.int p3), .val (.int p4), .val (.int ((p3 &&& (2147483647 : Int32)) - ((p3 &&& (2147483647 : Int32)) / (4 : Int32)) * (4 : Int32))), .val (.int ((p4 &&& (2147483647 : Int32)) - ((p4 &&& (2147483647 : Int32)) / (9 : Int32)) * (9 : Int32))), .val (.ref b1), .unset, .unset, .unset, .unset] [(.int ((p4 &&& (2147483647 : Int32)) - ((p4 &&& (2147483647 : Int32)) / (9 : Int32)) * (9 : Int32)))])) _
    refine XS.bipush X6.here hx rfl (hb hby at_72) ?_
    show Steps p.tables e below (T6.setTop (mkF m 74 #[.val (.long q0), .second, .val (.long q1), .second, .val (.int p2), .val (.int p3), .val (.int p4), .val (.int ((p3 &&& (2147483647 : Int32)) - ((p3 &&& (2147483647 : Int32)) / (4 : Int32)) * (4 : Int32))), .val (.int ((p4 &&& (2147483647 : Int32)) - ((p4 &&& (2147483647 : Int32)) / (9 : Int32)) * (9 : Int32))), .val (.ref b1), .unset, .unset, .unset, .unset] [(.int (8 : Int32)), (.int ((p4 &&& (2147483647 : Int32)) - ((p4 &&& (2147483647 : Int32)) / (9 : Int32)) * (9 : Int32)))])) _
    refine st8 _ ?_
    show Steps p.tables e below (T8.setTop (mkF m 92 #[.val (.long q0), .second, .val (.long q1), .second, .val (.int p2), .val (.int p3), .val (.int p4), .val (.int ((p3 &&& (2147483647 : Int32)) - ((p3 &&& (2147483647 : Int32)) / (4 : Int32)) * (4 : Int32))), .val (.int ((p4 &&& (2147483647 : Int32)) - ((p4 &&& (2147483647 : Int32)) / (9 : Int32)) * (9 : Int32))), .val (.ref b1), .unset, .unset, .unset, .unset] [(.long v8_s0)])) _
    refine XS.lstore X8.here hx rfl (hb hby at_92) rfl (l' := #[.val (.long q0), .second, .val (.long q1), .second, .val (.int p2), .val (.int p3), .val (.int p4), .val (.int ((p3 &&& (2147483647 : Int32)) - ((p3 &&& (2147483647 : Int32)) / (4 : Int32)) * (4 : Int32))), .val (.int ((p4 &&& (2147483647 : Int32)) - ((p4 &&& (2147483647 : Int32)) / (9 : Int32)) * (9 : Int32))), .val (.ref b1), .val (.long v8_s0), .second, .unset, .unset]) rfl ?_
    show Steps p.tables e below (T8.setTop (mkF m 94 #[.val (.long q0), .second, .val (.long q1), .second, .val (.int p2), .val (.int p3), .val (.int p4), .val (.int ((p3 &&& (2147483647 : Int32)) - ((p3 &&& (2147483647 : Int32)) / (4 : Int32)) * (4 : Int32))), .val (.int ((p4 &&& (2147483647 : Int32)) - ((p4 &&& (2147483647 : Int32)) / (9 : Int32)) * (9 : Int32))), .val (.ref b1), .val (.long v8_s0), .second, .unset, .unset] [])) _
    refine XS.lloadN X8.here hx rfl (hb hby at_94) rfl ?_
    show Steps p.tables e below (T8.setTop (mkF m 95 #[.val (.long q0), .second, .val (.long q1), .second, .val (.int p2), .val (.int p3), .val (.int p4), .val (.int ((p3 &&& (2147483647 : Int32)) - ((p3 &&& (2147483647 : Int32)) / (4 : Int32)) * (4 : Int32))), .val (.int ((p4 &&& (2147483647 : Int32)) - ((p4 &&& (2147483647 : Int32)) / (9 : Int32)) * (9 : Int32))), .val (.ref b1), .val (.long v8_s0), .second, .unset, .unset] [(.long q0)])) _
    refine XS.lload X8.here hx rfl (hb hby at_95) rfl ?_
    show Steps p.tables e below (T8.setTop (mkF m 97 #[.val (.long q0), .second, .val (.long q1), .second, .val (.int p2), .val (.int p3), .val (.int p4), .val (.int ((p3 &&& (2147483647 : Int32)) - ((p3 &&& (2147483647 : Int32)) / (4 : Int32)) * (4 : Int32))), .val (.int ((p4 &&& (2147483647 : Int32)) - ((p4 &&& (2147483647 : Int32)) / (9 : Int32)) * (9 : Int32))), .val (.ref b1), .val (.long v8_s0), .second, .unset, .unset] [(.long v8_s0), (.long q0)])) _
    refine XS.land X8.here hx rfl (hb hby at_97) rfl ?_
    show Steps p.tables e below (T8.setTop (mkF m 98 #[.val (.long q0), .second, .val (.long q1), .second, .val (.int p2), .val (.int p3), .val (.int p4), .val (.int ((p3 &&& (2147483647 : Int32)) - ((p3 &&& (2147483647 : Int32)) / (4 : Int32)) * (4 : Int32))), .val (.int ((p4 &&& (2147483647 : Int32)) - ((p4 &&& (2147483647 : Int32)) / (9 : Int32)) * (9 : Int32))), .val (.ref b1), .val (.long v8_s0), .second, .unset, .unset] [(.long (q0 &&& v8_s0))])) _
    refine XS.lstore X8.here hx rfl (hb hby at_98) rfl (l' := #[.val (.long q0), .second, .val (.long q1), .second, .val (.int p2), .val (.int p3), .val (.int p4), .val (.int ((p3 &&& (2147483647 : Int32)) - ((p3 &&& (2147483647 : Int32)) / (4 : Int32)) * (4 : Int32))), .val (.int ((p4 &&& (2147483647 : Int32)) - ((p4 &&& (2147483647 : Int32)) / (9 : Int32)) * (9 : Int32))), .val (.ref b1), .val (.long v8_s0), .second, .val (.long (q0 &&& v8_s0)), .second]) rfl ?_
    show Steps p.tables e below (T8.setTop (mkF m 100 #[.val (.long q0), .second, .val (.long q1), .second, .val (.int p2), .val (.int p3), .val (.int p4), .val (.int ((p3 &&& (2147483647 : Int32)) - ((p3 &&& (2147483647 : Int32)) / (4 : Int32)) * (4 : Int32))), .val (.int ((p4 &&& (2147483647 : Int32)) - ((p4 &&& (2147483647 : Int32)) / (9 : Int32)) * (9 : Int32))), .val (.ref b1), .val (.long v8_s0), .second, .val (.long (q0 &&& v8_s0)), .second] [])) _
    refine XS.aload X8.here hx rfl (hb hby at_100) rfl rfl ?_
    show Steps p.tables e below (T8.setTop (mkF m 102 #[.val (.long q0), .second, .val (.long q1), .second, .val (.int p2), .val (.int p3), .val (.int p4), .val (.int ((p3 &&& (2147483647 : Int32)) - ((p3 &&& (2147483647 : Int32)) / (4 : Int32)) * (4 : Int32))), .val (.int ((p4 &&& (2147483647 : Int32)) - ((p4 &&& (2147483647 : Int32)) / (9 : Int32)) * (9 : Int32))), .val (.ref b1), .val (.long v8_s0), .second, .val (.long (q0 &&& v8_s0)), .second] [(.ref b1)])) _
    refine XS.iload X8.here hx rfl (hb hby at_102) rfl ?_
    show Steps p.tables e below (T8.setTop (mkF m 104 #[.val (.long q0), .second, .val (.long q1), .second, .val (.int p2), .val (.int p3), .val (.int p4), .val (.int ((p3 &&& (2147483647 : Int32)) - ((p3 &&& (2147483647 : Int32)) / (4 : Int32)) * (4 : Int32))), .val (.int ((p4 &&& (2147483647 : Int32)) - ((p4 &&& (2147483647 : Int32)) / (9 : Int32)) * (9 : Int32))), .val (.ref b1), .val (.long v8_s0), .second, .val (.long (q0 &&& v8_s0)), .second] [(.int ((p3 &&& (2147483647 : Int32)) - ((p3 &&& (2147483647 : Int32)) / (4 : Int32)) * (4 : Int32))), (.ref b1)])) _
    refine XS.iload X8.here hx rfl (hb hby at_104) rfl ?_
    show Steps p.tables e below (T8.setTop (mkF m 106 #[.val (.long q0), .second, .val (.long q1), .second, .val (.int p2), .val (.int p3), .val (.int p4), .val (.int ((p3 &&& (2147483647 : Int32)) - ((p3 &&& (2147483647 : Int32)) / (4 : Int32)) * (4 : Int32))), .val (.int ((p4 &&& (2147483647 : Int32)) - ((p4 &&& (2147483647 : Int32)) / (9 : Int32)) * (9 : Int32))), .val (.ref b1), .val (.long v8_s0), .second, .val (.long (q0 &&& v8_s0)), .second] [(.int ((p4 &&& (2147483647 : Int32)) - ((p4 &&& (2147483647 : Int32)) / (9 : Int32)) * (9 : Int32))), (.int ((p3 &&& (2147483647 : Int32)) - ((p3 &&& (2147483647 : Int32)) / (4 : Int32)) * (4 : Int32))), (.ref b1)])) _
    refine st9 _ ?_
    show Steps p.tables e below (T9.setTop (mkF m 109 #[.val (.long q0), .second, .val (.long q1), .second, .val (.int p2), .val (.int p3), .val (.int p4), .val (.int ((p3 &&& (2147483647 : Int32)) - ((p3 &&& (2147483647 : Int32)) / (4 : Int32)) * (4 : Int32))), .val (.int ((p4 &&& (2147483647 : Int32)) - ((p4 &&& (2147483647 : Int32)) / (9 : Int32)) * (9 : Int32))), .val (.ref b1), .val (.long v8_s0), .second, .val (.long (q0 &&& v8_s0)), .second] [(.long (own_le ((((((((((((((((((([(.int (0 : Int32)), (.int (0 : Int32)), (.int (0 : Int32)), (.int (0 : Int32)), (.int (0 : Int32)), (.int (0 : Int32)), (.int (0 : Int32)), (.int (0 : Int32)), (.int (0 : Int32)), (.int (0 : Int32)), (.int (0 : Int32))].set (0 + 0) (.int (nar .byte ((q1.toInt32).toInt8.toInt32)))).set (0 + 1) (.int (nar .byte ((((q1.toUInt64 >>> ((8 : Int32) &&& 0x3f).toInt64.toUInt64).toInt64).toInt32).toInt8.toInt32)))).set (0 + 2) (.int (nar .byte ((((q1.toUInt64 >>> ((16 : Int32) &&& 0x3f).toInt64.toUInt64).toInt64).toInt32).toInt8.toInt32)))).set (0 + 3) (.int (nar .byte ((((q1.toUInt64 >>> ((24 : Int32) &&& 0x3f).toInt64.toUInt64).toInt64).toInt32).toInt8.toInt32)))).set (0 + 4) (.int (nar .byte ((((q1.toUInt64 >>> ((32 : Int32) &&& 0x3f).toInt64.toUInt64).toInt64).toInt32).toInt8.toInt32)))).set (0 + 5) (.int (nar .byte ((((q1.toUInt64 >>> ((40 : Int32) &&& 0x3f).toInt64.toUInt64).toInt64).toInt32).toInt8.toInt32)))).set (0 + 6) (.int (nar .byte ((((q1.toUInt64 >>> ((48 : Int32) &&& 0x3f).toInt64.toUInt64).toInt64).toInt32).toInt8.toInt32)))).set (0 + 7) (.int (nar .byte ((((q1.toUInt64 >>> ((56 : Int32) &&& 0x3f).toInt64.toUInt64).toInt64).toInt32).toInt8.toInt32)))).set 8 (.int (nar .byte (p2.toInt8.toInt32)))).set 9 (.int (nar .byte (((p2.toUInt32 >>> ((8 : Int32) &&& 31).toUInt32).toInt32).toInt8.toInt32)))).set 10 (.int (nar .byte (((p2.toUInt32 >>> ((16 : Int32) &&& 31).toUInt32).toInt32).toInt8.toInt32)))).set ((((p3 &&& (2147483647 : Int32)) - ((p3 &&& (2147483647 : Int32)) / (4 : Int32)) * (4 : Int32))).toInt.toNat + 0) (.int (nar .byte ((q0.toInt32).toInt8.toInt32)))).set ((((p3 &&& (2147483647 : Int32)) - ((p3 &&& (2147483647 : Int32)) / (4 : Int32)) * (4 : Int32))).toInt.toNat + 1) (.int (nar .byte ((((q0.toUInt64 >>> ((8 : Int32) &&& 0x3f).toInt64.toUInt64).toInt64).toInt32).toInt8.toInt32)))).set ((((p3 &&& (2147483647 : Int32)) - ((p3 &&& (2147483647 : Int32)) / (4 : Int32)) * (4 : Int32))).toInt.toNat + 2) (.int (nar .byte ((((q0.toUInt64 >>> ((16 : Int32) &&& 0x3f).toInt64.toUInt64).toInt64).toInt32).toInt8.toInt32)))).set ((((p3 &&& (2147483647 : Int32)) - ((p3 &&& (2147483647 : Int32)) / (4 : Int32)) * (4 : Int32))).toInt.toNat + 3) (.int (nar .byte ((((q0.toUInt64 >>> ((24 : Int32) &&& 0x3f).toInt64.toUInt64).toInt64).toInt32).toInt8.toInt32)))).set ((((p3 &&& (2147483647 : Int32)) - ((p3 &&& (2147483647 : Int32)) / (4 : Int32)) * (4 : Int32))).toInt.toNat + 4) (.int (nar .byte ((((q0.toUInt64 >>> ((32 : Int32) &&& 0x3f).toInt64.toUInt64).toInt64).toInt32).toInt8.toInt32)))).set ((((p3 &&& (2147483647 : Int32)) - ((p3 &&& (2147483647 : Int32)) / (4 : Int32)) * (4 : Int32))).toInt.toNat + 5) (.int (nar .byte ((((q0.toUInt64 >>> ((40 : Int32) &&& 0x3f).toInt64.toUInt64).toInt64).toInt32).toInt8.toInt32)))).set ((((p3 &&& (2147483647 : Int32)) - ((p3 &&& (2147483647 : Int32)) / (4 : Int32)) * (4 : Int32))).toInt.toNat + 6) (.int (nar .byte ((((q0.toUInt64 >>> ((48 : Int32) &&& 0x3f).toInt64.toUInt64).toInt64).toInt32).toInt8.toInt32)))).set ((((p3 &&& (2147483647 : Int32)) - ((p3 &&& (2147483647 : Int32)) / (4 : Int32)) * (4 : Int32))).toInt.toNat + 7) (.int (nar .byte ((((q0.toUInt64 >>> ((56 : Int32) &&& 0x3f).toInt64.toUInt64).toInt64).toInt32).toInt8.toInt32)))) ((p3 &&& (2147483647 : Int32)) - ((p3 &&& (2147483647 : Int32)) / (4 : Int32)) * (4 : Int32)) ((p4 &&& (2147483647 : Int32)) - ((p4 &&& (2147483647 : Int32)) / (9 : Int32)) * (9 : Int32)).toInt.toNat))])) _
    refine XS.lload X9.here hx rfl (hb hby at_109) rfl ?_
    show Steps p.tables e below (T9.setTop (mkF m 111 #[.val (.long q0), .second, .val (.long q1), .second, .val (.int p2), .val (.int p3), .val (.int p4), .val (.int ((p3 &&& (2147483647 : Int32)) - ((p3 &&& (2147483647 : Int32)) / (4 : Int32)) * (4 : Int32))), .val (.int ((p4 &&& (2147483647 : Int32)) - ((p4 &&& (2147483647 : Int32)) / (9 : Int32)) * (9 : Int32))), .val (.ref b1), .val (.long v8_s0), .second, .val (.long (q0 &&& v8_s0)), .second] [(.long (q0 &&& v8_s0)), (.long (own_le ((((((((((((((((((([(.int (0 : Int32)), (.int (0 : Int32)), (.int (0 : Int32)), (.int (0 : Int32)), (.int (0 : Int32)), (.int (0 : Int32)), (.int (0 : Int32)), (.int (0 : Int32)), (.int (0 : Int32)), (.int (0 : Int32)), (.int (0 : Int32))].set (0 + 0) (.int (nar .byte ((q1.toInt32).toInt8.toInt32)))).set (0 + 1) (.int (nar .byte ((((q1.toUInt64 >>> ((8 : Int32) &&& 0x3f).toInt64.toUInt64).toInt64).toInt32).toInt8.toInt32)))).set (0 + 2) (.int (nar .byte ((((q1.toUInt64 >>> ((16 : Int32) &&& 0x3f).toInt64.toUInt64).toInt64).toInt32).toInt8.toInt32)))).set (0 + 3) (.int (nar .byte ((((q1.toUInt64 >>> ((24 : Int32) &&& 0x3f).toInt64.toUInt64).toInt64).toInt32).toInt8.toInt32)))).set (0 + 4) (.int (nar .byte ((((q1.toUInt64 >>> ((32 : Int32) &&& 0x3f).toInt64.toUInt64).toInt64).toInt32).toInt8.toInt32)))).set (0 + 5) (.int (nar .byte ((((q1.toUInt64 >>> ((40 : Int32) &&& 0x3f).toInt64.toUInt64).toInt64).toInt32).toInt8.toInt32)))).set (0 + 6) (.int (nar .byte ((((q1.toUInt64 >>> ((48 : Int32) &&& 0x3f).toInt64.toUInt64).toInt64).toInt32).toInt8.toInt32)))).set (0 + 7) (.int (nar .byte ((((q1.toUInt64 >>> ((56 : Int32) &&& 0x3f).toInt64.toUInt64).toInt64).toInt32).toInt8.toInt32)))).set 8 (.int (nar .byte (p2.toInt8.toInt32)))).set 9 (.int (nar .byte (((p2.toUInt32 >>> ((8 : Int32) &&& 31).toUInt32).toInt32).toInt8.toInt32)))).set 10 (.int (nar .byte (((p2.toUInt32 >>> ((16 : Int32) &&& 31).toUInt32).toInt32).toInt8.toInt32)))).set ((((p3 &&& (2147483647 : Int32)) - ((p3 &&& (2147483647 : Int32)) / (4 : Int32)) * (4 : Int32))).toInt.toNat + 0) (.int (nar .byte ((q0.toInt32).toInt8.toInt32)))).set ((((p3 &&& (2147483647 : Int32)) - ((p3 &&& (2147483647 : Int32)) / (4 : Int32)) * (4 : Int32))).toInt.toNat + 1) (.int (nar .byte ((((q0.toUInt64 >>> ((8 : Int32) &&& 0x3f).toInt64.toUInt64).toInt64).toInt32).toInt8.toInt32)))).set ((((p3 &&& (2147483647 : Int32)) - ((p3 &&& (2147483647 : Int32)) / (4 : Int32)) * (4 : Int32))).toInt.toNat + 2) (.int (nar .byte ((((q0.toUInt64 >>> ((16 : Int32) &&& 0x3f).toInt64.toUInt64).toInt64).toInt32).toInt8.toInt32)))).set ((((p3 &&& (2147483647 : Int32)) - ((p3 &&& (2147483647 : Int32)) / (4 : Int32)) * (4 : Int32))).toInt.toNat + 3) (.int (nar .byte ((((q0.toUInt64 >>> ((24 : Int32) &&& 0x3f).toInt64.toUInt64).toInt64).toInt32).toInt8.toInt32)))).set ((((p3 &&& (2147483647 : Int32)) - ((p3 &&& (2147483647 : Int32)) / (4 : Int32)) * (4 : Int32))).toInt.toNat + 4) (.int (nar .byte ((((q0.toUInt64 >>> ((32 : Int32) &&& 0x3f).toInt64.toUInt64).toInt64).toInt32).toInt8.toInt32)))).set ((((p3 &&& (2147483647 : Int32)) - ((p3 &&& (2147483647 : Int32)) / (4 : Int32)) * (4 : Int32))).toInt.toNat + 5) (.int (nar .byte ((((q0.toUInt64 >>> ((40 : Int32) &&& 0x3f).toInt64.toUInt64).toInt64).toInt32).toInt8.toInt32)))).set ((((p3 &&& (2147483647 : Int32)) - ((p3 &&& (2147483647 : Int32)) / (4 : Int32)) * (4 : Int32))).toInt.toNat + 6) (.int (nar .byte ((((q0.toUInt64 >>> ((48 : Int32) &&& 0x3f).toInt64.toUInt64).toInt64).toInt32).toInt8.toInt32)))).set ((((p3 &&& (2147483647 : Int32)) - ((p3 &&& (2147483647 : Int32)) / (4 : Int32)) * (4 : Int32))).toInt.toNat + 7) (.int (nar .byte ((((q0.toUInt64 >>> ((56 : Int32) &&& 0x3f).toInt64.toUInt64).toInt64).toInt32).toInt8.toInt32)))) ((p3 &&& (2147483647 : Int32)) - ((p3 &&& (2147483647 : Int32)) / (4 : Int32)) * (4 : Int32)) ((p4 &&& (2147483647 : Int32)) - ((p4 &&& (2147483647 : Int32)) / (9 : Int32)) * (9 : Int32)).toInt.toNat))])) _
    refine XS.lcmp X9.here hx rfl (hb hby at_111) rfl ?_
    show Steps p.tables e below (T9.setTop (mkF m 112 #[.val (.long q0), .second, .val (.long q1), .second, .val (.int p2), .val (.int p3), .val (.int p4), .val (.int ((p3 &&& (2147483647 : Int32)) - ((p3 &&& (2147483647 : Int32)) / (4 : Int32)) * (4 : Int32))), .val (.int ((p4 &&& (2147483647 : Int32)) - ((p4 &&& (2147483647 : Int32)) / (9 : Int32)) * (9 : Int32))), .val (.ref b1), .val (.long v8_s0), .second, .val (.long (q0 &&& v8_s0)), .second] [(.int (lcmpW (own_le ((((((((((((((((((([(.int (0 : Int32)), (.int (0 : Int32)), (.int (0 : Int32)), (.int (0 : Int32)), (.int (0 : Int32)), (.int (0 : Int32)), (.int (0 : Int32)), (.int (0 : Int32)), (.int (0 : Int32)), (.int (0 : Int32)), (.int (0 : Int32))].set (0 + 0) (.int (nar .byte ((q1.toInt32).toInt8.toInt32)))).set (0 + 1) (.int (nar .byte ((((q1.toUInt64 >>> ((8 : Int32) &&& 0x3f).toInt64.toUInt64).toInt64).toInt32).toInt8.toInt32)))).set (0 + 2) (.int (nar .byte ((((q1.toUInt64 >>> ((16 : Int32) &&& 0x3f).toInt64.toUInt64).toInt64).toInt32).toInt8.toInt32)))).set (0 + 3) (.int (nar .byte ((((q1.toUInt64 >>> ((24 : Int32) &&& 0x3f).toInt64.toUInt64).toInt64).toInt32).toInt8.toInt32)))).set (0 + 4) (.int (nar .byte ((((q1.toUInt64 >>> ((32 : Int32) &&& 0x3f).toInt64.toUInt64).toInt64).toInt32).toInt8.toInt32)))).set (0 + 5) (.int (nar .byte ((((q1.toUInt64 >>> ((40 : Int32) &&& 0x3f).toInt64.toUInt64).toInt64).toInt32).toInt8.toInt32)))).set (0 + 6) (.int (nar .byte ((((q1.toUInt64 >>> ((48 : Int32) &&& 0x3f).toInt64.toUInt64).toInt64).toInt32).toInt8.toInt32)))).set (0 + 7) (.int (nar .byte ((((q1.toUInt64 >>> ((56 : Int32) &&& 0x3f).toInt64.toUInt64).toInt64).toInt32).toInt8.toInt32)))).set 8 (.int (nar .byte (p2.toInt8.toInt32)))).set 9 (.int (nar .byte (((p2.toUInt32 >>> ((8 : Int32) &&& 31).toUInt32).toInt32).toInt8.toInt32)))).set 10 (.int (nar .byte (((p2.toUInt32 >>> ((16 : Int32) &&& 31).toUInt32).toInt32).toInt8.toInt32)))).set ((((p3 &&& (2147483647 : Int32)) - ((p3 &&& (2147483647 : Int32)) / (4 : Int32)) * (4 : Int32))).toInt.toNat + 0) (.int (nar .byte ((q0.toInt32).toInt8.toInt32)))).set ((((p3 &&& (2147483647 : Int32)) - ((p3 &&& (2147483647 : Int32)) / (4 : Int32)) * (4 : Int32))).toInt.toNat + 1) (.int (nar .byte ((((q0.toUInt64 >>> ((8 : Int32) &&& 0x3f).toInt64.toUInt64).toInt64).toInt32).toInt8.toInt32)))).set ((((p3 &&& (2147483647 : Int32)) - ((p3 &&& (2147483647 : Int32)) / (4 : Int32)) * (4 : Int32))).toInt.toNat + 2) (.int (nar .byte ((((q0.toUInt64 >>> ((16 : Int32) &&& 0x3f).toInt64.toUInt64).toInt64).toInt32).toInt8.toInt32)))).set ((((p3 &&& (2147483647 : Int32)) - ((p3 &&& (2147483647 : Int32)) / (4 : Int32)) * (4 : Int32))).toInt.toNat + 3) (.int (nar .byte ((((q0.toUInt64 >>> ((24 : Int32) &&& 0x3f).toInt64.toUInt64).toInt64).toInt32).toInt8.toInt32)))).set ((((p3 &&& (2147483647 : Int32)) - ((p3 &&& (2147483647 : Int32)) / (4 : Int32)) * (4 : Int32))).toInt.toNat + 4) (.int (nar .byte ((((q0.toUInt64 >>> ((32 : Int32) &&& 0x3f).toInt64.toUInt64).toInt64).toInt32).toInt8.toInt32)))).set ((((p3 &&& (2147483647 : Int32)) - ((p3 &&& (2147483647 : Int32)) / (4 : Int32)) * (4 : Int32))).toInt.toNat + 5) (.int (nar .byte ((((q0.toUInt64 >>> ((40 : Int32) &&& 0x3f).toInt64.toUInt64).toInt64).toInt32).toInt8.toInt32)))).set ((((p3 &&& (2147483647 : Int32)) - ((p3 &&& (2147483647 : Int32)) / (4 : Int32)) * (4 : Int32))).toInt.toNat + 6) (.int (nar .byte ((((q0.toUInt64 >>> ((48 : Int32) &&& 0x3f).toInt64.toUInt64).toInt64).toInt32).toInt8.toInt32)))).set ((((p3 &&& (2147483647 : Int32)) - ((p3 &&& (2147483647 : Int32)) / (4 : Int32)) * (4 : Int32))).toInt.toNat + 7) (.int (nar .byte ((((q0.toUInt64 >>> ((56 : Int32) &&& 0x3f).toInt64.toUInt64).toInt64).toInt32).toInt8.toInt32)))) ((p3 &&& (2147483647 : Int32)) - ((p3 &&& (2147483647 : Int32)) / (4 : Int32)) * (4 : Int32)) ((p4 &&& (2147483647 : Int32)) - ((p4 &&& (2147483647 : Int32)) / (9 : Int32)) * (9 : Int32)).toInt.toNat) (q0 &&& v8_s0)))])) _
    refine st11 _ ?_
    show Steps p.tables e below (T11.setTop (mkF m 120 #[.val (.long q0), .second, .val (.long q1), .second, .val (.int p2), .val (.int p3), .val (.int p4), .val (.int ((p3 &&& (2147483647 : Int32)) - ((p3 &&& (2147483647 : Int32)) / (4 : Int32)) * (4 : Int32))), .val (.int ((p4 &&& (2147483647 : Int32)) - ((p4 &&& (2147483647 : Int32)) / (9 : Int32)) * (9 : Int32))), .val (.ref b1), .val (.long v8_s0), .second, .val (.long (q0 &&& v8_s0)), .second] [(.int v11_s0)])) _
    exact retN X11 hx (t := .boolean) Bd.returns (by simp) (hb hby at_120) hr
  · exact ⟨congrArg (fun z => some (Value.int z)) hfin, N6⟩
set_option maxRecDepth 65536 in
set_option maxHeartbeats 40000000 in
theorem comes_1 {Post : Tables → Env → Array Value → State → Outcome → State → Prop} (hpost : ∀ tb e args s v u, (limb_1_1.after args s (.returned v) u = true ∧ limb_1_2.after args s (.returned v) u = true ∧ True) → FrameEnd s (.returned v) u (Jvm.fieldLocs frame_1_writes args s ++ Jvm.arrayLocs frame_1_arrays args s ++ Jvm.staticLocs frame_1_statics s) 16 128 → Post tb e args s (.returned v) u) :
    ArmFor flags0 classFile x code maxLocals ret World_1 tables_1 room_1 Calls_1 rest_1 Pre_1 Post := by
  intro l hfl _ _ p e ha hc hk s m args below hf hA hF happ hP
  obtain ⟨hcalls, hrest, hpre⟩ := hP
  obtain ⟨-, -, -, hnamed, -, -, -, hat⟩ := (Spec.applies_iff hf).mp happ
  obtain ⟨hg, hn⟩ := and_e (Cond.before_iff.mp (show (Jvm.Cond.and given_1 narrow_1).before args s = true from hpre))
  obtain ⟨gg1, gg2⟩ := and_e hg
  obtain ⟨gg3, gg4⟩ := and_e gg2
  obtain ⟨gg5, gg6⟩ := and_e gg4
  obtain ⟨gg7, gg8⟩ := and_e gg6
  obtain ⟨gg9, gg10⟩ := and_e gg8
  obtain ⟨w0, w1, w2, w3, w4, rfl⟩ : ∃ w0 w1 w2 w3 w4 : Value, args = #[w0, w1, w2, w3, w4] := by
    have hs : args.size = 5 := by simpa [Cond.value, given_1] using gg1
    obtain ⟨L⟩ := args
    match L, hs with
    | [w0, w1, w2, w3, w4], _ => exact ⟨w0, w1, w2, w3, w4, rfl⟩
  have hw := fun d (hd : d ∈ tables_1) => atoms_spec (ws := Jvm.Cond.code x code maxLocals ret :: tables_1) hat d (List.mem_cons_of_mem _ hd)
  obtain ⟨i0, ei0⟩ := isL_v gg3
  obtain rfl : w0 = (.long i0) := Option.some.inj ei0
  obtain ⟨i1, ei1⟩ := isL_v gg5
  obtain rfl : w1 = (.long i1) := Option.some.inj ei1
  obtain ⟨i2, ei2⟩ := is_v gg7
  obtain rfl : w2 = (.int i2) := Option.some.inj ei2
  obtain ⟨i3, ei3⟩ := is_v gg9
  obtain rfl : w3 = (.int i3) := Option.some.inj ei3
  obtain ⟨i4, ei4⟩ := is_v gg10
  obtain rfl : w4 = (.int i4) := Option.some.inj ei4
  obtain ⟨n, o, h1, h2, h3, _, L, rfl, ⟨rfl, N⟩, hq⟩ := rm0 l s _ hw tables_1 i0 i1 i2 i3 i4 s.heap s.heap.size (Nat.le_refl _) p e ha hc hk s m _ below hf ((Spec.applies_iff_loose hf).mp happ).1 ⟨rfl, State.Warmed39.refl s, rfl⟩ trivial
  refine ⟨n, _, h1, h2, h3, hpost _ _ _ _ _ _ ⟨Cond.after_iff.mpr rfl, Cond.after_iff.mpr (eq_i res_at (Term.int_eval (1)) rfl), trivial⟩ ⟨hq.1, hq.2.1, (hq.2.2.sift fun y hy => Or.inr (N y hy)).mono (by decide) (by decide)⟩⟩
theorem main_1_1 : Claimed_1_1 := comes_1 fun _ _ _ _ _ _ h hF => ⟨h.1, hF⟩
theorem main_1_2 : Claimed_1_2 := comes_1 fun _ _ _ _ _ _ h hF => ⟨h.2.1, hF⟩
end Jvm.Pilot.@@N@@
namespace Jvm.Pilot.@@N@@
open Jvm Jvm.ClassFile Sem Op Lib Jvm.Free Jvm.Stand Jvm.Pilot.@@N@@.Jvm.D
/-! MADE BY PROGRAM (witnessworld.py) out of the Statement's table words and the real class files: 12 classes; the members and pool entries that the words name. The judged class is class 1, her method 2. -/
namespace start1
open Jvm.ClassFile
def u (s : String) : CpInfo := .utf8 (stringToUtf16 s)
/-- a pool by its gaps: so many unusable entries, then the entry; so many at the end -/
def gap : Nat → List CpInfo → List CpInfo
  | 0, r => r
  | n + 1, r => .unusable :: gap n r
def poolList (es : List (Nat × CpInfo)) (last : Nat) : List CpInfo := es.foldr (fun e r => gap e.1 (e.2 :: r)) (gap last [])
def pool (es : List (Nat × CpInfo)) (last : Nat) : Array CpInfo := ⟨poolList es last⟩
def fileOf (pool : Array CpInfo) (this : Nat) (attrs : Array Attribute := #[]) (ms : Array MethodInfo := #[]) (fl : Nat := 33) (sup : Nat := 0) (ifs : Array Nat := #[]) (fds : Array FieldInfo := #[]) : ClassFile where
  minorVersion := 0
  majorVersion := 65
  constantPool := pool
  accessFlags := fl
  thisClass := this
  superClass := sup
  interfaces := ifs
  fields := fds
  methods := ms
  attributes := attrs
def plain (name : String) (sup : Option ClassId) : Class where
  name := name
  kind := .ordinary
  loader := none
  accessFlags := 33
  super := sup
  interfaces := #[]
  cf := none
  fields := #[]
  methods := #[]
  instanceTypes := #[]
  staticTypes := #[]
  resolved := #[]
  callSites := []
  init := .initialized
  statics := none
  mirror := none

def pool0 : Array CpInfo := pool [(5, u "<init>"), (0, u "()V"), (1, .class_ 10), (1, u "java/lang/Object")] 113

def k0m0 : Method := { name := "<init>", desc := "()V", sig := { parameters := [], returnType := none }, accessFlags := 1, code := none }
/-- java/lang/Object -/
def k0 : Class := { plain "java/lang/Object" none with
  accessFlags := 33
  interfaces := #[]
  cf := some (fileOf pool0 8 #[] #[{ accessFlags := 1, nameIndex := 5, descriptorIndex := 6, attributes := #[] }] 33 0 #[] #[])
  fields := #[]
  methods := #[k0m0]
  instanceTypes := #[]
  staticTypes := #[]
  resolved := Array.replicate 124 none
  statics := none }

def pool1 : Array CpInfo := pool [(2, .class_ 4), (1, u "java/lang/Object"), (0, u "<init>"), (0, u "()V"), (0, .integer 2147483647), (0, .methodref 9 10), (0, .class_ 11), (0, .nameAndType 12 13), (0, u "com/example/ledgerline/ledgerline/storage/compression/DecompressingInputLittleEndianPinLaw"), (0, u "putLong"), (0, u "([BIJ)V"), (0, .long 18446744073709551615), (1, .methodref 17 18), (0, .class_ 19), (0, .nameAndType 20 21), (0, u "com/example/ledgerline/ledgerline/storage/compression/DecompressingInput"), (0, u "littleEndian"), (0, u "([BII)J"), (2, u "law"), (0, u "(JJIII)Z")] 5

def k1m0 : Method := { name := "<init>", desc := "()V", sig := { parameters := [], returnType := none }, accessFlags := 1, code := none }
def k1c1 : Code := { maxStack := 5, maxLocals := 4, code := method_2_code, exceptionTable := #[], attributes := #[] }
def k1m1 : Method := { name := "putLong", desc := "([BIJ)V", sig := { parameters := [(.array .byte), .int, .long], returnType := none }, accessFlags := 10, code := some k1c1 }
def k1c2 : Code := { maxStack := 4, maxLocals := 14, code := code, exceptionTable := #[], attributes := #[] }
def k1m2 : Method := { name := "law", desc := "(JJIII)Z", sig := { parameters := [.long, .long, .int, .int, .int], returnType := some .boolean }, accessFlags := 9, code := some k1c2 }
/-- com/example/ledgerline/ledgerline/storage/compression/DecompressingInputLittleEndianPinLaw -/
def k1 : Class := { plain "com/example/ledgerline/ledgerline/storage/compression/DecompressingInputLittleEndianPinLaw" (some 0) with
  accessFlags := 49
  interfaces := #[]
  cf := some (fileOf pool1 9 #[] #[{ accessFlags := 1, nameIndex := 5, descriptorIndex := 6, attributes := #[] }, { accessFlags := 10, nameIndex := 12, descriptorIndex := 13, attributes := #[] }, { accessFlags := 9, nameIndex := 24, descriptorIndex := 25, attributes := #[] }] 49 2 #[] #[])
  fields := #[]
  methods := #[k1m0, k1m1, k1m2]
  instanceTypes := #[]
  staticTypes := #[]
  resolved := Array.replicate 31 none
  statics := none }

def pool2 : Array CpInfo := pool [(1, .class_ 2), (0, u "java/lang/AutoCloseable"), (0, .class_ 4), (0, u "java/lang/Object")] 7

/-- java/lang/AutoCloseable -/
def k2 : Class := { plain "java/lang/AutoCloseable" (some 0) with
  accessFlags := 1537
  interfaces := #[]
  cf := some (fileOf pool2 1 #[] #[] 1537 3 #[] #[])
  fields := #[]
  methods := #[]
  instanceTypes := #[]
  staticTypes := #[]
  resolved := Array.replicate 12 none
  statics := none }

def pool3 : Array CpInfo := pool [(1, .class_ 2), (0, u "java/io/Closeable"), (0, .class_ 4), (0, u "java/lang/Object"), (0, .class_ 6), (0, u "java/lang/AutoCloseable")] 7

/-- java/io/Closeable -/
def k3 : Class := { plain "java/io/Closeable" (some 0) with
  accessFlags := 1537
  interfaces := #[2]
  cf := some (fileOf pool3 1 #[] #[] 1537 3 #[5] #[])
  fields := #[]
  methods := #[]
  instanceTypes := #[]
  staticTypes := #[]
  resolved := Array.replicate 14 none
  statics := none }

def pool4 : Array CpInfo := pool [(4, .class_ 6), (1, u "java/lang/Object"), (0, u "<init>"), (0, u "()V"), (0, .class_ 10), (0, u "java/io/InputStream$1"), (2, .class_ 15), (1, u "java/io/InputStream"), (116, .class_ 133), (0, u "java/io/Closeable"), (0, u "MAX_SKIP_BUFFER_SIZE"), (0, u "I"), (2, u "DEFAULT_BUFFER_SIZE"), (1, u "MAX_BUFFER_SIZE")] 54

def k4m0 : Method := { name := "<init>", desc := "()V", sig := { parameters := [], returnType := none }, accessFlags := 1, code := none }
/-- java/io/InputStream -/
def k4 : Class := { plain "java/io/InputStream" (some 0) with
  accessFlags := 1057
  interfaces := #[3]
  cf := some (fileOf pool4 13 #[.nestMembers #[9]] #[{ accessFlags := 1, nameIndex := 7, descriptorIndex := 8, attributes := #[] }] 1057 4 #[132] #[{ accessFlags := 26, nameIndex := 134, descriptorIndex := 135, attributes := #[] }, { accessFlags := 26, nameIndex := 138, descriptorIndex := 135, attributes := #[] }, { accessFlags := 26, nameIndex := 140, descriptorIndex := 135, attributes := #[] }])
  fields := #[{ name := "MAX_SKIP_BUFFER_SIZE", type := .int, accessFlags := 26, slot := 0, constantValue := 0 }, { name := "DEFAULT_BUFFER_SIZE", type := .int, accessFlags := 26, slot := 1, constantValue := 0 }, { name := "MAX_BUFFER_SIZE", type := .int, accessFlags := 26, slot := 2, constantValue := 0 }]
  methods := #[k4m0]
  instanceTypes := #[]
  staticTypes := #[.int, .int, .int]
  resolved := Array.replicate 195 none
  statics := none }

def pool5 : Array CpInfo := pool [(2, .class_ 4), (1, u "java/io/InputStream"), (3, .class_ 10), (1, u "com/example/ledgerline/ledgerline/storage/compression/DecompressingInput"), (0, u "in"), (0, u "Ljava/io/InputStream;"), (2, u "exact"), (0, u "Z"), (6, u "records"), (0, u "Ljava/lang/String;"), (3, u "cutShort"), (29, u "frameBegun"), (19, u "littleEndian"), (0, u "([BII)J"), (35, .long 255), (1, u "SKIPPABLE_MAGIC"), (0, u "J")] 39

def k5c0 : Code := { maxStack := 6, maxLocals := 6, code := prog_334_method_16_code, exceptionTable := #[], attributes := #[] }
def k5m0 : Method := { name := "littleEndian", desc := "([BII)J", sig := { parameters := [(.array .byte), .int, .int], returnType := some .long }, accessFlags := 8, code := some k5c0 }
/-- com/example/ledgerline/ledgerline/storage/compression/DecompressingInput -/
def k5 : Class := { plain "com/example/ledgerline/ledgerline/storage/compression/DecompressingInput" (some 4) with
  accessFlags := 1056
  interfaces := #[]
  cf := some (fileOf pool5 8 #[] #[{ accessFlags := 8, nameIndex := 78, descriptorIndex := 79, attributes := #[] }] 1056 2 #[] #[{ accessFlags := 26, nameIndex := 117, descriptorIndex := 118, attributes := #[] }, { accessFlags := 16, nameIndex := 11, descriptorIndex := 12, attributes := #[] }, { accessFlags := 16, nameIndex := 15, descriptorIndex := 16, attributes := #[] }, { accessFlags := 18, nameIndex := 23, descriptorIndex := 24, attributes := #[] }, { accessFlags := 18, nameIndex := 28, descriptorIndex := 24, attributes := #[] }, { accessFlags := 2, nameIndex := 58, descriptorIndex := 16, attributes := #[] }])
  fields := #[{ name := "SKIPPABLE_MAGIC", type := .long, accessFlags := 26, slot := 0, constantValue := 0 }, { name := "in", type := (.object "java/io/InputStream"), accessFlags := 16, slot := 0, constantValue := 0 }, { name := "exact", type := .boolean, accessFlags := 16, slot := 1, constantValue := 0 }, { name := "records", type := (.object "java/lang/String"), accessFlags := 18, slot := 2, constantValue := 0 }, { name := "cutShort", type := (.object "java/lang/String"), accessFlags := 18, slot := 3, constantValue := 0 }, { name := "frameBegun", type := .boolean, accessFlags := 2, slot := 4, constantValue := 0 }]
  methods := #[k5m0]
  instanceTypes := #[(.object "java/io/InputStream"), .boolean, (.object "java/lang/String"), (.object "java/lang/String"), .boolean]
  staticTypes := #[.long]
  resolved := Array.replicate 158 none
  statics := none }

def pool6 : Array CpInfo := pool [(1, u "java/lang/Cloneable"), (0, .class_ 1), (0, u "java/lang/Object"), (0, .class_ 3)] 3

/-- java/lang/Cloneable -/
def k6 : Class := { plain "java/lang/Cloneable" (some 0) with
  accessFlags := 1537
  interfaces := #[]
  cf := some (fileOf pool6 2 #[] #[] 1537 4 #[] #[])
  fields := #[]
  methods := #[]
  instanceTypes := #[]
  staticTypes := #[]
  resolved := Array.replicate 8 none
  statics := none }

def pool7 : Array CpInfo := pool [(1, u "java/io/Serializable"), (0, .class_ 1), (0, u "java/lang/Object"), (0, .class_ 3)] 3

/-- java/io/Serializable -/
def k7 : Class := { plain "java/io/Serializable" (some 0) with
  accessFlags := 1537
  interfaces := #[]
  cf := some (fileOf pool7 2 #[] #[] 1537 4 #[] #[])
  fields := #[]
  methods := #[]
  instanceTypes := #[]
  staticTypes := #[]
  resolved := Array.replicate 8 none
  statics := none }

/-- the primitive byte -/
def k8 : Class := { plain "byte" none with kind := .primitive 'B', accessFlags := 0x411 }
/-- [B -/
def k9 : Class := { plain "[B" (some 0) with kind := .array 8 .byte, interfaces := #[6, 7], accessFlags := 1041 }

/-- the primitive int -/
def k10 : Class := { plain "int" none with kind := .primitive 'I', accessFlags := 0x411 }
/-- [I -/
def k11 : Class := { plain "[I" (some 0) with kind := .array 10 .int, interfaces := #[6, 7], accessFlags := 1041 }

def heap : Heap := #[]
def classes : Array Class := #[k0, k1, k2, k3, k4, k5, k6, k7, k8, k9, k10, k11]
def interned : List (Array UInt16 × Addr) := []
def slotsUsed : Nat := 0
def theMethod : MethodId := ⟨1, 2⟩
def args0 : Array Value := #[.long 5, .long 5, .int 5, .int 5, .int 5]
def aboutOver (below : List Frame) : State where
  vm := { classes := classes, interned := interned.toArray }
  heap := heap
  slotsUsed := slotsUsed
  threads := #[{ frames := .invoking theMethod args0 :: below }]
def below0 : List Frame := [.native { method := ⟨0, 0⟩, args := #[] }]
def about1 : State := aboutOver below0
def p0 : Program := .bare "" "" ""
def e0 : Env := launch0.env 0 0 0
theorem w_frames : about1.frames = Frame.invoking theMethod args0 :: below0 := rfl
set_option maxRecDepth 65536 in
theorem w_args : argsFit about1.vm theMethod args0 = true := by decide +kernel
set_option maxRecDepth 65536 in
theorem w_heap : heapFits about1 = true := by decide +kernel
set_option maxRecDepth 65536 in
theorem w_runnable : about1.curStatus? = some .runnable := by decide +kernel
set_option maxRecDepth 65536 in
theorem w_alone : about1.alone = true := by decide +kernel
set_option maxRecDepth 65536 in
theorem w_named : about1.methodNamed? x = some theMethod := by decide +kernel
set_option maxRecDepth 65536 in
theorem w_hears : about1.hears theMethod below0 = true := by decide +kernel
set_option maxRecDepth 65536 in
theorem w_ripe : about1.ripe theMethod args0 below0 = true := by decide +kernel
theorem w_running : about1.status = .running := rfl
set_option maxRecDepth 65536 in
theorem w_room : about1.hasRoom e0.platform room_1 = true :=
  launch0.hasRoom_least _ room_1 (by decide +kernel) (by decide +kernel) (by decide +kernel) (by decide +kernel) (by decide +kernel) (by decide +kernel)
theorem allAtoms_all (ts : List Jvm.Cond) (a : Array Jvm.Value) (st : Jvm.State) : (allAtoms ts).before a st = ts.all (fun c => c.before a st) := by
  induction ts with
  | nil => rfl
  | cons c t ih =>
    show (Jvm.Cond.and c (allAtoms t)).before a st = _
    rw [Jvm.Cond.before_and, ih, List.all_cons]
def words1 : List Jvm.Cond := Jvm.Cond.code x code maxLocals ret :: tables_1
/-- a 'code' word, met by the world's own term for the bytes: nothing is compared byte by byte -/
theorem code_word {y : MethodName} {bytes : ByteArray} {mx : Nat} {rt : Option FieldType} {a : Array Value} {s : State} {m : MethodId} {meth : Method} {c : Code} (h1 : s.methodNamed? y = some m) (h2 : s.vm.method? m = some meth) (h3 : meth.code = some c) (h4 : c.code = bytes)
    (h5 : (c.maxLocals == mx && c.exceptionTable.isEmpty && decide (c.maxStack ≤ mostOperands) && decide (meth.sig.returnType = rt) && !meth.locks && decide (parseMethodDescriptor y.desc = some meth.sig)) = true) : (Jvm.Cond.code y bytes mx rt).before a s = true := by
  simp only [Bool.and_eq_true, beq_iff_eq, Bool.not_eq_true', decide_eq_true_eq] at h5
  obtain ⟨⟨⟨⟨⟨g1, g2⟩, g3⟩, g4⟩, g5⟩, g6⟩ := h5
  simp [Cond.before, Cond.holds, Cond.value, h1, h2, h3, h4, g1, g2, g3, g4, g5, g6]
def isCode : Jvm.Cond → Bool
  | .code _ _ _ _ => true
  | _ => false
theorem all_split {L : List Jvm.Cond} {P : Jvm.Cond → Bool} (h1 : L.all (fun c => isCode c || P c) = true) (h2 : ∀ c ∈ L.filter isCode, P c = true) : L.all P = true := by
  refine List.all_eq_true.mpr fun c hc => ?_
  have h := List.all_eq_true.mp h1 c hc
  rcases Bool.eq_false_or_eq_true (isCode c) with hi | hi
  · exact h2 c (List.mem_filter.mpr ⟨hc, hi⟩)
  · simpa [hi] using h
set_option maxRecDepth 65536 in
theorem w_c0 : (Jvm.Cond.code x code maxLocals ret).before args0 about1 = true := code_word (m := ⟨1, 2⟩) (meth := k1m2) (c := k1c2) (by decide +kernel) rfl rfl rfl (by decide +kernel)
set_option maxRecDepth 65536 in
theorem w_c1 : (Jvm.Cond.code ({ cls := "com/example/ledgerline/ledgerline/storage/compression/DecompressingInputLittleEndianPinLaw", name := "putLong", desc := "([BIJ)V" } : Jvm.MethodName) method_2_code (4 : Nat) (Option.none : Option Jvm.ClassFile.FieldType)).before args0 about1 = true := code_word (m := ⟨1, 1⟩) (meth := k1m1) (c := k1c1) (by decide +kernel) rfl rfl rfl (by decide +kernel)
set_option maxRecDepth 65536 in
theorem w_c2 : (Jvm.Cond.code ({ cls := "com/example/ledgerline/ledgerline/storage/compression/DecompressingInput", name := "littleEndian", desc := "([BII)J" } : Jvm.MethodName) prog_334_method_16_code (6 : Nat) (Option.some Jvm.ClassFile.FieldType.long)).before args0 about1 = true := code_word (m := ⟨5, 0⟩) (meth := k5m0) (c := k5c0) (by decide +kernel) rfl rfl rfl (by decide +kernel)
def codes1 : List Jvm.Cond := [Jvm.Cond.code x code maxLocals ret, Jvm.Cond.code ({ cls := "com/example/ledgerline/ledgerline/storage/compression/DecompressingInputLittleEndianPinLaw", name := "putLong", desc := "([BIJ)V" } : Jvm.MethodName) method_2_code (4 : Nat) (Option.none : Option Jvm.ClassFile.FieldType), Jvm.Cond.code ({ cls := "com/example/ledgerline/ledgerline/storage/compression/DecompressingInput", name := "littleEndian", desc := "([BII)J" } : Jvm.MethodName) prog_334_method_16_code (6 : Nat) (Option.some Jvm.ClassFile.FieldType.long)]
set_option maxRecDepth 65536 in
theorem codes_eq : words1.filter isCode = codes1 := rfl
theorem w_codes : ∀ c ∈ words1.filter isCode, c.before args0 about1 = true := by
  rw [codes_eq]
  intro c hc
  simp only [codes1, List.mem_cons, List.not_mem_nil, or_false] at hc
  rcases hc with rfl | rfl | rfl
  · exact w_c0
  · exact w_c1
  · exact w_c2
set_option maxRecDepth 65536 in
theorem w_t1 : words1.all (fun c => isCode c || c.before args0 about1) = true := by decide +kernel
theorem w_tables : (allAtoms (Jvm.Cond.code x code maxLocals ret :: tables_1)).before args0 about1 = true := by
  rw [allAtoms_all]
  show words1.all (fun c => c.before args0 about1) = true
  refine all_split ?_ w_codes
  rw [w_t1]
set_option maxRecDepth 65536 in
theorem w_case : (Jvm.Cond.and given_1 narrow_1).before args0 about1 = true := by decide +kernel
theorem w_applies : (headSpec (Jvm.Cond.code x code maxLocals ret :: tables_1) room_1).applies x e0.platform about1 = true :=
  (Spec.applies_iff w_frames).mpr ⟨w_running, w_runnable, w_alone, w_named, w_hears, w_ripe, w_room, w_tables⟩
theorem atStart : AtStart classFile x code maxLocals ret World_1 tables_1 room_1 Calls_1 rest_1 Pre_1 launch0 p0 e0 about1 theMethod args0 below0 :=
  ⟨lists_1, trivial, launch0.admits_env _ _ _, launch0.least_env, fairChoices_fair.cas, fairChoices_fair.clock, w_frames, w_args, w_heap, w_applies, trivial, trivial, w_case⟩
end start1
theorem witness_1 : WitnessClaimed_1 := ⟨start1.p0, start1.e0, start1.about1, start1.theMethod, start1.args0, start1.below0, start1.atStart⟩
end Jvm.Pilot.@@N@@
