import JvmDerived
import JvmDerived.Pilot.@@N@@Statement
import JvmDerived.Pilot.@@N@@Code
set_option linter.unusedVariables false
set_option linter.unusedSimpArgs false
@@BLOCK:NumsL.lean.txt@@
namespace Jvm.RoadKit
open Sem ClassFile Op Lib Jvm.Stand Jvm.Free Jvm.LawKit
section New
variable {p : Program} {l : Launch} {e : Env} {R : Room} {s : State} {m : MethodId} {args : Array Value} {below : List Frame} {meth : Method} {c : Code} {T : State} {locs : List Loc} {cells slots : Nat}
theorem retI (X : Stand p l e R s m args below meth c T locs cells slots) (hx : p.tables.exec = Jvm.exec) {pc : Nat} {Ls : Array Slot} {z : Int32} {rest : List Value} (hret : meth.sig.returnType = some .int) (hd : decode c.code pc = .ok (.ireturn, 1)) {fs : List Frame}
    (hl : ∀ (f : JFrame) (acts : List Action), f.method = m → f.locked = none → f.entered = [] → (doReturn e (T.setTop f) acts (some (.int z))).1 = T.setFrames fs) : Steps p.tables e below (T.setTop (mkF m pc Ls (.int z :: rest))) (T.setFrames fs) := by
  have hm' : T.vm.method? m = some meth := X.method'
  have hn : narrow .int (.int z) = .int z := rfl
  show Steps p.tables e below (T.setTop { method := m, pc := pc, locals := Ls, stack := _ :: rest, locked := none }) _
  jvm_step X.here [X.here.top, hx, hd, hm', hret, hn]
  first | (intro acts; rw [hl _ acts rfl rfl rfl]) | rw [hl _ _ rfl rfl rfl]
  exact Steps.refl _
end New
end Jvm.RoadKit
namespace Jvm.Pilot.@@N@@
open Jvm Jvm.ClassFile Sem Op Lib Jvm.Free Jvm.Stand Jvm.LawKit Jvm.RoadKit Bundle Jvm.Pilot.@@N@@.Jvm.D
/-- from A the run comes to an end of which P is said -/
def own_Go (p : Program) (e : Env) (below : List Frame) (P : State → Outcome → Prop) (A : State) : Prop := ∃ s₂ o, Steps p.tables e below A s₂ ∧ P s₂ o
theorem own_step {p : Program} {e : Env} {below : List Frame} {P : State → Outcome → Prop} {A : State} (B : State) (h : ∀ t, Steps p.tables e below B t → Steps p.tables e below A t) (g : own_Go p e below P B) : own_Go p e below P A := by
  obtain ⟨s₂, o, h1, h2⟩ := g; exact ⟨s₂, o, h s₂ h1, h2⟩
theorem own_comes {p : Program} {e : Env} {below : List Frame} {P : State → Outcome → Prop} {A : State} (B : State) (h : Steps p.tables e below A B) (g : own_Go p e below P B) : own_Go p e below P A := by
  obtain ⟨s₂, o, h1, h2⟩ := g; exact ⟨s₂, o, h.trans h1, h2⟩
theorem own_sta_keep {Z : State} {h h' : Heap} {C n d : String} {w : Value} {ws : List Addr} (F : Sta Z h C n d w) (K : Keep h h' ws) (hw : ∀ x ∈ ws, ∀ cell : Cell, h[x]? = some cell → cell.vm.isStatics = false) : Sta Z h' C n d w := by
  obtain ⟨cf, i, k, f, st, cell, h1, h2, h3, h4, h5, h6, r⟩ := F
  exact ⟨cf, i, k, f, st, cell, h1, h2, h3, h4, K.2.1 _ _ h5 (fun q => by rw [hw _ q _ h5] at h6; cases h6), h6, r⟩
theorem own_sel {s : State} {args : Array Value} {y : MethodName} {n : Nat} (w : (Cond.instantiable y.cls n).before args s = true) (hp : (Cond.privateMethod y).before args s = true) (hi : (Cond.instanceMethod y).before args s = true) (hy : y.cls ≠ "java/lang/invoke/MethodHandle" ∧ y.cls ≠ "java/lang/invoke/VarHandle") : (Cond.selects y.cls y y).before args s = true := by
  obtain ⟨c, k, h1, h2, -, h4, -, -⟩ := Cond.instantiable_spec w
  simp only [Bool.or_eq_false_iff] at h4
  exact Jvm.Stand.selects_self_of_private h1 h2 h4.1 (Cond.privateMethod_at hp) hi hy
def own_lrem (x y : Int64) : Int64 := x - x / y * y
theorem own_vne {a b : Int32} (h : a ≠ b) : Value.int a ≠ Value.int b := fun q => h (Value.int.inj q)
theorem own_lgtT {x y : Int64} (h : y < x) : ifCond.holds .gt (lcmpW x y) = true := (if0 _ _).trans (tlt ((lw_gt x y).mpr h)).2.2.1
theorem own_lgtF {x y : Int64} (h : ¬ y < x) : ifCond.holds .gt (lcmpW x y) = false := (if0 _ _).trans (flt (fun q => h ((lw_gt x y).mp q))).2.2.1
theorem own_lleT {x y : Int64} (h : ¬ y < x) : ifCond.holds .le (lcmpW x y) = true := (if0 _ _).trans (flt (fun q => h ((lw_gt x y).mp q))).2.2.2
theorem own_lleF {x y : Int64} (h : y < x) : ifCond.holds .le (lcmpW x y) = false := (if0 _ _).trans (tlt ((lw_gt x y).mpr h)).2.2.2
theorem own_lltT {x y : Int64} (h : x < y) : ifCond.holds .lt (lcmpW x y) = true := (if0 _ _).trans (tlt ((lw_lt x y).mpr h)).1
theorem own_lltF {x y : Int64} (h : ¬ x < y) : ifCond.holds .lt (lcmpW x y) = false := (if0 _ _).trans (flt (fun q => h ((lw_lt x y).mp q))).1
theorem own_lgeT {x y : Int64} (h : ¬ x < y) : ifCond.holds .ge (lcmpW x y) = true := (if0 _ _).trans (flt (fun q => h ((lw_lt x y).mp q))).2.1
theorem own_lgeF {x y : Int64} (h : x < y) : ifCond.holds .ge (lcmpW x y) = false := (if0 _ _).trans (tlt ((lw_lt x y).mpr h)).2.1
theorem own_leqT {x y : Int64} (h : x = y) : ifCond.holds .eq (lcmpW x y) = true := (if0 _ _).trans (teq ((lw_eq x y).mpr h)).1
theorem own_leqF {x y : Int64} (h : ¬ x = y) : ifCond.holds .eq (lcmpW x y) = false := (if0 _ _).trans (feq (fun q => h ((lw_eq x y).mp q))).1
theorem own_lneT {x y : Int64} (h : ¬ x = y) : ifCond.holds .ne (lcmpW x y) = true := (if0 _ _).trans (feq (fun q => h ((lw_eq x y).mp q))).2
theorem own_lneF {x y : Int64} (h : x = y) : ifCond.holds .ne (lcmpW x y) = false := (if0 _ _).trans (teq ((lw_eq x y).mpr h)).2
def own_two : UInt64 := 4611686018427387904
def own_us (x : Int64) : Int64 := Jvm.Free.XT.ushrL x 1
def own_D (a b : Int64) : UInt64 := if ((a ^^^ b) &&& (a ^^^ (a - b))) < 0 then (if b < a then FP.dmul own_two (FP.l2d (own_us (a - b))) else FP.dneg (FP.dmul own_two (FP.l2d (own_us (-(a - b)))))) else FP.l2d (a - b)
theorem own_two_fin : Jvm.Free.Fl.Fin64 own_two := by unfold Jvm.Free.Fl.Fin64 own_two; decide
theorem own_mulN (x : Int64) : Jvm.Free.Fl.NoNaN64 (FP.dmul (4611686018427387904 : UInt64) (FP.l2d x)) := Jvm.Free.Fl.dmul_out own_two_fin (Jvm.Free.Fl.l2d_fin x)
theorem own_DN (a b : Int64) : Jvm.Free.Fl.NoNaN64 (own_D a b) := by
  unfold own_D
  split
  · split
    · exact own_mulN _
    · exact (Jvm.Free.Fl.dneg_iff _).mpr (own_mulN _)
  · exact (Jvm.Free.Fl.l2d_fin _).noNaN
theorem own_neg_iff (x : Int64) : x < 0 ↔ x.toBitVec.msb = true := by
  rw [Int64.lt_iff_toInt_lt, BitVec.msb_eq_toInt]
  have : (0 : Int64).toInt = 0 := rfl
  rw [this, decide_eq_true_iff]; rfl
theorem own_ovf (a b : Int64) : ((a ^^^ b) &&& (a ^^^ (a - b))) < 0 ↔ (a.toInt - b.toInt < -9223372036854775808 ∨ 9223372036854775808 ≤ a.toInt - b.toInt) := by
  have c := c_lsub a b; have ra := rng64 a; have rb := rng64 b; have rc := rng64 (a - b)
  have na := own_neg_iff a; have nb := own_neg_iff b; have nc := own_neg_iff (a - b)
  have z : (0 : Int64).toInt = 0 := rfl
  rw [own_neg_iff]
  show ((a.toBitVec ^^^ b.toBitVec) &&& (a.toBitVec ^^^ (a - b).toBitVec)).msb = true ↔ _
  rw [BitVec.msb_and, BitVec.msb_xor, BitVec.msb_xor]
  rw [Int64.lt_iff_toInt_lt, z] at na nb nc
  generalize a.toBitVec.msb = ma at *
  generalize b.toBitVec.msb = mb at *
  generalize (a - b).toBitVec.msb = mc at *
  generalize (a - b).toInt = w at *
  cases ma <;> cases mb <;> cases mc <;> simp at * <;> omega
theorem own_us_toInt (x : Int64) : (own_us x).toInt = (x.toInt % 18446744073709551616) / 2 := by
  have e2 : (own_us x).toBitVec.toNat = x.toBitVec.toNat / 2 := by
    show ((x.toUInt64 >>> ((1 : Int32).toInt64.toUInt64 &&& Int64.toUInt64 63)).toInt64).toBitVec.toNat = _
    rw [show ((1 : Int32).toInt64.toUInt64 &&& Int64.toUInt64 63) = (1 : UInt64) from by decide]
    simp only [UInt64.toBitVec_toInt64, UInt64.toBitVec_shiftRight, Int64.toBitVec_toUInt64]
    simp [BitVec.toNat_ushiftRight, Nat.shiftRight_eq_div_pow]
  have hb := x.toBitVec.isLt
  have e3 : (own_us x).toInt = ((x.toBitVec.toNat / 2 : Nat) : Int) := by
    show (own_us x).toBitVec.toInt = _
    rw [BitVec.toInt_eq_toNat_cond, e2, if_pos (by omega)]
  have e4 : x.toInt % 18446744073709551616 = x.toBitVec.toNat := by
    show x.toBitVec.toInt % 18446744073709551616 = _
    rw [BitVec.toInt_eq_toNat_cond]; split <;> omega
  rw [e3, e4]; omega
def own_h (a b : Int64) : Int64 := (a >>> ((1 : Int32) &&& 0x3f).toInt64) - (b >>> ((1 : Int32) &&& 0x3f).toInt64)
def own_r (a b : Int64) : Int64 := (a &&& 1) - (b &&& 1)
def own_q : Int64 := 4611686018427387904
theorem own_sh (x : Int64) : (x >>> ((1 : Int32) &&& 0x3f).toInt64).toInt = x.toInt / 2 := Jvm.Kit.i64_shr x _ (k := 1) (by decide)
theorem own_m1 (x : Int64) : (x &&& 1).toInt = x.toInt % 2 := Jvm.Kit.i64_mask x 1 (k := 1) (by decide) (by decide)
theorem own_hI (a b : Int64) : (own_h a b).toInt = a.toInt / 2 - b.toInt / 2 := by
  have ra := rng64 a; have rb := rng64 b
  unfold own_h
  rw [Jvm.Kit.i64_sub, own_sh, own_sh] <;> rw [own_sh, own_sh] <;> omega
theorem own_rI (a b : Int64) : (own_r a b).toInt = a.toInt % 2 - b.toInt % 2 := by
  unfold own_r
  rw [Jvm.Kit.i64_sub, own_m1, own_m1] <;> rw [own_m1, own_m1] <;> omega
theorem own_qI : own_q.toInt = 4611686018427387904 := rfl
theorem own_q1 : (own_q - 1).toInt = 4611686018427387903 := by decide
theorem own_q2 : (-own_q + 1).toInt = -4611686018427387903 := by decide
theorem own_q3 : (-own_q).toInt = -4611686018427387904 := by decide
theorem own_z0 : (0 : Int64).toInt = 0 := rfl
/-- the roads of 'expected', each told -/
theorem own_up1 {a b : Int64} (h1 : own_r a b < 0) : own_q < own_h a b ↔ 9223372036854775808 ≤ a.toInt - b.toInt := by
  have ra := rng64 a; have rb := rng64 b
  rw [Int64.lt_iff_toInt_lt, own_rI, own_z0] at h1
  rw [Int64.lt_iff_toInt_lt, own_hI, own_qI]; omega
theorem own_up2 {a b : Int64} (h1 : ¬ own_r a b < 0) : (own_q - 1) < own_h a b ↔ 9223372036854775808 ≤ a.toInt - b.toInt := by
  have ra := rng64 a; have rb := rng64 b
  rw [Int64.lt_iff_toInt_lt, own_rI, own_z0] at h1
  rw [Int64.lt_iff_toInt_lt, own_hI, own_q1]; omega
theorem own_lo1 {a b : Int64} (h1 : own_r a b < 0) : own_h a b < (-own_q + 1) ↔ a.toInt - b.toInt < -9223372036854775808 := by
  have ra := rng64 a; have rb := rng64 b
  rw [Int64.lt_iff_toInt_lt, own_rI, own_z0] at h1
  rw [Int64.lt_iff_toInt_lt, own_hI, own_q2]; omega
theorem own_lo2 {a b : Int64} (h1 : ¬ own_r a b < 0) : own_h a b < (-own_q) ↔ a.toInt - b.toInt < -9223372036854775808 := by
  have ra := rng64 a; have rb := rng64 b
  rw [Int64.lt_iff_toInt_lt, own_rI, own_z0] at h1
  rw [Int64.lt_iff_toInt_lt, own_hI, own_q3]; omega
theorem own_E1 {a b : Int64} (h : 9223372036854775808 ≤ a.toInt - b.toInt) : FP.dmul (4611686018427387904 : UInt64) (FP.l2d (own_h a b + (own_r a b >>> ((1 : Int32) &&& 0x3f).toInt64))) = own_D a b := by
  have ra := rng64 a; have rb := rng64 b; have c := c_lsub a b; have rc := rng64 (a - b)
  have hlt : b < a := by rw [Int64.lt_iff_toInt_lt]; omega
  have e : own_h a b + (own_r a b >>> ((1 : Int32) &&& 0x3f).toInt64) = own_us (a - b) := by
    apply Int64.toInt_inj.mp
    rw [own_us_toInt, Jvm.Kit.i64_add, own_hI, own_sh, own_rI] <;> (try rw [own_hI, own_sh, own_rI]) <;> omega
  unfold own_D
  rw [if_pos ((own_ovf a b).mpr (Or.inr h)), if_pos hlt, e]; rfl
theorem own_E2 {a b : Int64} (h : a.toInt - b.toInt < -9223372036854775808) : FP.dneg (FP.dmul (4611686018427387904 : UInt64) (FP.l2d (-own_h a b + ((-own_r a b) >>> ((1 : Int32) &&& 0x3f).toInt64)))) = own_D a b := by
  have ra := rng64 a; have rb := rng64 b; have c := c_lsub a b; have rc := rng64 (a - b); have cn := c_lneg (a - b); have rn := rng64 (-(a - b))
  have hlt : ¬ b < a := by rw [Int64.lt_iff_toInt_lt]; omega
  have e1 : (-own_h a b).toInt = -(a.toInt / 2 - b.toInt / 2) := by
    rw [Jvm.Kit.i64_neg, own_hI]; rw [own_hI]; omega
  have e2 : (-own_r a b).toInt = -(a.toInt % 2 - b.toInt % 2) := by
    rw [Jvm.Kit.i64_neg, own_rI]; rw [own_rI]; omega
  have e : -own_h a b + ((-own_r a b) >>> ((1 : Int32) &&& 0x3f).toInt64) = own_us (-(a - b)) := by
    apply Int64.toInt_inj.mp
    rw [own_us_toInt, Jvm.Kit.i64_add, e1, own_sh, e2] <;> (try rw [e1, own_sh, e2]) <;> omega
  unfold own_D
  rw [if_pos ((own_ovf a b).mpr (Or.inl h)), if_neg hlt, e]; rfl
theorem own_E3 {a b : Int64} (h1 : ¬ 9223372036854775808 ≤ a.toInt - b.toInt) (h2 : ¬ a.toInt - b.toInt < -9223372036854775808) : FP.l2d (a - b) = own_D a b := by
  unfold own_D
  rw [if_neg (fun q => ((own_ovf a b).mp q).elim h2 h1)]
theorem pd_0 : parseMethodDescriptor "(JJ)D" = some ⟨[.long, .long], some .double⟩ := by decide +kernel
theorem d1_0 : decode prog_60_method_14_code 0 = .ok (.lload_n 0, 1) := by decide +kernel
theorem d1_1 : decode prog_60_method_14_code 1 = .ok (.lload_n 2, 1) := by decide +kernel
theorem d1_2 : decode prog_60_method_14_code 2 = .ok (.lsub, 1) := by decide +kernel
theorem d1_3 : decode prog_60_method_14_code 3 = .ok (.lstore 4, 2) := by decide +kernel
theorem d1_5 : decode prog_60_method_14_code 5 = .ok (.lload_n 0, 1) := by decide +kernel
theorem d1_6 : decode prog_60_method_14_code 6 = .ok (.lload_n 2, 1) := by decide +kernel
theorem d1_7 : decode prog_60_method_14_code 7 = .ok (.lxor, 1) := by decide +kernel
theorem d1_8 : decode prog_60_method_14_code 8 = .ok (.lload_n 0, 1) := by decide +kernel
theorem d1_9 : decode prog_60_method_14_code 9 = .ok (.lload 4, 2) := by decide +kernel
theorem d1_11 : decode prog_60_method_14_code 11 = .ok (.lxor, 1) := by decide +kernel
theorem d1_12 : decode prog_60_method_14_code 12 = .ok (.land, 1) := by decide +kernel
theorem d1_13 : decode prog_60_method_14_code 13 = .ok (.lconst 0, 1) := by decide +kernel
theorem d1_14 : decode prog_60_method_14_code 14 = .ok (.lcmp, 1) := by decide +kernel
theorem d1_15 : decode prog_60_method_14_code 15 = .ok (.ifCond .lt 11, 3) := by decide +kernel
theorem d1_18 : decode prog_60_method_14_code 18 = .ok (.lload 4, 2) := by decide +kernel
theorem d1_20 : decode prog_60_method_14_code 20 = .ok (.l2d, 1) := by decide +kernel
theorem d1_21 : decode prog_60_method_14_code 21 = .ok (.dstore 6, 2) := by decide +kernel
theorem d1_23 : decode prog_60_method_14_code 23 = .ok (.goto 46, 3) := by decide +kernel
theorem d1_26 : decode prog_60_method_14_code 26 = .ok (.lload_n 0, 1) := by decide +kernel
theorem d1_27 : decode prog_60_method_14_code 27 = .ok (.lload_n 2, 1) := by decide +kernel
theorem d1_28 : decode prog_60_method_14_code 28 = .ok (.lcmp, 1) := by decide +kernel
theorem d1_29 : decode prog_60_method_14_code 29 = .ok (.ifCond .le 8, 3) := by decide +kernel
theorem d1_32 : decode prog_60_method_14_code 32 = .ok (.lload 4, 2) := by decide +kernel
theorem d1_34 : decode prog_60_method_14_code 34 = .ok (.goto 6, 3) := by decide +kernel
theorem d1_37 : decode prog_60_method_14_code 37 = .ok (.lload 4, 2) := by decide +kernel
theorem d1_39 : decode prog_60_method_14_code 39 = .ok (.lneg, 1) := by decide +kernel
theorem d1_40 : decode prog_60_method_14_code 40 = .ok (.lstore 8, 2) := by decide +kernel
theorem d1_42 : decode prog_60_method_14_code 42 = .ok (.ldc2_w 152, 3) := by decide +kernel
theorem d1_45 : decode prog_60_method_14_code 45 = .ok (.lload 8, 2) := by decide +kernel
theorem d1_47 : decode prog_60_method_14_code 47 = .ok (.iconst 1, 1) := by decide +kernel
theorem d1_48 : decode prog_60_method_14_code 48 = .ok (.lushr, 1) := by decide +kernel
theorem d1_49 : decode prog_60_method_14_code 49 = .ok (.l2d, 1) := by decide +kernel
theorem d1_50 : decode prog_60_method_14_code 50 = .ok (.dmul, 1) := by decide +kernel
theorem d1_51 : decode prog_60_method_14_code 51 = .ok (.dstore 10, 2) := by decide +kernel
theorem d1_53 : decode prog_60_method_14_code 53 = .ok (.lload_n 0, 1) := by decide +kernel
theorem d1_54 : decode prog_60_method_14_code 54 = .ok (.lload_n 2, 1) := by decide +kernel
theorem d1_55 : decode prog_60_method_14_code 55 = .ok (.lcmp, 1) := by decide +kernel
theorem d1_56 : decode prog_60_method_14_code 56 = .ok (.ifCond .le 8, 3) := by decide +kernel
theorem d1_59 : decode prog_60_method_14_code 59 = .ok (.dload 10, 2) := by decide +kernel
theorem d1_61 : decode prog_60_method_14_code 61 = .ok (.goto 6, 3) := by decide +kernel
theorem d1_64 : decode prog_60_method_14_code 64 = .ok (.dload 10, 2) := by decide +kernel
theorem d1_66 : decode prog_60_method_14_code 66 = .ok (.dneg, 1) := by decide +kernel
theorem d1_67 : decode prog_60_method_14_code 67 = .ok (.dstore 6, 2) := by decide +kernel
theorem d1_69 : decode prog_60_method_14_code 69 = .ok (.dload 6, 2) := by decide +kernel
theorem d1_71 : decode prog_60_method_14_code 71 = .ok (.dreturn, 1) := by decide +kernel
theorem pn_1 : plainName "com/example/quillon/quillon/storage/DataType" = true := by first | (simp [plainName, overriddenIn]; done) | decide +kernel
theorem ef_rm1 (m : MethodId) (a : Int64) (b : Int64) : entryFrame m #[(.long a), (.long b)] 12 = mkF m 0 #[.val (.long a), .second, .val (.long b), .second, .unset, .unset, .unset, .unset, .unset, .unset, .unset, .unset] [] := by first | (simp [entryFrame, mkF, argsToLocals, Value.category]; done) | rfl
def Q_rm1 (Z : State) (a : Int64) (b : Int64) (h0 : Heap) (n0 : Nat) (v : Option Value) (h : Heap) (L : List Loc) : Prop := v = some (.double (own_D a b)) ∧ Fr n0 L ∧ h = h0
set_option maxRecDepth 65536 in
set_option maxHeartbeats 40000000 in
theorem rm1 (l : Launch) (Z : State) (a0 : Array Value) (hw : ∀ d ∈ tables_1, d.before a0 Z = true) (ws : List Jvm.Cond) (a : Int64) (b : Int64) (h0 : Heap) (n0 : Nat) (Z0 : n0 ≤ h0.size) :
    MetFree l (⟨"com/example/quillon/quillon/storage/DataType", "difference", "(JJ)D"⟩ : MethodName) (head1 (Jvm.Cond.code (⟨"com/example/quillon/quillon/storage/DataType", "difference", "(JJ)D"⟩ : MethodName) prog_60_method_14_code 12 (some .double) :: ws) ({ frames := 0, cells := 0, slots := 0, locals := 0 } : Room)) (fun as₉ U => as₉ = #[(.long a), (.long b)] ∧ Z.Warmed39 U.vm ∧ U.heap = h0) (fun _ _ _ _ _ => True) (fun _ U o₉ U' => ∃ v L, o₉ = .returned v ∧ Q_rm1 Z a b h0 n0 v U'.heap L ∧ FrameEnd U o₉ U' L ({ frames := 0, cells := 0, slots := 0, locals := 0 } : Room).cells ({ frames := 0, cells := 0, slots := 0, locals := 0 } : Room).slots) := by
  refine MetFree.of_bodySF (plainFor_of_name pn_1) hisR ?_
  intro p e s m args below meth c s₁ Bd hml0 hP hK
  obtain ⟨rfl, hZ, hh⟩ := hP
  have hx := Bd.exec
  have hby := Bd.bytes
  have hml : c.maxLocals = 12 := hml0
  have hown : s.vm.findClass "com/example/quillon/quillon/storage/DataType" = some m.cls := findClass_of_methodNamed Bd.named
  have hnm := (name_of_methodNamed Bd.named Bd.method).1
  have X0 : Stand p l e ({ frames := 0, cells := 0, slots := 0, locals := 0 } : Room) s m #[(.long a), (.long b)] below meth c s₁ [] 0 0 := Stand.of_body Bd
  have e0 : s₁.heap = h0 := by rw [← hh, Bd.state]; rfl
  have N0 := Fr.nil n0
  show own_Go p e below (fun s₂ o₉ => s₂.status = .running ∧ Ended s₂ below o₉ ∧ ∃ v L, o₉ = .returned v ∧ Q_rm1 Z a b h0 n0 v s₂.heap L ∧ FrameEnd s o₉ s₂ L ({ frames := 0, cells := 0, slots := 0, locals := 0 } : Room).cells ({ frames := 0, cells := 0, slots := 0, locals := 0 } : Room).slots) (s₁.setTop (entryFrame m #[(.long a), (.long b)] 12))
  rw [ef_rm1 m a b]
  refine own_step (s₁.setTop (mkF m 1 #[.val (.long a), .second, .val (.long b), .second, .unset, .unset, .unset, .unset, .unset, .unset, .unset, .unset] [(.long a)])) (fun t₀ k₀ => XS.lloadN X0.here hx rfl (hb hby d1_0) rfl k₀) ?_
  refine own_step (s₁.setTop (mkF m 2 #[.val (.long a), .second, .val (.long b), .second, .unset, .unset, .unset, .unset, .unset, .unset, .unset, .unset] [(.long b), (.long a)])) (fun t₀ k₀ => XS.lloadN X0.here hx rfl (hb hby d1_1) rfl k₀) ?_
  refine own_step (s₁.setTop (mkF m 3 #[.val (.long a), .second, .val (.long b), .second, .unset, .unset, .unset, .unset, .unset, .unset, .unset, .unset] [(.long (a - b))])) (fun t₀ k₀ => XS.lsub X0.here hx rfl (hb hby d1_2) rfl k₀) ?_
  refine own_step (s₁.setTop (mkF m 5 #[.val (.long a), .second, .val (.long b), .second, .val (.long (a - b)), .second, .unset, .unset, .unset, .unset, .unset, .unset] [])) (fun t₀ k₀ => XS.lstore X0.here hx rfl (hb hby d1_3) rfl (l' := #[.val (.long a), .second, .val (.long b), .second, .val (.long (a - b)), .second, .unset, .unset, .unset, .unset, .unset, .unset]) rfl k₀) ?_
  refine own_step (s₁.setTop (mkF m 6 #[.val (.long a), .second, .val (.long b), .second, .val (.long (a - b)), .second, .unset, .unset, .unset, .unset, .unset, .unset] [(.long a)])) (fun t₀ k₀ => XS.lloadN X0.here hx rfl (hb hby d1_5) rfl k₀) ?_
  refine own_step (s₁.setTop (mkF m 7 #[.val (.long a), .second, .val (.long b), .second, .val (.long (a - b)), .second, .unset, .unset, .unset, .unset, .unset, .unset] [(.long b), (.long a)])) (fun t₀ k₀ => XS.lloadN X0.here hx rfl (hb hby d1_6) rfl k₀) ?_
  refine own_step (s₁.setTop (mkF m 8 #[.val (.long a), .second, .val (.long b), .second, .val (.long (a - b)), .second, .unset, .unset, .unset, .unset, .unset, .unset] [(.long (a ^^^ b))])) (fun t₀ k₀ => XS.lxor X0.here hx rfl (hb hby d1_7) rfl k₀) ?_
  refine own_step (s₁.setTop (mkF m 9 #[.val (.long a), .second, .val (.long b), .second, .val (.long (a - b)), .second, .unset, .unset, .unset, .unset, .unset, .unset] [(.long a), (.long (a ^^^ b))])) (fun t₀ k₀ => XS.lloadN X0.here hx rfl (hb hby d1_8) rfl k₀) ?_
  refine own_step (s₁.setTop (mkF m 11 #[.val (.long a), .second, .val (.long b), .second, .val (.long (a - b)), .second, .unset, .unset, .unset, .unset, .unset, .unset] [(.long (a - b)), (.long a), (.long (a ^^^ b))])) (fun t₀ k₀ => XS.lload X0.here hx rfl (hb hby d1_9) rfl k₀) ?_
  refine own_step (s₁.setTop (mkF m 12 #[.val (.long a), .second, .val (.long b), .second, .val (.long (a - b)), .second, .unset, .unset, .unset, .unset, .unset, .unset] [(.long (a ^^^ (a - b))), (.long (a ^^^ b))])) (fun t₀ k₀ => XS.lxor X0.here hx rfl (hb hby d1_11) rfl k₀) ?_
  refine own_step (s₁.setTop (mkF m 13 #[.val (.long a), .second, .val (.long b), .second, .val (.long (a - b)), .second, .unset, .unset, .unset, .unset, .unset, .unset] [(.long ((a ^^^ b) &&& (a ^^^ (a - b))))])) (fun t₀ k₀ => XS.land X0.here hx rfl (hb hby d1_12) rfl k₀) ?_
  refine own_step (s₁.setTop (mkF m 14 #[.val (.long a), .second, .val (.long b), .second, .val (.long (a - b)), .second, .unset, .unset, .unset, .unset, .unset, .unset] [(.long (0 : Int64)), (.long ((a ^^^ b) &&& (a ^^^ (a - b))))])) (fun t₀ k₀ => XS.lconst X0.here hx rfl (hb hby d1_13) k₀) ?_
  refine own_step (s₁.setTop (mkF m 15 #[.val (.long a), .second, .val (.long b), .second, .val (.long (a - b)), .second, .unset, .unset, .unset, .unset, .unset, .unset] [(.int (lcmpW ((a ^^^ b) &&& (a ^^^ (a - b))) (0 : Int64)))])) (fun t₀ k₀ => XS.lcmp X0.here hx rfl (hb hby d1_14) rfl k₀) ?_
  by_cases hc15 : ((a ^^^ b) &&& (a ^^^ (a - b))) < (0 : Int64)
  · skip
    refine own_step (s₁.setTop (mkF m 26 #[.val (.long a), .second, .val (.long b), .second, .val (.long (a - b)), .second, .unset, .unset, .unset, .unset, .unset, .unset] [])) (fun t₀ k₀ => XS.ifYes X0.here hx rfl (pc0 := 15) (pc' := 26) rfl (hb hby d1_15) rfl (own_lltT hc15) (by decide) (by decide) k₀) ?_
    refine own_step (s₁.setTop (mkF m 27 #[.val (.long a), .second, .val (.long b), .second, .val (.long (a - b)), .second, .unset, .unset, .unset, .unset, .unset, .unset] [(.long a)])) (fun t₀ k₀ => XS.lloadN X0.here hx rfl (hb hby d1_26) rfl k₀) ?_
    refine own_step (s₁.setTop (mkF m 28 #[.val (.long a), .second, .val (.long b), .second, .val (.long (a - b)), .second, .unset, .unset, .unset, .unset, .unset, .unset] [(.long b), (.long a)])) (fun t₀ k₀ => XS.lloadN X0.here hx rfl (hb hby d1_27) rfl k₀) ?_
    refine own_step (s₁.setTop (mkF m 29 #[.val (.long a), .second, .val (.long b), .second, .val (.long (a - b)), .second, .unset, .unset, .unset, .unset, .unset, .unset] [(.int (lcmpW a b))])) (fun t₀ k₀ => XS.lcmp X0.here hx rfl (hb hby d1_28) rfl k₀) ?_
    by_cases hc29 : b < a
    · skip
      refine own_step (s₁.setTop (mkF m 32 #[.val (.long a), .second, .val (.long b), .second, .val (.long (a - b)), .second, .unset, .unset, .unset, .unset, .unset, .unset] [])) (fun t₀ k₀ => XS.ifNo X0.here hx rfl (hb hby d1_29) rfl (own_lleF hc29) k₀) ?_
      refine own_step (s₁.setTop (mkF m 34 #[.val (.long a), .second, .val (.long b), .second, .val (.long (a - b)), .second, .unset, .unset, .unset, .unset, .unset, .unset] [(.long (a - b))])) (fun t₀ k₀ => XS.lload X0.here hx rfl (hb hby d1_32) rfl k₀) ?_
      refine own_step (s₁.setTop (mkF m 40 #[.val (.long a), .second, .val (.long b), .second, .val (.long (a - b)), .second, .unset, .unset, .unset, .unset, .unset, .unset] [(.long (a - b))])) (fun t₀ k₀ => XS.goto X0.here hx rfl (pc0 := 34) (pc' := 40) rfl (hb hby d1_34) (by decide) (by decide) k₀) ?_
      refine own_step (s₁.setTop (mkF m 42 #[.val (.long a), .second, .val (.long b), .second, .val (.long (a - b)), .second, .unset, .unset, .val (.long (a - b)), .second, .unset, .unset] [])) (fun t₀ k₀ => XS.lstore X0.here hx rfl (hb hby d1_40) rfl (l' := #[.val (.long a), .second, .val (.long b), .second, .val (.long (a - b)), .second, .unset, .unset, .val (.long (a - b)), .second, .unset, .unset]) rfl k₀) ?_
      refine own_step (s₁.setTop (mkF m 45 #[.val (.long a), .second, .val (.long b), .second, .val (.long (a - b)), .second, .unset, .unset, .val (.long (a - b)), .second, .unset, .unset] [(.double (4611686018427387904 : UInt64))])) (fun t₀ k₀ => X0.ldc2DoubleC hx hown (mvT hZ (hw _ (List.mem_of_getElem? (i := 9) rfl))) (g := (mkF m 42 #[.val (.long a), .second, .val (.long b), .second, .val (.long (a - b)), .second, .unset, .unset, .val (.long (a - b)), .second, .unset, .unset] [])) rfl (hb hby d1_42) _ k₀) ?_
      refine own_step (s₁.setTop (mkF m 47 #[.val (.long a), .second, .val (.long b), .second, .val (.long (a - b)), .second, .unset, .unset, .val (.long (a - b)), .second, .unset, .unset] [(.long (a - b)), (.double (4611686018427387904 : UInt64))])) (fun t₀ k₀ => XS.lload X0.here hx rfl (hb hby d1_45) rfl k₀) ?_
      refine own_step (s₁.setTop (mkF m 48 #[.val (.long a), .second, .val (.long b), .second, .val (.long (a - b)), .second, .unset, .unset, .val (.long (a - b)), .second, .unset, .unset] [(.int (1 : Int32)), (.long (a - b)), (.double (4611686018427387904 : UInt64))])) (fun t₀ k₀ => XS.iconst X0.here hx rfl (hb hby d1_47) k₀) ?_
      refine own_step (s₁.setTop (mkF m 49 #[.val (.long a), .second, .val (.long b), .second, .val (.long (a - b)), .second, .unset, .unset, .val (.long (a - b)), .second, .unset, .unset] [(.long (Jvm.Free.XT.ushrL (a - b) (1 : Int32))), (.double (4611686018427387904 : UInt64))])) (fun t₀ k₀ => XS.lushr X0.here hx rfl (hb hby d1_48) rfl k₀) ?_
      refine own_step (s₁.setTop (mkF m 50 #[.val (.long a), .second, .val (.long b), .second, .val (.long (a - b)), .second, .unset, .unset, .val (.long (a - b)), .second, .unset, .unset] [(.double (FP.l2d (Jvm.Free.XT.ushrL (a - b) (1 : Int32)))), (.double (4611686018427387904 : UInt64))])) (fun t₀ k₀ => XS.l2dS X0.here hx rfl (hb hby d1_49) rfl rfl k₀) ?_
      refine own_step (s₁.setTop (mkF m 51 #[.val (.long a), .second, .val (.long b), .second, .val (.long (a - b)), .second, .unset, .unset, .val (.long (a - b)), .second, .unset, .unset] [(.double (FP.dmul (4611686018427387904 : UInt64) (FP.l2d (Jvm.Free.XT.ushrL (a - b) (1 : Int32)))))])) (fun t₀ k₀ => XS.dmulS X0.here hx rfl (hb hby d1_50) rfl (own_mulN _) rfl k₀) ?_
      refine own_step (s₁.setTop (mkF m 53 #[.val (.long a), .second, .val (.long b), .second, .val (.long (a - b)), .second, .unset, .unset, .val (.long (a - b)), .second, .val (.double (FP.dmul (4611686018427387904 : UInt64) (FP.l2d (Jvm.Free.XT.ushrL (a - b) (1 : Int32))))), .second] [])) (fun t₀ k₀ => XS.dstore X0.here hx rfl (hb hby d1_51) rfl (l' := #[.val (.long a), .second, .val (.long b), .second, .val (.long (a - b)), .second, .unset, .unset, .val (.long (a - b)), .second, .val (.double (FP.dmul (4611686018427387904 : UInt64) (FP.l2d (Jvm.Free.XT.ushrL (a - b) (1 : Int32))))), .second]) rfl k₀) ?_
      refine own_step (s₁.setTop (mkF m 54 #[.val (.long a), .second, .val (.long b), .second, .val (.long (a - b)), .second, .unset, .unset, .val (.long (a - b)), .second, .val (.double (FP.dmul (4611686018427387904 : UInt64) (FP.l2d (Jvm.Free.XT.ushrL (a - b) (1 : Int32))))), .second] [(.long a)])) (fun t₀ k₀ => XS.lloadN X0.here hx rfl (hb hby d1_53) rfl k₀) ?_
      refine own_step (s₁.setTop (mkF m 55 #[.val (.long a), .second, .val (.long b), .second, .val (.long (a - b)), .second, .unset, .unset, .val (.long (a - b)), .second, .val (.double (FP.dmul (4611686018427387904 : UInt64) (FP.l2d (Jvm.Free.XT.ushrL (a - b) (1 : Int32))))), .second] [(.long b), (.long a)])) (fun t₀ k₀ => XS.lloadN X0.here hx rfl (hb hby d1_54) rfl k₀) ?_
      refine own_step (s₁.setTop (mkF m 56 #[.val (.long a), .second, .val (.long b), .second, .val (.long (a - b)), .second, .unset, .unset, .val (.long (a - b)), .second, .val (.double (FP.dmul (4611686018427387904 : UInt64) (FP.l2d (Jvm.Free.XT.ushrL (a - b) (1 : Int32))))), .second] [(.int (lcmpW a b))])) (fun t₀ k₀ => XS.lcmp X0.here hx rfl (hb hby d1_55) rfl k₀) ?_
      have hk1 : b < a := hc29
      refine own_step (s₁.setTop (mkF m 59 #[.val (.long a), .second, .val (.long b), .second, .val (.long (a - b)), .second, .unset, .unset, .val (.long (a - b)), .second, .val (.double (FP.dmul (4611686018427387904 : UInt64) (FP.l2d (Jvm.Free.XT.ushrL (a - b) (1 : Int32))))), .second] [])) (fun t₀ k₀ => XS.ifNo X0.here hx rfl (hb hby d1_56) rfl (own_lleF hk1) k₀) ?_
      refine own_step (s₁.setTop (mkF m 61 #[.val (.long a), .second, .val (.long b), .second, .val (.long (a - b)), .second, .unset, .unset, .val (.long (a - b)), .second, .val (.double (FP.dmul (4611686018427387904 : UInt64) (FP.l2d (Jvm.Free.XT.ushrL (a - b) (1 : Int32))))), .second] [(.double (FP.dmul (4611686018427387904 : UInt64) (FP.l2d (Jvm.Free.XT.ushrL (a - b) (1 : Int32)))))])) (fun t₀ k₀ => XS.dload X0.here hx rfl (hb hby d1_59) rfl k₀) ?_
      refine own_step (s₁.setTop (mkF m 67 #[.val (.long a), .second, .val (.long b), .second, .val (.long (a - b)), .second, .unset, .unset, .val (.long (a - b)), .second, .val (.double (FP.dmul (4611686018427387904 : UInt64) (FP.l2d (Jvm.Free.XT.ushrL (a - b) (1 : Int32))))), .second] [(.double (FP.dmul (4611686018427387904 : UInt64) (FP.l2d (Jvm.Free.XT.ushrL (a - b) (1 : Int32)))))])) (fun t₀ k₀ => XS.goto X0.here hx rfl (pc0 := 61) (pc' := 67) rfl (hb hby d1_61) (by decide) (by decide) k₀) ?_
      refine own_step (s₁.setTop (mkF m 69 #[.val (.long a), .second, .val (.long b), .second, .val (.long (a - b)), .second, .val (.double (FP.dmul (4611686018427387904 : UInt64) (FP.l2d (Jvm.Free.XT.ushrL (a - b) (1 : Int32))))), .second, .val (.long (a - b)), .second, .val (.double (FP.dmul (4611686018427387904 : UInt64) (FP.l2d (Jvm.Free.XT.ushrL (a - b) (1 : Int32))))), .second] [])) (fun t₀ k₀ => XS.dstore X0.here hx rfl (hb hby d1_67) rfl (l' := #[.val (.long a), .second, .val (.long b), .second, .val (.long (a - b)), .second, .val (.double (FP.dmul (4611686018427387904 : UInt64) (FP.l2d (Jvm.Free.XT.ushrL (a - b) (1 : Int32))))), .second, .val (.long (a - b)), .second, .val (.double (FP.dmul (4611686018427387904 : UInt64) (FP.l2d (Jvm.Free.XT.ushrL (a - b) (1 : Int32))))), .second]) rfl k₀) ?_
      refine own_step (s₁.setTop (mkF m 71 #[.val (.long a), .second, .val (.long b), .second, .val (.long (a - b)), .second, .val (.double (FP.dmul (4611686018427387904 : UInt64) (FP.l2d (Jvm.Free.XT.ushrL (a - b) (1 : Int32))))), .second, .val (.long (a - b)), .second, .val (.double (FP.dmul (4611686018427387904 : UInt64) (FP.l2d (Jvm.Free.XT.ushrL (a - b) (1 : Int32))))), .second] [(.double (FP.dmul (4611686018427387904 : UInt64) (FP.l2d (Jvm.Free.XT.ushrL (a - b) (1 : Int32)))))])) (fun t₀ k₀ => XS.dload X0.here hx rfl (hb hby d1_69) rfl k₀) ?_
      obtain ⟨fs, hr, hrun, hended, hW, hsame⟩ := X0.leave (v := some (.double (FP.dmul (4611686018427387904 : UInt64) (FP.l2d (Jvm.Free.XT.ushrL (a - b) (1 : Int32)))))) (fun h => by rw [Bd.returns] at h; cases h)
      refine ⟨_, _, ?_, hrun, hended, _, _, rfl, ?_, ⟨_, rfl⟩, hW, hsame.mono (by decide) (by decide)⟩
      · exact retOut X0 hx Bd.returns rfl (Or.inr (Or.inr (Or.inl ⟨rfl, rfl, _, rfl⟩))) (hb hby d1_71) hr
      · show Q_rm1 Z a b h0 n0 _ s₁.heap _
        rw [e0]
        exact ⟨by unfold own_D; rw [if_pos hc15, if_pos hc29]; rfl, N0, rfl⟩
    · skip
      refine own_step (s₁.setTop (mkF m 37 #[.val (.long a), .second, .val (.long b), .second, .val (.long (a - b)), .second, .unset, .unset, .unset, .unset, .unset, .unset] [])) (fun t₀ k₀ => XS.ifYes X0.here hx rfl (pc0 := 29) (pc' := 37) rfl (hb hby d1_29) rfl (own_lleT hc29) (by decide) (by decide) k₀) ?_
      refine own_step (s₁.setTop (mkF m 39 #[.val (.long a), .second, .val (.long b), .second, .val (.long (a - b)), .second, .unset, .unset, .unset, .unset, .unset, .unset] [(.long (a - b))])) (fun t₀ k₀ => XS.lload X0.here hx rfl (hb hby d1_37) rfl k₀) ?_
      refine own_step (s₁.setTop (mkF m 40 #[.val (.long a), .second, .val (.long b), .second, .val (.long (a - b)), .second, .unset, .unset, .unset, .unset, .unset, .unset] [(.long (-(a - b)))])) (fun t₀ k₀ => XS.lneg X0.here hx rfl (hb hby d1_39) rfl k₀) ?_
      refine own_step (s₁.setTop (mkF m 42 #[.val (.long a), .second, .val (.long b), .second, .val (.long (a - b)), .second, .unset, .unset, .val (.long (-(a - b))), .second, .unset, .unset] [])) (fun t₀ k₀ => XS.lstore X0.here hx rfl (hb hby d1_40) rfl (l' := #[.val (.long a), .second, .val (.long b), .second, .val (.long (a - b)), .second, .unset, .unset, .val (.long (-(a - b))), .second, .unset, .unset]) rfl k₀) ?_
      refine own_step (s₁.setTop (mkF m 45 #[.val (.long a), .second, .val (.long b), .second, .val (.long (a - b)), .second, .unset, .unset, .val (.long (-(a - b))), .second, .unset, .unset] [(.double (4611686018427387904 : UInt64))])) (fun t₀ k₀ => X0.ldc2DoubleC hx hown (mvT hZ (hw _ (List.mem_of_getElem? (i := 9) rfl))) (g := (mkF m 42 #[.val (.long a), .second, .val (.long b), .second, .val (.long (a - b)), .second, .unset, .unset, .val (.long (-(a - b))), .second, .unset, .unset] [])) rfl (hb hby d1_42) _ k₀) ?_
      refine own_step (s₁.setTop (mkF m 47 #[.val (.long a), .second, .val (.long b), .second, .val (.long (a - b)), .second, .unset, .unset, .val (.long (-(a - b))), .second, .unset, .unset] [(.long (-(a - b))), (.double (4611686018427387904 : UInt64))])) (fun t₀ k₀ => XS.lload X0.here hx rfl (hb hby d1_45) rfl k₀) ?_
      refine own_step (s₁.setTop (mkF m 48 #[.val (.long a), .second, .val (.long b), .second, .val (.long (a - b)), .second, .unset, .unset, .val (.long (-(a - b))), .second, .unset, .unset] [(.int (1 : Int32)), (.long (-(a - b))), (.double (4611686018427387904 : UInt64))])) (fun t₀ k₀ => XS.iconst X0.here hx rfl (hb hby d1_47) k₀) ?_
      refine own_step (s₁.setTop (mkF m 49 #[.val (.long a), .second, .val (.long b), .second, .val (.long (a - b)), .second, .unset, .unset, .val (.long (-(a - b))), .second, .unset, .unset] [(.long (Jvm.Free.XT.ushrL (-(a - b)) (1 : Int32))), (.double (4611686018427387904 : UInt64))])) (fun t₀ k₀ => XS.lushr X0.here hx rfl (hb hby d1_48) rfl k₀) ?_
      refine own_step (s₁.setTop (mkF m 50 #[.val (.long a), .second, .val (.long b), .second, .val (.long (a - b)), .second, .unset, .unset, .val (.long (-(a - b))), .second, .unset, .unset] [(.double (FP.l2d (Jvm.Free.XT.ushrL (-(a - b)) (1 : Int32)))), (.double (4611686018427387904 : UInt64))])) (fun t₀ k₀ => XS.l2dS X0.here hx rfl (hb hby d1_49) rfl rfl k₀) ?_
      refine own_step (s₁.setTop (mkF m 51 #[.val (.long a), .second, .val (.long b), .second, .val (.long (a - b)), .second, .unset, .unset, .val (.long (-(a - b))), .second, .unset, .unset] [(.double (FP.dmul (4611686018427387904 : UInt64) (FP.l2d (Jvm.Free.XT.ushrL (-(a - b)) (1 : Int32)))))])) (fun t₀ k₀ => XS.dmulS X0.here hx rfl (hb hby d1_50) rfl (own_mulN _) rfl k₀) ?_
      refine own_step (s₁.setTop (mkF m 53 #[.val (.long a), .second, .val (.long b), .second, .val (.long (a - b)), .second, .unset, .unset, .val (.long (-(a - b))), .second, .val (.double (FP.dmul (4611686018427387904 : UInt64) (FP.l2d (Jvm.Free.XT.ushrL (-(a - b)) (1 : Int32))))), .second] [])) (fun t₀ k₀ => XS.dstore X0.here hx rfl (hb hby d1_51) rfl (l' := #[.val (.long a), .second, .val (.long b), .second, .val (.long (a - b)), .second, .unset, .unset, .val (.long (-(a - b))), .second, .val (.double (FP.dmul (4611686018427387904 : UInt64) (FP.l2d (Jvm.Free.XT.ushrL (-(a - b)) (1 : Int32))))), .second]) rfl k₀) ?_
      refine own_step (s₁.setTop (mkF m 54 #[.val (.long a), .second, .val (.long b), .second, .val (.long (a - b)), .second, .unset, .unset, .val (.long (-(a - b))), .second, .val (.double (FP.dmul (4611686018427387904 : UInt64) (FP.l2d (Jvm.Free.XT.ushrL (-(a - b)) (1 : Int32))))), .second] [(.long a)])) (fun t₀ k₀ => XS.lloadN X0.here hx rfl (hb hby d1_53) rfl k₀) ?_
      refine own_step (s₁.setTop (mkF m 55 #[.val (.long a), .second, .val (.long b), .second, .val (.long (a - b)), .second, .unset, .unset, .val (.long (-(a - b))), .second, .val (.double (FP.dmul (4611686018427387904 : UInt64) (FP.l2d (Jvm.Free.XT.ushrL (-(a - b)) (1 : Int32))))), .second] [(.long b), (.long a)])) (fun t₀ k₀ => XS.lloadN X0.here hx rfl (hb hby d1_54) rfl k₀) ?_
      refine own_step (s₁.setTop (mkF m 56 #[.val (.long a), .second, .val (.long b), .second, .val (.long (a - b)), .second, .unset, .unset, .val (.long (-(a - b))), .second, .val (.double (FP.dmul (4611686018427387904 : UInt64) (FP.l2d (Jvm.Free.XT.ushrL (-(a - b)) (1 : Int32))))), .second] [(.int (lcmpW a b))])) (fun t₀ k₀ => XS.lcmp X0.here hx rfl (hb hby d1_55) rfl k₀) ?_
      have hk2 : ¬ (b < a) := hc29
      refine own_step (s₁.setTop (mkF m 64 #[.val (.long a), .second, .val (.long b), .second, .val (.long (a - b)), .second, .unset, .unset, .val (.long (-(a - b))), .second, .val (.double (FP.dmul (4611686018427387904 : UInt64) (FP.l2d (Jvm.Free.XT.ushrL (-(a - b)) (1 : Int32))))), .second] [])) (fun t₀ k₀ => XS.ifYes X0.here hx rfl (pc0 := 56) (pc' := 64) rfl (hb hby d1_56) rfl (own_lleT hk2) (by decide) (by decide) k₀) ?_
      refine own_step (s₁.setTop (mkF m 66 #[.val (.long a), .second, .val (.long b), .second, .val (.long (a - b)), .second, .unset, .unset, .val (.long (-(a - b))), .second, .val (.double (FP.dmul (4611686018427387904 : UInt64) (FP.l2d (Jvm.Free.XT.ushrL (-(a - b)) (1 : Int32))))), .second] [(.double (FP.dmul (4611686018427387904 : UInt64) (FP.l2d (Jvm.Free.XT.ushrL (-(a - b)) (1 : Int32)))))])) (fun t₀ k₀ => XS.dload X0.here hx rfl (hb hby d1_64) rfl k₀) ?_
      refine own_step (s₁.setTop (mkF m 67 #[.val (.long a), .second, .val (.long b), .second, .val (.long (a - b)), .second, .unset, .unset, .val (.long (-(a - b))), .second, .val (.double (FP.dmul (4611686018427387904 : UInt64) (FP.l2d (Jvm.Free.XT.ushrL (-(a - b)) (1 : Int32))))), .second] [(.double (FP.dneg (FP.dmul (4611686018427387904 : UInt64) (FP.l2d (Jvm.Free.XT.ushrL (-(a - b)) (1 : Int32))))))])) (fun t₀ k₀ => XS.dnegS X0.here hx rfl (hb hby d1_66) rfl rfl k₀) ?_
      refine own_step (s₁.setTop (mkF m 69 #[.val (.long a), .second, .val (.long b), .second, .val (.long (a - b)), .second, .val (.double (FP.dneg (FP.dmul (4611686018427387904 : UInt64) (FP.l2d (Jvm.Free.XT.ushrL (-(a - b)) (1 : Int32)))))), .second, .val (.long (-(a - b))), .second, .val (.double (FP.dmul (4611686018427387904 : UInt64) (FP.l2d (Jvm.Free.XT.ushrL (-(a - b)) (1 : Int32))))), .second] [])) (fun t₀ k₀ => XS.dstore X0.here hx rfl (hb hby d1_67) rfl (l' := #[.val (.long a), .second, .val (.long b), .second, .val (.long (a - b)), .second, .val (.double (FP.dneg (FP.dmul (4611686018427387904 : UInt64) (FP.l2d (Jvm.Free.XT.ushrL (-(a - b)) (1 : Int32)))))), .second, .val (.long (-(a - b))), .second, .val (.double (FP.dmul (4611686018427387904 : UInt64) (FP.l2d (Jvm.Free.XT.ushrL (-(a - b)) (1 : Int32))))), .second]) rfl k₀) ?_
      refine own_step (s₁.setTop (mkF m 71 #[.val (.long a), .second, .val (.long b), .second, .val (.long (a - b)), .second, .val (.double (FP.dneg (FP.dmul (4611686018427387904 : UInt64) (FP.l2d (Jvm.Free.XT.ushrL (-(a - b)) (1 : Int32)))))), .second, .val (.long (-(a - b))), .second, .val (.double (FP.dmul (4611686018427387904 : UInt64) (FP.l2d (Jvm.Free.XT.ushrL (-(a - b)) (1 : Int32))))), .second] [(.double (FP.dneg (FP.dmul (4611686018427387904 : UInt64) (FP.l2d (Jvm.Free.XT.ushrL (-(a - b)) (1 : Int32))))))])) (fun t₀ k₀ => XS.dload X0.here hx rfl (hb hby d1_69) rfl k₀) ?_
      obtain ⟨fs, hr, hrun, hended, hW, hsame⟩ := X0.leave (v := some (.double (FP.dneg (FP.dmul (4611686018427387904 : UInt64) (FP.l2d (Jvm.Free.XT.ushrL (-(a - b)) (1 : Int32))))))) (fun h => by rw [Bd.returns] at h; cases h)
      refine ⟨_, _, ?_, hrun, hended, _, _, rfl, ?_, ⟨_, rfl⟩, hW, hsame.mono (by decide) (by decide)⟩
      · exact retOut X0 hx Bd.returns rfl (Or.inr (Or.inr (Or.inl ⟨rfl, rfl, _, rfl⟩))) (hb hby d1_71) hr
      · show Q_rm1 Z a b h0 n0 _ s₁.heap _
        rw [e0]
        exact ⟨by unfold own_D; rw [if_pos hc15, if_neg hc29]; rfl, N0, rfl⟩
  · skip
    refine own_step (s₁.setTop (mkF m 18 #[.val (.long a), .second, .val (.long b), .second, .val (.long (a - b)), .second, .unset, .unset, .unset, .unset, .unset, .unset] [])) (fun t₀ k₀ => XS.ifNo X0.here hx rfl (hb hby d1_15) rfl (own_lltF hc15) k₀) ?_
    refine own_step (s₁.setTop (mkF m 20 #[.val (.long a), .second, .val (.long b), .second, .val (.long (a - b)), .second, .unset, .unset, .unset, .unset, .unset, .unset] [(.long (a - b))])) (fun t₀ k₀ => XS.lload X0.here hx rfl (hb hby d1_18) rfl k₀) ?_
    refine own_step (s₁.setTop (mkF m 21 #[.val (.long a), .second, .val (.long b), .second, .val (.long (a - b)), .second, .unset, .unset, .unset, .unset, .unset, .unset] [(.double (FP.l2d (a - b)))])) (fun t₀ k₀ => XS.l2dS X0.here hx rfl (hb hby d1_20) rfl rfl k₀) ?_
    refine own_step (s₁.setTop (mkF m 23 #[.val (.long a), .second, .val (.long b), .second, .val (.long (a - b)), .second, .val (.double (FP.l2d (a - b))), .second, .unset, .unset, .unset, .unset] [])) (fun t₀ k₀ => XS.dstore X0.here hx rfl (hb hby d1_21) rfl (l' := #[.val (.long a), .second, .val (.long b), .second, .val (.long (a - b)), .second, .val (.double (FP.l2d (a - b))), .second, .unset, .unset, .unset, .unset]) rfl k₀) ?_
    refine own_step (s₁.setTop (mkF m 69 #[.val (.long a), .second, .val (.long b), .second, .val (.long (a - b)), .second, .val (.double (FP.l2d (a - b))), .second, .unset, .unset, .unset, .unset] [])) (fun t₀ k₀ => XS.goto X0.here hx rfl (pc0 := 23) (pc' := 69) rfl (hb hby d1_23) (by decide) (by decide) k₀) ?_
    refine own_step (s₁.setTop (mkF m 71 #[.val (.long a), .second, .val (.long b), .second, .val (.long (a - b)), .second, .val (.double (FP.l2d (a - b))), .second, .unset, .unset, .unset, .unset] [(.double (FP.l2d (a - b)))])) (fun t₀ k₀ => XS.dload X0.here hx rfl (hb hby d1_69) rfl k₀) ?_
    obtain ⟨fs, hr, hrun, hended, hW, hsame⟩ := X0.leave (v := some (.double (FP.l2d (a - b)))) (fun h => by rw [Bd.returns] at h; cases h)
    refine ⟨_, _, ?_, hrun, hended, _, _, rfl, ?_, ⟨_, rfl⟩, hW, hsame.mono (by decide) (by decide)⟩
    · exact retOut X0 hx Bd.returns rfl (Or.inr (Or.inr (Or.inl ⟨rfl, rfl, _, rfl⟩))) (hb hby d1_71) hr
    · show Q_rm1 Z a b h0 n0 _ s₁.heap _
      rw [e0]
      exact ⟨by unfold own_D; rw [if_neg hc15], N0, rfl⟩
theorem d2_0 : decode method_3_code 0 = .ok (.lload_n 0, 1) := by decide +kernel
theorem d2_1 : decode method_3_code 1 = .ok (.iconst 1, 1) := by decide +kernel
theorem d2_2 : decode method_3_code 2 = .ok (.lshr, 1) := by decide +kernel
theorem d2_3 : decode method_3_code 3 = .ok (.lload_n 2, 1) := by decide +kernel
theorem d2_4 : decode method_3_code 4 = .ok (.iconst 1, 1) := by decide +kernel
theorem d2_5 : decode method_3_code 5 = .ok (.lshr, 1) := by decide +kernel
theorem d2_6 : decode method_3_code 6 = .ok (.lsub, 1) := by decide +kernel
theorem d2_7 : decode method_3_code 7 = .ok (.lstore 4, 2) := by decide +kernel
theorem d2_9 : decode method_3_code 9 = .ok (.lload_n 0, 1) := by decide +kernel
theorem d2_10 : decode method_3_code 10 = .ok (.lconst 1, 1) := by decide +kernel
theorem d2_11 : decode method_3_code 11 = .ok (.land, 1) := by decide +kernel
theorem d2_12 : decode method_3_code 12 = .ok (.lload_n 2, 1) := by decide +kernel
theorem d2_13 : decode method_3_code 13 = .ok (.lconst 1, 1) := by decide +kernel
theorem d2_14 : decode method_3_code 14 = .ok (.land, 1) := by decide +kernel
theorem d2_15 : decode method_3_code 15 = .ok (.lsub, 1) := by decide +kernel
theorem d2_16 : decode method_3_code 16 = .ok (.lstore 6, 2) := by decide +kernel
theorem d2_18 : decode method_3_code 18 = .ok (.ldc2_w 18, 3) := by decide +kernel
theorem d2_21 : decode method_3_code 21 = .ok (.lstore 8, 2) := by decide +kernel
theorem d2_23 : decode method_3_code 23 = .ok (.lload 6, 2) := by decide +kernel
theorem d2_25 : decode method_3_code 25 = .ok (.lconst 0, 1) := by decide +kernel
theorem d2_26 : decode method_3_code 26 = .ok (.lcmp, 1) := by decide +kernel
theorem d2_27 : decode method_3_code 27 = .ok (.ifCond .ge 8, 3) := by decide +kernel
theorem d2_30 : decode method_3_code 30 = .ok (.lload 8, 2) := by decide +kernel
theorem d2_32 : decode method_3_code 32 = .ok (.goto 7, 3) := by decide +kernel
theorem d2_35 : decode method_3_code 35 = .ok (.lload 8, 2) := by decide +kernel
theorem d2_37 : decode method_3_code 37 = .ok (.lconst 1, 1) := by decide +kernel
theorem d2_38 : decode method_3_code 38 = .ok (.lsub, 1) := by decide +kernel
theorem d2_39 : decode method_3_code 39 = .ok (.lstore 10, 2) := by decide +kernel
theorem d2_41 : decode method_3_code 41 = .ok (.lload 6, 2) := by decide +kernel
theorem d2_43 : decode method_3_code 43 = .ok (.lconst 0, 1) := by decide +kernel
theorem d2_44 : decode method_3_code 44 = .ok (.lcmp, 1) := by decide +kernel
theorem d2_45 : decode method_3_code 45 = .ok (.ifCond .ge 11, 3) := by decide +kernel
theorem d2_48 : decode method_3_code 48 = .ok (.lload 8, 2) := by decide +kernel
theorem d2_50 : decode method_3_code 50 = .ok (.lneg, 1) := by decide +kernel
theorem d2_51 : decode method_3_code 51 = .ok (.lconst 1, 1) := by decide +kernel
theorem d2_52 : decode method_3_code 52 = .ok (.ladd, 1) := by decide +kernel
theorem d2_53 : decode method_3_code 53 = .ok (.goto 6, 3) := by decide +kernel
theorem d2_56 : decode method_3_code 56 = .ok (.lload 8, 2) := by decide +kernel
theorem d2_58 : decode method_3_code 58 = .ok (.lneg, 1) := by decide +kernel
theorem d2_59 : decode method_3_code 59 = .ok (.lstore 12, 2) := by decide +kernel
theorem d2_61 : decode method_3_code 61 = .ok (.lload 4, 2) := by decide +kernel
theorem d2_63 : decode method_3_code 63 = .ok (.lload 10, 2) := by decide +kernel
theorem d2_65 : decode method_3_code 65 = .ok (.lcmp, 1) := by decide +kernel
theorem d2_66 : decode method_3_code 66 = .ok (.ifCond .le 20, 3) := by decide +kernel
theorem d2_69 : decode method_3_code 69 = .ok (.lload 4, 2) := by decide +kernel
theorem d2_71 : decode method_3_code 71 = .ok (.lload 6, 2) := by decide +kernel
theorem d2_73 : decode method_3_code 73 = .ok (.iconst 1, 1) := by decide +kernel
theorem d2_74 : decode method_3_code 74 = .ok (.lshr, 1) := by decide +kernel
theorem d2_75 : decode method_3_code 75 = .ok (.ladd, 1) := by decide +kernel
theorem d2_76 : decode method_3_code 76 = .ok (.lstore 14, 2) := by decide +kernel
theorem d2_78 : decode method_3_code 78 = .ok (.ldc2_w 20, 3) := by decide +kernel
theorem d2_81 : decode method_3_code 81 = .ok (.lload 14, 2) := by decide +kernel
theorem d2_83 : decode method_3_code 83 = .ok (.l2d, 1) := by decide +kernel
theorem d2_84 : decode method_3_code 84 = .ok (.dmul, 1) := by decide +kernel
theorem d2_85 : decode method_3_code 85 = .ok (.dreturn, 1) := by decide +kernel
theorem d2_86 : decode method_3_code 86 = .ok (.lload 4, 2) := by decide +kernel
theorem d2_88 : decode method_3_code 88 = .ok (.lload 12, 2) := by decide +kernel
theorem d2_90 : decode method_3_code 90 = .ok (.lcmp, 1) := by decide +kernel
theorem d2_91 : decode method_3_code 91 = .ok (.ifCond .ge 23, 3) := by decide +kernel
theorem d2_94 : decode method_3_code 94 = .ok (.lload 4, 2) := by decide +kernel
theorem d2_96 : decode method_3_code 96 = .ok (.lneg, 1) := by decide +kernel
theorem d2_97 : decode method_3_code 97 = .ok (.lload 6, 2) := by decide +kernel
theorem d2_99 : decode method_3_code 99 = .ok (.lneg, 1) := by decide +kernel
theorem d2_100 : decode method_3_code 100 = .ok (.iconst 1, 1) := by decide +kernel
theorem d2_101 : decode method_3_code 101 = .ok (.lshr, 1) := by decide +kernel
theorem d2_102 : decode method_3_code 102 = .ok (.ladd, 1) := by decide +kernel
theorem d2_103 : decode method_3_code 103 = .ok (.lstore 14, 2) := by decide +kernel
theorem d2_105 : decode method_3_code 105 = .ok (.ldc2_w 20, 3) := by decide +kernel
theorem d2_108 : decode method_3_code 108 = .ok (.lload 14, 2) := by decide +kernel
theorem d2_110 : decode method_3_code 110 = .ok (.l2d, 1) := by decide +kernel
theorem d2_111 : decode method_3_code 111 = .ok (.dmul, 1) := by decide +kernel
theorem d2_112 : decode method_3_code 112 = .ok (.dneg, 1) := by decide +kernel
theorem d2_113 : decode method_3_code 113 = .ok (.dreturn, 1) := by decide +kernel
theorem d2_114 : decode method_3_code 114 = .ok (.lload_n 0, 1) := by decide +kernel
theorem d2_115 : decode method_3_code 115 = .ok (.lload_n 2, 1) := by decide +kernel
theorem d2_116 : decode method_3_code 116 = .ok (.lsub, 1) := by decide +kernel
theorem d2_117 : decode method_3_code 117 = .ok (.l2d, 1) := by decide +kernel
theorem d2_118 : decode method_3_code 118 = .ok (.dreturn, 1) := by decide +kernel
theorem pn_2 : plainName "com/example/quillon/quillon/storage/DataTypeDifferencePinLaw" = true := by first | (simp [plainName, overriddenIn]; done) | decide +kernel
theorem ef_rm2 (m : MethodId) (a : Int64) (b : Int64) : entryFrame m #[(.long a), (.long b)] 16 = mkF m 0 #[.val (.long a), .second, .val (.long b), .second, .unset, .unset, .unset, .unset, .unset, .unset, .unset, .unset, .unset, .unset, .unset, .unset] [] := by first | (simp [entryFrame, mkF, argsToLocals, Value.category]; done) | rfl
def Q_rm2 (Z : State) (a : Int64) (b : Int64) (h0 : Heap) (n0 : Nat) (v : Option Value) (h : Heap) (L : List Loc) : Prop := v = some (.double (own_D a b)) ∧ Fr n0 L ∧ h = h0
set_option maxRecDepth 65536 in
set_option maxHeartbeats 40000000 in
theorem rm2 (l : Launch) (Z : State) (a0 : Array Value) (hw : ∀ d ∈ tables_1, d.before a0 Z = true) (ws : List Jvm.Cond) (a : Int64) (b : Int64) (h0 : Heap) (n0 : Nat) (Z0 : n0 ≤ h0.size) :
    MetFree l (⟨"com/example/quillon/quillon/storage/DataTypeDifferencePinLaw", "expected", "(JJ)D"⟩ : MethodName) (head1 (Jvm.Cond.code (⟨"com/example/quillon/quillon/storage/DataTypeDifferencePinLaw", "expected", "(JJ)D"⟩ : MethodName) method_3_code 16 (some .double) :: ws) ({ frames := 0, cells := 0, slots := 0, locals := 0 } : Room)) (fun as₉ U => as₉ = #[(.long a), (.long b)] ∧ Z.Warmed39 U.vm ∧ U.heap = h0) (fun _ _ _ _ _ => True) (fun _ U o₉ U' => ∃ v L, o₉ = .returned v ∧ Q_rm2 Z a b h0 n0 v U'.heap L ∧ FrameEnd U o₉ U' L ({ frames := 0, cells := 0, slots := 0, locals := 0 } : Room).cells ({ frames := 0, cells := 0, slots := 0, locals := 0 } : Room).slots) := by
  refine MetFree.of_bodySF (plainFor_of_name pn_2) hisR ?_
  intro p e s m args below meth c s₁ Bd hml0 hP hK
  obtain ⟨rfl, hZ, hh⟩ := hP
  have hx := Bd.exec
  have hby := Bd.bytes
  have hml : c.maxLocals = 16 := hml0
  have hown : s.vm.findClass "com/example/quillon/quillon/storage/DataTypeDifferencePinLaw" = some m.cls := findClass_of_methodNamed Bd.named
  have hnm := (name_of_methodNamed Bd.named Bd.method).1
  have X0 : Stand p l e ({ frames := 0, cells := 0, slots := 0, locals := 0 } : Room) s m #[(.long a), (.long b)] below meth c s₁ [] 0 0 := Stand.of_body Bd
  have e0 : s₁.heap = h0 := by rw [← hh, Bd.state]; rfl
  have N0 := Fr.nil n0
  show own_Go p e below (fun s₂ o₉ => s₂.status = .running ∧ Ended s₂ below o₉ ∧ ∃ v L, o₉ = .returned v ∧ Q_rm2 Z a b h0 n0 v s₂.heap L ∧ FrameEnd s o₉ s₂ L ({ frames := 0, cells := 0, slots := 0, locals := 0 } : Room).cells ({ frames := 0, cells := 0, slots := 0, locals := 0 } : Room).slots) (s₁.setTop (entryFrame m #[(.long a), (.long b)] 16))
  rw [ef_rm2 m a b]
  refine own_step (s₁.setTop (mkF m 1 #[.val (.long a), .second, .val (.long b), .second, .unset, .unset, .unset, .unset, .unset, .unset, .unset, .unset, .unset, .unset, .unset, .unset] [(.long a)])) (fun t₀ k₀ => XS.lloadN X0.here hx rfl (hb hby d2_0) rfl k₀) ?_
  refine own_step (s₁.setTop (mkF m 2 #[.val (.long a), .second, .val (.long b), .second, .unset, .unset, .unset, .unset, .unset, .unset, .unset, .unset, .unset, .unset, .unset, .unset] [(.int (1 : Int32)), (.long a)])) (fun t₀ k₀ => XS.iconst X0.here hx rfl (hb hby d2_1) k₀) ?_
  refine own_step (s₁.setTop (mkF m 3 #[.val (.long a), .second, .val (.long b), .second, .unset, .unset, .unset, .unset, .unset, .unset, .unset, .unset, .unset, .unset, .unset, .unset] [(.long (a >>> ((1 : Int32) &&& 0x3f).toInt64))])) (fun t₀ k₀ => XS.lshr X0.here hx rfl (hb hby d2_2) rfl k₀) ?_
  refine own_step (s₁.setTop (mkF m 4 #[.val (.long a), .second, .val (.long b), .second, .unset, .unset, .unset, .unset, .unset, .unset, .unset, .unset, .unset, .unset, .unset, .unset] [(.long b), (.long (a >>> ((1 : Int32) &&& 0x3f).toInt64))])) (fun t₀ k₀ => XS.lloadN X0.here hx rfl (hb hby d2_3) rfl k₀) ?_
  refine own_step (s₁.setTop (mkF m 5 #[.val (.long a), .second, .val (.long b), .second, .unset, .unset, .unset, .unset, .unset, .unset, .unset, .unset, .unset, .unset, .unset, .unset] [(.int (1 : Int32)), (.long b), (.long (a >>> ((1 : Int32) &&& 0x3f).toInt64))])) (fun t₀ k₀ => XS.iconst X0.here hx rfl (hb hby d2_4) k₀) ?_
  refine own_step (s₁.setTop (mkF m 6 #[.val (.long a), .second, .val (.long b), .second, .unset, .unset, .unset, .unset, .unset, .unset, .unset, .unset, .unset, .unset, .unset, .unset] [(.long (b >>> ((1 : Int32) &&& 0x3f).toInt64)), (.long (a >>> ((1 : Int32) &&& 0x3f).toInt64))])) (fun t₀ k₀ => XS.lshr X0.here hx rfl (hb hby d2_5) rfl k₀) ?_
  refine own_step (s₁.setTop (mkF m 7 #[.val (.long a), .second, .val (.long b), .second, .unset, .unset, .unset, .unset, .unset, .unset, .unset, .unset, .unset, .unset, .unset, .unset] [(.long ((a >>> ((1 : Int32) &&& 0x3f).toInt64) - (b >>> ((1 : Int32) &&& 0x3f).toInt64)))])) (fun t₀ k₀ => XS.lsub X0.here hx rfl (hb hby d2_6) rfl k₀) ?_
  refine own_step (s₁.setTop (mkF m 9 #[.val (.long a), .second, .val (.long b), .second, .val (.long ((a >>> ((1 : Int32) &&& 0x3f).toInt64) - (b >>> ((1 : Int32) &&& 0x3f).toInt64))), .second, .unset, .unset, .unset, .unset, .unset, .unset, .unset, .unset, .unset, .unset] [])) (fun t₀ k₀ => XS.lstore X0.here hx rfl (hb hby d2_7) rfl (l' := #[.val (.long a), .second, .val (.long b), .second, .val (.long ((a >>> ((1 : Int32) &&& 0x3f).toInt64) - (b >>> ((1 : Int32) &&& 0x3f).toInt64))), .second, .unset, .unset, .unset, .unset, .unset, .unset, .unset, .unset, .unset, .unset]) rfl k₀) ?_
  refine own_step (s₁.setTop (mkF m 10 #[.val (.long a), .second, .val (.long b), .second, .val (.long ((a >>> ((1 : Int32) &&& 0x3f).toInt64) - (b >>> ((1 : Int32) &&& 0x3f).toInt64))), .second, .unset, .unset, .unset, .unset, .unset, .unset, .unset, .unset, .unset, .unset] [(.long a)])) (fun t₀ k₀ => XS.lloadN X0.here hx rfl (hb hby d2_9) rfl k₀) ?_
  refine own_step (s₁.setTop (mkF m 11 #[.val (.long a), .second, .val (.long b), .second, .val (.long ((a >>> ((1 : Int32) &&& 0x3f).toInt64) - (b >>> ((1 : Int32) &&& 0x3f).toInt64))), .second, .unset, .unset, .unset, .unset, .unset, .unset, .unset, .unset, .unset, .unset] [(.long (1 : Int64)), (.long a)])) (fun t₀ k₀ => XS.lconst X0.here hx rfl (hb hby d2_10) k₀) ?_
  refine own_step (s₁.setTop (mkF m 12 #[.val (.long a), .second, .val (.long b), .second, .val (.long ((a >>> ((1 : Int32) &&& 0x3f).toInt64) - (b >>> ((1 : Int32) &&& 0x3f).toInt64))), .second, .unset, .unset, .unset, .unset, .unset, .unset, .unset, .unset, .unset, .unset] [(.long (a &&& (1 : Int64)))])) (fun t₀ k₀ => XS.land X0.here hx rfl (hb hby d2_11) rfl k₀) ?_
  refine own_step (s₁.setTop (mkF m 13 #[.val (.long a), .second, .val (.long b), .second, .val (.long ((a >>> ((1 : Int32) &&& 0x3f).toInt64) - (b >>> ((1 : Int32) &&& 0x3f).toInt64))), .second, .unset, .unset, .unset, .unset, .unset, .unset, .unset, .unset, .unset, .unset] [(.long b), (.long (a &&& (1 : Int64)))])) (fun t₀ k₀ => XS.lloadN X0.here hx rfl (hb hby d2_12) rfl k₀) ?_
  refine own_step (s₁.setTop (mkF m 14 #[.val (.long a), .second, .val (.long b), .second, .val (.long ((a >>> ((1 : Int32) &&& 0x3f).toInt64) - (b >>> ((1 : Int32) &&& 0x3f).toInt64))), .second, .unset, .unset, .unset, .unset, .unset, .unset, .unset, .unset, .unset, .unset] [(.long (1 : Int64)), (.long b), (.long (a &&& (1 : Int64)))])) (fun t₀ k₀ => XS.lconst X0.here hx rfl (hb hby d2_13) k₀) ?_
  refine own_step (s₁.setTop (mkF m 15 #[.val (.long a), .second, .val (.long b), .second, .val (.long ((a >>> ((1 : Int32) &&& 0x3f).toInt64) - (b >>> ((1 : Int32) &&& 0x3f).toInt64))), .second, .unset, .unset, .unset, .unset, .unset, .unset, .unset, .unset, .unset, .unset] [(.long (b &&& (1 : Int64))), (.long (a &&& (1 : Int64)))])) (fun t₀ k₀ => XS.land X0.here hx rfl (hb hby d2_14) rfl k₀) ?_
  refine own_step (s₁.setTop (mkF m 16 #[.val (.long a), .second, .val (.long b), .second, .val (.long ((a >>> ((1 : Int32) &&& 0x3f).toInt64) - (b >>> ((1 : Int32) &&& 0x3f).toInt64))), .second, .unset, .unset, .unset, .unset, .unset, .unset, .unset, .unset, .unset, .unset] [(.long ((a &&& (1 : Int64)) - (b &&& (1 : Int64))))])) (fun t₀ k₀ => XS.lsub X0.here hx rfl (hb hby d2_15) rfl k₀) ?_
  refine own_step (s₁.setTop (mkF m 18 #[.val (.long a), .second, .val (.long b), .second, .val (.long ((a >>> ((1 : Int32) &&& 0x3f).toInt64) - (b >>> ((1 : Int32) &&& 0x3f).toInt64))), .second, .val (.long ((a &&& (1 : Int64)) - (b &&& (1 : Int64)))), .second, .unset, .unset, .unset, .unset, .unset, .unset, .unset, .unset] [])) (fun t₀ k₀ => XS.lstore X0.here hx rfl (hb hby d2_16) rfl (l' := #[.val (.long a), .second, .val (.long b), .second, .val (.long ((a >>> ((1 : Int32) &&& 0x3f).toInt64) - (b >>> ((1 : Int32) &&& 0x3f).toInt64))), .second, .val (.long ((a &&& (1 : Int64)) - (b &&& (1 : Int64)))), .second, .unset, .unset, .unset, .unset, .unset, .unset, .unset, .unset]) rfl k₀) ?_
  refine own_step (s₁.setTop (mkF m 21 #[.val (.long a), .second, .val (.long b), .second, .val (.long ((a >>> ((1 : Int32) &&& 0x3f).toInt64) - (b >>> ((1 : Int32) &&& 0x3f).toInt64))), .second, .val (.long ((a &&& (1 : Int64)) - (b &&& (1 : Int64)))), .second, .unset, .unset, .unset, .unset, .unset, .unset, .unset, .unset] [(.long (4611686018427387904 : Int64))])) (fun t₀ k₀ => X0.ldc2Long hx hown (mvT hZ (hw _ (List.mem_of_getElem? (i := 8) rfl))) (g := (mkF m 18 #[.val (.long a), .second, .val (.long b), .second, .val (.long ((a >>> ((1 : Int32) &&& 0x3f).toInt64) - (b >>> ((1 : Int32) &&& 0x3f).toInt64))), .second, .val (.long ((a &&& (1 : Int64)) - (b &&& (1 : Int64)))), .second, .unset, .unset, .unset, .unset, .unset, .unset, .unset, .unset] [])) rfl (hb hby d2_18) _ k₀) ?_
  refine own_step (s₁.setTop (mkF m 23 #[.val (.long a), .second, .val (.long b), .second, .val (.long ((a >>> ((1 : Int32) &&& 0x3f).toInt64) - (b >>> ((1 : Int32) &&& 0x3f).toInt64))), .second, .val (.long ((a &&& (1 : Int64)) - (b &&& (1 : Int64)))), .second, .val (.long (4611686018427387904 : Int64)), .second, .unset, .unset, .unset, .unset, .unset, .unset] [])) (fun t₀ k₀ => XS.lstore X0.here hx rfl (hb hby d2_21) rfl (l' := #[.val (.long a), .second, .val (.long b), .second, .val (.long ((a >>> ((1 : Int32) &&& 0x3f).toInt64) - (b >>> ((1 : Int32) &&& 0x3f).toInt64))), .second, .val (.long ((a &&& (1 : Int64)) - (b &&& (1 : Int64)))), .second, .val (.long (4611686018427387904 : Int64)), .second, .unset, .unset, .unset, .unset, .unset, .unset]) rfl k₀) ?_
  refine own_step (s₁.setTop (mkF m 25 #[.val (.long a), .second, .val (.long b), .second, .val (.long ((a >>> ((1 : Int32) &&& 0x3f).toInt64) - (b >>> ((1 : Int32) &&& 0x3f).toInt64))), .second, .val (.long ((a &&& (1 : Int64)) - (b &&& (1 : Int64)))), .second, .val (.long (4611686018427387904 : Int64)), .second, .unset, .unset, .unset, .unset, .unset, .unset] [(.long ((a &&& (1 : Int64)) - (b &&& (1 : Int64))))])) (fun t₀ k₀ => XS.lload X0.here hx rfl (hb hby d2_23) rfl k₀) ?_
  refine own_step (s₁.setTop (mkF m 26 #[.val (.long a), .second, .val (.long b), .second, .val (.long ((a >>> ((1 : Int32) &&& 0x3f).toInt64) - (b >>> ((1 : Int32) &&& 0x3f).toInt64))), .second, .val (.long ((a &&& (1 : Int64)) - (b &&& (1 : Int64)))), .second, .val (.long (4611686018427387904 : Int64)), .second, .unset, .unset, .unset, .unset, .unset, .unset] [(.long (0 : Int64)), (.long ((a &&& (1 : Int64)) - (b &&& (1 : Int64))))])) (fun t₀ k₀ => XS.lconst X0.here hx rfl (hb hby d2_25) k₀) ?_
  refine own_step (s₁.setTop (mkF m 27 #[.val (.long a), .second, .val (.long b), .second, .val (.long ((a >>> ((1 : Int32) &&& 0x3f).toInt64) - (b >>> ((1 : Int32) &&& 0x3f).toInt64))), .second, .val (.long ((a &&& (1 : Int64)) - (b &&& (1 : Int64)))), .second, .val (.long (4611686018427387904 : Int64)), .second, .unset, .unset, .unset, .unset, .unset, .unset] [(.int (lcmpW ((a &&& (1 : Int64)) - (b &&& (1 : Int64))) (0 : Int64)))])) (fun t₀ k₀ => XS.lcmp X0.here hx rfl (hb hby d2_26) rfl k₀) ?_
  by_cases hc27 : ((a &&& (1 : Int64)) - (b &&& (1 : Int64))) < (0 : Int64)
  · skip
    refine own_step (s₁.setTop (mkF m 30 #[.val (.long a), .second, .val (.long b), .second, .val (.long ((a >>> ((1 : Int32) &&& 0x3f).toInt64) - (b >>> ((1 : Int32) &&& 0x3f).toInt64))), .second, .val (.long ((a &&& (1 : Int64)) - (b &&& (1 : Int64)))), .second, .val (.long (4611686018427387904 : Int64)), .second, .unset, .unset, .unset, .unset, .unset, .unset] [])) (fun t₀ k₀ => XS.ifNo X0.here hx rfl (hb hby d2_27) rfl (own_lgeF hc27) k₀) ?_
    refine own_step (s₁.setTop (mkF m 32 #[.val (.long a), .second, .val (.long b), .second, .val (.long ((a >>> ((1 : Int32) &&& 0x3f).toInt64) - (b >>> ((1 : Int32) &&& 0x3f).toInt64))), .second, .val (.long ((a &&& (1 : Int64)) - (b &&& (1 : Int64)))), .second, .val (.long (4611686018427387904 : Int64)), .second, .unset, .unset, .unset, .unset, .unset, .unset] [(.long (4611686018427387904 : Int64))])) (fun t₀ k₀ => XS.lload X0.here hx rfl (hb hby d2_30) rfl k₀) ?_
    refine own_step (s₁.setTop (mkF m 39 #[.val (.long a), .second, .val (.long b), .second, .val (.long ((a >>> ((1 : Int32) &&& 0x3f).toInt64) - (b >>> ((1 : Int32) &&& 0x3f).toInt64))), .second, .val (.long ((a &&& (1 : Int64)) - (b &&& (1 : Int64)))), .second, .val (.long (4611686018427387904 : Int64)), .second, .unset, .unset, .unset, .unset, .unset, .unset] [(.long (4611686018427387904 : Int64))])) (fun t₀ k₀ => XS.goto X0.here hx rfl (pc0 := 32) (pc' := 39) rfl (hb hby d2_32) (by decide) (by decide) k₀) ?_
    refine own_step (s₁.setTop (mkF m 41 #[.val (.long a), .second, .val (.long b), .second, .val (.long ((a >>> ((1 : Int32) &&& 0x3f).toInt64) - (b >>> ((1 : Int32) &&& 0x3f).toInt64))), .second, .val (.long ((a &&& (1 : Int64)) - (b &&& (1 : Int64)))), .second, .val (.long (4611686018427387904 : Int64)), .second, .val (.long (4611686018427387904 : Int64)), .second, .unset, .unset, .unset, .unset] [])) (fun t₀ k₀ => XS.lstore X0.here hx rfl (hb hby d2_39) rfl (l' := #[.val (.long a), .second, .val (.long b), .second, .val (.long ((a >>> ((1 : Int32) &&& 0x3f).toInt64) - (b >>> ((1 : Int32) &&& 0x3f).toInt64))), .second, .val (.long ((a &&& (1 : Int64)) - (b &&& (1 : Int64)))), .second, .val (.long (4611686018427387904 : Int64)), .second, .val (.long (4611686018427387904 : Int64)), .second, .unset, .unset, .unset, .unset]) rfl k₀) ?_
    refine own_step (s₁.setTop (mkF m 43 #[.val (.long a), .second, .val (.long b), .second, .val (.long ((a >>> ((1 : Int32) &&& 0x3f).toInt64) - (b >>> ((1 : Int32) &&& 0x3f).toInt64))), .second, .val (.long ((a &&& (1 : Int64)) - (b &&& (1 : Int64)))), .second, .val (.long (4611686018427387904 : Int64)), .second, .val (.long (4611686018427387904 : Int64)), .second, .unset, .unset, .unset, .unset] [(.long ((a &&& (1 : Int64)) - (b &&& (1 : Int64))))])) (fun t₀ k₀ => XS.lload X0.here hx rfl (hb hby d2_41) rfl k₀) ?_
    refine own_step (s₁.setTop (mkF m 44 #[.val (.long a), .second, .val (.long b), .second, .val (.long ((a >>> ((1 : Int32) &&& 0x3f).toInt64) - (b >>> ((1 : Int32) &&& 0x3f).toInt64))), .second, .val (.long ((a &&& (1 : Int64)) - (b &&& (1 : Int64)))), .second, .val (.long (4611686018427387904 : Int64)), .second, .val (.long (4611686018427387904 : Int64)), .second, .unset, .unset, .unset, .unset] [(.long (0 : Int64)), (.long ((a &&& (1 : Int64)) - (b &&& (1 : Int64))))])) (fun t₀ k₀ => XS.lconst X0.here hx rfl (hb hby d2_43) k₀) ?_
    refine own_step (s₁.setTop (mkF m 45 #[.val (.long a), .second, .val (.long b), .second, .val (.long ((a >>> ((1 : Int32) &&& 0x3f).toInt64) - (b >>> ((1 : Int32) &&& 0x3f).toInt64))), .second, .val (.long ((a &&& (1 : Int64)) - (b &&& (1 : Int64)))), .second, .val (.long (4611686018427387904 : Int64)), .second, .val (.long (4611686018427387904 : Int64)), .second, .unset, .unset, .unset, .unset] [(.int (lcmpW ((a &&& (1 : Int64)) - (b &&& (1 : Int64))) (0 : Int64)))])) (fun t₀ k₀ => XS.lcmp X0.here hx rfl (hb hby d2_44) rfl k₀) ?_
    have hk3 : ((a &&& (1 : Int64)) - (b &&& (1 : Int64))) < (0 : Int64) := hc27
    refine own_step (s₁.setTop (mkF m 48 #[.val (.long a), .second, .val (.long b), .second, .val (.long ((a >>> ((1 : Int32) &&& 0x3f).toInt64) - (b >>> ((1 : Int32) &&& 0x3f).toInt64))), .second, .val (.long ((a &&& (1 : Int64)) - (b &&& (1 : Int64)))), .second, .val (.long (4611686018427387904 : Int64)), .second, .val (.long (4611686018427387904 : Int64)), .second, .unset, .unset, .unset, .unset] [])) (fun t₀ k₀ => XS.ifNo X0.here hx rfl (hb hby d2_45) rfl (own_lgeF hk3) k₀) ?_
    refine own_step (s₁.setTop (mkF m 50 #[.val (.long a), .second, .val (.long b), .second, .val (.long ((a >>> ((1 : Int32) &&& 0x3f).toInt64) - (b >>> ((1 : Int32) &&& 0x3f).toInt64))), .second, .val (.long ((a &&& (1 : Int64)) - (b &&& (1 : Int64)))), .second, .val (.long (4611686018427387904 : Int64)), .second, .val (.long (4611686018427387904 : Int64)), .second, .unset, .unset, .unset, .unset] [(.long (4611686018427387904 : Int64))])) (fun t₀ k₀ => XS.lload X0.here hx rfl (hb hby d2_48) rfl k₀) ?_
    refine own_step (s₁.setTop (mkF m 51 #[.val (.long a), .second, .val (.long b), .second, .val (.long ((a >>> ((1 : Int32) &&& 0x3f).toInt64) - (b >>> ((1 : Int32) &&& 0x3f).toInt64))), .second, .val (.long ((a &&& (1 : Int64)) - (b &&& (1 : Int64)))), .second, .val (.long (4611686018427387904 : Int64)), .second, .val (.long (4611686018427387904 : Int64)), .second, .unset, .unset, .unset, .unset] [(.long (-(4611686018427387904 : Int64)))])) (fun t₀ k₀ => XS.lneg X0.here hx rfl (hb hby d2_50) rfl k₀) ?_
    refine own_step (s₁.setTop (mkF m 52 #[.val (.long a), .second, .val (.long b), .second, .val (.long ((a >>> ((1 : Int32) &&& 0x3f).toInt64) - (b >>> ((1 : Int32) &&& 0x3f).toInt64))), .second, .val (.long ((a &&& (1 : Int64)) - (b &&& (1 : Int64)))), .second, .val (.long (4611686018427387904 : Int64)), .second, .val (.long (4611686018427387904 : Int64)), .second, .unset, .unset, .unset, .unset] [(.long (1 : Int64)), (.long (-(4611686018427387904 : Int64)))])) (fun t₀ k₀ => XS.lconst X0.here hx rfl (hb hby d2_51) k₀) ?_
    refine own_step (s₁.setTop (mkF m 53 #[.val (.long a), .second, .val (.long b), .second, .val (.long ((a >>> ((1 : Int32) &&& 0x3f).toInt64) - (b >>> ((1 : Int32) &&& 0x3f).toInt64))), .second, .val (.long ((a &&& (1 : Int64)) - (b &&& (1 : Int64)))), .second, .val (.long (4611686018427387904 : Int64)), .second, .val (.long (4611686018427387904 : Int64)), .second, .unset, .unset, .unset, .unset] [(.long ((-(4611686018427387904 : Int64)) + (1 : Int64)))])) (fun t₀ k₀ => XS.ladd X0.here hx rfl (hb hby d2_52) rfl k₀) ?_
    refine own_step (s₁.setTop (mkF m 59 #[.val (.long a), .second, .val (.long b), .second, .val (.long ((a >>> ((1 : Int32) &&& 0x3f).toInt64) - (b >>> ((1 : Int32) &&& 0x3f).toInt64))), .second, .val (.long ((a &&& (1 : Int64)) - (b &&& (1 : Int64)))), .second, .val (.long (4611686018427387904 : Int64)), .second, .val (.long (4611686018427387904 : Int64)), .second, .unset, .unset, .unset, .unset] [(.long ((-(4611686018427387904 : Int64)) + (1 : Int64)))])) (fun t₀ k₀ => XS.goto X0.here hx rfl (pc0 := 53) (pc' := 59) rfl (hb hby d2_53) (by decide) (by decide) k₀) ?_
    refine own_step (s₁.setTop (mkF m 61 #[.val (.long a), .second, .val (.long b), .second, .val (.long ((a >>> ((1 : Int32) &&& 0x3f).toInt64) - (b >>> ((1 : Int32) &&& 0x3f).toInt64))), .second, .val (.long ((a &&& (1 : Int64)) - (b &&& (1 : Int64)))), .second, .val (.long (4611686018427387904 : Int64)), .second, .val (.long (4611686018427387904 : Int64)), .second, .val (.long ((-(4611686018427387904 : Int64)) + (1 : Int64))), .second, .unset, .unset] [])) (fun t₀ k₀ => XS.lstore X0.here hx rfl (hb hby d2_59) rfl (l' := #[.val (.long a), .second, .val (.long b), .second, .val (.long ((a >>> ((1 : Int32) &&& 0x3f).toInt64) - (b >>> ((1 : Int32) &&& 0x3f).toInt64))), .second, .val (.long ((a &&& (1 : Int64)) - (b &&& (1 : Int64)))), .second, .val (.long (4611686018427387904 : Int64)), .second, .val (.long (4611686018427387904 : Int64)), .second, .val (.long ((-(4611686018427387904 : Int64)) + (1 : Int64))), .second, .unset, .unset]) rfl k₀) ?_
    refine own_step (s₁.setTop (mkF m 63 #[.val (.long a), .second, .val (.long b), .second, .val (.long ((a >>> ((1 : Int32) &&& 0x3f).toInt64) - (b >>> ((1 : Int32) &&& 0x3f).toInt64))), .second, .val (.long ((a &&& (1 : Int64)) - (b &&& (1 : Int64)))), .second, .val (.long (4611686018427387904 : Int64)), .second, .val (.long (4611686018427387904 : Int64)), .second, .val (.long ((-(4611686018427387904 : Int64)) + (1 : Int64))), .second, .unset, .unset] [(.long ((a >>> ((1 : Int32) &&& 0x3f).toInt64) - (b >>> ((1 : Int32) &&& 0x3f).toInt64)))])) (fun t₀ k₀ => XS.lload X0.here hx rfl (hb hby d2_61) rfl k₀) ?_
    refine own_step (s₁.setTop (mkF m 65 #[.val (.long a), .second, .val (.long b), .second, .val (.long ((a >>> ((1 : Int32) &&& 0x3f).toInt64) - (b >>> ((1 : Int32) &&& 0x3f).toInt64))), .second, .val (.long ((a &&& (1 : Int64)) - (b &&& (1 : Int64)))), .second, .val (.long (4611686018427387904 : Int64)), .second, .val (.long (4611686018427387904 : Int64)), .second, .val (.long ((-(4611686018427387904 : Int64)) + (1 : Int64))), .second, .unset, .unset] [(.long (4611686018427387904 : Int64)), (.long ((a >>> ((1 : Int32) &&& 0x3f).toInt64) - (b >>> ((1 : Int32) &&& 0x3f).toInt64)))])) (fun t₀ k₀ => XS.lload X0.here hx rfl (hb hby d2_63) rfl k₀) ?_
    refine own_step (s₁.setTop (mkF m 66 #[.val (.long a), .second, .val (.long b), .second, .val (.long ((a >>> ((1 : Int32) &&& 0x3f).toInt64) - (b >>> ((1 : Int32) &&& 0x3f).toInt64))), .second, .val (.long ((a &&& (1 : Int64)) - (b &&& (1 : Int64)))), .second, .val (.long (4611686018427387904 : Int64)), .second, .val (.long (4611686018427387904 : Int64)), .second, .val (.long ((-(4611686018427387904 : Int64)) + (1 : Int64))), .second, .unset, .unset] [(.int (lcmpW ((a >>> ((1 : Int32) &&& 0x3f).toInt64) - (b >>> ((1 : Int32) &&& 0x3f).toInt64)) (4611686018427387904 : Int64)))])) (fun t₀ k₀ => XS.lcmp X0.here hx rfl (hb hby d2_65) rfl k₀) ?_
    by_cases hc66 : (4611686018427387904 : Int64) < ((a >>> ((1 : Int32) &&& 0x3f).toInt64) - (b >>> ((1 : Int32) &&& 0x3f).toInt64))
    · skip
      refine own_step (s₁.setTop (mkF m 69 #[.val (.long a), .second, .val (.long b), .second, .val (.long ((a >>> ((1 : Int32) &&& 0x3f).toInt64) - (b >>> ((1 : Int32) &&& 0x3f).toInt64))), .second, .val (.long ((a &&& (1 : Int64)) - (b &&& (1 : Int64)))), .second, .val (.long (4611686018427387904 : Int64)), .second, .val (.long (4611686018427387904 : Int64)), .second, .val (.long ((-(4611686018427387904 : Int64)) + (1 : Int64))), .second, .unset, .unset] [])) (fun t₀ k₀ => XS.ifNo X0.here hx rfl (hb hby d2_66) rfl (own_lleF hc66) k₀) ?_
      refine own_step (s₁.setTop (mkF m 71 #[.val (.long a), .second, .val (.long b), .second, .val (.long ((a >>> ((1 : Int32) &&& 0x3f).toInt64) - (b >>> ((1 : Int32) &&& 0x3f).toInt64))), .second, .val (.long ((a &&& (1 : Int64)) - (b &&& (1 : Int64)))), .second, .val (.long (4611686018427387904 : Int64)), .second, .val (.long (4611686018427387904 : Int64)), .second, .val (.long ((-(4611686018427387904 : Int64)) + (1 : Int64))), .second, .unset, .unset] [(.long ((a >>> ((1 : Int32) &&& 0x3f).toInt64) - (b >>> ((1 : Int32) &&& 0x3f).toInt64)))])) (fun t₀ k₀ => XS.lload X0.here hx rfl (hb hby d2_69) rfl k₀) ?_
      refine own_step (s₁.setTop (mkF m 73 #[.val (.long a), .second, .val (.long b), .second, .val (.long ((a >>> ((1 : Int32) &&& 0x3f).toInt64) - (b >>> ((1 : Int32) &&& 0x3f).toInt64))), .second, .val (.long ((a &&& (1 : Int64)) - (b &&& (1 : Int64)))), .second, .val (.long (4611686018427387904 : Int64)), .second, .val (.long (4611686018427387904 : Int64)), .second, .val (.long ((-(4611686018427387904 : Int64)) + (1 : Int64))), .second, .unset, .unset] [(.long ((a &&& (1 : Int64)) - (b &&& (1 : Int64)))), (.long ((a >>> ((1 : Int32) &&& 0x3f).toInt64) - (b >>> ((1 : Int32) &&& 0x3f).toInt64)))])) (fun t₀ k₀ => XS.lload X0.here hx rfl (hb hby d2_71) rfl k₀) ?_
      refine own_step (s₁.setTop (mkF m 74 #[.val (.long a), .second, .val (.long b), .second, .val (.long ((a >>> ((1 : Int32) &&& 0x3f).toInt64) - (b >>> ((1 : Int32) &&& 0x3f).toInt64))), .second, .val (.long ((a &&& (1 : Int64)) - (b &&& (1 : Int64)))), .second, .val (.long (4611686018427387904 : Int64)), .second, .val (.long (4611686018427387904 : Int64)), .second, .val (.long ((-(4611686018427387904 : Int64)) + (1 : Int64))), .second, .unset, .unset] [(.int (1 : Int32)), (.long ((a &&& (1 : Int64)) - (b &&& (1 : Int64)))), (.long ((a >>> ((1 : Int32) &&& 0x3f).toInt64) - (b >>> ((1 : Int32) &&& 0x3f).toInt64)))])) (fun t₀ k₀ => XS.iconst X0.here hx rfl (hb hby d2_73) k₀) ?_
      refine own_step (s₁.setTop (mkF m 75 #[.val (.long a), .second, .val (.long b), .second, .val (.long ((a >>> ((1 : Int32) &&& 0x3f).toInt64) - (b >>> ((1 : Int32) &&& 0x3f).toInt64))), .second, .val (.long ((a &&& (1 : Int64)) - (b &&& (1 : Int64)))), .second, .val (.long (4611686018427387904 : Int64)), .second, .val (.long (4611686018427387904 : Int64)), .second, .val (.long ((-(4611686018427387904 : Int64)) + (1 : Int64))), .second, .unset, .unset] [(.long (((a &&& (1 : Int64)) - (b &&& (1 : Int64))) >>> ((1 : Int32) &&& 0x3f).toInt64)), (.long ((a >>> ((1 : Int32) &&& 0x3f).toInt64) - (b >>> ((1 : Int32) &&& 0x3f).toInt64)))])) (fun t₀ k₀ => XS.lshr X0.here hx rfl (hb hby d2_74) rfl k₀) ?_
      refine own_step (s₁.setTop (mkF m 76 #[.val (.long a), .second, .val (.long b), .second, .val (.long ((a >>> ((1 : Int32) &&& 0x3f).toInt64) - (b >>> ((1 : Int32) &&& 0x3f).toInt64))), .second, .val (.long ((a &&& (1 : Int64)) - (b &&& (1 : Int64)))), .second, .val (.long (4611686018427387904 : Int64)), .second, .val (.long (4611686018427387904 : Int64)), .second, .val (.long ((-(4611686018427387904 : Int64)) + (1 : Int64))), .second, .unset, .unset] [(.long (((a >>> ((1 : Int32) &&& 0x3f).toInt64) - (b >>> ((1 : Int32) &&& 0x3f).toInt64)) + (((a &&& (1 : Int64)) - (b &&& (1 : Int64))) >>> ((1 : Int32) &&& 0x3f).toInt64)))])) (fun t₀ k₀ => XS.ladd X0.here hx rfl (hb hby d2_75) rfl k₀) ?_
      refine own_step (s₁.setTop (mkF m 78 #[.val (.long a), .second, .val (.long b), .second, .val (.long ((a >>> ((1 : Int32) &&& 0x3f).toInt64) - (b >>> ((1 : Int32) &&& 0x3f).toInt64))), .second, .val (.long ((a &&& (1 : Int64)) - (b &&& (1 : Int64)))), .second, .val (.long (4611686018427387904 : Int64)), .second, .val (.long (4611686018427387904 : Int64)), .second, .val (.long ((-(4611686018427387904 : Int64)) + (1 : Int64))), .second, .val (.long (((a >>> ((1 : Int32) &&& 0x3f).toInt64) - (b >>> ((1 : Int32) &&& 0x3f).toInt64)) + (((a &&& (1 : Int64)) - (b &&& (1 : Int64))) >>> ((1 : Int32) &&& 0x3f).toInt64))), .second] [])) (fun t₀ k₀ => XS.lstore X0.here hx rfl (hb hby d2_76) rfl (l' := #[.val (.long a), .second, .val (.long b), .second, .val (.long ((a >>> ((1 : Int32) &&& 0x3f).toInt64) - (b >>> ((1 : Int32) &&& 0x3f).toInt64))), .second, .val (.long ((a &&& (1 : Int64)) - (b &&& (1 : Int64)))), .second, .val (.long (4611686018427387904 : Int64)), .second, .val (.long (4611686018427387904 : Int64)), .second, .val (.long ((-(4611686018427387904 : Int64)) + (1 : Int64))), .second, .val (.long (((a >>> ((1 : Int32) &&& 0x3f).toInt64) - (b >>> ((1 : Int32) &&& 0x3f).toInt64)) + (((a &&& (1 : Int64)) - (b &&& (1 : Int64))) >>> ((1 : Int32) &&& 0x3f).toInt64))), .second]) rfl k₀) ?_
      refine own_step (s₁.setTop (mkF m 81 #[.val (.long a), .second, .val (.long b), .second, .val (.long ((a >>> ((1 : Int32) &&& 0x3f).toInt64) - (b >>> ((1 : Int32) &&& 0x3f).toInt64))), .second, .val (.long ((a &&& (1 : Int64)) - (b &&& (1 : Int64)))), .second, .val (.long (4611686018427387904 : Int64)), .second, .val (.long (4611686018427387904 : Int64)), .second, .val (.long ((-(4611686018427387904 : Int64)) + (1 : Int64))), .second, .val (.long (((a >>> ((1 : Int32) &&& 0x3f).toInt64) - (b >>> ((1 : Int32) &&& 0x3f).toInt64)) + (((a &&& (1 : Int64)) - (b &&& (1 : Int64))) >>> ((1 : Int32) &&& 0x3f).toInt64))), .second] [(.double (4611686018427387904 : UInt64))])) (fun t₀ k₀ => X0.ldc2DoubleC hx hown (mvT hZ (hw _ (List.mem_of_getElem? (i := 10) rfl))) (g := (mkF m 78 #[.val (.long a), .second, .val (.long b), .second, .val (.long ((a >>> ((1 : Int32) &&& 0x3f).toInt64) - (b >>> ((1 : Int32) &&& 0x3f).toInt64))), .second, .val (.long ((a &&& (1 : Int64)) - (b &&& (1 : Int64)))), .second, .val (.long (4611686018427387904 : Int64)), .second, .val (.long (4611686018427387904 : Int64)), .second, .val (.long ((-(4611686018427387904 : Int64)) + (1 : Int64))), .second, .val (.long (((a >>> ((1 : Int32) &&& 0x3f).toInt64) - (b >>> ((1 : Int32) &&& 0x3f).toInt64)) + (((a &&& (1 : Int64)) - (b &&& (1 : Int64))) >>> ((1 : Int32) &&& 0x3f).toInt64))), .second] [])) rfl (hb hby d2_78) _ k₀) ?_
      refine own_step (s₁.setTop (mkF m 83 #[.val (.long a), .second, .val (.long b), .second, .val (.long ((a >>> ((1 : Int32) &&& 0x3f).toInt64) - (b >>> ((1 : Int32) &&& 0x3f).toInt64))), .second, .val (.long ((a &&& (1 : Int64)) - (b &&& (1 : Int64)))), .second, .val (.long (4611686018427387904 : Int64)), .second, .val (.long (4611686018427387904 : Int64)), .second, .val (.long ((-(4611686018427387904 : Int64)) + (1 : Int64))), .second, .val (.long (((a >>> ((1 : Int32) &&& 0x3f).toInt64) - (b >>> ((1 : Int32) &&& 0x3f).toInt64)) + (((a &&& (1 : Int64)) - (b &&& (1 : Int64))) >>> ((1 : Int32) &&& 0x3f).toInt64))), .second] [(.long (((a >>> ((1 : Int32) &&& 0x3f).toInt64) - (b >>> ((1 : Int32) &&& 0x3f).toInt64)) + (((a &&& (1 : Int64)) - (b &&& (1 : Int64))) >>> ((1 : Int32) &&& 0x3f).toInt64))), (.double (4611686018427387904 : UInt64))])) (fun t₀ k₀ => XS.lload X0.here hx rfl (hb hby d2_81) rfl k₀) ?_
      refine own_step (s₁.setTop (mkF m 84 #[.val (.long a), .second, .val (.long b), .second, .val (.long ((a >>> ((1 : Int32) &&& 0x3f).toInt64) - (b >>> ((1 : Int32) &&& 0x3f).toInt64))), .second, .val (.long ((a &&& (1 : Int64)) - (b &&& (1 : Int64)))), .second, .val (.long (4611686018427387904 : Int64)), .second, .val (.long (4611686018427387904 : Int64)), .second, .val (.long ((-(4611686018427387904 : Int64)) + (1 : Int64))), .second, .val (.long (((a >>> ((1 : Int32) &&& 0x3f).toInt64) - (b >>> ((1 : Int32) &&& 0x3f).toInt64)) + (((a &&& (1 : Int64)) - (b &&& (1 : Int64))) >>> ((1 : Int32) &&& 0x3f).toInt64))), .second] [(.double (FP.l2d (((a >>> ((1 : Int32) &&& 0x3f).toInt64) - (b >>> ((1 : Int32) &&& 0x3f).toInt64)) + (((a &&& (1 : Int64)) - (b &&& (1 : Int64))) >>> ((1 : Int32) &&& 0x3f).toInt64)))), (.double (4611686018427387904 : UInt64))])) (fun t₀ k₀ => XS.l2dS X0.here hx rfl (hb hby d2_83) rfl rfl k₀) ?_
      refine own_step (s₁.setTop (mkF m 85 #[.val (.long a), .second, .val (.long b), .second, .val (.long ((a >>> ((1 : Int32) &&& 0x3f).toInt64) - (b >>> ((1 : Int32) &&& 0x3f).toInt64))), .second, .val (.long ((a &&& (1 : Int64)) - (b &&& (1 : Int64)))), .second, .val (.long (4611686018427387904 : Int64)), .second, .val (.long (4611686018427387904 : Int64)), .second, .val (.long ((-(4611686018427387904 : Int64)) + (1 : Int64))), .second, .val (.long (((a >>> ((1 : Int32) &&& 0x3f).toInt64) - (b >>> ((1 : Int32) &&& 0x3f).toInt64)) + (((a &&& (1 : Int64)) - (b &&& (1 : Int64))) >>> ((1 : Int32) &&& 0x3f).toInt64))), .second] [(.double (FP.dmul (4611686018427387904 : UInt64) (FP.l2d (((a >>> ((1 : Int32) &&& 0x3f).toInt64) - (b >>> ((1 : Int32) &&& 0x3f).toInt64)) + (((a &&& (1 : Int64)) - (b &&& (1 : Int64))) >>> ((1 : Int32) &&& 0x3f).toInt64)))))])) (fun t₀ k₀ => XS.dmulS X0.here hx rfl (hb hby d2_84) rfl (own_mulN _) rfl k₀) ?_
      obtain ⟨fs, hr, hrun, hended, hW, hsame⟩ := X0.leave (v := some (.double (FP.dmul (4611686018427387904 : UInt64) (FP.l2d (((a >>> ((1 : Int32) &&& 0x3f).toInt64) - (b >>> ((1 : Int32) &&& 0x3f).toInt64)) + (((a &&& (1 : Int64)) - (b &&& (1 : Int64))) >>> ((1 : Int32) &&& 0x3f).toInt64)))))) (fun h => by rw [Bd.returns] at h; cases h)
      refine ⟨_, _, ?_, hrun, hended, _, _, rfl, ?_, ⟨_, rfl⟩, hW, hsame.mono (by decide) (by decide)⟩
      · exact retOut X0 hx Bd.returns rfl (Or.inr (Or.inr (Or.inl ⟨rfl, rfl, _, rfl⟩))) (hb hby d2_85) hr
      · show Q_rm2 Z a b h0 n0 _ s₁.heap _
        rw [e0]
        exact ⟨congrArg (fun z => some (Value.double z)) (own_E1 ((own_up1 hc27).mp hc66)), N0, rfl⟩
    · skip
      refine own_step (s₁.setTop (mkF m 86 #[.val (.long a), .second, .val (.long b), .second, .val (.long ((a >>> ((1 : Int32) &&& 0x3f).toInt64) - (b >>> ((1 : Int32) &&& 0x3f).toInt64))), .second, .val (.long ((a &&& (1 : Int64)) - (b &&& (1 : Int64)))), .second, .val (.long (4611686018427387904 : Int64)), .second, .val (.long (4611686018427387904 : Int64)), .second, .val (.long ((-(4611686018427387904 : Int64)) + (1 : Int64))), .second, .unset, .unset] [])) (fun t₀ k₀ => XS.ifYes X0.here hx rfl (pc0 := 66) (pc' := 86) rfl (hb hby d2_66) rfl (own_lleT hc66) (by decide) (by decide) k₀) ?_
      refine own_step (s₁.setTop (mkF m 88 #[.val (.long a), .second, .val (.long b), .second, .val (.long ((a >>> ((1 : Int32) &&& 0x3f).toInt64) - (b >>> ((1 : Int32) &&& 0x3f).toInt64))), .second, .val (.long ((a &&& (1 : Int64)) - (b &&& (1 : Int64)))), .second, .val (.long (4611686018427387904 : Int64)), .second, .val (.long (4611686018427387904 : Int64)), .second, .val (.long ((-(4611686018427387904 : Int64)) + (1 : Int64))), .second, .unset, .unset] [(.long ((a >>> ((1 : Int32) &&& 0x3f).toInt64) - (b >>> ((1 : Int32) &&& 0x3f).toInt64)))])) (fun t₀ k₀ => XS.lload X0.here hx rfl (hb hby d2_86) rfl k₀) ?_
      refine own_step (s₁.setTop (mkF m 90 #[.val (.long a), .second, .val (.long b), .second, .val (.long ((a >>> ((1 : Int32) &&& 0x3f).toInt64) - (b >>> ((1 : Int32) &&& 0x3f).toInt64))), .second, .val (.long ((a &&& (1 : Int64)) - (b &&& (1 : Int64)))), .second, .val (.long (4611686018427387904 : Int64)), .second, .val (.long (4611686018427387904 : Int64)), .second, .val (.long ((-(4611686018427387904 : Int64)) + (1 : Int64))), .second, .unset, .unset] [(.long ((-(4611686018427387904 : Int64)) + (1 : Int64))), (.long ((a >>> ((1 : Int32) &&& 0x3f).toInt64) - (b >>> ((1 : Int32) &&& 0x3f).toInt64)))])) (fun t₀ k₀ => XS.lload X0.here hx rfl (hb hby d2_88) rfl k₀) ?_
      refine own_step (s₁.setTop (mkF m 91 #[.val (.long a), .second, .val (.long b), .second, .val (.long ((a >>> ((1 : Int32) &&& 0x3f).toInt64) - (b >>> ((1 : Int32) &&& 0x3f).toInt64))), .second, .val (.long ((a &&& (1 : Int64)) - (b &&& (1 : Int64)))), .second, .val (.long (4611686018427387904 : Int64)), .second, .val (.long (4611686018427387904 : Int64)), .second, .val (.long ((-(4611686018427387904 : Int64)) + (1 : Int64))), .second, .unset, .unset] [(.int (lcmpW ((a >>> ((1 : Int32) &&& 0x3f).toInt64) - (b >>> ((1 : Int32) &&& 0x3f).toInt64)) ((-(4611686018427387904 : Int64)) + (1 : Int64))))])) (fun t₀ k₀ => XS.lcmp X0.here hx rfl (hb hby d2_90) rfl k₀) ?_
      by_cases hc91 : ((a >>> ((1 : Int32) &&& 0x3f).toInt64) - (b >>> ((1 : Int32) &&& 0x3f).toInt64)) < ((-(4611686018427387904 : Int64)) + (1 : Int64))
      · skip
        refine own_step (s₁.setTop (mkF m 94 #[.val (.long a), .second, .val (.long b), .second, .val (.long ((a >>> ((1 : Int32) &&& 0x3f).toInt64) - (b >>> ((1 : Int32) &&& 0x3f).toInt64))), .second, .val (.long ((a &&& (1 : Int64)) - (b &&& (1 : Int64)))), .second, .val (.long (4611686018427387904 : Int64)), .second, .val (.long (4611686018427387904 : Int64)), .second, .val (.long ((-(4611686018427387904 : Int64)) + (1 : Int64))), .second, .unset, .unset] [])) (fun t₀ k₀ => XS.ifNo X0.here hx rfl (hb hby d2_91) rfl (own_lgeF hc91) k₀) ?_
        refine own_step (s₁.setTop (mkF m 96 #[.val (.long a), .second, .val (.long b), .second, .val (.long ((a >>> ((1 : Int32) &&& 0x3f).toInt64) - (b >>> ((1 : Int32) &&& 0x3f).toInt64))), .second, .val (.long ((a &&& (1 : Int64)) - (b &&& (1 : Int64)))), .second, .val (.long (4611686018427387904 : Int64)), .second, .val (.long (4611686018427387904 : Int64)), .second, .val (.long ((-(4611686018427387904 : Int64)) + (1 : Int64))), .second, .unset, .unset] [(.long ((a >>> ((1 : Int32) &&& 0x3f).toInt64) - (b >>> ((1 : Int32) &&& 0x3f).toInt64)))])) (fun t₀ k₀ => XS.lload X0.here hx rfl (hb hby d2_94) rfl k₀) ?_
        refine own_step (s₁.setTop (mkF m 97 #[.val (.long a), .second, .val (.long b), .second, .val (.long ((a >>> ((1 : Int32) &&& 0x3f).toInt64) - (b >>> ((1 : Int32) &&& 0x3f).toInt64))), .second, .val (.long ((a &&& (1 : Int64)) - (b &&& (1 : Int64)))), .second, .val (.long (4611686018427387904 : Int64)), .second, .val (.long (4611686018427387904 : Int64)), .second, .val (.long ((-(4611686018427387904 : Int64)) + (1 : Int64))), .second, .unset, .unset] [(.long (-((a >>> ((1 : Int32) &&& 0x3f).toInt64) - (b >>> ((1 : Int32) &&& 0x3f).toInt64))))])) (fun t₀ k₀ => XS.lneg X0.here hx rfl (hb hby d2_96) rfl k₀) ?_
        refine own_step (s₁.setTop (mkF m 99 #[.val (.long a), .second, .val (.long b), .second, .val (.long ((a >>> ((1 : Int32) &&& 0x3f).toInt64) - (b >>> ((1 : Int32) &&& 0x3f).toInt64))), .second, .val (.long ((a &&& (1 : Int64)) - (b &&& (1 : Int64)))), .second, .val (.long (4611686018427387904 : Int64)), .second, .val (.long (4611686018427387904 : Int64)), .second, .val (.long ((-(4611686018427387904 : Int64)) + (1 : Int64))), .second, .unset, .unset] [(.long ((a &&& (1 : Int64)) - (b &&& (1 : Int64)))), (.long (-((a >>> ((1 : Int32) &&& 0x3f).toInt64) - (b >>> ((1 : Int32) &&& 0x3f).toInt64))))])) (fun t₀ k₀ => XS.lload X0.here hx rfl (hb hby d2_97) rfl k₀) ?_
        refine own_step (s₁.setTop (mkF m 100 #[.val (.long a), .second, .val (.long b), .second, .val (.long ((a >>> ((1 : Int32) &&& 0x3f).toInt64) - (b >>> ((1 : Int32) &&& 0x3f).toInt64))), .second, .val (.long ((a &&& (1 : Int64)) - (b &&& (1 : Int64)))), .second, .val (.long (4611686018427387904 : Int64)), .second, .val (.long (4611686018427387904 : Int64)), .second, .val (.long ((-(4611686018427387904 : Int64)) + (1 : Int64))), .second, .unset, .unset] [(.long (-((a &&& (1 : Int64)) - (b &&& (1 : Int64))))), (.long (-((a >>> ((1 : Int32) &&& 0x3f).toInt64) - (b >>> ((1 : Int32) &&& 0x3f).toInt64))))])) (fun t₀ k₀ => XS.lneg X0.here hx rfl (hb hby d2_99) rfl k₀) ?_
        refine own_step (s₁.setTop (mkF m 101 #[.val (.long a), .second, .val (.long b), .second, .val (.long ((a >>> ((1 : Int32) &&& 0x3f).toInt64) - (b >>> ((1 : Int32) &&& 0x3f).toInt64))), .second, .val (.long ((a &&& (1 : Int64)) - (b &&& (1 : Int64)))), .second, .val (.long (4611686018427387904 : Int64)), .second, .val (.long (4611686018427387904 : Int64)), .second, .val (.long ((-(4611686018427387904 : Int64)) + (1 : Int64))), .second, .unset, .unset] [(.int (1 : Int32)), (.long (-((a &&& (1 : Int64)) - (b &&& (1 : Int64))))), (.long (-((a >>> ((1 : Int32) &&& 0x3f).toInt64) - (b >>> ((1 : Int32) &&& 0x3f).toInt64))))])) (fun t₀ k₀ => XS.iconst X0.here hx rfl (hb hby d2_100) k₀) ?_
        refine own_step (s₁.setTop (mkF m 102 #[.val (.long a), .second, .val (.long b), .second, .val (.long ((a >>> ((1 : Int32) &&& 0x3f).toInt64) - (b >>> ((1 : Int32) &&& 0x3f).toInt64))), .second, .val (.long ((a &&& (1 : Int64)) - (b &&& (1 : Int64)))), .second, .val (.long (4611686018427387904 : Int64)), .second, .val (.long (4611686018427387904 : Int64)), .second, .val (.long ((-(4611686018427387904 : Int64)) + (1 : Int64))), .second, .unset, .unset] [(.long ((-((a &&& (1 : Int64)) - (b &&& (1 : Int64)))) >>> ((1 : Int32) &&& 0x3f).toInt64)), (.long (-((a >>> ((1 : Int32) &&& 0x3f).toInt64) - (b >>> ((1 : Int32) &&& 0x3f).toInt64))))])) (fun t₀ k₀ => XS.lshr X0.here hx rfl (hb hby d2_101) rfl k₀) ?_
        refine own_step (s₁.setTop (mkF m 103 #[.val (.long a), .second, .val (.long b), .second, .val (.long ((a >>> ((1 : Int32) &&& 0x3f).toInt64) - (b >>> ((1 : Int32) &&& 0x3f).toInt64))), .second, .val (.long ((a &&& (1 : Int64)) - (b &&& (1 : Int64)))), .second, .val (.long (4611686018427387904 : Int64)), .second, .val (.long (4611686018427387904 : Int64)), .second, .val (.long ((-(4611686018427387904 : Int64)) + (1 : Int64))), .second, .unset, .unset] [(.long ((-((a >>> ((1 : Int32) &&& 0x3f).toInt64) - (b >>> ((1 : Int32) &&& 0x3f).toInt64))) + ((-((a &&& (1 : Int64)) - (b &&& (1 : Int64)))) >>> ((1 : Int32) &&& 0x3f).toInt64)))])) (fun t₀ k₀ => XS.ladd X0.here hx rfl (hb hby d2_102) rfl k₀) ?_
        refine own_step (s₁.setTop (mkF m 105 #[.val (.long a), .second, .val (.long b), .second, .val (.long ((a >>> ((1 : Int32) &&& 0x3f).toInt64) - (b >>> ((1 : Int32) &&& 0x3f).toInt64))), .second, .val (.long ((a &&& (1 : Int64)) - (b &&& (1 : Int64)))), .second, .val (.long (4611686018427387904 : Int64)), .second, .val (.long (4611686018427387904 : Int64)), .second, .val (.long ((-(4611686018427387904 : Int64)) + (1 : Int64))), .second, .val (.long ((-((a >>> ((1 : Int32) &&& 0x3f).toInt64) - (b >>> ((1 : Int32) &&& 0x3f).toInt64))) + ((-((a &&& (1 : Int64)) - (b &&& (1 : Int64)))) >>> ((1 : Int32) &&& 0x3f).toInt64))), .second] [])) (fun t₀ k₀ => XS.lstore X0.here hx rfl (hb hby d2_103) rfl (l' := #[.val (.long a), .second, .val (.long b), .second, .val (.long ((a >>> ((1 : Int32) &&& 0x3f).toInt64) - (b >>> ((1 : Int32) &&& 0x3f).toInt64))), .second, .val (.long ((a &&& (1 : Int64)) - (b &&& (1 : Int64)))), .second, .val (.long (4611686018427387904 : Int64)), .second, .val (.long (4611686018427387904 : Int64)), .second, .val (.long ((-(4611686018427387904 : Int64)) + (1 : Int64))), .second, .val (.long ((-((a >>> ((1 : Int32) &&& 0x3f).toInt64) - (b >>> ((1 : Int32) &&& 0x3f).toInt64))) + ((-((a &&& (1 : Int64)) - (b &&& (1 : Int64)))) >>> ((1 : Int32) &&& 0x3f).toInt64))), .second]) rfl k₀) ?_
        refine own_step (s₁.setTop (mkF m 108 #[.val (.long a), .second, .val (.long b), .second, .val (.long ((a >>> ((1 : Int32) &&& 0x3f).toInt64) - (b >>> ((1 : Int32) &&& 0x3f).toInt64))), .second, .val (.long ((a &&& (1 : Int64)) - (b &&& (1 : Int64)))), .second, .val (.long (4611686018427387904 : Int64)), .second, .val (.long (4611686018427387904 : Int64)), .second, .val (.long ((-(4611686018427387904 : Int64)) + (1 : Int64))), .second, .val (.long ((-((a >>> ((1 : Int32) &&& 0x3f).toInt64) - (b >>> ((1 : Int32) &&& 0x3f).toInt64))) + ((-((a &&& (1 : Int64)) - (b &&& (1 : Int64)))) >>> ((1 : Int32) &&& 0x3f).toInt64))), .second] [(.double (4611686018427387904 : UInt64))])) (fun t₀ k₀ => X0.ldc2DoubleC hx hown (mvT hZ (hw _ (List.mem_of_getElem? (i := 10) rfl))) (g := (mkF m 105 #[.val (.long a), .second, .val (.long b), .second, .val (.long ((a >>> ((1 : Int32) &&& 0x3f).toInt64) - (b >>> ((1 : Int32) &&& 0x3f).toInt64))), .second, .val (.long ((a &&& (1 : Int64)) - (b &&& (1 : Int64)))), .second, .val (.long (4611686018427387904 : Int64)), .second, .val (.long (4611686018427387904 : Int64)), .second, .val (.long ((-(4611686018427387904 : Int64)) + (1 : Int64))), .second, .val (.long ((-((a >>> ((1 : Int32) &&& 0x3f).toInt64) - (b >>> ((1 : Int32) &&& 0x3f).toInt64))) + ((-((a &&& (1 : Int64)) - (b &&& (1 : Int64)))) >>> ((1 : Int32) &&& 0x3f).toInt64))), .second] [])) rfl (hb hby d2_105) _ k₀) ?_
        refine own_step (s₁.setTop (mkF m 110 #[.val (.long a), .second, .val (.long b), .second, .val (.long ((a >>> ((1 : Int32) &&& 0x3f).toInt64) - (b >>> ((1 : Int32) &&& 0x3f).toInt64))), .second, .val (.long ((a &&& (1 : Int64)) - (b &&& (1 : Int64)))), .second, .val (.long (4611686018427387904 : Int64)), .second, .val (.long (4611686018427387904 : Int64)), .second, .val (.long ((-(4611686018427387904 : Int64)) + (1 : Int64))), .second, .val (.long ((-((a >>> ((1 : Int32) &&& 0x3f).toInt64) - (b >>> ((1 : Int32) &&& 0x3f).toInt64))) + ((-((a &&& (1 : Int64)) - (b &&& (1 : Int64)))) >>> ((1 : Int32) &&& 0x3f).toInt64))), .second] [(.long ((-((a >>> ((1 : Int32) &&& 0x3f).toInt64) - (b >>> ((1 : Int32) &&& 0x3f).toInt64))) + ((-((a &&& (1 : Int64)) - (b &&& (1 : Int64)))) >>> ((1 : Int32) &&& 0x3f).toInt64))), (.double (4611686018427387904 : UInt64))])) (fun t₀ k₀ => XS.lload X0.here hx rfl (hb hby d2_108) rfl k₀) ?_
        refine own_step (s₁.setTop (mkF m 111 #[.val (.long a), .second, .val (.long b), .second, .val (.long ((a >>> ((1 : Int32) &&& 0x3f).toInt64) - (b >>> ((1 : Int32) &&& 0x3f).toInt64))), .second, .val (.long ((a &&& (1 : Int64)) - (b &&& (1 : Int64)))), .second, .val (.long (4611686018427387904 : Int64)), .second, .val (.long (4611686018427387904 : Int64)), .second, .val (.long ((-(4611686018427387904 : Int64)) + (1 : Int64))), .second, .val (.long ((-((a >>> ((1 : Int32) &&& 0x3f).toInt64) - (b >>> ((1 : Int32) &&& 0x3f).toInt64))) + ((-((a &&& (1 : Int64)) - (b &&& (1 : Int64)))) >>> ((1 : Int32) &&& 0x3f).toInt64))), .second] [(.double (FP.l2d ((-((a >>> ((1 : Int32) &&& 0x3f).toInt64) - (b >>> ((1 : Int32) &&& 0x3f).toInt64))) + ((-((a &&& (1 : Int64)) - (b &&& (1 : Int64)))) >>> ((1 : Int32) &&& 0x3f).toInt64)))), (.double (4611686018427387904 : UInt64))])) (fun t₀ k₀ => XS.l2dS X0.here hx rfl (hb hby d2_110) rfl rfl k₀) ?_
        refine own_step (s₁.setTop (mkF m 112 #[.val (.long a), .second, .val (.long b), .second, .val (.long ((a >>> ((1 : Int32) &&& 0x3f).toInt64) - (b >>> ((1 : Int32) &&& 0x3f).toInt64))), .second, .val (.long ((a &&& (1 : Int64)) - (b &&& (1 : Int64)))), .second, .val (.long (4611686018427387904 : Int64)), .second, .val (.long (4611686018427387904 : Int64)), .second, .val (.long ((-(4611686018427387904 : Int64)) + (1 : Int64))), .second, .val (.long ((-((a >>> ((1 : Int32) &&& 0x3f).toInt64) - (b >>> ((1 : Int32) &&& 0x3f).toInt64))) + ((-((a &&& (1 : Int64)) - (b &&& (1 : Int64)))) >>> ((1 : Int32) &&& 0x3f).toInt64))), .second] [(.double (FP.dmul (4611686018427387904 : UInt64) (FP.l2d ((-((a >>> ((1 : Int32) &&& 0x3f).toInt64) - (b >>> ((1 : Int32) &&& 0x3f).toInt64))) + ((-((a &&& (1 : Int64)) - (b &&& (1 : Int64)))) >>> ((1 : Int32) &&& 0x3f).toInt64)))))])) (fun t₀ k₀ => XS.dmulS X0.here hx rfl (hb hby d2_111) rfl (own_mulN _) rfl k₀) ?_
        refine own_step (s₁.setTop (mkF m 113 #[.val (.long a), .second, .val (.long b), .second, .val (.long ((a >>> ((1 : Int32) &&& 0x3f).toInt64) - (b >>> ((1 : Int32) &&& 0x3f).toInt64))), .second, .val (.long ((a &&& (1 : Int64)) - (b &&& (1 : Int64)))), .second, .val (.long (4611686018427387904 : Int64)), .second, .val (.long (4611686018427387904 : Int64)), .second, .val (.long ((-(4611686018427387904 : Int64)) + (1 : Int64))), .second, .val (.long ((-((a >>> ((1 : Int32) &&& 0x3f).toInt64) - (b >>> ((1 : Int32) &&& 0x3f).toInt64))) + ((-((a &&& (1 : Int64)) - (b &&& (1 : Int64)))) >>> ((1 : Int32) &&& 0x3f).toInt64))), .second] [(.double (FP.dneg (FP.dmul (4611686018427387904 : UInt64) (FP.l2d ((-((a >>> ((1 : Int32) &&& 0x3f).toInt64) - (b >>> ((1 : Int32) &&& 0x3f).toInt64))) + ((-((a &&& (1 : Int64)) - (b &&& (1 : Int64)))) >>> ((1 : Int32) &&& 0x3f).toInt64))))))])) (fun t₀ k₀ => XS.dnegS X0.here hx rfl (hb hby d2_112) rfl rfl k₀) ?_
        obtain ⟨fs, hr, hrun, hended, hW, hsame⟩ := X0.leave (v := some (.double (FP.dneg (FP.dmul (4611686018427387904 : UInt64) (FP.l2d ((-((a >>> ((1 : Int32) &&& 0x3f).toInt64) - (b >>> ((1 : Int32) &&& 0x3f).toInt64))) + ((-((a &&& (1 : Int64)) - (b &&& (1 : Int64)))) >>> ((1 : Int32) &&& 0x3f).toInt64))))))) (fun h => by rw [Bd.returns] at h; cases h)
        refine ⟨_, _, ?_, hrun, hended, _, _, rfl, ?_, ⟨_, rfl⟩, hW, hsame.mono (by decide) (by decide)⟩
        · exact retOut X0 hx Bd.returns rfl (Or.inr (Or.inr (Or.inl ⟨rfl, rfl, _, rfl⟩))) (hb hby d2_113) hr
        · show Q_rm2 Z a b h0 n0 _ s₁.heap _
          rw [e0]
          exact ⟨congrArg (fun z => some (Value.double z)) (own_E2 ((own_lo1 hc27).mp hc91)), N0, rfl⟩
      · skip
        refine own_step (s₁.setTop (mkF m 114 #[.val (.long a), .second, .val (.long b), .second, .val (.long ((a >>> ((1 : Int32) &&& 0x3f).toInt64) - (b >>> ((1 : Int32) &&& 0x3f).toInt64))), .second, .val (.long ((a &&& (1 : Int64)) - (b &&& (1 : Int64)))), .second, .val (.long (4611686018427387904 : Int64)), .second, .val (.long (4611686018427387904 : Int64)), .second, .val (.long ((-(4611686018427387904 : Int64)) + (1 : Int64))), .second, .unset, .unset] [])) (fun t₀ k₀ => XS.ifYes X0.here hx rfl (pc0 := 91) (pc' := 114) rfl (hb hby d2_91) rfl (own_lgeT hc91) (by decide) (by decide) k₀) ?_
        refine own_step (s₁.setTop (mkF m 115 #[.val (.long a), .second, .val (.long b), .second, .val (.long ((a >>> ((1 : Int32) &&& 0x3f).toInt64) - (b >>> ((1 : Int32) &&& 0x3f).toInt64))), .second, .val (.long ((a &&& (1 : Int64)) - (b &&& (1 : Int64)))), .second, .val (.long (4611686018427387904 : Int64)), .second, .val (.long (4611686018427387904 : Int64)), .second, .val (.long ((-(4611686018427387904 : Int64)) + (1 : Int64))), .second, .unset, .unset] [(.long a)])) (fun t₀ k₀ => XS.lloadN X0.here hx rfl (hb hby d2_114) rfl k₀) ?_
        refine own_step (s₁.setTop (mkF m 116 #[.val (.long a), .second, .val (.long b), .second, .val (.long ((a >>> ((1 : Int32) &&& 0x3f).toInt64) - (b >>> ((1 : Int32) &&& 0x3f).toInt64))), .second, .val (.long ((a &&& (1 : Int64)) - (b &&& (1 : Int64)))), .second, .val (.long (4611686018427387904 : Int64)), .second, .val (.long (4611686018427387904 : Int64)), .second, .val (.long ((-(4611686018427387904 : Int64)) + (1 : Int64))), .second, .unset, .unset] [(.long b), (.long a)])) (fun t₀ k₀ => XS.lloadN X0.here hx rfl (hb hby d2_115) rfl k₀) ?_
        refine own_step (s₁.setTop (mkF m 117 #[.val (.long a), .second, .val (.long b), .second, .val (.long ((a >>> ((1 : Int32) &&& 0x3f).toInt64) - (b >>> ((1 : Int32) &&& 0x3f).toInt64))), .second, .val (.long ((a &&& (1 : Int64)) - (b &&& (1 : Int64)))), .second, .val (.long (4611686018427387904 : Int64)), .second, .val (.long (4611686018427387904 : Int64)), .second, .val (.long ((-(4611686018427387904 : Int64)) + (1 : Int64))), .second, .unset, .unset] [(.long (a - b))])) (fun t₀ k₀ => XS.lsub X0.here hx rfl (hb hby d2_116) rfl k₀) ?_
        refine own_step (s₁.setTop (mkF m 118 #[.val (.long a), .second, .val (.long b), .second, .val (.long ((a >>> ((1 : Int32) &&& 0x3f).toInt64) - (b >>> ((1 : Int32) &&& 0x3f).toInt64))), .second, .val (.long ((a &&& (1 : Int64)) - (b &&& (1 : Int64)))), .second, .val (.long (4611686018427387904 : Int64)), .second, .val (.long (4611686018427387904 : Int64)), .second, .val (.long ((-(4611686018427387904 : Int64)) + (1 : Int64))), .second, .unset, .unset] [(.double (FP.l2d (a - b)))])) (fun t₀ k₀ => XS.l2dS X0.here hx rfl (hb hby d2_117) rfl rfl k₀) ?_
        obtain ⟨fs, hr, hrun, hended, hW, hsame⟩ := X0.leave (v := some (.double (FP.l2d (a - b)))) (fun h => by rw [Bd.returns] at h; cases h)
        refine ⟨_, _, ?_, hrun, hended, _, _, rfl, ?_, ⟨_, rfl⟩, hW, hsame.mono (by decide) (by decide)⟩
        · exact retOut X0 hx Bd.returns rfl (Or.inr (Or.inr (Or.inl ⟨rfl, rfl, _, rfl⟩))) (hb hby d2_118) hr
        · show Q_rm2 Z a b h0 n0 _ s₁.heap _
          rw [e0]
          exact ⟨congrArg (fun z => some (Value.double z)) (own_E3 (fun q => hc66 ((own_up1 hc27).mpr q)) (fun q => hc91 ((own_lo1 hc27).mpr q))), N0, rfl⟩
  · skip
    refine own_step (s₁.setTop (mkF m 35 #[.val (.long a), .second, .val (.long b), .second, .val (.long ((a >>> ((1 : Int32) &&& 0x3f).toInt64) - (b >>> ((1 : Int32) &&& 0x3f).toInt64))), .second, .val (.long ((a &&& (1 : Int64)) - (b &&& (1 : Int64)))), .second, .val (.long (4611686018427387904 : Int64)), .second, .unset, .unset, .unset, .unset, .unset, .unset] [])) (fun t₀ k₀ => XS.ifYes X0.here hx rfl (pc0 := 27) (pc' := 35) rfl (hb hby d2_27) rfl (own_lgeT hc27) (by decide) (by decide) k₀) ?_
    refine own_step (s₁.setTop (mkF m 37 #[.val (.long a), .second, .val (.long b), .second, .val (.long ((a >>> ((1 : Int32) &&& 0x3f).toInt64) - (b >>> ((1 : Int32) &&& 0x3f).toInt64))), .second, .val (.long ((a &&& (1 : Int64)) - (b &&& (1 : Int64)))), .second, .val (.long (4611686018427387904 : Int64)), .second, .unset, .unset, .unset, .unset, .unset, .unset] [(.long (4611686018427387904 : Int64))])) (fun t₀ k₀ => XS.lload X0.here hx rfl (hb hby d2_35) rfl k₀) ?_
    refine own_step (s₁.setTop (mkF m 38 #[.val (.long a), .second, .val (.long b), .second, .val (.long ((a >>> ((1 : Int32) &&& 0x3f).toInt64) - (b >>> ((1 : Int32) &&& 0x3f).toInt64))), .second, .val (.long ((a &&& (1 : Int64)) - (b &&& (1 : Int64)))), .second, .val (.long (4611686018427387904 : Int64)), .second, .unset, .unset, .unset, .unset, .unset, .unset] [(.long (1 : Int64)), (.long (4611686018427387904 : Int64))])) (fun t₀ k₀ => XS.lconst X0.here hx rfl (hb hby d2_37) k₀) ?_
    refine own_step (s₁.setTop (mkF m 39 #[.val (.long a), .second, .val (.long b), .second, .val (.long ((a >>> ((1 : Int32) &&& 0x3f).toInt64) - (b >>> ((1 : Int32) &&& 0x3f).toInt64))), .second, .val (.long ((a &&& (1 : Int64)) - (b &&& (1 : Int64)))), .second, .val (.long (4611686018427387904 : Int64)), .second, .unset, .unset, .unset, .unset, .unset, .unset] [(.long ((4611686018427387904 : Int64) - (1 : Int64)))])) (fun t₀ k₀ => XS.lsub X0.here hx rfl (hb hby d2_38) rfl k₀) ?_
    refine own_step (s₁.setTop (mkF m 41 #[.val (.long a), .second, .val (.long b), .second, .val (.long ((a >>> ((1 : Int32) &&& 0x3f).toInt64) - (b >>> ((1 : Int32) &&& 0x3f).toInt64))), .second, .val (.long ((a &&& (1 : Int64)) - (b &&& (1 : Int64)))), .second, .val (.long (4611686018427387904 : Int64)), .second, .val (.long ((4611686018427387904 : Int64) - (1 : Int64))), .second, .unset, .unset, .unset, .unset] [])) (fun t₀ k₀ => XS.lstore X0.here hx rfl (hb hby d2_39) rfl (l' := #[.val (.long a), .second, .val (.long b), .second, .val (.long ((a >>> ((1 : Int32) &&& 0x3f).toInt64) - (b >>> ((1 : Int32) &&& 0x3f).toInt64))), .second, .val (.long ((a &&& (1 : Int64)) - (b &&& (1 : Int64)))), .second, .val (.long (4611686018427387904 : Int64)), .second, .val (.long ((4611686018427387904 : Int64) - (1 : Int64))), .second, .unset, .unset, .unset, .unset]) rfl k₀) ?_
    refine own_step (s₁.setTop (mkF m 43 #[.val (.long a), .second, .val (.long b), .second, .val (.long ((a >>> ((1 : Int32) &&& 0x3f).toInt64) - (b >>> ((1 : Int32) &&& 0x3f).toInt64))), .second, .val (.long ((a &&& (1 : Int64)) - (b &&& (1 : Int64)))), .second, .val (.long (4611686018427387904 : Int64)), .second, .val (.long ((4611686018427387904 : Int64) - (1 : Int64))), .second, .unset, .unset, .unset, .unset] [(.long ((a &&& (1 : Int64)) - (b &&& (1 : Int64))))])) (fun t₀ k₀ => XS.lload X0.here hx rfl (hb hby d2_41) rfl k₀) ?_
    refine own_step (s₁.setTop (mkF m 44 #[.val (.long a), .second, .val (.long b), .second, .val (.long ((a >>> ((1 : Int32) &&& 0x3f).toInt64) - (b >>> ((1 : Int32) &&& 0x3f).toInt64))), .second, .val (.long ((a &&& (1 : Int64)) - (b &&& (1 : Int64)))), .second, .val (.long (4611686018427387904 : Int64)), .second, .val (.long ((4611686018427387904 : Int64) - (1 : Int64))), .second, .unset, .unset, .unset, .unset] [(.long (0 : Int64)), (.long ((a &&& (1 : Int64)) - (b &&& (1 : Int64))))])) (fun t₀ k₀ => XS.lconst X0.here hx rfl (hb hby d2_43) k₀) ?_
    refine own_step (s₁.setTop (mkF m 45 #[.val (.long a), .second, .val (.long b), .second, .val (.long ((a >>> ((1 : Int32) &&& 0x3f).toInt64) - (b >>> ((1 : Int32) &&& 0x3f).toInt64))), .second, .val (.long ((a &&& (1 : Int64)) - (b &&& (1 : Int64)))), .second, .val (.long (4611686018427387904 : Int64)), .second, .val (.long ((4611686018427387904 : Int64) - (1 : Int64))), .second, .unset, .unset, .unset, .unset] [(.int (lcmpW ((a &&& (1 : Int64)) - (b &&& (1 : Int64))) (0 : Int64)))])) (fun t₀ k₀ => XS.lcmp X0.here hx rfl (hb hby d2_44) rfl k₀) ?_
    have hk4 : ¬ (((a &&& (1 : Int64)) - (b &&& (1 : Int64))) < (0 : Int64)) := hc27
    refine own_step (s₁.setTop (mkF m 56 #[.val (.long a), .second, .val (.long b), .second, .val (.long ((a >>> ((1 : Int32) &&& 0x3f).toInt64) - (b >>> ((1 : Int32) &&& 0x3f).toInt64))), .second, .val (.long ((a &&& (1 : Int64)) - (b &&& (1 : Int64)))), .second, .val (.long (4611686018427387904 : Int64)), .second, .val (.long ((4611686018427387904 : Int64) - (1 : Int64))), .second, .unset, .unset, .unset, .unset] [])) (fun t₀ k₀ => XS.ifYes X0.here hx rfl (pc0 := 45) (pc' := 56) rfl (hb hby d2_45) rfl (own_lgeT hk4) (by decide) (by decide) k₀) ?_
    refine own_step (s₁.setTop (mkF m 58 #[.val (.long a), .second, .val (.long b), .second, .val (.long ((a >>> ((1 : Int32) &&& 0x3f).toInt64) - (b >>> ((1 : Int32) &&& 0x3f).toInt64))), .second, .val (.long ((a &&& (1 : Int64)) - (b &&& (1 : Int64)))), .second, .val (.long (4611686018427387904 : Int64)), .second, .val (.long ((4611686018427387904 : Int64) - (1 : Int64))), .second, .unset, .unset, .unset, .unset] [(.long (4611686018427387904 : Int64))])) (fun t₀ k₀ => XS.lload X0.here hx rfl (hb hby d2_56) rfl k₀) ?_
    refine own_step (s₁.setTop (mkF m 59 #[.val (.long a), .second, .val (.long b), .second, .val (.long ((a >>> ((1 : Int32) &&& 0x3f).toInt64) - (b >>> ((1 : Int32) &&& 0x3f).toInt64))), .second, .val (.long ((a &&& (1 : Int64)) - (b &&& (1 : Int64)))), .second, .val (.long (4611686018427387904 : Int64)), .second, .val (.long ((4611686018427387904 : Int64) - (1 : Int64))), .second, .unset, .unset, .unset, .unset] [(.long (-(4611686018427387904 : Int64)))])) (fun t₀ k₀ => XS.lneg X0.here hx rfl (hb hby d2_58) rfl k₀) ?_
    refine own_step (s₁.setTop (mkF m 61 #[.val (.long a), .second, .val (.long b), .second, .val (.long ((a >>> ((1 : Int32) &&& 0x3f).toInt64) - (b >>> ((1 : Int32) &&& 0x3f).toInt64))), .second, .val (.long ((a &&& (1 : Int64)) - (b &&& (1 : Int64)))), .second, .val (.long (4611686018427387904 : Int64)), .second, .val (.long ((4611686018427387904 : Int64) - (1 : Int64))), .second, .val (.long (-(4611686018427387904 : Int64))), .second, .unset, .unset] [])) (fun t₀ k₀ => XS.lstore X0.here hx rfl (hb hby d2_59) rfl (l' := #[.val (.long a), .second, .val (.long b), .second, .val (.long ((a >>> ((1 : Int32) &&& 0x3f).toInt64) - (b >>> ((1 : Int32) &&& 0x3f).toInt64))), .second, .val (.long ((a &&& (1 : Int64)) - (b &&& (1 : Int64)))), .second, .val (.long (4611686018427387904 : Int64)), .second, .val (.long ((4611686018427387904 : Int64) - (1 : Int64))), .second, .val (.long (-(4611686018427387904 : Int64))), .second, .unset, .unset]) rfl k₀) ?_
    refine own_step (s₁.setTop (mkF m 63 #[.val (.long a), .second, .val (.long b), .second, .val (.long ((a >>> ((1 : Int32) &&& 0x3f).toInt64) - (b >>> ((1 : Int32) &&& 0x3f).toInt64))), .second, .val (.long ((a &&& (1 : Int64)) - (b &&& (1 : Int64)))), .second, .val (.long (4611686018427387904 : Int64)), .second, .val (.long ((4611686018427387904 : Int64) - (1 : Int64))), .second, .val (.long (-(4611686018427387904 : Int64))), .second, .unset, .unset] [(.long ((a >>> ((1 : Int32) &&& 0x3f).toInt64) - (b >>> ((1 : Int32) &&& 0x3f).toInt64)))])) (fun t₀ k₀ => XS.lload X0.here hx rfl (hb hby d2_61) rfl k₀) ?_
    refine own_step (s₁.setTop (mkF m 65 #[.val (.long a), .second, .val (.long b), .second, .val (.long ((a >>> ((1 : Int32) &&& 0x3f).toInt64) - (b >>> ((1 : Int32) &&& 0x3f).toInt64))), .second, .val (.long ((a &&& (1 : Int64)) - (b &&& (1 : Int64)))), .second, .val (.long (4611686018427387904 : Int64)), .second, .val (.long ((4611686018427387904 : Int64) - (1 : Int64))), .second, .val (.long (-(4611686018427387904 : Int64))), .second, .unset, .unset] [(.long ((4611686018427387904 : Int64) - (1 : Int64))), (.long ((a >>> ((1 : Int32) &&& 0x3f).toInt64) - (b >>> ((1 : Int32) &&& 0x3f).toInt64)))])) (fun t₀ k₀ => XS.lload X0.here hx rfl (hb hby d2_63) rfl k₀) ?_
    refine own_step (s₁.setTop (mkF m 66 #[.val (.long a), .second, .val (.long b), .second, .val (.long ((a >>> ((1 : Int32) &&& 0x3f).toInt64) - (b >>> ((1 : Int32) &&& 0x3f).toInt64))), .second, .val (.long ((a &&& (1 : Int64)) - (b &&& (1 : Int64)))), .second, .val (.long (4611686018427387904 : Int64)), .second, .val (.long ((4611686018427387904 : Int64) - (1 : Int64))), .second, .val (.long (-(4611686018427387904 : Int64))), .second, .unset, .unset] [(.int (lcmpW ((a >>> ((1 : Int32) &&& 0x3f).toInt64) - (b >>> ((1 : Int32) &&& 0x3f).toInt64)) ((4611686018427387904 : Int64) - (1 : Int64))))])) (fun t₀ k₀ => XS.lcmp X0.here hx rfl (hb hby d2_65) rfl k₀) ?_
    by_cases hc66 : ((4611686018427387904 : Int64) - (1 : Int64)) < ((a >>> ((1 : Int32) &&& 0x3f).toInt64) - (b >>> ((1 : Int32) &&& 0x3f).toInt64))
    · skip
      refine own_step (s₁.setTop (mkF m 69 #[.val (.long a), .second, .val (.long b), .second, .val (.long ((a >>> ((1 : Int32) &&& 0x3f).toInt64) - (b >>> ((1 : Int32) &&& 0x3f).toInt64))), .second, .val (.long ((a &&& (1 : Int64)) - (b &&& (1 : Int64)))), .second, .val (.long (4611686018427387904 : Int64)), .second, .val (.long ((4611686018427387904 : Int64) - (1 : Int64))), .second, .val (.long (-(4611686018427387904 : Int64))), .second, .unset, .unset] [])) (fun t₀ k₀ => XS.ifNo X0.here hx rfl (hb hby d2_66) rfl (own_lleF hc66) k₀) ?_
      refine own_step (s₁.setTop (mkF m 71 #[.val (.long a), .second, .val (.long b), .second, .val (.long ((a >>> ((1 : Int32) &&& 0x3f).toInt64) - (b >>> ((1 : Int32) &&& 0x3f).toInt64))), .second, .val (.long ((a &&& (1 : Int64)) - (b &&& (1 : Int64)))), .second, .val (.long (4611686018427387904 : Int64)), .second, .val (.long ((4611686018427387904 : Int64) - (1 : Int64))), .second, .val (.long (-(4611686018427387904 : Int64))), .second, .unset, .unset] [(.long ((a >>> ((1 : Int32) &&& 0x3f).toInt64) - (b >>> ((1 : Int32) &&& 0x3f).toInt64)))])) (fun t₀ k₀ => XS.lload X0.here hx rfl (hb hby d2_69) rfl k₀) ?_
      refine own_step (s₁.setTop (mkF m 73 #[.val (.long a), .second, .val (.long b), .second, .val (.long ((a >>> ((1 : Int32) &&& 0x3f).toInt64) - (b >>> ((1 : Int32) &&& 0x3f).toInt64))), .second, .val (.long ((a &&& (1 : Int64)) - (b &&& (1 : Int64)))), .second, .val (.long (4611686018427387904 : Int64)), .second, .val (.long ((4611686018427387904 : Int64) - (1 : Int64))), .second, .val (.long (-(4611686018427387904 : Int64))), .second, .unset, .unset] [(.long ((a &&& (1 : Int64)) - (b &&& (1 : Int64)))), (.long ((a >>> ((1 : Int32) &&& 0x3f).toInt64) - (b >>> ((1 : Int32) &&& 0x3f).toInt64)))])) (fun t₀ k₀ => XS.lload X0.here hx rfl (hb hby d2_71) rfl k₀) ?_
      refine own_step (s₁.setTop (mkF m 74 #[.val (.long a), .second, .val (.long b), .second, .val (.long ((a >>> ((1 : Int32) &&& 0x3f).toInt64) - (b >>> ((1 : Int32) &&& 0x3f).toInt64))), .second, .val (.long ((a &&& (1 : Int64)) - (b &&& (1 : Int64)))), .second, .val (.long (4611686018427387904 : Int64)), .second, .val (.long ((4611686018427387904 : Int64) - (1 : Int64))), .second, .val (.long (-(4611686018427387904 : Int64))), .second, .unset, .unset] [(.int (1 : Int32)), (.long ((a &&& (1 : Int64)) - (b &&& (1 : Int64)))), (.long ((a >>> ((1 : Int32) &&& 0x3f).toInt64) - (b >>> ((1 : Int32) &&& 0x3f).toInt64)))])) (fun t₀ k₀ => XS.iconst X0.here hx rfl (hb hby d2_73) k₀) ?_
      refine own_step (s₁.setTop (mkF m 75 #[.val (.long a), .second, .val (.long b), .second, .val (.long ((a >>> ((1 : Int32) &&& 0x3f).toInt64) - (b >>> ((1 : Int32) &&& 0x3f).toInt64))), .second, .val (.long ((a &&& (1 : Int64)) - (b &&& (1 : Int64)))), .second, .val (.long (4611686018427387904 : Int64)), .second, .val (.long ((4611686018427387904 : Int64) - (1 : Int64))), .second, .val (.long (-(4611686018427387904 : Int64))), .second, .unset, .unset] [(.long (((a &&& (1 : Int64)) - (b &&& (1 : Int64))) >>> ((1 : Int32) &&& 0x3f).toInt64)), (.long ((a >>> ((1 : Int32) &&& 0x3f).toInt64) - (b >>> ((1 : Int32) &&& 0x3f).toInt64)))])) (fun t₀ k₀ => XS.lshr X0.here hx rfl (hb hby d2_74) rfl k₀) ?_
      refine own_step (s₁.setTop (mkF m 76 #[.val (.long a), .second, .val (.long b), .second, .val (.long ((a >>> ((1 : Int32) &&& 0x3f).toInt64) - (b >>> ((1 : Int32) &&& 0x3f).toInt64))), .second, .val (.long ((a &&& (1 : Int64)) - (b &&& (1 : Int64)))), .second, .val (.long (4611686018427387904 : Int64)), .second, .val (.long ((4611686018427387904 : Int64) - (1 : Int64))), .second, .val (.long (-(4611686018427387904 : Int64))), .second, .unset, .unset] [(.long (((a >>> ((1 : Int32) &&& 0x3f).toInt64) - (b >>> ((1 : Int32) &&& 0x3f).toInt64)) + (((a &&& (1 : Int64)) - (b &&& (1 : Int64))) >>> ((1 : Int32) &&& 0x3f).toInt64)))])) (fun t₀ k₀ => XS.ladd X0.here hx rfl (hb hby d2_75) rfl k₀) ?_
      refine own_step (s₁.setTop (mkF m 78 #[.val (.long a), .second, .val (.long b), .second, .val (.long ((a >>> ((1 : Int32) &&& 0x3f).toInt64) - (b >>> ((1 : Int32) &&& 0x3f).toInt64))), .second, .val (.long ((a &&& (1 : Int64)) - (b &&& (1 : Int64)))), .second, .val (.long (4611686018427387904 : Int64)), .second, .val (.long ((4611686018427387904 : Int64) - (1 : Int64))), .second, .val (.long (-(4611686018427387904 : Int64))), .second, .val (.long (((a >>> ((1 : Int32) &&& 0x3f).toInt64) - (b >>> ((1 : Int32) &&& 0x3f).toInt64)) + (((a &&& (1 : Int64)) - (b &&& (1 : Int64))) >>> ((1 : Int32) &&& 0x3f).toInt64))), .second] [])) (fun t₀ k₀ => XS.lstore X0.here hx rfl (hb hby d2_76) rfl (l' := #[.val (.long a), .second, .val (.long b), .second, .val (.long ((a >>> ((1 : Int32) &&& 0x3f).toInt64) - (b >>> ((1 : Int32) &&& 0x3f).toInt64))), .second, .val (.long ((a &&& (1 : Int64)) - (b &&& (1 : Int64)))), .second, .val (.long (4611686018427387904 : Int64)), .second, .val (.long ((4611686018427387904 : Int64) - (1 : Int64))), .second, .val (.long (-(4611686018427387904 : Int64))), .second, .val (.long (((a >>> ((1 : Int32) &&& 0x3f).toInt64) - (b >>> ((1 : Int32) &&& 0x3f).toInt64)) + (((a &&& (1 : Int64)) - (b &&& (1 : Int64))) >>> ((1 : Int32) &&& 0x3f).toInt64))), .second]) rfl k₀) ?_
      refine own_step (s₁.setTop (mkF m 81 #[.val (.long a), .second, .val (.long b), .second, .val (.long ((a >>> ((1 : Int32) &&& 0x3f).toInt64) - (b >>> ((1 : Int32) &&& 0x3f).toInt64))), .second, .val (.long ((a &&& (1 : Int64)) - (b &&& (1 : Int64)))), .second, .val (.long (4611686018427387904 : Int64)), .second, .val (.long ((4611686018427387904 : Int64) - (1 : Int64))), .second, .val (.long (-(4611686018427387904 : Int64))), .second, .val (.long (((a >>> ((1 : Int32) &&& 0x3f).toInt64) - (b >>> ((1 : Int32) &&& 0x3f).toInt64)) + (((a &&& (1 : Int64)) - (b &&& (1 : Int64))) >>> ((1 : Int32) &&& 0x3f).toInt64))), .second] [(.double (4611686018427387904 : UInt64))])) (fun t₀ k₀ => X0.ldc2DoubleC hx hown (mvT hZ (hw _ (List.mem_of_getElem? (i := 10) rfl))) (g := (mkF m 78 #[.val (.long a), .second, .val (.long b), .second, .val (.long ((a >>> ((1 : Int32) &&& 0x3f).toInt64) - (b >>> ((1 : Int32) &&& 0x3f).toInt64))), .second, .val (.long ((a &&& (1 : Int64)) - (b &&& (1 : Int64)))), .second, .val (.long (4611686018427387904 : Int64)), .second, .val (.long ((4611686018427387904 : Int64) - (1 : Int64))), .second, .val (.long (-(4611686018427387904 : Int64))), .second, .val (.long (((a >>> ((1 : Int32) &&& 0x3f).toInt64) - (b >>> ((1 : Int32) &&& 0x3f).toInt64)) + (((a &&& (1 : Int64)) - (b &&& (1 : Int64))) >>> ((1 : Int32) &&& 0x3f).toInt64))), .second] [])) rfl (hb hby d2_78) _ k₀) ?_
      refine own_step (s₁.setTop (mkF m 83 #[.val (.long a), .second, .val (.long b), .second, .val (.long ((a >>> ((1 : Int32) &&& 0x3f).toInt64) - (b >>> ((1 : Int32) &&& 0x3f).toInt64))), .second, .val (.long ((a &&& (1 : Int64)) - (b &&& (1 : Int64)))), .second, .val (.long (4611686018427387904 : Int64)), .second, .val (.long ((4611686018427387904 : Int64) - (1 : Int64))), .second, .val (.long (-(4611686018427387904 : Int64))), .second, .val (.long (((a >>> ((1 : Int32) &&& 0x3f).toInt64) - (b >>> ((1 : Int32) &&& 0x3f).toInt64)) + (((a &&& (1 : Int64)) - (b &&& (1 : Int64))) >>> ((1 : Int32) &&& 0x3f).toInt64))), .second] [(.long (((a >>> ((1 : Int32) &&& 0x3f).toInt64) - (b >>> ((1 : Int32) &&& 0x3f).toInt64)) + (((a &&& (1 : Int64)) - (b &&& (1 : Int64))) >>> ((1 : Int32) &&& 0x3f).toInt64))), (.double (4611686018427387904 : UInt64))])) (fun t₀ k₀ => XS.lload X0.here hx rfl (hb hby d2_81) rfl k₀) ?_
      refine own_step (s₁.setTop (mkF m 84 #[.val (.long a), .second, .val (.long b), .second, .val (.long ((a >>> ((1 : Int32) &&& 0x3f).toInt64) - (b >>> ((1 : Int32) &&& 0x3f).toInt64))), .second, .val (.long ((a &&& (1 : Int64)) - (b &&& (1 : Int64)))), .second, .val (.long (4611686018427387904 : Int64)), .second, .val (.long ((4611686018427387904 : Int64) - (1 : Int64))), .second, .val (.long (-(4611686018427387904 : Int64))), .second, .val (.long (((a >>> ((1 : Int32) &&& 0x3f).toInt64) - (b >>> ((1 : Int32) &&& 0x3f).toInt64)) + (((a &&& (1 : Int64)) - (b &&& (1 : Int64))) >>> ((1 : Int32) &&& 0x3f).toInt64))), .second] [(.double (FP.l2d (((a >>> ((1 : Int32) &&& 0x3f).toInt64) - (b >>> ((1 : Int32) &&& 0x3f).toInt64)) + (((a &&& (1 : Int64)) - (b &&& (1 : Int64))) >>> ((1 : Int32) &&& 0x3f).toInt64)))), (.double (4611686018427387904 : UInt64))])) (fun t₀ k₀ => XS.l2dS X0.here hx rfl (hb hby d2_83) rfl rfl k₀) ?_
      refine own_step (s₁.setTop (mkF m 85 #[.val (.long a), .second, .val (.long b), .second, .val (.long ((a >>> ((1 : Int32) &&& 0x3f).toInt64) - (b >>> ((1 : Int32) &&& 0x3f).toInt64))), .second, .val (.long ((a &&& (1 : Int64)) - (b &&& (1 : Int64)))), .second, .val (.long (4611686018427387904 : Int64)), .second, .val (.long ((4611686018427387904 : Int64) - (1 : Int64))), .second, .val (.long (-(4611686018427387904 : Int64))), .second, .val (.long (((a >>> ((1 : Int32) &&& 0x3f).toInt64) - (b >>> ((1 : Int32) &&& 0x3f).toInt64)) + (((a &&& (1 : Int64)) - (b &&& (1 : Int64))) >>> ((1 : Int32) &&& 0x3f).toInt64))), .second] [(.double (FP.dmul (4611686018427387904 : UInt64) (FP.l2d (((a >>> ((1 : Int32) &&& 0x3f).toInt64) - (b >>> ((1 : Int32) &&& 0x3f).toInt64)) + (((a &&& (1 : Int64)) - (b &&& (1 : Int64))) >>> ((1 : Int32) &&& 0x3f).toInt64)))))])) (fun t₀ k₀ => XS.dmulS X0.here hx rfl (hb hby d2_84) rfl (own_mulN _) rfl k₀) ?_
      obtain ⟨fs, hr, hrun, hended, hW, hsame⟩ := X0.leave (v := some (.double (FP.dmul (4611686018427387904 : UInt64) (FP.l2d (((a >>> ((1 : Int32) &&& 0x3f).toInt64) - (b >>> ((1 : Int32) &&& 0x3f).toInt64)) + (((a &&& (1 : Int64)) - (b &&& (1 : Int64))) >>> ((1 : Int32) &&& 0x3f).toInt64)))))) (fun h => by rw [Bd.returns] at h; cases h)
      refine ⟨_, _, ?_, hrun, hended, _, _, rfl, ?_, ⟨_, rfl⟩, hW, hsame.mono (by decide) (by decide)⟩
      · exact retOut X0 hx Bd.returns rfl (Or.inr (Or.inr (Or.inl ⟨rfl, rfl, _, rfl⟩))) (hb hby d2_85) hr
      · show Q_rm2 Z a b h0 n0 _ s₁.heap _
        rw [e0]
        exact ⟨congrArg (fun z => some (Value.double z)) (own_E1 ((own_up2 hc27).mp hc66)), N0, rfl⟩
    · skip
      refine own_step (s₁.setTop (mkF m 86 #[.val (.long a), .second, .val (.long b), .second, .val (.long ((a >>> ((1 : Int32) &&& 0x3f).toInt64) - (b >>> ((1 : Int32) &&& 0x3f).toInt64))), .second, .val (.long ((a &&& (1 : Int64)) - (b &&& (1 : Int64)))), .second, .val (.long (4611686018427387904 : Int64)), .second, .val (.long ((4611686018427387904 : Int64) - (1 : Int64))), .second, .val (.long (-(4611686018427387904 : Int64))), .second, .unset, .unset] [])) (fun t₀ k₀ => XS.ifYes X0.here hx rfl (pc0 := 66) (pc' := 86) rfl (hb hby d2_66) rfl (own_lleT hc66) (by decide) (by decide) k₀) ?_
      refine own_step (s₁.setTop (mkF m 88 #[.val (.long a), .second, .val (.long b), .second, .val (.long ((a >>> ((1 : Int32) &&& 0x3f).toInt64) - (b >>> ((1 : Int32) &&& 0x3f).toInt64))), .second, .val (.long ((a &&& (1 : Int64)) - (b &&& (1 : Int64)))), .second, .val (.long (4611686018427387904 : Int64)), .second, .val (.long ((4611686018427387904 : Int64) - (1 : Int64))), .second, .val (.long (-(4611686018427387904 : Int64))), .second, .unset, .unset] [(.long ((a >>> ((1 : Int32) &&& 0x3f).toInt64) - (b >>> ((1 : Int32) &&& 0x3f).toInt64)))])) (fun t₀ k₀ => XS.lload X0.here hx rfl (hb hby d2_86) rfl k₀) ?_
      refine own_step (s₁.setTop (mkF m 90 #[.val (.long a), .second, .val (.long b), .second, .val (.long ((a >>> ((1 : Int32) &&& 0x3f).toInt64) - (b >>> ((1 : Int32) &&& 0x3f).toInt64))), .second, .val (.long ((a &&& (1 : Int64)) - (b &&& (1 : Int64)))), .second, .val (.long (4611686018427387904 : Int64)), .second, .val (.long ((4611686018427387904 : Int64) - (1 : Int64))), .second, .val (.long (-(4611686018427387904 : Int64))), .second, .unset, .unset] [(.long (-(4611686018427387904 : Int64))), (.long ((a >>> ((1 : Int32) &&& 0x3f).toInt64) - (b >>> ((1 : Int32) &&& 0x3f).toInt64)))])) (fun t₀ k₀ => XS.lload X0.here hx rfl (hb hby d2_88) rfl k₀) ?_
      refine own_step (s₁.setTop (mkF m 91 #[.val (.long a), .second, .val (.long b), .second, .val (.long ((a >>> ((1 : Int32) &&& 0x3f).toInt64) - (b >>> ((1 : Int32) &&& 0x3f).toInt64))), .second, .val (.long ((a &&& (1 : Int64)) - (b &&& (1 : Int64)))), .second, .val (.long (4611686018427387904 : Int64)), .second, .val (.long ((4611686018427387904 : Int64) - (1 : Int64))), .second, .val (.long (-(4611686018427387904 : Int64))), .second, .unset, .unset] [(.int (lcmpW ((a >>> ((1 : Int32) &&& 0x3f).toInt64) - (b >>> ((1 : Int32) &&& 0x3f).toInt64)) (-(4611686018427387904 : Int64))))])) (fun t₀ k₀ => XS.lcmp X0.here hx rfl (hb hby d2_90) rfl k₀) ?_
      by_cases hc91 : ((a >>> ((1 : Int32) &&& 0x3f).toInt64) - (b >>> ((1 : Int32) &&& 0x3f).toInt64)) < (-(4611686018427387904 : Int64))
      · skip
        refine own_step (s₁.setTop (mkF m 94 #[.val (.long a), .second, .val (.long b), .second, .val (.long ((a >>> ((1 : Int32) &&& 0x3f).toInt64) - (b >>> ((1 : Int32) &&& 0x3f).toInt64))), .second, .val (.long ((a &&& (1 : Int64)) - (b &&& (1 : Int64)))), .second, .val (.long (4611686018427387904 : Int64)), .second, .val (.long ((4611686018427387904 : Int64) - (1 : Int64))), .second, .val (.long (-(4611686018427387904 : Int64))), .second, .unset, .unset] [])) (fun t₀ k₀ => XS.ifNo X0.here hx rfl (hb hby d2_91) rfl (own_lgeF hc91) k₀) ?_
        refine own_step (s₁.setTop (mkF m 96 #[.val (.long a), .second, .val (.long b), .second, .val (.long ((a >>> ((1 : Int32) &&& 0x3f).toInt64) - (b >>> ((1 : Int32) &&& 0x3f).toInt64))), .second, .val (.long ((a &&& (1 : Int64)) - (b &&& (1 : Int64)))), .second, .val (.long (4611686018427387904 : Int64)), .second, .val (.long ((4611686018427387904 : Int64) - (1 : Int64))), .second, .val (.long (-(4611686018427387904 : Int64))), .second, .unset, .unset] [(.long ((a >>> ((1 : Int32) &&& 0x3f).toInt64) - (b >>> ((1 : Int32) &&& 0x3f).toInt64)))])) (fun t₀ k₀ => XS.lload X0.here hx rfl (hb hby d2_94) rfl k₀) ?_
        refine own_step (s₁.setTop (mkF m 97 #[.val (.long a), .second, .val (.long b), .second, .val (.long ((a >>> ((1 : Int32) &&& 0x3f).toInt64) - (b >>> ((1 : Int32) &&& 0x3f).toInt64))), .second, .val (.long ((a &&& (1 : Int64)) - (b &&& (1 : Int64)))), .second, .val (.long (4611686018427387904 : Int64)), .second, .val (.long ((4611686018427387904 : Int64) - (1 : Int64))), .second, .val (.long (-(4611686018427387904 : Int64))), .second, .unset, .unset] [(.long (-((a >>> ((1 : Int32) &&& 0x3f).toInt64) - (b >>> ((1 : Int32) &&& 0x3f).toInt64))))])) (fun t₀ k₀ => XS.lneg X0.here hx rfl (hb hby d2_96) rfl k₀) ?_
        refine own_step (s₁.setTop (mkF m 99 #[.val (.long a), .second, .val (.long b), .second, .val (.long ((a >>> ((1 : Int32) &&& 0x3f).toInt64) - (b >>> ((1 : Int32) &&& 0x3f).toInt64))), .second, .val (.long ((a &&& (1 : Int64)) - (b &&& (1 : Int64)))), .second, .val (.long (4611686018427387904 : Int64)), .second, .val (.long ((4611686018427387904 : Int64) - (1 : Int64))), .second, .val (.long (-(4611686018427387904 : Int64))), .second, .unset, .unset] [(.long ((a &&& (1 : Int64)) - (b &&& (1 : Int64)))), (.long (-((a >>> ((1 : Int32) &&& 0x3f).toInt64) - (b >>> ((1 : Int32) &&& 0x3f).toInt64))))])) (fun t₀ k₀ => XS.lload X0.here hx rfl (hb hby d2_97) rfl k₀) ?_
        refine own_step (s₁.setTop (mkF m 100 #[.val (.long a), .second, .val (.long b), .second, .val (.long ((a >>> ((1 : Int32) &&& 0x3f).toInt64) - (b >>> ((1 : Int32) &&& 0x3f).toInt64))), .second, .val (.long ((a &&& (1 : Int64)) - (b &&& (1 : Int64)))), .second, .val (.long (4611686018427387904 : Int64)), .second, .val (.long ((4611686018427387904 : Int64) - (1 : Int64))), .second, .val (.long (-(4611686018427387904 : Int64))), .second, .unset, .unset] [(.long (-((a &&& (1 : Int64)) - (b &&& (1 : Int64))))), (.long (-((a >>> ((1 : Int32) &&& 0x3f).toInt64) - (b >>> ((1 : Int32) &&& 0x3f).toInt64))))])) (fun t₀ k₀ => XS.lneg X0.here hx rfl (hb hby d2_99) rfl k₀) ?_
        refine own_step (s₁.setTop (mkF m 101 #[.val (.long a), .second, .val (.long b), .second, .val (.long ((a >>> ((1 : Int32) &&& 0x3f).toInt64) - (b >>> ((1 : Int32) &&& 0x3f).toInt64))), .second, .val (.long ((a &&& (1 : Int64)) - (b &&& (1 : Int64)))), .second, .val (.long (4611686018427387904 : Int64)), .second, .val (.long ((4611686018427387904 : Int64) - (1 : Int64))), .second, .val (.long (-(4611686018427387904 : Int64))), .second, .unset, .unset] [(.int (1 : Int32)), (.long (-((a &&& (1 : Int64)) - (b &&& (1 : Int64))))), (.long (-((a >>> ((1 : Int32) &&& 0x3f).toInt64) - (b >>> ((1 : Int32) &&& 0x3f).toInt64))))])) (fun t₀ k₀ => XS.iconst X0.here hx rfl (hb hby d2_100) k₀) ?_
        refine own_step (s₁.setTop (mkF m 102 #[.val (.long a), .second, .val (.long b), .second, .val (.long ((a >>> ((1 : Int32) &&& 0x3f).toInt64) - (b >>> ((1 : Int32) &&& 0x3f).toInt64))), .second, .val (.long ((a &&& (1 : Int64)) - (b &&& (1 : Int64)))), .second, .val (.long (4611686018427387904 : Int64)), .second, .val (.long ((4611686018427387904 : Int64) - (1 : Int64))), .second, .val (.long (-(4611686018427387904 : Int64))), .second, .unset, .unset] [(.long ((-((a &&& (1 : Int64)) - (b &&& (1 : Int64)))) >>> ((1 : Int32) &&& 0x3f).toInt64)), (.long (-((a >>> ((1 : Int32) &&& 0x3f).toInt64) - (b >>> ((1 : Int32) &&& 0x3f).toInt64))))])) (fun t₀ k₀ => XS.lshr X0.here hx rfl (hb hby d2_101) rfl k₀) ?_
        refine own_step (s₁.setTop (mkF m 103 #[.val (.long a), .second, .val (.long b), .second, .val (.long ((a >>> ((1 : Int32) &&& 0x3f).toInt64) - (b >>> ((1 : Int32) &&& 0x3f).toInt64))), .second, .val (.long ((a &&& (1 : Int64)) - (b &&& (1 : Int64)))), .second, .val (.long (4611686018427387904 : Int64)), .second, .val (.long ((4611686018427387904 : Int64) - (1 : Int64))), .second, .val (.long (-(4611686018427387904 : Int64))), .second, .unset, .unset] [(.long ((-((a >>> ((1 : Int32) &&& 0x3f).toInt64) - (b >>> ((1 : Int32) &&& 0x3f).toInt64))) + ((-((a &&& (1 : Int64)) - (b &&& (1 : Int64)))) >>> ((1 : Int32) &&& 0x3f).toInt64)))])) (fun t₀ k₀ => XS.ladd X0.here hx rfl (hb hby d2_102) rfl k₀) ?_
        refine own_step (s₁.setTop (mkF m 105 #[.val (.long a), .second, .val (.long b), .second, .val (.long ((a >>> ((1 : Int32) &&& 0x3f).toInt64) - (b >>> ((1 : Int32) &&& 0x3f).toInt64))), .second, .val (.long ((a &&& (1 : Int64)) - (b &&& (1 : Int64)))), .second, .val (.long (4611686018427387904 : Int64)), .second, .val (.long ((4611686018427387904 : Int64) - (1 : Int64))), .second, .val (.long (-(4611686018427387904 : Int64))), .second, .val (.long ((-((a >>> ((1 : Int32) &&& 0x3f).toInt64) - (b >>> ((1 : Int32) &&& 0x3f).toInt64))) + ((-((a &&& (1 : Int64)) - (b &&& (1 : Int64)))) >>> ((1 : Int32) &&& 0x3f).toInt64))), .second] [])) (fun t₀ k₀ => XS.lstore X0.here hx rfl (hb hby d2_103) rfl (l' := #[.val (.long a), .second, .val (.long b), .second, .val (.long ((a >>> ((1 : Int32) &&& 0x3f).toInt64) - (b >>> ((1 : Int32) &&& 0x3f).toInt64))), .second, .val (.long ((a &&& (1 : Int64)) - (b &&& (1 : Int64)))), .second, .val (.long (4611686018427387904 : Int64)), .second, .val (.long ((4611686018427387904 : Int64) - (1 : Int64))), .second, .val (.long (-(4611686018427387904 : Int64))), .second, .val (.long ((-((a >>> ((1 : Int32) &&& 0x3f).toInt64) - (b >>> ((1 : Int32) &&& 0x3f).toInt64))) + ((-((a &&& (1 : Int64)) - (b &&& (1 : Int64)))) >>> ((1 : Int32) &&& 0x3f).toInt64))), .second]) rfl k₀) ?_
        refine own_step (s₁.setTop (mkF m 108 #[.val (.long a), .second, .val (.long b), .second, .val (.long ((a >>> ((1 : Int32) &&& 0x3f).toInt64) - (b >>> ((1 : Int32) &&& 0x3f).toInt64))), .second, .val (.long ((a &&& (1 : Int64)) - (b &&& (1 : Int64)))), .second, .val (.long (4611686018427387904 : Int64)), .second, .val (.long ((4611686018427387904 : Int64) - (1 : Int64))), .second, .val (.long (-(4611686018427387904 : Int64))), .second, .val (.long ((-((a >>> ((1 : Int32) &&& 0x3f).toInt64) - (b >>> ((1 : Int32) &&& 0x3f).toInt64))) + ((-((a &&& (1 : Int64)) - (b &&& (1 : Int64)))) >>> ((1 : Int32) &&& 0x3f).toInt64))), .second] [(.double (4611686018427387904 : UInt64))])) (fun t₀ k₀ => X0.ldc2DoubleC hx hown (mvT hZ (hw _ (List.mem_of_getElem? (i := 10) rfl))) (g := (mkF m 105 #[.val (.long a), .second, .val (.long b), .second, .val (.long ((a >>> ((1 : Int32) &&& 0x3f).toInt64) - (b >>> ((1 : Int32) &&& 0x3f).toInt64))), .second, .val (.long ((a &&& (1 : Int64)) - (b &&& (1 : Int64)))), .second, .val (.long (4611686018427387904 : Int64)), .second, .val (.long ((4611686018427387904 : Int64) - (1 : Int64))), .second, .val (.long (-(4611686018427387904 : Int64))), .second, .val (.long ((-((a >>> ((1 : Int32) &&& 0x3f).toInt64) - (b >>> ((1 : Int32) &&& 0x3f).toInt64))) + ((-((a &&& (1 : Int64)) - (b &&& (1 : Int64)))) >>> ((1 : Int32) &&& 0x3f).toInt64))), .second] [])) rfl (hb hby d2_105) _ k₀) ?_
        refine own_step (s₁.setTop (mkF m 110 #[.val (.long a), .second, .val (.long b), .second, .val (.long ((a >>> ((1 : Int32) &&& 0x3f).toInt64) - (b >>> ((1 : Int32) &&& 0x3f).toInt64))), .second, .val (.long ((a &&& (1 : Int64)) - (b &&& (1 : Int64)))), .second, .val (.long (4611686018427387904 : Int64)), .second, .val (.long ((4611686018427387904 : Int64) - (1 : Int64))), .second, .val (.long (-(4611686018427387904 : Int64))), .second, .val (.long ((-((a >>> ((1 : Int32) &&& 0x3f).toInt64) - (b >>> ((1 : Int32) &&& 0x3f).toInt64))) + ((-((a &&& (1 : Int64)) - (b &&& (1 : Int64)))) >>> ((1 : Int32) &&& 0x3f).toInt64))), .second] [(.long ((-((a >>> ((1 : Int32) &&& 0x3f).toInt64) - (b >>> ((1 : Int32) &&& 0x3f).toInt64))) + ((-((a &&& (1 : Int64)) - (b &&& (1 : Int64)))) >>> ((1 : Int32) &&& 0x3f).toInt64))), (.double (4611686018427387904 : UInt64))])) (fun t₀ k₀ => XS.lload X0.here hx rfl (hb hby d2_108) rfl k₀) ?_
        refine own_step (s₁.setTop (mkF m 111 #[.val (.long a), .second, .val (.long b), .second, .val (.long ((a >>> ((1 : Int32) &&& 0x3f).toInt64) - (b >>> ((1 : Int32) &&& 0x3f).toInt64))), .second, .val (.long ((a &&& (1 : Int64)) - (b &&& (1 : Int64)))), .second, .val (.long (4611686018427387904 : Int64)), .second, .val (.long ((4611686018427387904 : Int64) - (1 : Int64))), .second, .val (.long (-(4611686018427387904 : Int64))), .second, .val (.long ((-((a >>> ((1 : Int32) &&& 0x3f).toInt64) - (b >>> ((1 : Int32) &&& 0x3f).toInt64))) + ((-((a &&& (1 : Int64)) - (b &&& (1 : Int64)))) >>> ((1 : Int32) &&& 0x3f).toInt64))), .second] [(.double (FP.l2d ((-((a >>> ((1 : Int32) &&& 0x3f).toInt64) - (b >>> ((1 : Int32) &&& 0x3f).toInt64))) + ((-((a &&& (1 : Int64)) - (b &&& (1 : Int64)))) >>> ((1 : Int32) &&& 0x3f).toInt64)))), (.double (4611686018427387904 : UInt64))])) (fun t₀ k₀ => XS.l2dS X0.here hx rfl (hb hby d2_110) rfl rfl k₀) ?_
        refine own_step (s₁.setTop (mkF m 112 #[.val (.long a), .second, .val (.long b), .second, .val (.long ((a >>> ((1 : Int32) &&& 0x3f).toInt64) - (b >>> ((1 : Int32) &&& 0x3f).toInt64))), .second, .val (.long ((a &&& (1 : Int64)) - (b &&& (1 : Int64)))), .second, .val (.long (4611686018427387904 : Int64)), .second, .val (.long ((4611686018427387904 : Int64) - (1 : Int64))), .second, .val (.long (-(4611686018427387904 : Int64))), .second, .val (.long ((-((a >>> ((1 : Int32) &&& 0x3f).toInt64) - (b >>> ((1 : Int32) &&& 0x3f).toInt64))) + ((-((a &&& (1 : Int64)) - (b &&& (1 : Int64)))) >>> ((1 : Int32) &&& 0x3f).toInt64))), .second] [(.double (FP.dmul (4611686018427387904 : UInt64) (FP.l2d ((-((a >>> ((1 : Int32) &&& 0x3f).toInt64) - (b >>> ((1 : Int32) &&& 0x3f).toInt64))) + ((-((a &&& (1 : Int64)) - (b &&& (1 : Int64)))) >>> ((1 : Int32) &&& 0x3f).toInt64)))))])) (fun t₀ k₀ => XS.dmulS X0.here hx rfl (hb hby d2_111) rfl (own_mulN _) rfl k₀) ?_
        refine own_step (s₁.setTop (mkF m 113 #[.val (.long a), .second, .val (.long b), .second, .val (.long ((a >>> ((1 : Int32) &&& 0x3f).toInt64) - (b >>> ((1 : Int32) &&& 0x3f).toInt64))), .second, .val (.long ((a &&& (1 : Int64)) - (b &&& (1 : Int64)))), .second, .val (.long (4611686018427387904 : Int64)), .second, .val (.long ((4611686018427387904 : Int64) - (1 : Int64))), .second, .val (.long (-(4611686018427387904 : Int64))), .second, .val (.long ((-((a >>> ((1 : Int32) &&& 0x3f).toInt64) - (b >>> ((1 : Int32) &&& 0x3f).toInt64))) + ((-((a &&& (1 : Int64)) - (b &&& (1 : Int64)))) >>> ((1 : Int32) &&& 0x3f).toInt64))), .second] [(.double (FP.dneg (FP.dmul (4611686018427387904 : UInt64) (FP.l2d ((-((a >>> ((1 : Int32) &&& 0x3f).toInt64) - (b >>> ((1 : Int32) &&& 0x3f).toInt64))) + ((-((a &&& (1 : Int64)) - (b &&& (1 : Int64)))) >>> ((1 : Int32) &&& 0x3f).toInt64))))))])) (fun t₀ k₀ => XS.dnegS X0.here hx rfl (hb hby d2_112) rfl rfl k₀) ?_
        obtain ⟨fs, hr, hrun, hended, hW, hsame⟩ := X0.leave (v := some (.double (FP.dneg (FP.dmul (4611686018427387904 : UInt64) (FP.l2d ((-((a >>> ((1 : Int32) &&& 0x3f).toInt64) - (b >>> ((1 : Int32) &&& 0x3f).toInt64))) + ((-((a &&& (1 : Int64)) - (b &&& (1 : Int64)))) >>> ((1 : Int32) &&& 0x3f).toInt64))))))) (fun h => by rw [Bd.returns] at h; cases h)
        refine ⟨_, _, ?_, hrun, hended, _, _, rfl, ?_, ⟨_, rfl⟩, hW, hsame.mono (by decide) (by decide)⟩
        · exact retOut X0 hx Bd.returns rfl (Or.inr (Or.inr (Or.inl ⟨rfl, rfl, _, rfl⟩))) (hb hby d2_113) hr
        · show Q_rm2 Z a b h0 n0 _ s₁.heap _
          rw [e0]
          exact ⟨congrArg (fun z => some (Value.double z)) (own_E2 ((own_lo2 hc27).mp hc91)), N0, rfl⟩
      · skip
        refine own_step (s₁.setTop (mkF m 114 #[.val (.long a), .second, .val (.long b), .second, .val (.long ((a >>> ((1 : Int32) &&& 0x3f).toInt64) - (b >>> ((1 : Int32) &&& 0x3f).toInt64))), .second, .val (.long ((a &&& (1 : Int64)) - (b &&& (1 : Int64)))), .second, .val (.long (4611686018427387904 : Int64)), .second, .val (.long ((4611686018427387904 : Int64) - (1 : Int64))), .second, .val (.long (-(4611686018427387904 : Int64))), .second, .unset, .unset] [])) (fun t₀ k₀ => XS.ifYes X0.here hx rfl (pc0 := 91) (pc' := 114) rfl (hb hby d2_91) rfl (own_lgeT hc91) (by decide) (by decide) k₀) ?_
        refine own_step (s₁.setTop (mkF m 115 #[.val (.long a), .second, .val (.long b), .second, .val (.long ((a >>> ((1 : Int32) &&& 0x3f).toInt64) - (b >>> ((1 : Int32) &&& 0x3f).toInt64))), .second, .val (.long ((a &&& (1 : Int64)) - (b &&& (1 : Int64)))), .second, .val (.long (4611686018427387904 : Int64)), .second, .val (.long ((4611686018427387904 : Int64) - (1 : Int64))), .second, .val (.long (-(4611686018427387904 : Int64))), .second, .unset, .unset] [(.long a)])) (fun t₀ k₀ => XS.lloadN X0.here hx rfl (hb hby d2_114) rfl k₀) ?_
        refine own_step (s₁.setTop (mkF m 116 #[.val (.long a), .second, .val (.long b), .second, .val (.long ((a >>> ((1 : Int32) &&& 0x3f).toInt64) - (b >>> ((1 : Int32) &&& 0x3f).toInt64))), .second, .val (.long ((a &&& (1 : Int64)) - (b &&& (1 : Int64)))), .second, .val (.long (4611686018427387904 : Int64)), .second, .val (.long ((4611686018427387904 : Int64) - (1 : Int64))), .second, .val (.long (-(4611686018427387904 : Int64))), .second, .unset, .unset] [(.long b), (.long a)])) (fun t₀ k₀ => XS.lloadN X0.here hx rfl (hb hby d2_115) rfl k₀) ?_
        refine own_step (s₁.setTop (mkF m 117 #[.val (.long a), .second, .val (.long b), .second, .val (.long ((a >>> ((1 : Int32) &&& 0x3f).toInt64) - (b >>> ((1 : Int32) &&& 0x3f).toInt64))), .second, .val (.long ((a &&& (1 : Int64)) - (b &&& (1 : Int64)))), .second, .val (.long (4611686018427387904 : Int64)), .second, .val (.long ((4611686018427387904 : Int64) - (1 : Int64))), .second, .val (.long (-(4611686018427387904 : Int64))), .second, .unset, .unset] [(.long (a - b))])) (fun t₀ k₀ => XS.lsub X0.here hx rfl (hb hby d2_116) rfl k₀) ?_
        refine own_step (s₁.setTop (mkF m 118 #[.val (.long a), .second, .val (.long b), .second, .val (.long ((a >>> ((1 : Int32) &&& 0x3f).toInt64) - (b >>> ((1 : Int32) &&& 0x3f).toInt64))), .second, .val (.long ((a &&& (1 : Int64)) - (b &&& (1 : Int64)))), .second, .val (.long (4611686018427387904 : Int64)), .second, .val (.long ((4611686018427387904 : Int64) - (1 : Int64))), .second, .val (.long (-(4611686018427387904 : Int64))), .second, .unset, .unset] [(.double (FP.l2d (a - b)))])) (fun t₀ k₀ => XS.l2dS X0.here hx rfl (hb hby d2_117) rfl rfl k₀) ?_
        obtain ⟨fs, hr, hrun, hended, hW, hsame⟩ := X0.leave (v := some (.double (FP.l2d (a - b)))) (fun h => by rw [Bd.returns] at h; cases h)
        refine ⟨_, _, ?_, hrun, hended, _, _, rfl, ?_, ⟨_, rfl⟩, hW, hsame.mono (by decide) (by decide)⟩
        · exact retOut X0 hx Bd.returns rfl (Or.inr (Or.inr (Or.inl ⟨rfl, rfl, _, rfl⟩))) (hb hby d2_118) hr
        · show Q_rm2 Z a b h0 n0 _ s₁.heap _
          rw [e0]
          exact ⟨congrArg (fun z => some (Value.double z)) (own_E3 (fun q => hc66 ((own_up2 hc27).mpr q)) (fun q => hc91 ((own_lo2 hc27).mpr q))), N0, rfl⟩
theorem ef_rm0 (m : MethodId) (a : Int64) (b : Int64) : entryFrame m #[(.long a), (.long b)] maxLocals = mkF m 0 #[.val (.long a), .second, .val (.long b), .second, .unset, .unset] [] := by first | (simp [entryFrame, mkF, argsToLocals, Value.category, maxLocals]; done) | rfl
def Q_rm0 (Z : State) (a : Int64) (b : Int64) (h0 : Heap) (n0 : Nat) (v : Option Value) (h : Heap) (L : List Loc) : Prop := v = some (.int 1) ∧ Fr n0 L
set_option maxRecDepth 65536 in
set_option maxHeartbeats 40000000 in
theorem rm0 (l : Launch) (Z : State) (a0 : Array Value) (hw : ∀ d ∈ tables_1, d.before a0 Z = true) (ws : List Jvm.Cond) (a : Int64) (b : Int64) (h0 : Heap) (n0 : Nat) (Z0 : n0 ≤ h0.size) :
    MetFree l x (head1 (Jvm.Cond.code x code maxLocals ret :: ws) room_1) (fun as₉ U => as₉ = #[(.long a), (.long b)] ∧ Z.Warmed39 U.vm ∧ U.heap = h0) (fun _ _ _ _ _ => True) (fun _ U o₉ U' => ∃ v L, o₉ = .returned v ∧ Q_rm0 Z a b h0 n0 v U'.heap L ∧ FrameEnd U o₉ U' L room_1.cells room_1.slots) := by
  refine MetFree.of_bodySF (plainFor_of_name pn_2) hisR ?_
  intro p e s m args below meth c s₁ Bd hml0 hP hK
  obtain ⟨rfl, hZ, hh⟩ := hP
  have hx := Bd.exec
  have hby := Bd.bytes
  have hml : c.maxLocals = 6 := hml0
  have hown : s.vm.findClass "com/example/quillon/quillon/storage/DataTypeDifferencePinLaw" = some m.cls := findClass_of_methodNamed Bd.named
  have hnm := (name_of_methodNamed Bd.named Bd.method).1
  have X0 : Stand p l e room_1 s m #[(.long a), (.long b)] below meth c s₁ [] 0 0 := Stand.of_body Bd
  have e0 : s₁.heap = h0 := by rw [← hh, Bd.state]; rfl
  have N0 := Fr.nil n0
  show own_Go p e below (fun s₂ o₉ => s₂.status = .running ∧ Ended s₂ below o₉ ∧ ∃ v L, o₉ = .returned v ∧ Q_rm0 Z a b h0 n0 v s₂.heap L ∧ FrameEnd s o₉ s₂ L room_1.cells room_1.slots) (s₁.setTop (entryFrame m #[(.long a), (.long b)] maxLocals))
  rw [ef_rm0 m a b]
  refine own_step (s₁.setTop (mkF m 1 #[.val (.long a), .second, .val (.long b), .second, .unset, .unset] [(.long a)])) (fun t₀ k₀ => XS.lloadN X0.here hx rfl (hb hby at_0) rfl k₀) ?_
  refine own_step (s₁.setTop (mkF m 2 #[.val (.long a), .second, .val (.long b), .second, .unset, .unset] [(.long b), (.long a)])) (fun t₀ k₀ => XS.lloadN X0.here hx rfl (hb hby at_1) rfl k₀) ?_
  obtain ⟨_, _, ⟨T5, L5, k5, n5⟩, -, X5, ⟨Lc5, hQ5, l5, y5, z5⟩, st5⟩ := Jvm.LawKit.callS X0 hx (y := (⟨"com/example/quillon/quillon/storage/DataType", "difference", "(JJ)D"⟩ : MethodName)) hown (mvT hZ (hw _ (List.mem_of_getElem? (i := 0) rfl))) (mvT hZ (hw _ (List.mem_of_getElem? (i := 1) rfl))) (mvT hZ (hw _ (List.mem_of_getElem? (i := 2) rfl))) (mvT hZ (hw _ (List.mem_of_getElem? (i := 3) rfl))) (by decide) (backOf (W := 0) (rm1 l Z a0 hw [] a b h0 n0 Z0) hZ (hw _ (List.mem_of_getElem? (i := 3) rfl)) (hw _ (List.mem_of_getElem? (i := 2) rfl)) (by decide) (by decide)) (g := (mkF m 2 #[.val (.long a), .second, .val (.long b), .second, .unset, .unset] [(.long b), (.long a)])) rfl (by rw [hml]; rfl) (argsL := [(.long a), (.long b)]) (rest := []) (lenOf pd_0 rfl) rfl (by show 2 * 0 + _ ≤ _; exact Nat.le_of_eq rfl) (hb hby at_2) (fun _ _ => ⟨rfl, e0, (by decide : 0 + 0 ≤ _), (by decide : 0 + 0 ≤ _)⟩)
  dsimp only [Pt.U, Pt.locs, Pt.cells, Pt.slots] at X5 l5 y5 z5 st5 hQ5
  subst l5 y5 z5
  obtain ⟨rfl, N5q, e5⟩ := hQ5
  have N5 := Fr.app N0 N5q
  refine own_step (T5.setTop (mkF m 5 #[.val (.long a), .second, .val (.long b), .second, .unset, .unset] [(.double (own_D a b))])) (fun t₀ k₀ => st5 t₀ k₀) ?_
  refine own_step (T5.setTop (mkF m 7 #[.val (.long a), .second, .val (.long b), .second, .val (.double (own_D a b)), .second] [])) (fun t₀ k₀ => XS.dstore X5.here hx rfl (hb hby at_5) rfl (l' := #[.val (.long a), .second, .val (.long b), .second, .val (.double (own_D a b)), .second]) rfl k₀) ?_
  refine own_step (T5.setTop (mkF m 9 #[.val (.long a), .second, .val (.long b), .second, .val (.double (own_D a b)), .second] [(.double (own_D a b))])) (fun t₀ k₀ => XS.dload X5.here hx rfl (hb hby at_7) rfl k₀) ?_
  refine own_step (T5.setTop (mkF m 10 #[.val (.long a), .second, .val (.long b), .second, .val (.double (own_D a b)), .second] [(.long a), (.double (own_D a b))])) (fun t₀ k₀ => XS.lloadN X5.here hx rfl (hb hby at_9) rfl k₀) ?_
  refine own_step (T5.setTop (mkF m 11 #[.val (.long a), .second, .val (.long b), .second, .val (.double (own_D a b)), .second] [(.long b), (.long a), (.double (own_D a b))])) (fun t₀ k₀ => XS.lloadN X5.here hx rfl (hb hby at_10) rfl k₀) ?_
  obtain ⟨_, _, ⟨T6, L6, k6, n6⟩, -, X6, ⟨Lc6, hQ6, l6, y6, z6⟩, st6⟩ := Jvm.LawKit.callS X5 hx (y := (⟨"com/example/quillon/quillon/storage/DataTypeDifferencePinLaw", "expected", "(JJ)D"⟩ : MethodName)) hown (mvT hZ (hw _ (List.mem_of_getElem? (i := 4) rfl))) (mvT hZ (hw _ (List.mem_of_getElem? (i := 5) rfl))) (mvT hZ (hw _ (List.mem_of_getElem? (i := 6) rfl))) (mvT hZ (hw _ (List.mem_of_getElem? (i := 7) rfl))) (by decide) (backOf (W := 2) (rm2 l Z a0 hw [] a b h0 n0 Z0) hZ (hw _ (List.mem_of_getElem? (i := 7) rfl)) (hw _ (List.mem_of_getElem? (i := 6) rfl)) (by decide) (by decide)) (g := (mkF m 11 #[.val (.long a), .second, .val (.long b), .second, .val (.double (own_D a b)), .second] [(.long b), (.long a), (.double (own_D a b))])) rfl (by rw [hml]; rfl) (argsL := [(.long a), (.long b)]) (rest := [(.double (own_D a b))]) (lenOf pd_0 rfl) rfl (by show 2 * 0 + _ ≤ _; exact Nat.le_of_eq rfl) (hb hby at_11) (fun _ _ => ⟨rfl, e5, (by decide : 0 + 0 ≤ _), (by decide : 0 + 0 ≤ _)⟩)
  dsimp only [Pt.U, Pt.locs, Pt.cells, Pt.slots] at X6 l6 y6 z6 st6 hQ6
  subst l6 y6 z6
  obtain ⟨rfl, N6q, e6⟩ := hQ6
  have N6 := Fr.app N5 N6q
  refine own_step (T6.setTop (mkF m 14 #[.val (.long a), .second, .val (.long b), .second, .val (.double (own_D a b)), .second] [(.double (own_D a b)), (.double (own_D a b))])) (fun t₀ k₀ => st6 t₀ k₀) ?_
  refine own_step (T6.setTop (mkF m 15 #[.val (.long a), .second, .val (.long b), .second, .val (.double (own_D a b)), .second] [(.int (cmpValue (FP.dcmp (own_D a b) (own_D a b)) .l))])) (fun t₀ k₀ => XS.dcmpS X6.here hx rfl (hb hby at_14) rfl rfl k₀) ?_
  have hk7 : (cmpValue (FP.dcmp (own_D a b) (own_D a b)) .l) = (0 : Int32) := dcmpV_self (own_DN a b) _
  refine own_step (T6.setTop (mkF m 18 #[.val (.long a), .second, .val (.long b), .second, .val (.double (own_D a b)), .second] [])) (fun t₀ k₀ => XS.ifNo X6.here hx rfl (hb hby at_15) rfl ((if0 _ _).trans (teq hk7).2) k₀) ?_
  refine own_step (T6.setTop (mkF m 19 #[.val (.long a), .second, .val (.long b), .second, .val (.double (own_D a b)), .second] [(.int (1 : Int32))])) (fun t₀ k₀ => XS.iconst X6.here hx rfl (hb hby at_18) k₀) ?_
  refine own_step (T6.setTop (mkF m 23 #[.val (.long a), .second, .val (.long b), .second, .val (.double (own_D a b)), .second] [(.int (1 : Int32))])) (fun t₀ k₀ => XS.goto X6.here hx rfl (pc0 := 19) (pc' := 23) rfl (hb hby at_19) (by decide) (by decide) k₀) ?_
  obtain ⟨fs, hr, hrun, hended, hW, hsame⟩ := X6.leave (v := some (.int (1 : Int32))) (fun h => by rw [Bd.returns] at h; cases h)
  refine ⟨_, _, ?_, hrun, hended, _, _, rfl, ?_, ⟨_, rfl⟩, hW, hsame.mono (by decide) (by decide)⟩
  · exact retN X6 hx (t := .boolean) Bd.returns (by simp) (hb hby at_23) hr
  · show Q_rm0 Z a b h0 n0 _ T6.heap _
    rw [e6]
    exact ⟨rfl, N6⟩
set_option maxRecDepth 65536 in
set_option maxHeartbeats 40000000 in
theorem comes_1 {Post : Tables → Env → Array Value → State → Outcome → State → Prop} (hpost : ∀ tb e args s v u, (limb_1_1.after args s (.returned v) u = true ∧ limb_1_2.after args s (.returned v) u = true ∧ True) → FrameEnd s (.returned v) u (Jvm.fieldLocs frame_1_writes args s ++ Jvm.arrayLocs frame_1_arrays args s ++ Jvm.staticLocs frame_1_statics s) 0 0 → Post tb e args s (.returned v) u) :
    ArmFor flags0 classFile x code maxLocals ret World_1 tables_1 room_1 Calls_1 rest_1 Pre_1 Post := by
  intro l hfl _ _ p e ha hc hk s m args below hf hA hF happ hP
  obtain ⟨hcalls, hrest, hpre⟩ := hP
  obtain ⟨-, -, -, hnamed, -, -, -, hat⟩ := (Spec.applies_iff hf).mp happ
  obtain ⟨hg, hn⟩ := and_e (Cond.before_iff.mp (show (Jvm.Cond.and given_1 narrow_1).before args s = true from hpre))
  obtain ⟨hcount, hg0⟩ := and_e hg
  obtain ⟨ga0, hg1⟩ := and_e hg0
  have ga1 := hg1
  obtain ⟨w0, w1, rfl⟩ : ∃ w0 w1 : Value, args = #[w0, w1] := by
    have hs : args.size = 2 := by simpa [Cond.value, given_1] using hcount
    obtain ⟨L⟩ := args
    match L, hs with
    | [w0, w1], _ => exact ⟨w0, w1, rfl⟩
  have hw := fun d (hd : d ∈ tables_1) => atoms_spec (ws := Jvm.Cond.code x code maxLocals ret :: tables_1) hat d (List.mem_cons_of_mem _ hd)
  have hfit : Fit s := fun {y c} hc i hi => by
    obtain ⟨ha, rfl⟩ := Array.getElem?_eq_some_iff.mp hc
    have q := List.all_eq_true.mp ((Array.all_eq_true_iff_forall_mem.mp hF) _ (Array.getElem_mem ha)) i (List.mem_range.mpr hi)
    simpa [Array.getElem?_eq_getElem hi] using q
  obtain ⟨i0, ei0⟩ := isL_v ga0
  obtain rfl : w0 = (.long i0) := Option.some.inj ei0
  obtain ⟨i1, ei1⟩ := isL_v ga1
  obtain rfl : w1 = (.long i1) := Option.some.inj ei1
  obtain ⟨n, o, h1, h2, h3, _, L, rfl, ⟨rfl, N⟩, hq⟩ := rm0 l s _ hw tables_1 i0 i1 s.heap s.heap.size (Nat.le_refl _) p e ha hc hk s m _ below hf ((Spec.applies_iff_loose hf).mp happ).1 ⟨rfl, State.Warmed39.refl s, rfl⟩ trivial
  refine ⟨n, _, h1, h2, h3, hpost _ _ _ _ _ _ ⟨Cond.after_iff.mpr rfl, Cond.after_iff.mpr (eq_i res_at (Term.int_eval (1)) rfl), trivial⟩ ⟨hq.1, hq.2.1, (hq.2.2.sift fun y hy => Or.inr (N y hy)).mono (by decide) (by decide)⟩⟩
theorem main_1_1 : Claimed_1_1 := comes_1 fun _ _ _ _ _ _ h hF => ⟨h.1, hF⟩
theorem main_1_2 : Claimed_1_2 := comes_1 fun _ _ _ _ _ _ h hF => ⟨h.2.1, hF⟩
end Jvm.Pilot.@@N@@
namespace Jvm.Pilot.@@N@@
open Jvm Jvm.ClassFile Sem Op Lib Jvm.Free Jvm.Stand Jvm.Pilot.@@N@@.Jvm.D
/-! MADE BY PROGRAM (witnessworld.py) out of the Statement's table words and the real class files: 12 classes; the members and pool entries that the words name. The judged class is class 1, her method 1. -/
namespace start1
open Jvm.ClassFile
def u (s : String) : CpInfo := .utf8 (stringToUtf16 s)
/-- a pool by its gaps: so many unusable entries, then the entry; so many at the end -/
def gap : Nat → List CpInfo → List CpInfo
  | 0, r => r
  | n + 1, r => .unusable :: gap n r
def poolList (es : List (Nat × CpInfo)) (last : Nat) : List CpInfo := es.foldr (fun e r => gap e.1 (e.2 :: r)) (gap last [])
def pool (es : List (Nat × CpInfo)) (last : Nat) : Array CpInfo := ⟨poolList es last⟩
def fileOf (pool : Array CpInfo) (this : Nat) (attrs : Array Attribute := #[]) (ms : Array MethodInfo := #[]) (fl : Nat := 33) (sup : Nat := 0) (ifs : Array Nat := #[]) (fds : Array FieldInfo := #[]) : ClassFile where
  minorVersion := 0
  majorVersion := 65
  constantPool := pool
  accessFlags := fl
  thisClass := this
  superClass := sup
  interfaces := ifs
  fields := fds
  methods := ms
  attributes := attrs
def plain (name : String) (sup : Option ClassId) : Class where
  name := name
  kind := .ordinary
  loader := none
  accessFlags := 33
  super := sup
  interfaces := #[]
  cf := none
  fields := #[]
  methods := #[]
  instanceTypes := #[]
  staticTypes := #[]
  resolved := #[]
  callSites := []
  init := .initialized
  statics := none
  mirror := none

def pool0 : Array CpInfo := pool [(5, u "<init>"), (0, u "()V"), (1, .class_ 10), (1, u "java/lang/Object")] 113

def k0m0 : Method := { name := "<init>", desc := "()V", sig := { parameters := [], returnType := none }, accessFlags := 1, code := none }
/-- java/lang/Object -/
def k0 : Class := { plain "java/lang/Object" none with
  accessFlags := 33
  interfaces := #[]
  cf := some (fileOf pool0 8 #[] #[{ accessFlags := 1, nameIndex := 5, descriptorIndex := 6, attributes := #[] }] 33 0 #[] #[])
  fields := #[]
  methods := #[k0m0]
  instanceTypes := #[]
  staticTypes := #[]
  resolved := Array.replicate 124 none
  statics := none }

def pool1 : Array CpInfo := pool [(2, .class_ 4), (1, u "java/lang/Object"), (0, u "<init>"), (0, u "()V"), (0, .methodref 8 9), (0, .class_ 10), (0, .nameAndType 11 12), (0, u "com/example/quillon/quillon/storage/DataType"), (0, u "difference"), (0, u "(JJ)D"), (0, .methodref 14 15), (0, .class_ 16), (0, .nameAndType 17 12), (0, u "com/example/quillon/quillon/storage/DataTypeDifferencePinLaw"), (0, u "expected"), (0, .long 4611686018427387904), (1, .double 4611686018427387904), (3, u "law"), (0, u "(JJ)Z")] 3

def k1m0 : Method := { name := "<init>", desc := "()V", sig := { parameters := [], returnType := none }, accessFlags := 1, code := none }
def k1c1 : Code := { maxStack := 6, maxLocals := 6, code := code, exceptionTable := #[], attributes := #[] }
def k1m1 : Method := { name := "law", desc := "(JJ)Z", sig := { parameters := [.long, .long], returnType := some .boolean }, accessFlags := 9, code := some k1c1 }
def k1c2 : Code := { maxStack := 6, maxLocals := 16, code := method_3_code, exceptionTable := #[], attributes := #[] }
def k1m2 : Method := { name := "expected", desc := "(JJ)D", sig := { parameters := [.long, .long], returnType := some .double }, accessFlags := 10, code := some k1c2 }
/-- com/example/quillon/quillon/storage/DataTypeDifferencePinLaw -/
def k1 : Class := { plain "com/example/quillon/quillon/storage/DataTypeDifferencePinLaw" (some 0) with
  accessFlags := 49
  interfaces := #[]
  cf := some (fileOf pool1 14 #[] #[{ accessFlags := 1, nameIndex := 5, descriptorIndex := 6, attributes := #[] }, { accessFlags := 9, nameIndex := 24, descriptorIndex := 25, attributes := #[] }, { accessFlags := 10, nameIndex := 17, descriptorIndex := 12, attributes := #[] }] 49 2 #[] #[])
  fields := #[]
  methods := #[k1m0, k1m1, k1m2]
  instanceTypes := #[]
  staticTypes := #[]
  resolved := Array.replicate 29 none
  statics := none }

def pool2 : Array CpInfo := pool [(1, .class_ 2), (0, u "java/lang/constant/Constable"), (0, .class_ 4), (0, u "java/lang/Object")] 6

/-- java/lang/constant/Constable -/
def k2 : Class := { plain "java/lang/constant/Constable" (some 0) with
  accessFlags := 1537
  interfaces := #[]
  cf := some (fileOf pool2 1 #[] #[] 1537 3 #[] #[])
  fields := #[]
  methods := #[]
  instanceTypes := #[]
  staticTypes := #[]
  resolved := Array.replicate 11 none
  statics := none }

def pool3 : Array CpInfo := pool [(1, .class_ 2), (0, u "java/lang/Comparable"), (0, .class_ 4), (0, u "java/lang/Object")] 7

/-- java/lang/Comparable -/
def k3 : Class := { plain "java/lang/Comparable" (some 0) with
  accessFlags := 1537
  interfaces := #[]
  cf := some (fileOf pool3 1 #[] #[] 1537 3 #[] #[])
  fields := #[]
  methods := #[]
  instanceTypes := #[]
  staticTypes := #[]
  resolved := Array.replicate 12 none
  statics := none }

def pool4 : Array CpInfo := pool [(1, .class_ 2), (0, u "java/io/Serializable"), (0, .class_ 4), (0, u "java/lang/Object")] 2

/-- java/io/Serializable -/
def k4 : Class := { plain "java/io/Serializable" (some 0) with
  accessFlags := 1537
  interfaces := #[]
  cf := some (fileOf pool4 1 #[] #[] 1537 3 #[] #[])
  fields := #[]
  methods := #[]
  instanceTypes := #[]
  staticTypes := #[]
  resolved := Array.replicate 7 none
  statics := none }

def pool5 : Array CpInfo := pool [(2, .class_ 4), (1, u "java/lang/Enum"), (0, u "name"), (0, u "Ljava/lang/String;"), (2, u "ordinal"), (0, u "I"), (1, .class_ 14), (1, u "java/lang/Object"), (4, u "hash"), (86, .class_ 108), (1, u "java/lang/Enum$EnumDesc"), (2, .class_ 112), (0, u "java/lang/constant/Constable"), (0, .class_ 114), (0, u "java/lang/Comparable"), (0, .class_ 116), (0, u "java/io/Serializable")] 87

/-- java/lang/Enum -/
def k5 : Class := { plain "java/lang/Enum" (some 0) with
  accessFlags := 1057
  interfaces := #[2, 3, 4]
  cf := some (fileOf pool5 2 #[.nestMembers #[106]] #[] 1057 12 #[111, 113, 115] #[{ accessFlags := 18, nameIndex := 5, descriptorIndex := 6, attributes := #[] }, { accessFlags := 18, nameIndex := 9, descriptorIndex := 10, attributes := #[] }, { accessFlags := 2, nameIndex := 19, descriptorIndex := 10, attributes := #[] }])
  fields := #[{ name := "name", type := (.object "java/lang/String"), accessFlags := 18, slot := 0, constantValue := 0 }, { name := "ordinal", type := .int, accessFlags := 18, slot := 1, constantValue := 0 }, { name := "hash", type := .int, accessFlags := 2, slot := 2, constantValue := 0 }]
  methods := #[]
  instanceTypes := #[(.object "java/lang/String"), .int, .int]
  staticTypes := #[]
  resolved := Array.replicate 204 none
  statics := none }

def pool6 : Array CpInfo := pool [(1, .class_ 2), (0, u "com/example/quillon/quillon/storage/DataType"), (2, u "INT32"), (0, u "Lcom/example/quillon/quillon/storage/DataType;"), (2, u "INT64"), (2, u "FLOAT"), (2, u "DOUBLE"), (2, u "$VALUES"), (0, u "[Lcom/example/quillon/quillon/storage/DataType;"), (6, .class_ 28), (1, u "java/lang/Enum"), (123, .double 4611686018427387904), (3, u "difference"), (0, u "(JJ)D")] 83

def k6c0 : Code := { maxStack := 6, maxLocals := 12, code := prog_60_method_14_code, exceptionTable := #[], attributes := #[] }
def k6m0 : Method := { name := "difference", desc := "(JJ)D", sig := { parameters := [.long, .long], returnType := some .double }, accessFlags := 9, code := some k6c0 }
/-- com/example/quillon/quillon/storage/DataType -/
def k6 : Class := { plain "com/example/quillon/quillon/storage/DataType" (some 5) with
  accessFlags := 16433
  interfaces := #[]
  cf := some (fileOf pool6 1 #[] #[{ accessFlags := 9, nameIndex := 156, descriptorIndex := 157, attributes := #[] }] 16433 26 #[] #[{ accessFlags := 16409, nameIndex := 5, descriptorIndex := 6, attributes := #[] }, { accessFlags := 16409, nameIndex := 9, descriptorIndex := 6, attributes := #[] }, { accessFlags := 16409, nameIndex := 12, descriptorIndex := 6, attributes := #[] }, { accessFlags := 16409, nameIndex := 15, descriptorIndex := 6, attributes := #[] }, { accessFlags := 4122, nameIndex := 18, descriptorIndex := 19, attributes := #[] }])
  fields := #[{ name := "INT32", type := (.object "com/example/quillon/quillon/storage/DataType"), accessFlags := 16409, slot := 0, constantValue := 0 }, { name := "INT64", type := (.object "com/example/quillon/quillon/storage/DataType"), accessFlags := 16409, slot := 1, constantValue := 0 }, { name := "FLOAT", type := (.object "com/example/quillon/quillon/storage/DataType"), accessFlags := 16409, slot := 2, constantValue := 0 }, { name := "DOUBLE", type := (.object "com/example/quillon/quillon/storage/DataType"), accessFlags := 16409, slot := 3, constantValue := 0 }, { name := "$VALUES", type := (.array (.object "com/example/quillon/quillon/storage/DataType")), accessFlags := 4122, slot := 4, constantValue := 0 }]
  methods := #[k6m0]
  instanceTypes := #[(.object "java/lang/String"), .int, .int]
  staticTypes := #[(.object "com/example/quillon/quillon/storage/DataType"), (.object "com/example/quillon/quillon/storage/DataType"), (.object "com/example/quillon/quillon/storage/DataType"), (.object "com/example/quillon/quillon/storage/DataType"), (.array (.object "com/example/quillon/quillon/storage/DataType"))]
  resolved := Array.replicate 241 none
  statics := none }

def pool7 : Array CpInfo := pool [(1, u "java/lang/Cloneable"), (0, .class_ 1), (0, u "java/lang/Object"), (0, .class_ 3)] 3

/-- java/lang/Cloneable -/
def k7 : Class := { plain "java/lang/Cloneable" (some 0) with
  accessFlags := 1537
  interfaces := #[]
  cf := some (fileOf pool7 2 #[] #[] 1537 4 #[] #[])
  fields := #[]
  methods := #[]
  instanceTypes := #[]
  staticTypes := #[]
  resolved := Array.replicate 8 none
  statics := none }

/-- the primitive byte -/
def k8 : Class := { plain "byte" none with kind := .primitive 'B', accessFlags := 0x411 }
/-- [B -/
def k9 : Class := { plain "[B" (some 0) with kind := .array 8 .byte, interfaces := #[7, 4], accessFlags := 1041 }

/-- the primitive int -/
def k10 : Class := { plain "int" none with kind := .primitive 'I', accessFlags := 0x411 }
/-- [I -/
def k11 : Class := { plain "[I" (some 0) with kind := .array 10 .int, interfaces := #[7, 4], accessFlags := 1041 }

def heap : Heap := #[]
def classes : Array Class := #[k0, k1, k2, k3, k4, k5, k6, k7, k8, k9, k10, k11]
def interned : List (Array UInt16 × Addr) := []
def slotsUsed : Nat := 0
def theMethod : MethodId := ⟨1, 1⟩
def args0 : Array Value := #[.long 5, .long 7]
def aboutOver (below : List Frame) : State where
  vm := { classes := classes, interned := interned.toArray }
  heap := heap
  slotsUsed := slotsUsed
  threads := #[{ frames := .invoking theMethod args0 :: below }]
def below0 : List Frame := [.native { method := ⟨0, 0⟩, args := #[] }]
def about1 : State := aboutOver below0
def p0 : Program := .bare "" "" ""
def e0 : Env := launch0.env 0 0 0
theorem w_frames : about1.frames = Frame.invoking theMethod args0 :: below0 := rfl
set_option maxRecDepth 65536 in
theorem w_args : argsFit about1.vm theMethod args0 = true := by decide +kernel
set_option maxRecDepth 65536 in
theorem w_heap : heapFits about1 = true := by decide +kernel
set_option maxRecDepth 65536 in
theorem w_runnable : about1.curStatus? = some .runnable := by decide +kernel
set_option maxRecDepth 65536 in
theorem w_alone : about1.alone = true := by decide +kernel
set_option maxRecDepth 65536 in
theorem w_named : about1.methodNamed? x = some theMethod := by decide +kernel
set_option maxRecDepth 65536 in
theorem w_hears : about1.hears theMethod below0 = true := by decide +kernel
set_option maxRecDepth 65536 in
theorem w_ripe : about1.ripe theMethod args0 below0 = true := by decide +kernel
theorem w_running : about1.status = .running := rfl
set_option maxRecDepth 65536 in
theorem w_room : about1.hasRoom e0.platform room_1 = true :=
  launch0.hasRoom_least _ room_1 (by decide +kernel) (by decide +kernel) (by decide +kernel) (by decide +kernel) (by decide +kernel) (by decide +kernel)
theorem allAtoms_all (ts : List Jvm.Cond) (a : Array Jvm.Value) (st : Jvm.State) : (allAtoms ts).before a st = ts.all (fun c => c.before a st) := by
  induction ts with
  | nil => rfl
  | cons c t ih =>
    show (Jvm.Cond.and c (allAtoms t)).before a st = _
    rw [Jvm.Cond.before_and, ih, List.all_cons]
def words1 : List Jvm.Cond := Jvm.Cond.code x code maxLocals ret :: tables_1
/-- a 'code' word, met by the world's own term for the bytes: nothing is compared byte by byte -/
theorem code_word {y : MethodName} {bytes : ByteArray} {mx : Nat} {rt : Option FieldType} {a : Array Value} {s : State} {m : MethodId} {meth : Method} {c : Code} (h1 : s.methodNamed? y = some m) (h2 : s.vm.method? m = some meth) (h3 : meth.code = some c) (h4 : c.code = bytes)
    (h5 : (c.maxLocals == mx && c.exceptionTable.isEmpty && decide (c.maxStack ≤ mostOperands) && decide (meth.sig.returnType = rt) && !meth.locks && decide (parseMethodDescriptor y.desc = some meth.sig)) = true) : (Jvm.Cond.code y bytes mx rt).before a s = true := by
  simp only [Bool.and_eq_true, beq_iff_eq, Bool.not_eq_true', decide_eq_true_eq] at h5
  obtain ⟨⟨⟨⟨⟨g1, g2⟩, g3⟩, g4⟩, g5⟩, g6⟩ := h5
  simp [Cond.before, Cond.holds, Cond.value, h1, h2, h3, h4, g1, g2, g3, g4, g5, g6]
def isCode : Jvm.Cond → Bool
  | .code _ _ _ _ => true
  | _ => false
theorem all_split {L : List Jvm.Cond} {P : Jvm.Cond → Bool} (h1 : L.all (fun c => isCode c || P c) = true) (h2 : ∀ c ∈ L.filter isCode, P c = true) : L.all P = true := by
  refine List.all_eq_true.mpr fun c hc => ?_
  have h := List.all_eq_true.mp h1 c hc
  rcases Bool.eq_false_or_eq_true (isCode c) with hi | hi
  · exact h2 c (List.mem_filter.mpr ⟨hc, hi⟩)
  · simpa [hi] using h
set_option maxRecDepth 65536 in
theorem w_c0 : (Jvm.Cond.code x code maxLocals ret).before args0 about1 = true := code_word (m := ⟨1, 1⟩) (meth := k1m1) (c := k1c1) (by decide +kernel) rfl rfl rfl (by decide +kernel)
set_option maxRecDepth 65536 in
theorem w_c1 : (Jvm.Cond.code ({ cls := "com/example/quillon/quillon/storage/DataType", name := "difference", desc := "(JJ)D" } : Jvm.MethodName) prog_60_method_14_code (12 : Nat) (Option.some Jvm.ClassFile.FieldType.double)).before args0 about1 = true := code_word (m := ⟨6, 0⟩) (meth := k6m0) (c := k6c0) (by decide +kernel) rfl rfl rfl (by decide +kernel)
set_option maxRecDepth 65536 in
theorem w_c2 : (Jvm.Cond.code ({ cls := "com/example/quillon/quillon/storage/DataTypeDifferencePinLaw", name := "expected", desc := "(JJ)D" } : Jvm.MethodName) method_3_code (16 : Nat) (Option.some Jvm.ClassFile.FieldType.double)).before args0 about1 = true := code_word (m := ⟨1, 2⟩) (meth := k1m2) (c := k1c2) (by decide +kernel) rfl rfl rfl (by decide +kernel)
def codes1 : List Jvm.Cond := [Jvm.Cond.code x code maxLocals ret, Jvm.Cond.code ({ cls := "com/example/quillon/quillon/storage/DataType", name := "difference", desc := "(JJ)D" } : Jvm.MethodName) prog_60_method_14_code (12 : Nat) (Option.some Jvm.ClassFile.FieldType.double), Jvm.Cond.code ({ cls := "com/example/quillon/quillon/storage/DataTypeDifferencePinLaw", name := "expected", desc := "(JJ)D" } : Jvm.MethodName) method_3_code (16 : Nat) (Option.some Jvm.ClassFile.FieldType.double)]
set_option maxRecDepth 65536 in
theorem codes_eq : words1.filter isCode = codes1 := rfl
theorem w_codes : ∀ c ∈ words1.filter isCode, c.before args0 about1 = true := by
  rw [codes_eq]
  intro c hc
  simp only [codes1, List.mem_cons, List.not_mem_nil, or_false] at hc
  rcases hc with rfl | rfl | rfl
  · exact w_c0
  · exact w_c1
  · exact w_c2
set_option maxRecDepth 65536 in
theorem w_t1 : words1.all (fun c => isCode c || c.before args0 about1) = true := by decide +kernel
theorem w_tables : (allAtoms (Jvm.Cond.code x code maxLocals ret :: tables_1)).before args0 about1 = true := by
  rw [allAtoms_all]
  show words1.all (fun c => c.before args0 about1) = true
  refine all_split ?_ w_codes
  rw [w_t1]
set_option maxRecDepth 65536 in
theorem w_case : (Jvm.Cond.and given_1 narrow_1).before args0 about1 = true := by decide +kernel
theorem w_applies : (headSpec (Jvm.Cond.code x code maxLocals ret :: tables_1) room_1).applies x e0.platform about1 = true :=
  (Spec.applies_iff w_frames).mpr ⟨w_running, w_runnable, w_alone, w_named, w_hears, w_ripe, w_room, w_tables⟩
theorem atStart : AtStart classFile x code maxLocals ret World_1 tables_1 room_1 Calls_1 rest_1 Pre_1 launch0 p0 e0 about1 theMethod args0 below0 :=
  ⟨lists_1, trivial, launch0.admits_env _ _ _, launch0.least_env, fairChoices_fair.cas, fairChoices_fair.clock, w_frames, w_args, w_heap, w_applies, trivial, trivial, w_case⟩
end start1
theorem witness_1 : WitnessClaimed_1 := ⟨start1.p0, start1.e0, start1.about1, start1.theMethod, start1.args0, start1.below0, start1.atStart⟩
end Jvm.Pilot.@@N@@
