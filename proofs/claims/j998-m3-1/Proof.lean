import JvmDerived
import JvmDerived.Pilot.@@N@@Statement
import JvmDerived.Pilot.@@N@@Code
set_option linter.unusedVariables false
set_option linter.unusedSimpArgs false
namespace Jvm.RoadKit
open Sem ClassFile Op Lib Jvm.Stand Jvm.Free Jvm.LawKit
section New
variable {p : Program} {l : Launch} {e : Env} {R : Room} {s : State} {m : MethodId} {args : Array Value} {below : List Frame} {meth : Method} {c : Code} {T : State} {locs : List Loc} {cells slots : Nat}
theorem retI (X : Stand p l e R s m args below meth c T locs cells slots) (hx : p.tables.exec = Jvm.exec) {pc : Nat} {Ls : Array Slot} {z : Int32} {rest : List Value} (hret : meth.sig.returnType = some .int) (hd : decode c.code pc = .ok (.ireturn, 1)) {fs : List Frame}
    (hl : ∀ (f : JFrame) (acts : List Action), f.method = m → f.locked = none → f.entered = [] → (doReturn e (T.setTop f) acts (some (.int z))).1 = T.setFrames fs) : Steps p.tables e below (T.setTop (mkF m pc Ls (.int z :: rest))) (T.setFrames fs) := by
  have hm' : T.vm.method? m = some meth := X.method'
  have hn : narrow .int (.int z) = .int z := rfl
  show Steps p.tables e below (T.setTop { method := m, pc := pc, locals := Ls, stack := _ :: rest, locked := none }) _
  jvm_step X.here [X.here.top, hx, hd, hm', hret, hn]
  first | (intro acts; rw [hl _ acts rfl rfl rfl]) | rw [hl _ _ rfl rfl rfl]
  exact Steps.refl _
end New
end Jvm.RoadKit
namespace Jvm.Pilot.@@N@@
open Jvm Jvm.ClassFile Sem Op Lib Jvm.Free Jvm.Stand Jvm.LawKit Jvm.RoadKit Bundle Jvm.Pilot.@@N@@.Jvm.D
/-- from A the run comes to an end of which P is said -/
def own_Go (p : Program) (e : Env) (below : List Frame) (P : State → Outcome → Prop) (A : State) : Prop := ∃ s₂ o, Steps p.tables e below A s₂ ∧ P s₂ o
theorem own_step {p : Program} {e : Env} {below : List Frame} {P : State → Outcome → Prop} {A : State} (B : State) (h : ∀ t, Steps p.tables e below B t → Steps p.tables e below A t) (g : own_Go p e below P B) : own_Go p e below P A := by
  obtain ⟨s₂, o, h1, h2⟩ := g; exact ⟨s₂, o, h s₂ h1, h2⟩
theorem own_comes {p : Program} {e : Env} {below : List Frame} {P : State → Outcome → Prop} {A : State} (B : State) (h : Steps p.tables e below A B) (g : own_Go p e below P B) : own_Go p e below P A := by
  obtain ⟨s₂, o, h1, h2⟩ := g; exact ⟨s₂, o, h.trans h1, h2⟩
theorem own_sta_keep {Z : State} {h h' : Heap} {C n d : String} {w : Value} {ws : List Addr} (F : Sta Z h C n d w) (K : Keep h h' ws) (hw : ∀ x ∈ ws, ∀ cell : Cell, h[x]? = some cell → cell.vm.isStatics = false) : Sta Z h' C n d w := by
  obtain ⟨cf, i, k, f, st, cell, h1, h2, h3, h4, h5, h6, r⟩ := F
  exact ⟨cf, i, k, f, st, cell, h1, h2, h3, h4, K.2.1 _ _ h5 (fun q => by rw [hw _ q _ h5] at h6; cases h6), h6, r⟩
theorem own_sel {s : State} {args : Array Value} {y : MethodName} {n : Nat} (w : (Cond.instantiable y.cls n).before args s = true) (hp : (Cond.privateMethod y).before args s = true) (hi : (Cond.instanceMethod y).before args s = true) (hy : y.cls ≠ "java/lang/invoke/MethodHandle" ∧ y.cls ≠ "java/lang/invoke/VarHandle") : (Cond.selects y.cls y y).before args s = true := by
  obtain ⟨c, k, h1, h2, -, h4, -, -⟩ := Cond.instantiable_spec w
  simp only [Bool.or_eq_false_iff] at h4
  exact Jvm.Stand.selects_self_of_private h1 h2 h4.1 (Cond.privateMethod_at hp) hi hy
def own_lrem (x y : Int64) : Int64 := x - x / y * y
theorem own_vne {a b : Int32} (h : a ≠ b) : Value.int a ≠ Value.int b := fun q => h (Value.int.inj q)
theorem own_lgtT {x y : Int64} (h : y < x) : ifCond.holds .gt (lcmpW x y) = true := (if0 _ _).trans (tlt ((lw_gt x y).mpr h)).2.2.1
theorem own_lgtF {x y : Int64} (h : ¬ y < x) : ifCond.holds .gt (lcmpW x y) = false := (if0 _ _).trans (flt (fun q => h ((lw_gt x y).mp q))).2.2.1
theorem own_lleT {x y : Int64} (h : ¬ y < x) : ifCond.holds .le (lcmpW x y) = true := (if0 _ _).trans (flt (fun q => h ((lw_gt x y).mp q))).2.2.2
theorem own_lleF {x y : Int64} (h : y < x) : ifCond.holds .le (lcmpW x y) = false := (if0 _ _).trans (tlt ((lw_gt x y).mpr h)).2.2.2
theorem own_lltT {x y : Int64} (h : x < y) : ifCond.holds .lt (lcmpW x y) = true := (if0 _ _).trans (tlt ((lw_lt x y).mpr h)).1
theorem own_lltF {x y : Int64} (h : ¬ x < y) : ifCond.holds .lt (lcmpW x y) = false := (if0 _ _).trans (flt (fun q => h ((lw_lt x y).mp q))).1
theorem own_lgeT {x y : Int64} (h : ¬ x < y) : ifCond.holds .ge (lcmpW x y) = true := (if0 _ _).trans (flt (fun q => h ((lw_lt x y).mp q))).2.1
theorem own_lgeF {x y : Int64} (h : x < y) : ifCond.holds .ge (lcmpW x y) = false := (if0 _ _).trans (tlt ((lw_lt x y).mpr h)).2.1
theorem own_leqT {x y : Int64} (h : x = y) : ifCond.holds .eq (lcmpW x y) = true := (if0 _ _).trans (teq ((lw_eq x y).mpr h)).1
theorem own_leqF {x y : Int64} (h : ¬ x = y) : ifCond.holds .eq (lcmpW x y) = false := (if0 _ _).trans (feq (fun q => h ((lw_eq x y).mp q))).1
theorem own_lneT {x y : Int64} (h : ¬ x = y) : ifCond.holds .ne (lcmpW x y) = true := (if0 _ _).trans (feq (fun q => h ((lw_eq x y).mp q))).2
theorem own_lneF {x y : Int64} (h : x = y) : ifCond.holds .ne (lcmpW x y) = false := (if0 _ _).trans (teq ((lw_eq x y).mpr h)).2
def own_in (lo t hi : Int64) : Int32 := if ¬ t < lo ∧ ¬ hi < t then 1 else 0
theorem own_xor_nat (a : Nat) (h : a < 2 ^ 63) : a ^^^ 2 ^ 63 = 2 ^ 63 + a := by
  apply Nat.eq_of_testBit_eq
  intro i
  rw [Nat.testBit_xor, Nat.testBit_two_pow]
  rcases Nat.lt_trichotomy i 63 with q | q | q
  · rw [Nat.testBit_two_pow_add_gt q]; simp [show ¬ 63 = i by omega]
  · subst q; rw [Nat.testBit_two_pow_add_eq]; simp
  · have h1 : a.testBit i = false := Nat.testBit_lt_two_pow (Nat.lt_of_lt_of_le h (Nat.pow_le_pow_right (by decide) (by omega)))
    have h2 : (2 ^ 63 + a).testBit i = false := Nat.testBit_lt_two_pow (Nat.lt_of_lt_of_le (show 2 ^ 63 + a < 2 ^ 64 by omega) (Nat.pow_le_pow_right (by decide) (by omega)))
    rw [h1, h2]; simp [show ¬ 63 = i by omega]
theorem own_xor_nat' (a : Nat) (h : 2 ^ 63 ≤ a) (h' : a < 2 ^ 64) : a ^^^ 2 ^ 63 = a - 2 ^ 63 := by
  have h1 := own_xor_nat (a - 2 ^ 63) (by omega)
  have h2 : a = (a - 2 ^ 63) ^^^ 2 ^ 63 := by rw [h1]; omega
  conv => lhs; rw [h2]
  rw [Nat.xor_assoc, Nat.xor_self, Nat.xor_zero]
theorem own_xor (x : Int64) : (x ^^^ (-9223372036854775808 : Int64)).toInt = if x.toInt < 0 then x.toInt + 9223372036854775808 else x.toInt - 9223372036854775808 := by
  have hn : (x ^^^ (-9223372036854775808 : Int64)).toBitVec.toNat = x.toBitVec.toNat ^^^ 2 ^ 63 := by
    show (x.toBitVec ^^^ (-9223372036854775808 : Int64).toBitVec).toNat = _
    rw [BitVec.toNat_xor]; rfl
  have hl := x.toBitVec.isLt
  show (x ^^^ (-9223372036854775808 : Int64)).toBitVec.toInt = if x.toBitVec.toInt < 0 then x.toBitVec.toInt + 9223372036854775808 else x.toBitVec.toInt - 9223372036854775808
  rw [BitVec.toInt_eq_toNat_cond, BitVec.toInt_eq_toNat_cond, hn]
  by_cases q : x.toBitVec.toNat < 2 ^ 63
  · rw [own_xor_nat _ q]; split <;> split <;> (try split) <;> omega
  · rw [own_xor_nat' _ (by omega) hl]; split <;> split <;> (try split) <;> omega
theorem own_cmp {a t b : Int64} (h1 : ¬ b < a) : (((b - a) ^^^ (-9223372036854775808 : Int64)) < ((t - a) ^^^ (-9223372036854775808 : Int64))) ↔ (t < a ∨ b < t) := by
  have c1 := c_lsub b a; have c2 := c_lsub t a
  have ra := rng64 a; have rb := rng64 b; have rt := rng64 t; have r1 := rng64 (b - a); have r2 := rng64 (t - a)
  rw [Int64.lt_iff_toInt_lt] at h1
  rw [Int64.lt_iff_toInt_lt, Int64.lt_iff_toInt_lt, Int64.lt_iff_toInt_lt, own_xor, own_xor]
  split <;> split <;> omega
theorem own_A {a t b : Int64} (h1 : ¬ b < a) (h2 : ¬ ((b - a) ^^^ (-9223372036854775808 : Int64)) < ((t - a) ^^^ (-9223372036854775808 : Int64))) : own_in a t b = 1 := by
  rw [own_cmp h1] at h2
  unfold own_in; rw [if_pos ⟨fun q => h2 (Or.inl q), fun q => h2 (Or.inr q)⟩]
theorem own_B {a t b : Int64} (h1 : ¬ b < a) (h2 : ((b - a) ^^^ (-9223372036854775808 : Int64)) < ((t - a) ^^^ (-9223372036854775808 : Int64))) : own_in a t b = 0 := by
  rw [own_cmp h1] at h2
  rcases h2 with h2 | h2 <;> simp [own_in, h2]
theorem own_C {a t b : Int64} (h1 : b < a) : own_in a t b = 0 := by
  have : ¬ (¬ t < a ∧ ¬ b < t) := by rw [Int64.lt_iff_toInt_lt] at *; rw [Int64.lt_iff_toInt_lt]; omega
  simp only [own_in, this, if_false]
theorem pd_0 : parseMethodDescriptor "(JJ)V" = some ⟨[.long, .long], none⟩ := by decide +kernel
theorem pd_1 : parseMethodDescriptor "()V" = some ⟨[], none⟩ := by decide +kernel
theorem pd_2 : parseMethodDescriptor "(J)Z" = some ⟨[.long], some .boolean⟩ := by decide +kernel
theorem d2_0 : decode jdk_30_method_1_code 0 = .ok (.aload_n 0, 1) := by decide +kernel
theorem d2_1 : decode jdk_30_method_1_code 1 = .ok (.invokespecial 1, 3) := by decide +kernel
theorem d2_4 : decode jdk_30_method_1_code 4 = .ok (.return_, 1) := by decide +kernel
theorem pn_2 : plainName "java/lang/Record" = true := by first | (simp [plainName, overriddenIn]; done) | decide +kernel
theorem ef_rm2 (m : MethodId) (a : Addr) : entryFrame m #[(.ref a)] 1 = mkF m 0 #[.val (.ref a)] [] := by first | (simp [entryFrame, mkF, argsToLocals, Value.category]; done) | rfl
def Q_rm2 (Z : State) (a : Addr) (h0 : Heap) (n0 : Nat) (v : Option Value) (h : Heap) (L : List Loc) : Prop := v = none ∧ Fr n0 L ∧ h = h0
set_option maxRecDepth 65536 in
set_option maxHeartbeats 40000000 in
theorem rm2 (l : Launch) (Z : State) (a0 : Array Value) (hw : ∀ d ∈ tables_1, d.before a0 Z = true) (ws : List Jvm.Cond) (a : Addr) (h0 : Heap) (n0 : Nat) (Z0 : n0 ≤ h0.size) :
    MetFree l (⟨"java/lang/Record", "<init>", "()V"⟩ : MethodName) (head1 (Jvm.Cond.code (⟨"java/lang/Record", "<init>", "()V"⟩ : MethodName) jdk_30_method_1_code 1 none :: ws) ({ frames := 1, cells := 0, slots := 0, locals := 12 } : Room)) (fun as₉ U => as₉ = #[(.ref a)] ∧ Z.Warmed39 U.vm ∧ U.heap = h0) (fun _ _ _ _ _ => True) (fun _ U o₉ U' => ∃ v L, o₉ = .returned v ∧ Q_rm2 Z a h0 n0 v U'.heap L ∧ FrameEnd U o₉ U' L ({ frames := 1, cells := 0, slots := 0, locals := 12 } : Room).cells ({ frames := 1, cells := 0, slots := 0, locals := 12 } : Room).slots) := by
  refine MetFree.of_bodySF (plainFor_of_name pn_2) hisR ?_
  intro p e s m args below meth c s₁ Bd hml0 hP hK
  obtain ⟨rfl, hZ, hh⟩ := hP
  have hx := Bd.exec
  have hby := Bd.bytes
  have hml : c.maxLocals = 1 := hml0
  have hown : s.vm.findClass "java/lang/Record" = some m.cls := findClass_of_methodNamed Bd.named
  have hnm := (name_of_methodNamed Bd.named Bd.method).1
  have X0 : Stand p l e ({ frames := 1, cells := 0, slots := 0, locals := 12 } : Room) s m #[(.ref a)] below meth c s₁ [] 0 0 := Stand.of_body Bd
  have e0 : s₁.heap = h0 := by rw [← hh, Bd.state]; rfl
  have N0 := Fr.nil n0
  show own_Go p e below (fun s₂ o₉ => s₂.status = .running ∧ Ended s₂ below o₉ ∧ ∃ v L, o₉ = .returned v ∧ Q_rm2 Z a h0 n0 v s₂.heap L ∧ FrameEnd s o₉ s₂ L ({ frames := 1, cells := 0, slots := 0, locals := 12 } : Room).cells ({ frames := 1, cells := 0, slots := 0, locals := 12 } : Room).slots) (s₁.setTop (entryFrame m #[(.ref a)] 1))
  rw [ef_rm2 m a]
  refine own_step (s₁.setTop (mkF m 1 #[.val (.ref a)] [(.ref a)])) (fun t₀ k₀ => XS.aloadN X0.here hx rfl (hb hby d2_0) rfl rfl k₀) ?_
  obtain ⟨T1, X1, e1, st1⟩ := initO X0 hx hZ hown (hw _ (List.mem_of_getElem? (i := 11) rfl)) (hw _ (List.mem_of_getElem? (i := 12) rfl)) (hw _ (List.mem_of_getElem? (i := 13) rfl)) e0 (g := (mkF m 1 #[.val (.ref a)] [(.ref a)])) rfl (by rw [hml]; rfl) rfl (hb hby d2_1) (by decide) (W := 0) (by show 2 * 0 + _ ≤ _; exact Nat.le_of_eq rfl) (by decide)
  refine own_step (T1.setTop (mkF m 4 #[.val (.ref a)] [])) (fun t₀ k₀ => st1 t₀ k₀) ?_
  obtain ⟨fs, hr, hrun, hended, hW, hsame⟩ := X1.leave (v := none) (fun _ => rfl)
  refine ⟨_, _, ?_, hrun, hended, _, _, rfl, ?_, ⟨_, rfl⟩, hW, hsame.mono (by decide) (by decide)⟩
  · exact X1.returnOut hx Bd.returns (hb hby d2_4) hr
  · show Q_rm2 Z a h0 n0 _ T1.heap _
    rw [e1]
    exact ⟨rfl, N0, rfl⟩
theorem d1_0 : decode prog_83_method_1_code 0 = .ok (.aload_n 0, 1) := by decide +kernel
theorem d1_1 : decode prog_83_method_1_code 1 = .ok (.invokespecial 1, 3) := by decide +kernel
theorem d1_4 : decode prog_83_method_1_code 4 = .ok (.aload_n 0, 1) := by decide +kernel
theorem d1_5 : decode prog_83_method_1_code 5 = .ok (.lload_n 1, 1) := by decide +kernel
theorem d1_6 : decode prog_83_method_1_code 6 = .ok (.putfield 7, 3) := by decide +kernel
theorem d1_9 : decode prog_83_method_1_code 9 = .ok (.aload_n 0, 1) := by decide +kernel
theorem d1_10 : decode prog_83_method_1_code 10 = .ok (.lload_n 3, 1) := by decide +kernel
theorem d1_11 : decode prog_83_method_1_code 11 = .ok (.putfield 13, 3) := by decide +kernel
theorem d1_14 : decode prog_83_method_1_code 14 = .ok (.return_, 1) := by decide +kernel
theorem pn_1 : plainName "com/example/quillon/quillon/storage/TimeRange" = true := by first | (simp [plainName, overriddenIn]; done) | decide +kernel
theorem ef_rm1 (m : MethodId) (a : Addr) (lo : Int64) (hi : Int64) : entryFrame m #[(.ref a), (.long lo), (.long hi)] 5 = mkF m 0 #[.val (.ref a), .val (.long lo), .second, .val (.long hi), .second] [] := by first | (simp [entryFrame, mkF, argsToLocals, Value.category]; done) | rfl
def Q_rm1 (Z : State) (a : Addr) (lo : Int64) (hi : Int64) (u1 : Int64) (u2 : Int64) (h0 : Heap) (n0 : Nat) (v : Option Value) (h : Heap) (L : List Loc) : Prop := v = none ∧ Fr n0 L ∧ Keep h0 h [a] ∧ Exa Z h a "com/example/quillon/quillon/storage/TimeRange" ∧ Fld Z h a "com/example/quillon/quillon/storage/TimeRange" "first" "J" (.long lo) ∧ Fld Z h a "com/example/quillon/quillon/storage/TimeRange" "last" "J" (.long hi)
set_option maxRecDepth 65536 in
set_option maxHeartbeats 40000000 in
theorem rm1 (l : Launch) (Z : State) (a0 : Array Value) (hw : ∀ d ∈ tables_1, d.before a0 Z = true) (ws : List Jvm.Cond) (a : Addr) (lo : Int64) (hi : Int64) (u1 : Int64) (u2 : Int64) (h0 : Heap) (n0 : Nat) (Z0 : n0 ≤ h0.size) (Ea : Exa Z h0 a "com/example/quillon/quillon/storage/TimeRange") (Fa1 : Fld Z h0 a "com/example/quillon/quillon/storage/TimeRange" "first" "J" (.long u1)) (Fa2 : Fld Z h0 a "com/example/quillon/quillon/storage/TimeRange" "last" "J" (.long u2)) (ga : n0 ≤ a) :
    MetFree l (⟨"com/example/quillon/quillon/storage/TimeRange", "<init>", "(JJ)V"⟩ : MethodName) (head1 (Jvm.Cond.code (⟨"com/example/quillon/quillon/storage/TimeRange", "<init>", "(JJ)V"⟩ : MethodName) prog_83_method_1_code 5 none :: ws) ({ frames := 2, cells := 0, slots := 0, locals := 24 } : Room)) (fun as₉ U => as₉ = #[(.ref a), (.long lo), (.long hi)] ∧ Z.Warmed39 U.vm ∧ U.heap = h0) (fun _ _ _ _ _ => True) (fun _ U o₉ U' => ∃ v L, o₉ = .returned v ∧ Q_rm1 Z a lo hi u1 u2 h0 n0 v U'.heap L ∧ FrameEnd U o₉ U' L ({ frames := 2, cells := 0, slots := 0, locals := 24 } : Room).cells ({ frames := 2, cells := 0, slots := 0, locals := 24 } : Room).slots) := by
  refine MetFree.of_bodySF (plainFor_of_name pn_1) hisR ?_
  intro p e s m args below meth c s₁ Bd hml0 hP hK
  obtain ⟨rfl, hZ, hh⟩ := hP
  have hx := Bd.exec
  have hby := Bd.bytes
  have hml : c.maxLocals = 5 := hml0
  have hown : s.vm.findClass "com/example/quillon/quillon/storage/TimeRange" = some m.cls := findClass_of_methodNamed Bd.named
  have hnm := (name_of_methodNamed Bd.named Bd.method).1
  have X0 : Stand p l e ({ frames := 2, cells := 0, slots := 0, locals := 24 } : Room) s m #[(.ref a), (.long lo), (.long hi)] below meth c s₁ [] 0 0 := Stand.of_body Bd
  have e0 : s₁.heap = h0 := by rw [← hh, Bd.state]; rfl
  have N0 := Fr.nil n0
  show own_Go p e below (fun s₂ o₉ => s₂.status = .running ∧ Ended s₂ below o₉ ∧ ∃ v L, o₉ = .returned v ∧ Q_rm1 Z a lo hi u1 u2 h0 n0 v s₂.heap L ∧ FrameEnd s o₉ s₂ L ({ frames := 2, cells := 0, slots := 0, locals := 24 } : Room).cells ({ frames := 2, cells := 0, slots := 0, locals := 24 } : Room).slots) (s₁.setTop (entryFrame m #[(.ref a), (.long lo), (.long hi)] 5))
  rw [ef_rm1 m a lo hi]
  refine own_step (s₁.setTop (mkF m 1 #[.val (.ref a), .val (.long lo), .second, .val (.long hi), .second] [(.ref a)])) (fun t₀ k₀ => XS.aloadN X0.here hx rfl (hb hby d1_0) rfl rfl k₀) ?_
  obtain ⟨_, _, ⟨T2, L2, k2, n2⟩, -, X2, ⟨Lc2, hQ2, l2, y2, z2⟩, st2⟩ := X0.specialBack hx (y := (⟨"java/lang/Record", "<init>", "()V"⟩ : MethodName)) rfl hown (mvT hZ (hw _ (List.mem_of_getElem? (i := 6) rfl))) (mvT hZ (hw _ (List.mem_of_getElem? (i := 7) rfl))) (mvT hZ (hw _ (List.mem_of_getElem? (i := 10) rfl))) (by decide) (backOf (W := 0) (rm2 l Z a0 hw [] a h0 n0 Z0) hZ (hw _ (List.mem_of_getElem? (i := 10) rfl)) (hw _ (List.mem_of_getElem? (i := 9) rfl)) (by decide) (by decide)) (g := (mkF m 1 #[.val (.ref a), .val (.long lo), .second, .val (.long hi), .second] [(.ref a)])) rfl (by rw [hml]; rfl) (Steps.refl _) (a := a) (argsL := []) (rest := []) (lenOf pd_1 rfl) rfl (by show 2 * 0 + _ ≤ _; exact Nat.le_of_eq rfl) (hb hby d1_1) (fun _ _ => ⟨rfl, e0, (by decide : 0 + 0 ≤ _), (by decide : 0 + 0 ≤ _)⟩)
  dsimp only [Pt.U, Pt.locs, Pt.cells, Pt.slots] at X2 l2 y2 z2 st2 hQ2
  subst l2 y2 z2
  obtain ⟨rfl, N2q, e2⟩ := hQ2
  have N2 := Fr.app N0 N2q
  refine own_comes (T2.setTop (mkF m 4 #[.val (.ref a), .val (.long lo), .second, .val (.long hi), .second] [])) st2 ?_
  refine own_step (T2.setTop (mkF m 5 #[.val (.ref a), .val (.long lo), .second, .val (.long hi), .second] [(.ref a)])) (fun t₀ k₀ => XS.aloadN X2.here hx rfl (hb hby d1_4) rfl rfl k₀) ?_
  refine own_step (T2.setTop (mkF m 6 #[.val (.ref a), .val (.long lo), .second, .val (.long hi), .second] [(.long lo), (.ref a)])) (fun t₀ k₀ => XS.lloadN X2.here hx rfl (hb hby d1_5) rfl k₀) ?_
  obtain ⟨T3, h3, X3, e3, W3, st3⟩ := putF X2 hx hZ hown (host := "") (Or.inl (hw _ (List.mem_of_getElem? (i := 14) rfl))) Via.refl e2 Fa1 Ea (Or.inr ⟨(hw _ (List.mem_of_getElem? (i := 15) rfl)), rfl, hnm⟩) (hw _ (List.mem_of_getElem? (i := 1) rfl)) (ty := .long) (by decide) rfl rfl (g := (mkF m 6 #[.val (.ref a), .val (.long lo), .second, .val (.long hi), .second] [(.long lo), (.ref a)])) rfl rfl (hb hby d1_6)
  have f4 : Fld Z h3 a "com/example/quillon/quillon/storage/TimeRange" "first" "J" (.long lo) := Fa1.same W3
  have f5 : Exa Z h3 a "com/example/quillon/quillon/storage/TimeRange" := Ea.wr W3
  have f6 : Fld Z h3 a "com/example/quillon/quillon/storage/TimeRange" "last" "J" (.long u2) := Fa2.other W3 (Or.inr (slot_ne (Or.inr (hw _ (List.mem_of_getElem? (i := 17) rfl))) (Or.inr (hw _ (List.mem_of_getElem? (i := 15) rfl))) (by decide) (t := .long) (t' := .long) (by decide) (by decide)))
  have N3 := Fr.snoc X3 N2 ga
  have z3 : n0 ≤ h3.size := Nat.le_trans Z0 (Keep.of_wr W3).1
  have K3 : Keep h0 h3 [a] := (Keep.refl h0 [a]).wr W3 (Or.inl (List.mem_of_getElem? (i := 0) rfl))
  refine own_step (T3.setTop (mkF m 9 #[.val (.ref a), .val (.long lo), .second, .val (.long hi), .second] [])) (fun t₀ k₀ => st3 t₀ k₀) ?_
  refine own_step (T3.setTop (mkF m 10 #[.val (.ref a), .val (.long lo), .second, .val (.long hi), .second] [(.ref a)])) (fun t₀ k₀ => XS.aloadN X3.here hx rfl (hb hby d1_9) rfl rfl k₀) ?_
  refine own_step (T3.setTop (mkF m 11 #[.val (.ref a), .val (.long lo), .second, .val (.long hi), .second] [(.long hi), (.ref a)])) (fun t₀ k₀ => XS.lloadN X3.here hx rfl (hb hby d1_10) rfl k₀) ?_
  obtain ⟨T7, h7, X7, e7, W7, st7⟩ := putF X3 hx hZ hown (host := "") (Or.inl (hw _ (List.mem_of_getElem? (i := 16) rfl))) Via.refl e3 f6 f5 (Or.inr ⟨(hw _ (List.mem_of_getElem? (i := 17) rfl)), rfl, hnm⟩) (hw _ (List.mem_of_getElem? (i := 1) rfl)) (ty := .long) (by decide) rfl rfl (g := (mkF m 11 #[.val (.ref a), .val (.long lo), .second, .val (.long hi), .second] [(.long hi), (.ref a)])) rfl rfl (hb hby d1_11)
  have f8 : Fld Z h7 a "com/example/quillon/quillon/storage/TimeRange" "last" "J" (.long hi) := f6.same W7
  have f9 : Exa Z h7 a "com/example/quillon/quillon/storage/TimeRange" := f5.wr W7
  have f10 : Fld Z h7 a "com/example/quillon/quillon/storage/TimeRange" "first" "J" (.long lo) := f4.other W7 (Or.inr (slot_ne (Or.inr (hw _ (List.mem_of_getElem? (i := 15) rfl))) (Or.inr (hw _ (List.mem_of_getElem? (i := 17) rfl))) (by decide) (t := .long) (t' := .long) (by decide) (by decide)))
  have N7 := Fr.snoc X7 N3 ga
  have z7 : n0 ≤ h7.size := Nat.le_trans z3 (Keep.of_wr W7).1
  have K7 : Keep h0 h7 [a] := K3.wr W7 (Or.inl (List.mem_of_getElem? (i := 0) rfl))
  refine own_step (T7.setTop (mkF m 14 #[.val (.ref a), .val (.long lo), .second, .val (.long hi), .second] [])) (fun t₀ k₀ => st7 t₀ k₀) ?_
  obtain ⟨fs, hr, hrun, hended, hW, hsame⟩ := X7.leave (v := none) (fun _ => rfl)
  refine ⟨_, _, ?_, hrun, hended, _, _, rfl, ?_, ⟨_, rfl⟩, hW, hsame.mono (by decide) (by decide)⟩
  · exact X7.returnOut hx Bd.returns (hb hby d1_14) hr
  · show Q_rm1 Z a lo hi u1 u2 h0 n0 _ T7.heap _
    rw [e7]
    exact ⟨rfl, N7, K7, f9, f10, f8⟩
theorem d4_0 : decode prog_83_method_8_code 0 = .ok (.aload_n 0, 1) := by decide +kernel
theorem d4_1 : decode prog_83_method_8_code 1 = .ok (.getfield 7, 3) := by decide +kernel
theorem d4_4 : decode prog_83_method_8_code 4 = .ok (.lload_n 1, 1) := by decide +kernel
theorem d4_5 : decode prog_83_method_8_code 5 = .ok (.lcmp, 1) := by decide +kernel
theorem d4_6 : decode prog_83_method_8_code 6 = .ok (.ifCond .gt 16, 3) := by decide +kernel
theorem d4_9 : decode prog_83_method_8_code 9 = .ok (.lload_n 1, 1) := by decide +kernel
theorem d4_10 : decode prog_83_method_8_code 10 = .ok (.aload_n 0, 1) := by decide +kernel
theorem d4_11 : decode prog_83_method_8_code 11 = .ok (.getfield 13, 3) := by decide +kernel
theorem d4_14 : decode prog_83_method_8_code 14 = .ok (.lcmp, 1) := by decide +kernel
theorem d4_15 : decode prog_83_method_8_code 15 = .ok (.ifCond .gt 7, 3) := by decide +kernel
theorem d4_18 : decode prog_83_method_8_code 18 = .ok (.iconst 1, 1) := by decide +kernel
theorem d4_19 : decode prog_83_method_8_code 19 = .ok (.goto 4, 3) := by decide +kernel
theorem d4_22 : decode prog_83_method_8_code 22 = .ok (.iconst 0, 1) := by decide +kernel
theorem d4_23 : decode prog_83_method_8_code 23 = .ok (.ireturn, 1) := by decide +kernel
theorem ef_rm4 (m : MethodId) (a : Addr) (t : Int64) : entryFrame m #[(.ref a), (.long t)] 3 = mkF m 0 #[.val (.ref a), .val (.long t), .second] [] := by first | (simp [entryFrame, mkF, argsToLocals, Value.category]; done) | rfl
def Q_rm4 (Z : State) (a : Addr) (t : Int64) (lo : Int64) (hi : Int64) (h0 : Heap) (n0 : Nat) (v : Option Value) (h : Heap) (L : List Loc) : Prop := v = some (.int (own_in lo t hi)) ∧ Fr n0 L ∧ h = h0
set_option maxRecDepth 65536 in
set_option maxHeartbeats 40000000 in
theorem rm4 (l : Launch) (Z : State) (a0 : Array Value) (hw : ∀ d ∈ tables_1, d.before a0 Z = true) (ws : List Jvm.Cond) (a : Addr) (t : Int64) (lo : Int64) (hi : Int64) (h0 : Heap) (n0 : Nat) (Z0 : n0 ≤ h0.size) (Fa1 : Fld Z h0 a "com/example/quillon/quillon/storage/TimeRange" "first" "J" (.long lo)) (Fa2 : Fld Z h0 a "com/example/quillon/quillon/storage/TimeRange" "last" "J" (.long hi)) :
    MetFree l (⟨"com/example/quillon/quillon/storage/TimeRange", "contains", "(J)Z"⟩ : MethodName) (head1 (Jvm.Cond.code (⟨"com/example/quillon/quillon/storage/TimeRange", "contains", "(J)Z"⟩ : MethodName) prog_83_method_8_code 3 (some .boolean) :: ws) ({ frames := 0, cells := 0, slots := 0, locals := 0 } : Room)) (fun as₉ U => as₉ = #[(.ref a), (.long t)] ∧ Z.Warmed39 U.vm ∧ U.heap = h0) (fun _ _ _ _ _ => True) (fun _ U o₉ U' => ∃ v L, o₉ = .returned v ∧ Q_rm4 Z a t lo hi h0 n0 v U'.heap L ∧ FrameEnd U o₉ U' L ({ frames := 0, cells := 0, slots := 0, locals := 0 } : Room).cells ({ frames := 0, cells := 0, slots := 0, locals := 0 } : Room).slots) := by
  refine MetFree.of_bodySF (plainFor_of_name pn_1) hisR ?_
  intro p e s m args below meth c s₁ Bd hml0 hP hK
  obtain ⟨rfl, hZ, hh⟩ := hP
  have hx := Bd.exec
  have hby := Bd.bytes
  have hml : c.maxLocals = 3 := hml0
  have hown : s.vm.findClass "com/example/quillon/quillon/storage/TimeRange" = some m.cls := findClass_of_methodNamed Bd.named
  have hnm := (name_of_methodNamed Bd.named Bd.method).1
  have X0 : Stand p l e ({ frames := 0, cells := 0, slots := 0, locals := 0 } : Room) s m #[(.ref a), (.long t)] below meth c s₁ [] 0 0 := Stand.of_body Bd
  have e0 : s₁.heap = h0 := by rw [← hh, Bd.state]; rfl
  have N0 := Fr.nil n0
  show own_Go p e below (fun s₂ o₉ => s₂.status = .running ∧ Ended s₂ below o₉ ∧ ∃ v L, o₉ = .returned v ∧ Q_rm4 Z a t lo hi h0 n0 v s₂.heap L ∧ FrameEnd s o₉ s₂ L ({ frames := 0, cells := 0, slots := 0, locals := 0 } : Room).cells ({ frames := 0, cells := 0, slots := 0, locals := 0 } : Room).slots) (s₁.setTop (entryFrame m #[(.ref a), (.long t)] 3))
  rw [ef_rm4 m a t]
  refine own_step (s₁.setTop (mkF m 1 #[.val (.ref a), .val (.long t), .second] [(.ref a)])) (fun t₀ k₀ => XS.aloadN X0.here hx rfl (hb hby d4_0) rfl rfl k₀) ?_
  obtain ⟨T11, X11, e11, st11⟩ := getF X0 hx hZ hown (host := "") (Or.inl (hw _ (List.mem_of_getElem? (i := 14) rfl))) Via.refl e0 Fa1 (g := (mkF m 1 #[.val (.ref a), .val (.long t), .second] [(.ref a)])) rfl rfl (hb hby d4_1)
  refine own_step (T11.setTop (mkF m 4 #[.val (.ref a), .val (.long t), .second] [(.long lo)])) (fun t₀ k₀ => st11 t₀ k₀) ?_
  refine own_step (T11.setTop (mkF m 5 #[.val (.ref a), .val (.long t), .second] [(.long t), (.long lo)])) (fun t₀ k₀ => XS.lloadN X11.here hx rfl (hb hby d4_4) rfl k₀) ?_
  refine own_step (T11.setTop (mkF m 6 #[.val (.ref a), .val (.long t), .second] [(.int (lcmpW lo t))])) (fun t₀ k₀ => XS.lcmp X11.here hx rfl (hb hby d4_5) rfl k₀) ?_
  by_cases hc6 : t < lo
  · skip
    refine own_step (T11.setTop (mkF m 22 #[.val (.ref a), .val (.long t), .second] [])) (fun t₀ k₀ => XS.ifYes X11.here hx rfl (pc0 := 6) (pc' := 22) rfl (hb hby d4_6) rfl (own_lgtT hc6) (by decide) (by decide) k₀) ?_
    refine own_step (T11.setTop (mkF m 23 #[.val (.ref a), .val (.long t), .second] [(.int (0 : Int32))])) (fun t₀ k₀ => XS.iconst X11.here hx rfl (hb hby d4_22) k₀) ?_
    obtain ⟨fs, hr, hrun, hended, hW, hsame⟩ := X11.leave (v := some (.int (0 : Int32))) (fun h => by rw [Bd.returns] at h; cases h)
    refine ⟨_, _, ?_, hrun, hended, _, _, rfl, ?_, ⟨_, rfl⟩, hW, hsame.mono (by decide) (by decide)⟩
    · exact retN X11 hx (t := .boolean) Bd.returns (by simp) (hb hby d4_23) hr
    · show Q_rm4 Z a t lo hi h0 n0 _ T11.heap _
      rw [e11]
      exact ⟨by simp [own_in, hc6], N0, rfl⟩
  · skip
    refine own_step (T11.setTop (mkF m 9 #[.val (.ref a), .val (.long t), .second] [])) (fun t₀ k₀ => XS.ifNo X11.here hx rfl (hb hby d4_6) rfl (own_lgtF hc6) k₀) ?_
    refine own_step (T11.setTop (mkF m 10 #[.val (.ref a), .val (.long t), .second] [(.long t)])) (fun t₀ k₀ => XS.lloadN X11.here hx rfl (hb hby d4_9) rfl k₀) ?_
    refine own_step (T11.setTop (mkF m 11 #[.val (.ref a), .val (.long t), .second] [(.ref a), (.long t)])) (fun t₀ k₀ => XS.aloadN X11.here hx rfl (hb hby d4_10) rfl rfl k₀) ?_
    obtain ⟨T12, X12, e12, st12⟩ := getF X11 hx hZ hown (host := "") (Or.inl (hw _ (List.mem_of_getElem? (i := 16) rfl))) Via.refl e11 Fa2 (g := (mkF m 11 #[.val (.ref a), .val (.long t), .second] [(.ref a), (.long t)])) rfl rfl (hb hby d4_11)
    refine own_step (T12.setTop (mkF m 14 #[.val (.ref a), .val (.long t), .second] [(.long hi), (.long t)])) (fun t₀ k₀ => st12 t₀ k₀) ?_
    refine own_step (T12.setTop (mkF m 15 #[.val (.ref a), .val (.long t), .second] [(.int (lcmpW t hi))])) (fun t₀ k₀ => XS.lcmp X12.here hx rfl (hb hby d4_14) rfl k₀) ?_
    by_cases hc15 : hi < t
    · skip
      refine own_step (T12.setTop (mkF m 22 #[.val (.ref a), .val (.long t), .second] [])) (fun t₀ k₀ => XS.ifYes X12.here hx rfl (pc0 := 15) (pc' := 22) rfl (hb hby d4_15) rfl (own_lgtT hc15) (by decide) (by decide) k₀) ?_
      refine own_step (T12.setTop (mkF m 23 #[.val (.ref a), .val (.long t), .second] [(.int (0 : Int32))])) (fun t₀ k₀ => XS.iconst X12.here hx rfl (hb hby d4_22) k₀) ?_
      obtain ⟨fs, hr, hrun, hended, hW, hsame⟩ := X12.leave (v := some (.int (0 : Int32))) (fun h => by rw [Bd.returns] at h; cases h)
      refine ⟨_, _, ?_, hrun, hended, _, _, rfl, ?_, ⟨_, rfl⟩, hW, hsame.mono (by decide) (by decide)⟩
      · exact retN X12 hx (t := .boolean) Bd.returns (by simp) (hb hby d4_23) hr
      · show Q_rm4 Z a t lo hi h0 n0 _ T12.heap _
        rw [e12]
        exact ⟨by simp [own_in, hc6, hc15], N0, rfl⟩
    · skip
      refine own_step (T12.setTop (mkF m 18 #[.val (.ref a), .val (.long t), .second] [])) (fun t₀ k₀ => XS.ifNo X12.here hx rfl (hb hby d4_15) rfl (own_lgtF hc15) k₀) ?_
      refine own_step (T12.setTop (mkF m 19 #[.val (.ref a), .val (.long t), .second] [(.int (1 : Int32))])) (fun t₀ k₀ => XS.iconst X12.here hx rfl (hb hby d4_18) k₀) ?_
      refine own_step (T12.setTop (mkF m 23 #[.val (.ref a), .val (.long t), .second] [(.int (1 : Int32))])) (fun t₀ k₀ => XS.goto X12.here hx rfl (pc0 := 19) (pc' := 23) rfl (hb hby d4_19) (by decide) (by decide) k₀) ?_
      obtain ⟨fs, hr, hrun, hended, hW, hsame⟩ := X12.leave (v := some (.int (1 : Int32))) (fun h => by rw [Bd.returns] at h; cases h)
      refine ⟨_, _, ?_, hrun, hended, _, _, rfl, ?_, ⟨_, rfl⟩, hW, hsame.mono (by decide) (by decide)⟩
      · exact retN X12 hx (t := .boolean) Bd.returns (by simp) (hb hby d4_23) hr
      · show Q_rm4 Z a t lo hi h0 n0 _ T12.heap _
        rw [e12]
        exact ⟨by simp [own_in, hc6, hc15], N0, rfl⟩
theorem pn_0 : plainName "com/example/quillon/quillon/storage/TimeRangeContains435PinLaw" = true := by first | (simp [plainName, overriddenIn]; done) | decide +kernel
theorem ef_rm0 (m : MethodId) (a : Int64) (b0 : Int64) (cc : Int64) (sel : Int32) : entryFrame m #[(.long a), (.long b0), (.long cc), (.int sel)] maxLocals = mkF m 0 #[.val (.long a), .second, .val (.long b0), .second, .val (.long cc), .second, .val (.int sel), .unset, .unset, .unset, .unset, .unset, .unset, .unset, .unset] [] := by first | (simp [entryFrame, mkF, argsToLocals, Value.category, maxLocals]; done) | rfl
def Q_rm0 (Z : State) (a : Int64) (b0 : Int64) (cc : Int64) (sel : Int32) (h0 : Heap) (n0 : Nat) (v : Option Value) (h : Heap) (L : List Loc) : Prop := v = some (.int 1) ∧ Fr n0 L
set_option maxRecDepth 65536 in
set_option maxHeartbeats 40000000 in
theorem rm0 (l : Launch) (Z : State) (a0 : Array Value) (hw : ∀ d ∈ tables_1, d.before a0 Z = true) (ws : List Jvm.Cond) (a : Int64) (b0 : Int64) (cc : Int64) (sel : Int32) (h0 : Heap) (n0 : Nat) (Z0 : n0 ≤ h0.size) :
    MetFree l x (head1 (Jvm.Cond.code x code maxLocals ret :: ws) room_1) (fun as₉ U => as₉ = #[(.long a), (.long b0), (.long cc), (.int sel)] ∧ Z.Warmed39 U.vm ∧ U.heap = h0) (fun _ _ _ _ _ => True) (fun _ U o₉ U' => ∃ v L, o₉ = .returned v ∧ Q_rm0 Z a b0 cc sel h0 n0 v U'.heap L ∧ FrameEnd U o₉ U' L room_1.cells room_1.slots) := by
  refine MetFree.of_bodySF (plainFor_of_name pn_0) hisR ?_
  intro p e s m args below meth c s₁ Bd hml0 hP hK
  obtain ⟨rfl, hZ, hh⟩ := hP
  have hx := Bd.exec
  have hby := Bd.bytes
  have hml : c.maxLocals = 15 := hml0
  have hown : s.vm.findClass "com/example/quillon/quillon/storage/TimeRangeContains435PinLaw" = some m.cls := findClass_of_methodNamed Bd.named
  have hnm := (name_of_methodNamed Bd.named Bd.method).1
  have X0 : Stand p l e room_1 s m #[(.long a), (.long b0), (.long cc), (.int sel)] below meth c s₁ [] 0 0 := Stand.of_body Bd
  have e0 : s₁.heap = h0 := by rw [← hh, Bd.state]; rfl
  have N0 := Fr.nil n0
  have cut111 : ∀ (b : Int64) (k : Int32) (t : Int64) (Tc111 : State) (Xc111 : Stand p l e room_1 s m #[(.long a), (.long b0), (.long cc), (.int sel)] below meth c Tc111 [] 0 0) (ec111 : Tc111.heap = h0), own_Go p e below (fun s₂ o₉ => s₂.status = .running ∧ Ended s₂ below o₉ ∧ ∃ v L, o₉ = .returned v ∧ Q_rm0 Z a b0 cc sel h0 n0 v s₂.heap L ∧ FrameEnd s o₉ s₂ L room_1.cells room_1.slots) (Tc111.setTop (mkF m 111 #[.val (.long a), .second, .val (.long b0), .second, .val (.long cc), .second, .val (.int sel), .val (.long b), .second, .val (.int k), .val (.long t), .second, .unset, .unset, .unset] [])) := by
    intro b k t Tc111 Xc111 ec111
    obtain ⟨T13, h13, X13, e13, E13, A13, D13, -, st13⟩ := newO Xc111 hx hZ hown (hw _ (List.mem_of_getElem? (i := 0) rfl)) (hw _ (List.mem_of_getElem? (i := 1) rfl)) (hw _ (List.mem_of_getElem? (i := 2) rfl)) ec111 (g := (mkF m 111 #[.val (.long a), .second, .val (.long b0), .second, .val (.long cc), .second, .val (.int sel), .val (.long b), .second, .val (.int k), .val (.long t), .second, .unset, .unset, .unset] [])) rfl (hb hby at_111) (by decide) (by decide)
    obtain ⟨b13, g13⟩ : ∃ z, z = h0.size := ⟨_, rfl⟩
    rw [← g13] at A13 D13 st13
    have fr_b13 : n0 ≤ b13 := Nat.le_trans Z0 (Nat.le_of_eq g13.symm)
    have f14 : Fld Z h13 b13 "com/example/quillon/quillon/storage/TimeRange" "first" "J" (.long (0 : Int64)) := D13 (Or.inr (hw _ (List.mem_of_getElem? (i := 15) rfl))) (ty := .long) (by decide)
    have f15 : Fld Z h13 b13 "com/example/quillon/quillon/storage/TimeRange" "last" "J" (.long (0 : Int64)) := D13 (Or.inr (hw _ (List.mem_of_getElem? (i := 17) rfl))) (ty := .long) (by decide)
    have z13 : n0 ≤ h13.size := Nat.le_trans Z0 E13.1
    refine own_step (T13.setTop (mkF m 114 #[.val (.long a), .second, .val (.long b0), .second, .val (.long cc), .second, .val (.int sel), .val (.long b), .second, .val (.int k), .val (.long t), .second, .unset, .unset, .unset] [(.ref b13)])) (fun t₀ k₀ => st13 t₀ k₀) ?_
    refine own_step (T13.setTop (mkF m 115 #[.val (.long a), .second, .val (.long b0), .second, .val (.long cc), .second, .val (.int sel), .val (.long b), .second, .val (.int k), .val (.long t), .second, .unset, .unset, .unset] [(.ref b13), (.ref b13)])) (fun t₀ k₀ => XS.dup X13.here hx rfl (hb hby at_114) rfl rfl k₀) ?_
    refine own_step (T13.setTop (mkF m 116 #[.val (.long a), .second, .val (.long b0), .second, .val (.long cc), .second, .val (.int sel), .val (.long b), .second, .val (.int k), .val (.long t), .second, .unset, .unset, .unset] [(.long a), (.ref b13), (.ref b13)])) (fun t₀ k₀ => XS.lloadN X13.here hx rfl (hb hby at_115) rfl k₀) ?_
    refine own_step (T13.setTop (mkF m 118 #[.val (.long a), .second, .val (.long b0), .second, .val (.long cc), .second, .val (.int sel), .val (.long b), .second, .val (.int k), .val (.long t), .second, .unset, .unset, .unset] [(.long b), (.long a), (.ref b13), (.ref b13)])) (fun t₀ k₀ => XS.lload X13.here hx rfl (hb hby at_116) rfl k₀) ?_
    obtain ⟨_, _, ⟨T16, L16, k16, n16⟩, -, X16, ⟨Lc16, hQ16, l16, y16, z16⟩, st16⟩ := X13.specialBack hx (y := (⟨"com/example/quillon/quillon/storage/TimeRange", "<init>", "(JJ)V"⟩ : MethodName)) rfl hown (mvT hZ (hw _ (List.mem_of_getElem? (i := 3) rfl))) (mvT hZ (hw _ (List.mem_of_getElem? (i := 4) rfl))) (mvT hZ (hw _ (List.mem_of_getElem? (i := 5) rfl))) (by decide) (backOf (W := 1) (rm1 l Z a0 hw [] b13 a b (0 : Int64) (0 : Int64) h13 n0 z13 A13 f14 f15 fr_b13) hZ (hw _ (List.mem_of_getElem? (i := 5) rfl)) (hw _ (List.mem_of_getElem? (i := 2) rfl)) (by decide) (by decide)) (g := (mkF m 118 #[.val (.long a), .second, .val (.long b0), .second, .val (.long cc), .second, .val (.int sel), .val (.long b), .second, .val (.int k), .val (.long t), .second, .unset, .unset, .unset] [(.long b), (.long a), (.ref b13), (.ref b13)])) rfl (by rw [hml]; rfl) (Steps.refl _) (a := b13) (argsL := [(.long a), (.long b)]) (rest := [(.ref b13)]) (lenOf pd_0 rfl) rfl (by show 2 * 0 + _ ≤ _; exact Nat.le_of_eq rfl) (hb hby at_118) (fun _ _ => ⟨rfl, e13, (by decide : 1 + 0 ≤ _), (by decide : 2 + 0 ≤ _)⟩)
    dsimp only [Pt.U, Pt.locs, Pt.cells, Pt.slots] at X16 l16 y16 z16 st16 hQ16
    subst l16 y16 z16
    obtain ⟨rfl, N16q, K16, f17, f18, f19⟩ := hQ16
    have N16 := Fr.app N0 N16q
    have f20 : Exa Z T16.heap b13 "com/example/quillon/quillon/storage/TimeRange" := A13.keep K16
    have z16' : n0 ≤ T16.heap.size := Nat.le_trans z13 K16.1
    refine own_comes (T16.setTop (mkF m 121 #[.val (.long a), .second, .val (.long b0), .second, .val (.long cc), .second, .val (.int sel), .val (.long b), .second, .val (.int k), .val (.long t), .second, .unset, .unset, .unset] [(.ref b13)])) st16 ?_
    refine own_step (T16.setTop (mkF m 123 #[.val (.long a), .second, .val (.long b0), .second, .val (.long cc), .second, .val (.int sel), .val (.long b), .second, .val (.int k), .val (.long t), .second, .val (.ref b13), .unset, .unset] [])) (fun t₀ k₀ => XS.astore X16.here hx rfl (hb hby at_121) rfl rfl (l' := #[.val (.long a), .second, .val (.long b0), .second, .val (.long cc), .second, .val (.int sel), .val (.long b), .second, .val (.int k), .val (.long t), .second, .val (.ref b13), .unset, .unset]) rfl k₀) ?_
    refine own_step (T16.setTop (mkF m 125 #[.val (.long a), .second, .val (.long b0), .second, .val (.long cc), .second, .val (.int sel), .val (.long b), .second, .val (.int k), .val (.long t), .second, .val (.ref b13), .unset, .unset] [(.ref b13)])) (fun t₀ k₀ => XS.aload X16.here hx rfl (hb hby at_123) rfl rfl k₀) ?_
    refine own_step (T16.setTop (mkF m 127 #[.val (.long a), .second, .val (.long b0), .second, .val (.long cc), .second, .val (.int sel), .val (.long b), .second, .val (.int k), .val (.long t), .second, .val (.ref b13), .unset, .unset] [(.long t), (.ref b13)])) (fun t₀ k₀ => XS.lload X16.here hx rfl (hb hby at_125) rfl k₀) ?_
    obtain ⟨cq23, kq23, q23a, q23b, q23c⟩ := isOf hZ rfl f17
    obtain ⟨_, _, ⟨T23, L23, k23, n23⟩, -, X23, ⟨Lc23, hQ23, l23, y23, z23⟩, st23⟩ := X16.virtualBack hx (y := (⟨"com/example/quillon/quillon/storage/TimeRange", "contains", "(J)Z"⟩ : MethodName)) (z := (⟨"com/example/quillon/quillon/storage/TimeRange", "contains", "(J)Z"⟩ : MethodName)) hown (mvT hZ (hw _ (List.mem_of_getElem? (i := 18) rfl))) (mvT hZ (hw _ (List.mem_of_getElem? (i := 19) rfl))) (notFace_of_selects (args := #[]) (mvT hZ (hw _ (List.mem_of_getElem? (i := 21) rfl)))) (mvT hZ (hw _ (List.mem_of_getElem? (i := 21) rfl))) (mvT hZ (hw _ (List.mem_of_getElem? (i := 20) rfl))) (by decide) (backOf (W := 0) (rm4 l Z a0 hw [] b13 t a b T16.heap n0 z16' f18 f19) hZ (hw _ (List.mem_of_getElem? (i := 22) rfl)) (hw _ (List.mem_of_getElem? (i := 2) rfl)) (by decide) (by decide)) q23a q23c (g := (mkF m 127 #[.val (.long a), .second, .val (.long b0), .second, .val (.long cc), .second, .val (.int sel), .val (.long b), .second, .val (.int k), .val (.long t), .second, .val (.ref b13), .unset, .unset] [(.long t), (.ref b13)])) rfl (by rw [hml]; rfl) (Steps.refl _) (argsL := [(.long t)]) (rest := []) (lenOf pd_2 rfl) rfl (by show 2 * 0 + _ ≤ _; exact Nat.le_of_eq rfl) (hb hby at_127) (fun _ _ => ⟨rfl, rfl, (by decide : 1 + 0 ≤ _), (by decide : 2 + 0 ≤ _)⟩)
    dsimp only [Pt.U, Pt.locs, Pt.cells, Pt.slots] at X23 l23 y23 z23 st23 hQ23
    subst l23 y23 z23
    obtain ⟨rfl, N23q, e23⟩ := hQ23
    have N23 := Fr.app N16 N23q
    refine own_comes (T23.setTop (mkF m 130 #[.val (.long a), .second, .val (.long b0), .second, .val (.long cc), .second, .val (.int sel), .val (.long b), .second, .val (.int k), .val (.long t), .second, .val (.ref b13), .unset, .unset] [(.int (own_in a t b))])) st23 ?_
    refine own_step (T23.setTop (mkF m 132 #[.val (.long a), .second, .val (.long b0), .second, .val (.long cc), .second, .val (.int sel), .val (.long b), .second, .val (.int k), .val (.long t), .second, .val (.ref b13), .val (.int (own_in a t b)), .unset] [])) (fun t₀ k₀ => XS.istore X23.here hx rfl (hb hby at_130) rfl (l' := #[.val (.long a), .second, .val (.long b0), .second, .val (.long cc), .second, .val (.int sel), .val (.long b), .second, .val (.int k), .val (.long t), .second, .val (.ref b13), .val (.int (own_in a t b)), .unset]) rfl k₀) ?_
    refine own_step (T23.setTop (mkF m 133 #[.val (.long a), .second, .val (.long b0), .second, .val (.long cc), .second, .val (.int sel), .val (.long b), .second, .val (.int k), .val (.long t), .second, .val (.ref b13), .val (.int (own_in a t b)), .unset] [(.long a)])) (fun t₀ k₀ => XS.lloadN X23.here hx rfl (hb hby at_132) rfl k₀) ?_
    refine own_step (T23.setTop (mkF m 135 #[.val (.long a), .second, .val (.long b0), .second, .val (.long cc), .second, .val (.int sel), .val (.long b), .second, .val (.int k), .val (.long t), .second, .val (.ref b13), .val (.int (own_in a t b)), .unset] [(.long b), (.long a)])) (fun t₀ k₀ => XS.lload X23.here hx rfl (hb hby at_133) rfl k₀) ?_
    refine own_step (T23.setTop (mkF m 136 #[.val (.long a), .second, .val (.long b0), .second, .val (.long cc), .second, .val (.int sel), .val (.long b), .second, .val (.int k), .val (.long t), .second, .val (.ref b13), .val (.int (own_in a t b)), .unset] [(.int (lcmpW a b))])) (fun t₀ k₀ => XS.lcmp X23.here hx rfl (hb hby at_135) rfl k₀) ?_
    by_cases hc136 : b < a
    · skip
      refine own_step (T23.setTop (mkF m 163 #[.val (.long a), .second, .val (.long b0), .second, .val (.long cc), .second, .val (.int sel), .val (.long b), .second, .val (.int k), .val (.long t), .second, .val (.ref b13), .val (.int (own_in a t b)), .unset] [])) (fun t₀ k₀ => XS.ifYes X23.here hx rfl (pc0 := 136) (pc' := 163) rfl (hb hby at_136) rfl (own_lgtT hc136) (by decide) (by decide) k₀) ?_
      refine own_step (T23.setTop (mkF m 164 #[.val (.long a), .second, .val (.long b0), .second, .val (.long cc), .second, .val (.int sel), .val (.long b), .second, .val (.int k), .val (.long t), .second, .val (.ref b13), .val (.int (own_in a t b)), .unset] [(.int (0 : Int32))])) (fun t₀ k₀ => XS.iconst X23.here hx rfl (hb hby at_163) k₀) ?_
      refine own_step (T23.setTop (mkF m 166 #[.val (.long a), .second, .val (.long b0), .second, .val (.long cc), .second, .val (.int sel), .val (.long b), .second, .val (.int k), .val (.long t), .second, .val (.ref b13), .val (.int (own_in a t b)), .val (.int (0 : Int32))] [])) (fun t₀ k₀ => XS.istore X23.here hx rfl (hb hby at_164) rfl (l' := #[.val (.long a), .second, .val (.long b0), .second, .val (.long cc), .second, .val (.int sel), .val (.long b), .second, .val (.int k), .val (.long t), .second, .val (.ref b13), .val (.int (own_in a t b)), .val (.int (0 : Int32))]) rfl k₀) ?_
      refine own_step (T23.setTop (mkF m 168 #[.val (.long a), .second, .val (.long b0), .second, .val (.long cc), .second, .val (.int sel), .val (.long b), .second, .val (.int k), .val (.long t), .second, .val (.ref b13), .val (.int (own_in a t b)), .val (.int (0 : Int32))] [(.int (own_in a t b))])) (fun t₀ k₀ => XS.iload X23.here hx rfl (hb hby at_166) rfl k₀) ?_
      refine own_step (T23.setTop (mkF m 170 #[.val (.long a), .second, .val (.long b0), .second, .val (.long cc), .second, .val (.int sel), .val (.long b), .second, .val (.int k), .val (.long t), .second, .val (.ref b13), .val (.int (own_in a t b)), .val (.int (0 : Int32))] [(.int (0 : Int32)), (.int (own_in a t b))])) (fun t₀ k₀ => XS.iload X23.here hx rfl (hb hby at_168) rfl k₀) ?_
      have hk24 : (own_in a t b) = (0 : Int32) := own_C hc136
      refine own_step (T23.setTop (mkF m 173 #[.val (.long a), .second, .val (.long b0), .second, .val (.long cc), .second, .val (.int sel), .val (.long b), .second, .val (.int k), .val (.long t), .second, .val (.ref b13), .val (.int (own_in a t b)), .val (.int (0 : Int32))] [])) (fun t₀ k₀ => XS.icmpNo X23.here hx rfl (hb hby at_170) rfl (teq hk24).2 k₀) ?_
      refine own_step (T23.setTop (mkF m 174 #[.val (.long a), .second, .val (.long b0), .second, .val (.long cc), .second, .val (.int sel), .val (.long b), .second, .val (.int k), .val (.long t), .second, .val (.ref b13), .val (.int (own_in a t b)), .val (.int (0 : Int32))] [(.int (1 : Int32))])) (fun t₀ k₀ => XS.iconst X23.here hx rfl (hb hby at_173) k₀) ?_
      refine own_step (T23.setTop (mkF m 178 #[.val (.long a), .second, .val (.long b0), .second, .val (.long cc), .second, .val (.int sel), .val (.long b), .second, .val (.int k), .val (.long t), .second, .val (.ref b13), .val (.int (own_in a t b)), .val (.int (0 : Int32))] [(.int (1 : Int32))])) (fun t₀ k₀ => XS.goto X23.here hx rfl (pc0 := 174) (pc' := 178) rfl (hb hby at_174) (by decide) (by decide) k₀) ?_
      obtain ⟨fs, hr, hrun, hended, hW, hsame⟩ := X23.leave (v := some (.int (1 : Int32))) (fun h => by rw [Bd.returns] at h; cases h)
      refine ⟨_, _, ?_, hrun, hended, _, _, rfl, ?_, ⟨_, rfl⟩, hW, hsame.mono (by decide) (by decide)⟩
      · exact retN X23 hx (t := .boolean) Bd.returns (by simp) (hb hby at_178) hr
      · show Q_rm0 Z a b0 cc sel h0 n0 _ T23.heap _
        rw [e23]
        exact ⟨rfl, N23⟩
    · skip
      refine own_step (T23.setTop (mkF m 139 #[.val (.long a), .second, .val (.long b0), .second, .val (.long cc), .second, .val (.int sel), .val (.long b), .second, .val (.int k), .val (.long t), .second, .val (.ref b13), .val (.int (own_in a t b)), .unset] [])) (fun t₀ k₀ => XS.ifNo X23.here hx rfl (hb hby at_136) rfl (own_lgtF hc136) k₀) ?_
      refine own_step (T23.setTop (mkF m 141 #[.val (.long a), .second, .val (.long b0), .second, .val (.long cc), .second, .val (.int sel), .val (.long b), .second, .val (.int k), .val (.long t), .second, .val (.ref b13), .val (.int (own_in a t b)), .unset] [(.long t)])) (fun t₀ k₀ => XS.lload X23.here hx rfl (hb hby at_139) rfl k₀) ?_
      refine own_step (T23.setTop (mkF m 142 #[.val (.long a), .second, .val (.long b0), .second, .val (.long cc), .second, .val (.int sel), .val (.long b), .second, .val (.int k), .val (.long t), .second, .val (.ref b13), .val (.int (own_in a t b)), .unset] [(.long a), (.long t)])) (fun t₀ k₀ => XS.lloadN X23.here hx rfl (hb hby at_141) rfl k₀) ?_
      refine own_step (T23.setTop (mkF m 143 #[.val (.long a), .second, .val (.long b0), .second, .val (.long cc), .second, .val (.int sel), .val (.long b), .second, .val (.int k), .val (.long t), .second, .val (.ref b13), .val (.int (own_in a t b)), .unset] [(.long (t - a))])) (fun t₀ k₀ => XS.lsub X23.here hx rfl (hb hby at_142) rfl k₀) ?_
      refine own_step (T23.setTop (mkF m 146 #[.val (.long a), .second, .val (.long b0), .second, .val (.long cc), .second, .val (.int sel), .val (.long b), .second, .val (.int k), .val (.long t), .second, .val (.ref b13), .val (.int (own_in a t b)), .unset] [(.long (-9223372036854775808 : Int64)), (.long (t - a))])) (fun t₀ k₀ => X23.ldc2Long hx hown (mvT hZ (hw _ (List.mem_of_getElem? (i := 23) rfl))) (g := (mkF m 143 #[.val (.long a), .second, .val (.long b0), .second, .val (.long cc), .second, .val (.int sel), .val (.long b), .second, .val (.int k), .val (.long t), .second, .val (.ref b13), .val (.int (own_in a t b)), .unset] [(.long (t - a))])) rfl (hb hby at_143) _ k₀) ?_
      refine own_step (T23.setTop (mkF m 147 #[.val (.long a), .second, .val (.long b0), .second, .val (.long cc), .second, .val (.int sel), .val (.long b), .second, .val (.int k), .val (.long t), .second, .val (.ref b13), .val (.int (own_in a t b)), .unset] [(.long ((t - a) ^^^ (-9223372036854775808 : Int64)))])) (fun t₀ k₀ => XS.lxor X23.here hx rfl (hb hby at_146) rfl k₀) ?_
      refine own_step (T23.setTop (mkF m 149 #[.val (.long a), .second, .val (.long b0), .second, .val (.long cc), .second, .val (.int sel), .val (.long b), .second, .val (.int k), .val (.long t), .second, .val (.ref b13), .val (.int (own_in a t b)), .unset] [(.long b), (.long ((t - a) ^^^ (-9223372036854775808 : Int64)))])) (fun t₀ k₀ => XS.lload X23.here hx rfl (hb hby at_147) rfl k₀) ?_
      refine own_step (T23.setTop (mkF m 150 #[.val (.long a), .second, .val (.long b0), .second, .val (.long cc), .second, .val (.int sel), .val (.long b), .second, .val (.int k), .val (.long t), .second, .val (.ref b13), .val (.int (own_in a t b)), .unset] [(.long a), (.long b), (.long ((t - a) ^^^ (-9223372036854775808 : Int64)))])) (fun t₀ k₀ => XS.lloadN X23.here hx rfl (hb hby at_149) rfl k₀) ?_
      refine own_step (T23.setTop (mkF m 151 #[.val (.long a), .second, .val (.long b0), .second, .val (.long cc), .second, .val (.int sel), .val (.long b), .second, .val (.int k), .val (.long t), .second, .val (.ref b13), .val (.int (own_in a t b)), .unset] [(.long (b - a)), (.long ((t - a) ^^^ (-9223372036854775808 : Int64)))])) (fun t₀ k₀ => XS.lsub X23.here hx rfl (hb hby at_150) rfl k₀) ?_
      refine own_step (T23.setTop (mkF m 154 #[.val (.long a), .second, .val (.long b0), .second, .val (.long cc), .second, .val (.int sel), .val (.long b), .second, .val (.int k), .val (.long t), .second, .val (.ref b13), .val (.int (own_in a t b)), .unset] [(.long (-9223372036854775808 : Int64)), (.long (b - a)), (.long ((t - a) ^^^ (-9223372036854775808 : Int64)))])) (fun t₀ k₀ => X23.ldc2Long hx hown (mvT hZ (hw _ (List.mem_of_getElem? (i := 23) rfl))) (g := (mkF m 151 #[.val (.long a), .second, .val (.long b0), .second, .val (.long cc), .second, .val (.int sel), .val (.long b), .second, .val (.int k), .val (.long t), .second, .val (.ref b13), .val (.int (own_in a t b)), .unset] [(.long (b - a)), (.long ((t - a) ^^^ (-9223372036854775808 : Int64)))])) rfl (hb hby at_151) _ k₀) ?_
      refine own_step (T23.setTop (mkF m 155 #[.val (.long a), .second, .val (.long b0), .second, .val (.long cc), .second, .val (.int sel), .val (.long b), .second, .val (.int k), .val (.long t), .second, .val (.ref b13), .val (.int (own_in a t b)), .unset] [(.long ((b - a) ^^^ (-9223372036854775808 : Int64))), (.long ((t - a) ^^^ (-9223372036854775808 : Int64)))])) (fun t₀ k₀ => XS.lxor X23.here hx rfl (hb hby at_154) rfl k₀) ?_
      refine own_step (T23.setTop (mkF m 156 #[.val (.long a), .second, .val (.long b0), .second, .val (.long cc), .second, .val (.int sel), .val (.long b), .second, .val (.int k), .val (.long t), .second, .val (.ref b13), .val (.int (own_in a t b)), .unset] [(.int (lcmpW ((t - a) ^^^ (-9223372036854775808 : Int64)) ((b - a) ^^^ (-9223372036854775808 : Int64))))])) (fun t₀ k₀ => XS.lcmp X23.here hx rfl (hb hby at_155) rfl k₀) ?_
      by_cases hc156 : ((b - a) ^^^ (-9223372036854775808 : Int64)) < ((t - a) ^^^ (-9223372036854775808 : Int64))
      · skip
        refine own_step (T23.setTop (mkF m 163 #[.val (.long a), .second, .val (.long b0), .second, .val (.long cc), .second, .val (.int sel), .val (.long b), .second, .val (.int k), .val (.long t), .second, .val (.ref b13), .val (.int (own_in a t b)), .unset] [])) (fun t₀ k₀ => XS.ifYes X23.here hx rfl (pc0 := 156) (pc' := 163) rfl (hb hby at_156) rfl (own_lgtT hc156) (by decide) (by decide) k₀) ?_
        refine own_step (T23.setTop (mkF m 164 #[.val (.long a), .second, .val (.long b0), .second, .val (.long cc), .second, .val (.int sel), .val (.long b), .second, .val (.int k), .val (.long t), .second, .val (.ref b13), .val (.int (own_in a t b)), .unset] [(.int (0 : Int32))])) (fun t₀ k₀ => XS.iconst X23.here hx rfl (hb hby at_163) k₀) ?_
        refine own_step (T23.setTop (mkF m 166 #[.val (.long a), .second, .val (.long b0), .second, .val (.long cc), .second, .val (.int sel), .val (.long b), .second, .val (.int k), .val (.long t), .second, .val (.ref b13), .val (.int (own_in a t b)), .val (.int (0 : Int32))] [])) (fun t₀ k₀ => XS.istore X23.here hx rfl (hb hby at_164) rfl (l' := #[.val (.long a), .second, .val (.long b0), .second, .val (.long cc), .second, .val (.int sel), .val (.long b), .second, .val (.int k), .val (.long t), .second, .val (.ref b13), .val (.int (own_in a t b)), .val (.int (0 : Int32))]) rfl k₀) ?_
        refine own_step (T23.setTop (mkF m 168 #[.val (.long a), .second, .val (.long b0), .second, .val (.long cc), .second, .val (.int sel), .val (.long b), .second, .val (.int k), .val (.long t), .second, .val (.ref b13), .val (.int (own_in a t b)), .val (.int (0 : Int32))] [(.int (own_in a t b))])) (fun t₀ k₀ => XS.iload X23.here hx rfl (hb hby at_166) rfl k₀) ?_
        refine own_step (T23.setTop (mkF m 170 #[.val (.long a), .second, .val (.long b0), .second, .val (.long cc), .second, .val (.int sel), .val (.long b), .second, .val (.int k), .val (.long t), .second, .val (.ref b13), .val (.int (own_in a t b)), .val (.int (0 : Int32))] [(.int (0 : Int32)), (.int (own_in a t b))])) (fun t₀ k₀ => XS.iload X23.here hx rfl (hb hby at_168) rfl k₀) ?_
        have hk25 : (own_in a t b) = (0 : Int32) := own_B hc136 hc156
        refine own_step (T23.setTop (mkF m 173 #[.val (.long a), .second, .val (.long b0), .second, .val (.long cc), .second, .val (.int sel), .val (.long b), .second, .val (.int k), .val (.long t), .second, .val (.ref b13), .val (.int (own_in a t b)), .val (.int (0 : Int32))] [])) (fun t₀ k₀ => XS.icmpNo X23.here hx rfl (hb hby at_170) rfl (teq hk25).2 k₀) ?_
        refine own_step (T23.setTop (mkF m 174 #[.val (.long a), .second, .val (.long b0), .second, .val (.long cc), .second, .val (.int sel), .val (.long b), .second, .val (.int k), .val (.long t), .second, .val (.ref b13), .val (.int (own_in a t b)), .val (.int (0 : Int32))] [(.int (1 : Int32))])) (fun t₀ k₀ => XS.iconst X23.here hx rfl (hb hby at_173) k₀) ?_
        refine own_step (T23.setTop (mkF m 178 #[.val (.long a), .second, .val (.long b0), .second, .val (.long cc), .second, .val (.int sel), .val (.long b), .second, .val (.int k), .val (.long t), .second, .val (.ref b13), .val (.int (own_in a t b)), .val (.int (0 : Int32))] [(.int (1 : Int32))])) (fun t₀ k₀ => XS.goto X23.here hx rfl (pc0 := 174) (pc' := 178) rfl (hb hby at_174) (by decide) (by decide) k₀) ?_
        obtain ⟨fs, hr, hrun, hended, hW, hsame⟩ := X23.leave (v := some (.int (1 : Int32))) (fun h => by rw [Bd.returns] at h; cases h)
        refine ⟨_, _, ?_, hrun, hended, _, _, rfl, ?_, ⟨_, rfl⟩, hW, hsame.mono (by decide) (by decide)⟩
        · exact retN X23 hx (t := .boolean) Bd.returns (by simp) (hb hby at_178) hr
        · show Q_rm0 Z a b0 cc sel h0 n0 _ T23.heap _
          rw [e23]
          exact ⟨rfl, N23⟩
      · skip
        refine own_step (T23.setTop (mkF m 159 #[.val (.long a), .second, .val (.long b0), .second, .val (.long cc), .second, .val (.int sel), .val (.long b), .second, .val (.int k), .val (.long t), .second, .val (.ref b13), .val (.int (own_in a t b)), .unset] [])) (fun t₀ k₀ => XS.ifNo X23.here hx rfl (hb hby at_156) rfl (own_lgtF hc156) k₀) ?_
        refine own_step (T23.setTop (mkF m 160 #[.val (.long a), .second, .val (.long b0), .second, .val (.long cc), .second, .val (.int sel), .val (.long b), .second, .val (.int k), .val (.long t), .second, .val (.ref b13), .val (.int (own_in a t b)), .unset] [(.int (1 : Int32))])) (fun t₀ k₀ => XS.iconst X23.here hx rfl (hb hby at_159) k₀) ?_
        refine own_step (T23.setTop (mkF m 164 #[.val (.long a), .second, .val (.long b0), .second, .val (.long cc), .second, .val (.int sel), .val (.long b), .second, .val (.int k), .val (.long t), .second, .val (.ref b13), .val (.int (own_in a t b)), .unset] [(.int (1 : Int32))])) (fun t₀ k₀ => XS.goto X23.here hx rfl (pc0 := 160) (pc' := 164) rfl (hb hby at_160) (by decide) (by decide) k₀) ?_
        refine own_step (T23.setTop (mkF m 166 #[.val (.long a), .second, .val (.long b0), .second, .val (.long cc), .second, .val (.int sel), .val (.long b), .second, .val (.int k), .val (.long t), .second, .val (.ref b13), .val (.int (own_in a t b)), .val (.int (1 : Int32))] [])) (fun t₀ k₀ => XS.istore X23.here hx rfl (hb hby at_164) rfl (l' := #[.val (.long a), .second, .val (.long b0), .second, .val (.long cc), .second, .val (.int sel), .val (.long b), .second, .val (.int k), .val (.long t), .second, .val (.ref b13), .val (.int (own_in a t b)), .val (.int (1 : Int32))]) rfl k₀) ?_
        refine own_step (T23.setTop (mkF m 168 #[.val (.long a), .second, .val (.long b0), .second, .val (.long cc), .second, .val (.int sel), .val (.long b), .second, .val (.int k), .val (.long t), .second, .val (.ref b13), .val (.int (own_in a t b)), .val (.int (1 : Int32))] [(.int (own_in a t b))])) (fun t₀ k₀ => XS.iload X23.here hx rfl (hb hby at_166) rfl k₀) ?_
        refine own_step (T23.setTop (mkF m 170 #[.val (.long a), .second, .val (.long b0), .second, .val (.long cc), .second, .val (.int sel), .val (.long b), .second, .val (.int k), .val (.long t), .second, .val (.ref b13), .val (.int (own_in a t b)), .val (.int (1 : Int32))] [(.int (1 : Int32)), (.int (own_in a t b))])) (fun t₀ k₀ => XS.iload X23.here hx rfl (hb hby at_168) rfl k₀) ?_
        have hk26 : (own_in a t b) = (1 : Int32) := own_A hc136 hc156
        refine own_step (T23.setTop (mkF m 173 #[.val (.long a), .second, .val (.long b0), .second, .val (.long cc), .second, .val (.int sel), .val (.long b), .second, .val (.int k), .val (.long t), .second, .val (.ref b13), .val (.int (own_in a t b)), .val (.int (1 : Int32))] [])) (fun t₀ k₀ => XS.icmpNo X23.here hx rfl (hb hby at_170) rfl (teq hk26).2 k₀) ?_
        refine own_step (T23.setTop (mkF m 174 #[.val (.long a), .second, .val (.long b0), .second, .val (.long cc), .second, .val (.int sel), .val (.long b), .second, .val (.int k), .val (.long t), .second, .val (.ref b13), .val (.int (own_in a t b)), .val (.int (1 : Int32))] [(.int (1 : Int32))])) (fun t₀ k₀ => XS.iconst X23.here hx rfl (hb hby at_173) k₀) ?_
        refine own_step (T23.setTop (mkF m 178 #[.val (.long a), .second, .val (.long b0), .second, .val (.long cc), .second, .val (.int sel), .val (.long b), .second, .val (.int k), .val (.long t), .second, .val (.ref b13), .val (.int (own_in a t b)), .val (.int (1 : Int32))] [(.int (1 : Int32))])) (fun t₀ k₀ => XS.goto X23.here hx rfl (pc0 := 174) (pc' := 178) rfl (hb hby at_174) (by decide) (by decide) k₀) ?_
        obtain ⟨fs, hr, hrun, hended, hW, hsame⟩ := X23.leave (v := some (.int (1 : Int32))) (fun h => by rw [Bd.returns] at h; cases h)
        refine ⟨_, _, ?_, hrun, hended, _, _, rfl, ?_, ⟨_, rfl⟩, hW, hsame.mono (by decide) (by decide)⟩
        · exact retN X23 hx (t := .boolean) Bd.returns (by simp) (hb hby at_178) hr
        · show Q_rm0 Z a b0 cc sel h0 n0 _ T23.heap _
          rw [e23]
          exact ⟨rfl, N23⟩
  have cut14 : ∀ (b : Int64) (Tc14 : State) (Xc14 : Stand p l e room_1 s m #[(.long a), (.long b0), (.long cc), (.int sel)] below meth c Tc14 [] 0 0) (ec14 : Tc14.heap = h0), own_Go p e below (fun s₂ o₉ => s₂.status = .running ∧ Ended s₂ below o₉ ∧ ∃ v L, o₉ = .returned v ∧ Q_rm0 Z a b0 cc sel h0 n0 v s₂.heap L ∧ FrameEnd s o₉ s₂ L room_1.cells room_1.slots) (Tc14.setTop (mkF m 14 #[.val (.long a), .second, .val (.long b0), .second, .val (.long cc), .second, .val (.int sel), .unset, .unset, .unset, .unset, .unset, .unset, .unset, .unset] [(.long b)])) := by
    intro b Tc14 Xc14 ec14
    refine own_step (Tc14.setTop (mkF m 16 #[.val (.long a), .second, .val (.long b0), .second, .val (.long cc), .second, .val (.int sel), .val (.long b), .second, .unset, .unset, .unset, .unset, .unset, .unset] [])) (fun t₀ k₀ => XS.lstore Xc14.here hx rfl (hb hby at_14) rfl (l' := #[.val (.long a), .second, .val (.long b0), .second, .val (.long cc), .second, .val (.int sel), .val (.long b), .second, .unset, .unset, .unset, .unset, .unset, .unset]) rfl k₀) ?_
    refine own_step (Tc14.setTop (mkF m 18 #[.val (.long a), .second, .val (.long b0), .second, .val (.long cc), .second, .val (.int sel), .val (.long b), .second, .unset, .unset, .unset, .unset, .unset, .unset] [(.int sel)])) (fun t₀ k₀ => XS.iload Xc14.here hx rfl (hb hby at_16) rfl k₀) ?_
    refine own_step (Tc14.setTop (mkF m 20 #[.val (.long a), .second, .val (.long b0), .second, .val (.long cc), .second, .val (.int sel), .val (.long b), .second, .unset, .unset, .unset, .unset, .unset, .unset] [(.int (7 : Int32)), (.int sel)])) (fun t₀ k₀ => XS.bipush Xc14.here hx rfl (hb hby at_18) k₀) ?_
    refine own_step (Tc14.setTop (mkF m 21 #[.val (.long a), .second, .val (.long b0), .second, .val (.long cc), .second, .val (.int sel), .val (.long b), .second, .unset, .unset, .unset, .unset, .unset, .unset] [(.int (sel &&& (7 : Int32)))])) (fun t₀ k₀ => XS.iand Xc14.here hx rfl (hb hby at_20) rfl k₀) ?_
    refine own_step (Tc14.setTop (mkF m 23 #[.val (.long a), .second, .val (.long b0), .second, .val (.long cc), .second, .val (.int sel), .val (.long b), .second, .val (.int (sel &&& (7 : Int32))), .unset, .unset, .unset, .unset, .unset] [])) (fun t₀ k₀ => XS.istore Xc14.here hx rfl (hb hby at_21) rfl (l' := #[.val (.long a), .second, .val (.long b0), .second, .val (.long cc), .second, .val (.int sel), .val (.long b), .second, .val (.int (sel &&& (7 : Int32))), .unset, .unset, .unset, .unset, .unset]) rfl k₀) ?_
    refine own_step (Tc14.setTop (mkF m 25 #[.val (.long a), .second, .val (.long b0), .second, .val (.long cc), .second, .val (.int sel), .val (.long b), .second, .val (.int (sel &&& (7 : Int32))), .unset, .unset, .unset, .unset, .unset] [(.int (sel &&& (7 : Int32)))])) (fun t₀ k₀ => XS.iload Xc14.here hx rfl (hb hby at_23) rfl k₀) ?_
    refine own_step (Tc14.setTop (mkF m 26 #[.val (.long a), .second, .val (.long b0), .second, .val (.long cc), .second, .val (.int sel), .val (.long b), .second, .val (.int (sel &&& (7 : Int32))), .unset, .unset, .unset, .unset, .unset] [(.int (1 : Int32)), (.int (sel &&& (7 : Int32)))])) (fun t₀ k₀ => XS.iconst Xc14.here hx rfl (hb hby at_25) k₀) ?_
    by_cases hc26 : (sel &&& (7 : Int32)) = (1 : Int32)
    · skip
      refine own_step (Tc14.setTop (mkF m 29 #[.val (.long a), .second, .val (.long b0), .second, .val (.long cc), .second, .val (.int sel), .val (.long b), .second, .val (.int (sel &&& (7 : Int32))), .unset, .unset, .unset, .unset, .unset] [])) (fun t₀ k₀ => XS.icmpNo Xc14.here hx rfl (hb hby at_26) rfl (teq hc26).2 k₀) ?_
      refine own_step (Tc14.setTop (mkF m 30 #[.val (.long a), .second, .val (.long b0), .second, .val (.long cc), .second, .val (.int sel), .val (.long b), .second, .val (.int (sel &&& (7 : Int32))), .unset, .unset, .unset, .unset, .unset] [(.long a)])) (fun t₀ k₀ => XS.lloadN Xc14.here hx rfl (hb hby at_29) rfl k₀) ?_
      refine own_step (Tc14.setTop (mkF m 32 #[.val (.long a), .second, .val (.long b0), .second, .val (.long cc), .second, .val (.int sel), .val (.long b), .second, .val (.int (sel &&& (7 : Int32))), .val (.long a), .second, .unset, .unset, .unset] [])) (fun t₀ k₀ => XS.lstore Xc14.here hx rfl (hb hby at_30) rfl (l' := #[.val (.long a), .second, .val (.long b0), .second, .val (.long cc), .second, .val (.int sel), .val (.long b), .second, .val (.int (sel &&& (7 : Int32))), .val (.long a), .second, .unset, .unset, .unset]) rfl k₀) ?_
      refine own_step (Tc14.setTop (mkF m 111 #[.val (.long a), .second, .val (.long b0), .second, .val (.long cc), .second, .val (.int sel), .val (.long b), .second, .val (.int (sel &&& (7 : Int32))), .val (.long a), .second, .unset, .unset, .unset] [])) (fun t₀ k₀ => XS.goto Xc14.here hx rfl (pc0 := 32) (pc' := 111) rfl (hb hby at_32) (by decide) (by decide) k₀) ?_
      exact cut111 b (sel &&& (7 : Int32)) a _ Xc14 ec14
    · skip
      refine own_step (Tc14.setTop (mkF m 35 #[.val (.long a), .second, .val (.long b0), .second, .val (.long cc), .second, .val (.int sel), .val (.long b), .second, .val (.int (sel &&& (7 : Int32))), .unset, .unset, .unset, .unset, .unset] [])) (fun t₀ k₀ => XS.icmpYes Xc14.here hx rfl (pc0 := 26) (pc' := 35) rfl (hb hby at_26) rfl (feq hc26).2 (by decide) (by decide) k₀) ?_
      refine own_step (Tc14.setTop (mkF m 37 #[.val (.long a), .second, .val (.long b0), .second, .val (.long cc), .second, .val (.int sel), .val (.long b), .second, .val (.int (sel &&& (7 : Int32))), .unset, .unset, .unset, .unset, .unset] [(.int (sel &&& (7 : Int32)))])) (fun t₀ k₀ => XS.iload Xc14.here hx rfl (hb hby at_35) rfl k₀) ?_
      refine own_step (Tc14.setTop (mkF m 38 #[.val (.long a), .second, .val (.long b0), .second, .val (.long cc), .second, .val (.int sel), .val (.long b), .second, .val (.int (sel &&& (7 : Int32))), .unset, .unset, .unset, .unset, .unset] [(.int (2 : Int32)), (.int (sel &&& (7 : Int32)))])) (fun t₀ k₀ => XS.iconst Xc14.here hx rfl (hb hby at_37) k₀) ?_
      by_cases hc38 : (sel &&& (7 : Int32)) = (2 : Int32)
      · skip
        refine own_step (Tc14.setTop (mkF m 41 #[.val (.long a), .second, .val (.long b0), .second, .val (.long cc), .second, .val (.int sel), .val (.long b), .second, .val (.int (sel &&& (7 : Int32))), .unset, .unset, .unset, .unset, .unset] [])) (fun t₀ k₀ => XS.icmpNo Xc14.here hx rfl (hb hby at_38) rfl (teq hc38).2 k₀) ?_
        refine own_step (Tc14.setTop (mkF m 43 #[.val (.long a), .second, .val (.long b0), .second, .val (.long cc), .second, .val (.int sel), .val (.long b), .second, .val (.int (sel &&& (7 : Int32))), .unset, .unset, .unset, .unset, .unset] [(.long b)])) (fun t₀ k₀ => XS.lload Xc14.here hx rfl (hb hby at_41) rfl k₀) ?_
        refine own_step (Tc14.setTop (mkF m 45 #[.val (.long a), .second, .val (.long b0), .second, .val (.long cc), .second, .val (.int sel), .val (.long b), .second, .val (.int (sel &&& (7 : Int32))), .val (.long b), .second, .unset, .unset, .unset] [])) (fun t₀ k₀ => XS.lstore Xc14.here hx rfl (hb hby at_43) rfl (l' := #[.val (.long a), .second, .val (.long b0), .second, .val (.long cc), .second, .val (.int sel), .val (.long b), .second, .val (.int (sel &&& (7 : Int32))), .val (.long b), .second, .unset, .unset, .unset]) rfl k₀) ?_
        refine own_step (Tc14.setTop (mkF m 111 #[.val (.long a), .second, .val (.long b0), .second, .val (.long cc), .second, .val (.int sel), .val (.long b), .second, .val (.int (sel &&& (7 : Int32))), .val (.long b), .second, .unset, .unset, .unset] [])) (fun t₀ k₀ => XS.goto Xc14.here hx rfl (pc0 := 45) (pc' := 111) rfl (hb hby at_45) (by decide) (by decide) k₀) ?_
        exact cut111 b (sel &&& (7 : Int32)) b _ Xc14 ec14
      · skip
        refine own_step (Tc14.setTop (mkF m 48 #[.val (.long a), .second, .val (.long b0), .second, .val (.long cc), .second, .val (.int sel), .val (.long b), .second, .val (.int (sel &&& (7 : Int32))), .unset, .unset, .unset, .unset, .unset] [])) (fun t₀ k₀ => XS.icmpYes Xc14.here hx rfl (pc0 := 38) (pc' := 48) rfl (hb hby at_38) rfl (feq hc38).2 (by decide) (by decide) k₀) ?_
        refine own_step (Tc14.setTop (mkF m 50 #[.val (.long a), .second, .val (.long b0), .second, .val (.long cc), .second, .val (.int sel), .val (.long b), .second, .val (.int (sel &&& (7 : Int32))), .unset, .unset, .unset, .unset, .unset] [(.int (sel &&& (7 : Int32)))])) (fun t₀ k₀ => XS.iload Xc14.here hx rfl (hb hby at_48) rfl k₀) ?_
        refine own_step (Tc14.setTop (mkF m 51 #[.val (.long a), .second, .val (.long b0), .second, .val (.long cc), .second, .val (.int sel), .val (.long b), .second, .val (.int (sel &&& (7 : Int32))), .unset, .unset, .unset, .unset, .unset] [(.int (3 : Int32)), (.int (sel &&& (7 : Int32)))])) (fun t₀ k₀ => XS.iconst Xc14.here hx rfl (hb hby at_50) k₀) ?_
        by_cases hc51 : (sel &&& (7 : Int32)) = (3 : Int32)
        · skip
          refine own_step (Tc14.setTop (mkF m 54 #[.val (.long a), .second, .val (.long b0), .second, .val (.long cc), .second, .val (.int sel), .val (.long b), .second, .val (.int (sel &&& (7 : Int32))), .unset, .unset, .unset, .unset, .unset] [])) (fun t₀ k₀ => XS.icmpNo Xc14.here hx rfl (hb hby at_51) rfl (teq hc51).2 k₀) ?_
          refine own_step (Tc14.setTop (mkF m 55 #[.val (.long a), .second, .val (.long b0), .second, .val (.long cc), .second, .val (.int sel), .val (.long b), .second, .val (.int (sel &&& (7 : Int32))), .unset, .unset, .unset, .unset, .unset] [(.long a)])) (fun t₀ k₀ => XS.lloadN Xc14.here hx rfl (hb hby at_54) rfl k₀) ?_
          refine own_step (Tc14.setTop (mkF m 56 #[.val (.long a), .second, .val (.long b0), .second, .val (.long cc), .second, .val (.int sel), .val (.long b), .second, .val (.int (sel &&& (7 : Int32))), .unset, .unset, .unset, .unset, .unset] [(.long (1 : Int64)), (.long a)])) (fun t₀ k₀ => XS.lconst Xc14.here hx rfl (hb hby at_55) k₀) ?_
          refine own_step (Tc14.setTop (mkF m 57 #[.val (.long a), .second, .val (.long b0), .second, .val (.long cc), .second, .val (.int sel), .val (.long b), .second, .val (.int (sel &&& (7 : Int32))), .unset, .unset, .unset, .unset, .unset] [(.long (a - (1 : Int64)))])) (fun t₀ k₀ => XS.lsub Xc14.here hx rfl (hb hby at_56) rfl k₀) ?_
          refine own_step (Tc14.setTop (mkF m 59 #[.val (.long a), .second, .val (.long b0), .second, .val (.long cc), .second, .val (.int sel), .val (.long b), .second, .val (.int (sel &&& (7 : Int32))), .val (.long (a - (1 : Int64))), .second, .unset, .unset, .unset] [])) (fun t₀ k₀ => XS.lstore Xc14.here hx rfl (hb hby at_57) rfl (l' := #[.val (.long a), .second, .val (.long b0), .second, .val (.long cc), .second, .val (.int sel), .val (.long b), .second, .val (.int (sel &&& (7 : Int32))), .val (.long (a - (1 : Int64))), .second, .unset, .unset, .unset]) rfl k₀) ?_
          refine own_step (Tc14.setTop (mkF m 111 #[.val (.long a), .second, .val (.long b0), .second, .val (.long cc), .second, .val (.int sel), .val (.long b), .second, .val (.int (sel &&& (7 : Int32))), .val (.long (a - (1 : Int64))), .second, .unset, .unset, .unset] [])) (fun t₀ k₀ => XS.goto Xc14.here hx rfl (pc0 := 59) (pc' := 111) rfl (hb hby at_59) (by decide) (by decide) k₀) ?_
          exact cut111 b (sel &&& (7 : Int32)) (a - (1 : Int64)) _ Xc14 ec14
        · skip
          refine own_step (Tc14.setTop (mkF m 62 #[.val (.long a), .second, .val (.long b0), .second, .val (.long cc), .second, .val (.int sel), .val (.long b), .second, .val (.int (sel &&& (7 : Int32))), .unset, .unset, .unset, .unset, .unset] [])) (fun t₀ k₀ => XS.icmpYes Xc14.here hx rfl (pc0 := 51) (pc' := 62) rfl (hb hby at_51) rfl (feq hc51).2 (by decide) (by decide) k₀) ?_
          refine own_step (Tc14.setTop (mkF m 64 #[.val (.long a), .second, .val (.long b0), .second, .val (.long cc), .second, .val (.int sel), .val (.long b), .second, .val (.int (sel &&& (7 : Int32))), .unset, .unset, .unset, .unset, .unset] [(.int (sel &&& (7 : Int32)))])) (fun t₀ k₀ => XS.iload Xc14.here hx rfl (hb hby at_62) rfl k₀) ?_
          refine own_step (Tc14.setTop (mkF m 65 #[.val (.long a), .second, .val (.long b0), .second, .val (.long cc), .second, .val (.int sel), .val (.long b), .second, .val (.int (sel &&& (7 : Int32))), .unset, .unset, .unset, .unset, .unset] [(.int (4 : Int32)), (.int (sel &&& (7 : Int32)))])) (fun t₀ k₀ => XS.iconst Xc14.here hx rfl (hb hby at_64) k₀) ?_
          by_cases hc65 : (sel &&& (7 : Int32)) = (4 : Int32)
          · skip
            refine own_step (Tc14.setTop (mkF m 68 #[.val (.long a), .second, .val (.long b0), .second, .val (.long cc), .second, .val (.int sel), .val (.long b), .second, .val (.int (sel &&& (7 : Int32))), .unset, .unset, .unset, .unset, .unset] [])) (fun t₀ k₀ => XS.icmpNo Xc14.here hx rfl (hb hby at_65) rfl (teq hc65).2 k₀) ?_
            refine own_step (Tc14.setTop (mkF m 70 #[.val (.long a), .second, .val (.long b0), .second, .val (.long cc), .second, .val (.int sel), .val (.long b), .second, .val (.int (sel &&& (7 : Int32))), .unset, .unset, .unset, .unset, .unset] [(.long b)])) (fun t₀ k₀ => XS.lload Xc14.here hx rfl (hb hby at_68) rfl k₀) ?_
            refine own_step (Tc14.setTop (mkF m 71 #[.val (.long a), .second, .val (.long b0), .second, .val (.long cc), .second, .val (.int sel), .val (.long b), .second, .val (.int (sel &&& (7 : Int32))), .unset, .unset, .unset, .unset, .unset] [(.long (1 : Int64)), (.long b)])) (fun t₀ k₀ => XS.lconst Xc14.here hx rfl (hb hby at_70) k₀) ?_
            refine own_step (Tc14.setTop (mkF m 72 #[.val (.long a), .second, .val (.long b0), .second, .val (.long cc), .second, .val (.int sel), .val (.long b), .second, .val (.int (sel &&& (7 : Int32))), .unset, .unset, .unset, .unset, .unset] [(.long (b + (1 : Int64)))])) (fun t₀ k₀ => XS.ladd Xc14.here hx rfl (hb hby at_71) rfl k₀) ?_
            refine own_step (Tc14.setTop (mkF m 74 #[.val (.long a), .second, .val (.long b0), .second, .val (.long cc), .second, .val (.int sel), .val (.long b), .second, .val (.int (sel &&& (7 : Int32))), .val (.long (b + (1 : Int64))), .second, .unset, .unset, .unset] [])) (fun t₀ k₀ => XS.lstore Xc14.here hx rfl (hb hby at_72) rfl (l' := #[.val (.long a), .second, .val (.long b0), .second, .val (.long cc), .second, .val (.int sel), .val (.long b), .second, .val (.int (sel &&& (7 : Int32))), .val (.long (b + (1 : Int64))), .second, .unset, .unset, .unset]) rfl k₀) ?_
            refine own_step (Tc14.setTop (mkF m 111 #[.val (.long a), .second, .val (.long b0), .second, .val (.long cc), .second, .val (.int sel), .val (.long b), .second, .val (.int (sel &&& (7 : Int32))), .val (.long (b + (1 : Int64))), .second, .unset, .unset, .unset] [])) (fun t₀ k₀ => XS.goto Xc14.here hx rfl (pc0 := 74) (pc' := 111) rfl (hb hby at_74) (by decide) (by decide) k₀) ?_
            exact cut111 b (sel &&& (7 : Int32)) (b + (1 : Int64)) _ Xc14 ec14
          · skip
            refine own_step (Tc14.setTop (mkF m 77 #[.val (.long a), .second, .val (.long b0), .second, .val (.long cc), .second, .val (.int sel), .val (.long b), .second, .val (.int (sel &&& (7 : Int32))), .unset, .unset, .unset, .unset, .unset] [])) (fun t₀ k₀ => XS.icmpYes Xc14.here hx rfl (pc0 := 65) (pc' := 77) rfl (hb hby at_65) rfl (feq hc65).2 (by decide) (by decide) k₀) ?_
            refine own_step (Tc14.setTop (mkF m 79 #[.val (.long a), .second, .val (.long b0), .second, .val (.long cc), .second, .val (.int sel), .val (.long b), .second, .val (.int (sel &&& (7 : Int32))), .unset, .unset, .unset, .unset, .unset] [(.int (sel &&& (7 : Int32)))])) (fun t₀ k₀ => XS.iload Xc14.here hx rfl (hb hby at_77) rfl k₀) ?_
            refine own_step (Tc14.setTop (mkF m 80 #[.val (.long a), .second, .val (.long b0), .second, .val (.long cc), .second, .val (.int sel), .val (.long b), .second, .val (.int (sel &&& (7 : Int32))), .unset, .unset, .unset, .unset, .unset] [(.int (5 : Int32)), (.int (sel &&& (7 : Int32)))])) (fun t₀ k₀ => XS.iconst Xc14.here hx rfl (hb hby at_79) k₀) ?_
            by_cases hc80 : (sel &&& (7 : Int32)) = (5 : Int32)
            · skip
              refine own_step (Tc14.setTop (mkF m 83 #[.val (.long a), .second, .val (.long b0), .second, .val (.long cc), .second, .val (.int sel), .val (.long b), .second, .val (.int (sel &&& (7 : Int32))), .unset, .unset, .unset, .unset, .unset] [])) (fun t₀ k₀ => XS.icmpNo Xc14.here hx rfl (hb hby at_80) rfl (teq hc80).2 k₀) ?_
              refine own_step (Tc14.setTop (mkF m 84 #[.val (.long a), .second, .val (.long b0), .second, .val (.long cc), .second, .val (.int sel), .val (.long b), .second, .val (.int (sel &&& (7 : Int32))), .unset, .unset, .unset, .unset, .unset] [(.long a)])) (fun t₀ k₀ => XS.lloadN Xc14.here hx rfl (hb hby at_83) rfl k₀) ?_
              refine own_step (Tc14.setTop (mkF m 85 #[.val (.long a), .second, .val (.long b0), .second, .val (.long cc), .second, .val (.int sel), .val (.long b), .second, .val (.int (sel &&& (7 : Int32))), .unset, .unset, .unset, .unset, .unset] [(.long (1 : Int64)), (.long a)])) (fun t₀ k₀ => XS.lconst Xc14.here hx rfl (hb hby at_84) k₀) ?_
              refine own_step (Tc14.setTop (mkF m 86 #[.val (.long a), .second, .val (.long b0), .second, .val (.long cc), .second, .val (.int sel), .val (.long b), .second, .val (.int (sel &&& (7 : Int32))), .unset, .unset, .unset, .unset, .unset] [(.long (a + (1 : Int64)))])) (fun t₀ k₀ => XS.ladd Xc14.here hx rfl (hb hby at_85) rfl k₀) ?_
              refine own_step (Tc14.setTop (mkF m 88 #[.val (.long a), .second, .val (.long b0), .second, .val (.long cc), .second, .val (.int sel), .val (.long b), .second, .val (.int (sel &&& (7 : Int32))), .val (.long (a + (1 : Int64))), .second, .unset, .unset, .unset] [])) (fun t₀ k₀ => XS.lstore Xc14.here hx rfl (hb hby at_86) rfl (l' := #[.val (.long a), .second, .val (.long b0), .second, .val (.long cc), .second, .val (.int sel), .val (.long b), .second, .val (.int (sel &&& (7 : Int32))), .val (.long (a + (1 : Int64))), .second, .unset, .unset, .unset]) rfl k₀) ?_
              refine own_step (Tc14.setTop (mkF m 111 #[.val (.long a), .second, .val (.long b0), .second, .val (.long cc), .second, .val (.int sel), .val (.long b), .second, .val (.int (sel &&& (7 : Int32))), .val (.long (a + (1 : Int64))), .second, .unset, .unset, .unset] [])) (fun t₀ k₀ => XS.goto Xc14.here hx rfl (pc0 := 88) (pc' := 111) rfl (hb hby at_88) (by decide) (by decide) k₀) ?_
              exact cut111 b (sel &&& (7 : Int32)) (a + (1 : Int64)) _ Xc14 ec14
            · skip
              refine own_step (Tc14.setTop (mkF m 91 #[.val (.long a), .second, .val (.long b0), .second, .val (.long cc), .second, .val (.int sel), .val (.long b), .second, .val (.int (sel &&& (7 : Int32))), .unset, .unset, .unset, .unset, .unset] [])) (fun t₀ k₀ => XS.icmpYes Xc14.here hx rfl (pc0 := 80) (pc' := 91) rfl (hb hby at_80) rfl (feq hc80).2 (by decide) (by decide) k₀) ?_
              refine own_step (Tc14.setTop (mkF m 93 #[.val (.long a), .second, .val (.long b0), .second, .val (.long cc), .second, .val (.int sel), .val (.long b), .second, .val (.int (sel &&& (7 : Int32))), .unset, .unset, .unset, .unset, .unset] [(.int (sel &&& (7 : Int32)))])) (fun t₀ k₀ => XS.iload Xc14.here hx rfl (hb hby at_91) rfl k₀) ?_
              refine own_step (Tc14.setTop (mkF m 95 #[.val (.long a), .second, .val (.long b0), .second, .val (.long cc), .second, .val (.int sel), .val (.long b), .second, .val (.int (sel &&& (7 : Int32))), .unset, .unset, .unset, .unset, .unset] [(.int (6 : Int32)), (.int (sel &&& (7 : Int32)))])) (fun t₀ k₀ => XS.bipush Xc14.here hx rfl (hb hby at_93) k₀) ?_
              by_cases hc95 : (sel &&& (7 : Int32)) = (6 : Int32)
              · skip
                refine own_step (Tc14.setTop (mkF m 98 #[.val (.long a), .second, .val (.long b0), .second, .val (.long cc), .second, .val (.int sel), .val (.long b), .second, .val (.int (sel &&& (7 : Int32))), .unset, .unset, .unset, .unset, .unset] [])) (fun t₀ k₀ => XS.icmpNo Xc14.here hx rfl (hb hby at_95) rfl (teq hc95).2 k₀) ?_
                refine own_step (Tc14.setTop (mkF m 100 #[.val (.long a), .second, .val (.long b0), .second, .val (.long cc), .second, .val (.int sel), .val (.long b), .second, .val (.int (sel &&& (7 : Int32))), .unset, .unset, .unset, .unset, .unset] [(.long b)])) (fun t₀ k₀ => XS.lload Xc14.here hx rfl (hb hby at_98) rfl k₀) ?_
                refine own_step (Tc14.setTop (mkF m 101 #[.val (.long a), .second, .val (.long b0), .second, .val (.long cc), .second, .val (.int sel), .val (.long b), .second, .val (.int (sel &&& (7 : Int32))), .unset, .unset, .unset, .unset, .unset] [(.long (1 : Int64)), (.long b)])) (fun t₀ k₀ => XS.lconst Xc14.here hx rfl (hb hby at_100) k₀) ?_
                refine own_step (Tc14.setTop (mkF m 102 #[.val (.long a), .second, .val (.long b0), .second, .val (.long cc), .second, .val (.int sel), .val (.long b), .second, .val (.int (sel &&& (7 : Int32))), .unset, .unset, .unset, .unset, .unset] [(.long (b - (1 : Int64)))])) (fun t₀ k₀ => XS.lsub Xc14.here hx rfl (hb hby at_101) rfl k₀) ?_
                refine own_step (Tc14.setTop (mkF m 104 #[.val (.long a), .second, .val (.long b0), .second, .val (.long cc), .second, .val (.int sel), .val (.long b), .second, .val (.int (sel &&& (7 : Int32))), .val (.long (b - (1 : Int64))), .second, .unset, .unset, .unset] [])) (fun t₀ k₀ => XS.lstore Xc14.here hx rfl (hb hby at_102) rfl (l' := #[.val (.long a), .second, .val (.long b0), .second, .val (.long cc), .second, .val (.int sel), .val (.long b), .second, .val (.int (sel &&& (7 : Int32))), .val (.long (b - (1 : Int64))), .second, .unset, .unset, .unset]) rfl k₀) ?_
                refine own_step (Tc14.setTop (mkF m 111 #[.val (.long a), .second, .val (.long b0), .second, .val (.long cc), .second, .val (.int sel), .val (.long b), .second, .val (.int (sel &&& (7 : Int32))), .val (.long (b - (1 : Int64))), .second, .unset, .unset, .unset] [])) (fun t₀ k₀ => XS.goto Xc14.here hx rfl (pc0 := 104) (pc' := 111) rfl (hb hby at_104) (by decide) (by decide) k₀) ?_
                exact cut111 b (sel &&& (7 : Int32)) (b - (1 : Int64)) _ Xc14 ec14
              · skip
                refine own_step (Tc14.setTop (mkF m 107 #[.val (.long a), .second, .val (.long b0), .second, .val (.long cc), .second, .val (.int sel), .val (.long b), .second, .val (.int (sel &&& (7 : Int32))), .unset, .unset, .unset, .unset, .unset] [])) (fun t₀ k₀ => XS.icmpYes Xc14.here hx rfl (pc0 := 95) (pc' := 107) rfl (hb hby at_95) rfl (feq hc95).2 (by decide) (by decide) k₀) ?_
                refine own_step (Tc14.setTop (mkF m 109 #[.val (.long a), .second, .val (.long b0), .second, .val (.long cc), .second, .val (.int sel), .val (.long b), .second, .val (.int (sel &&& (7 : Int32))), .unset, .unset, .unset, .unset, .unset] [(.long cc)])) (fun t₀ k₀ => XS.lload Xc14.here hx rfl (hb hby at_107) rfl k₀) ?_
                refine own_step (Tc14.setTop (mkF m 111 #[.val (.long a), .second, .val (.long b0), .second, .val (.long cc), .second, .val (.int sel), .val (.long b), .second, .val (.int (sel &&& (7 : Int32))), .val (.long cc), .second, .unset, .unset, .unset] [])) (fun t₀ k₀ => XS.lstore Xc14.here hx rfl (hb hby at_109) rfl (l' := #[.val (.long a), .second, .val (.long b0), .second, .val (.long cc), .second, .val (.int sel), .val (.long b), .second, .val (.int (sel &&& (7 : Int32))), .val (.long cc), .second, .unset, .unset, .unset]) rfl k₀) ?_
                exact cut111 b (sel &&& (7 : Int32)) cc _ Xc14 ec14
  show own_Go p e below (fun s₂ o₉ => s₂.status = .running ∧ Ended s₂ below o₉ ∧ ∃ v L, o₉ = .returned v ∧ Q_rm0 Z a b0 cc sel h0 n0 v s₂.heap L ∧ FrameEnd s o₉ s₂ L room_1.cells room_1.slots) (s₁.setTop (entryFrame m #[(.long a), (.long b0), (.long cc), (.int sel)] maxLocals))
  rw [ef_rm0 m a b0 cc sel]
  refine own_step (s₁.setTop (mkF m 2 #[.val (.long a), .second, .val (.long b0), .second, .val (.long cc), .second, .val (.int sel), .unset, .unset, .unset, .unset, .unset, .unset, .unset, .unset] [(.int sel)])) (fun t₀ k₀ => XS.iload X0.here hx rfl (hb hby at_0) rfl k₀) ?_
  refine own_step (s₁.setTop (mkF m 3 #[.val (.long a), .second, .val (.long b0), .second, .val (.long cc), .second, .val (.int sel), .unset, .unset, .unset, .unset, .unset, .unset, .unset, .unset] [(.int (3 : Int32)), (.int sel)])) (fun t₀ k₀ => XS.iconst X0.here hx rfl (hb hby at_2) k₀) ?_
  refine own_step (s₁.setTop (mkF m 4 #[.val (.long a), .second, .val (.long b0), .second, .val (.long cc), .second, .val (.int sel), .unset, .unset, .unset, .unset, .unset, .unset, .unset, .unset] [(.int (sel >>> ((3 : Int32) &&& 31)))])) (fun t₀ k₀ => XS.ishr X0.here hx rfl (hb hby at_3) rfl k₀) ?_
  refine own_step (s₁.setTop (mkF m 5 #[.val (.long a), .second, .val (.long b0), .second, .val (.long cc), .second, .val (.int sel), .unset, .unset, .unset, .unset, .unset, .unset, .unset, .unset] [(.int (1 : Int32)), (.int (sel >>> ((3 : Int32) &&& 31)))])) (fun t₀ k₀ => XS.iconst X0.here hx rfl (hb hby at_4) k₀) ?_
  refine own_step (s₁.setTop (mkF m 6 #[.val (.long a), .second, .val (.long b0), .second, .val (.long cc), .second, .val (.int sel), .unset, .unset, .unset, .unset, .unset, .unset, .unset, .unset] [(.int ((sel >>> ((3 : Int32) &&& 31)) &&& (1 : Int32)))])) (fun t₀ k₀ => XS.iand X0.here hx rfl (hb hby at_5) rfl k₀) ?_
  by_cases hc6 : ((sel >>> ((3 : Int32) &&& 31)) &&& (1 : Int32)) = (0 : Int32)
  · skip
    refine own_step (s₁.setTop (mkF m 13 #[.val (.long a), .second, .val (.long b0), .second, .val (.long cc), .second, .val (.int sel), .unset, .unset, .unset, .unset, .unset, .unset, .unset, .unset] [])) (fun t₀ k₀ => XS.ifYes X0.here hx rfl (pc0 := 6) (pc' := 13) rfl (hb hby at_6) rfl ((if0 _ _).trans (teq hc6).1) (by decide) (by decide) k₀) ?_
    refine own_step (s₁.setTop (mkF m 14 #[.val (.long a), .second, .val (.long b0), .second, .val (.long cc), .second, .val (.int sel), .unset, .unset, .unset, .unset, .unset, .unset, .unset, .unset] [(.long b0)])) (fun t₀ k₀ => XS.lloadN X0.here hx rfl (hb hby at_13) rfl k₀) ?_
    exact cut14 b0 _ X0 e0
  · skip
    refine own_step (s₁.setTop (mkF m 9 #[.val (.long a), .second, .val (.long b0), .second, .val (.long cc), .second, .val (.int sel), .unset, .unset, .unset, .unset, .unset, .unset, .unset, .unset] [])) (fun t₀ k₀ => XS.ifNo X0.here hx rfl (hb hby at_6) rfl ((if0 _ _).trans (feq hc6).1) k₀) ?_
    refine own_step (s₁.setTop (mkF m 10 #[.val (.long a), .second, .val (.long b0), .second, .val (.long cc), .second, .val (.int sel), .unset, .unset, .unset, .unset, .unset, .unset, .unset, .unset] [(.long a)])) (fun t₀ k₀ => XS.lloadN X0.here hx rfl (hb hby at_9) rfl k₀) ?_
    refine own_step (s₁.setTop (mkF m 14 #[.val (.long a), .second, .val (.long b0), .second, .val (.long cc), .second, .val (.int sel), .unset, .unset, .unset, .unset, .unset, .unset, .unset, .unset] [(.long a)])) (fun t₀ k₀ => XS.goto X0.here hx rfl (pc0 := 10) (pc' := 14) rfl (hb hby at_10) (by decide) (by decide) k₀) ?_
    exact cut14 a _ X0 e0
set_option maxRecDepth 65536 in
set_option maxHeartbeats 40000000 in
theorem comes_1 {Post : Tables → Env → Array Value → State → Outcome → State → Prop} (hpost : ∀ tb e args s v u, (limb_1_1.after args s (.returned v) u = true ∧ limb_1_2.after args s (.returned v) u = true ∧ True) → FrameEnd s (.returned v) u (Jvm.fieldLocs frame_1_writes args s ++ Jvm.arrayLocs frame_1_arrays args s ++ Jvm.staticLocs frame_1_statics s) 16 128 → Post tb e args s (.returned v) u) :
    ArmFor flags0 classFile x code maxLocals ret World_1 tables_1 room_1 Calls_1 rest_1 Pre_1 Post := by
  intro l hfl _ _ p e ha hc hk s m args below hf hA hF happ hP
  obtain ⟨hcalls, hrest, hpre⟩ := hP
  obtain ⟨-, -, -, hnamed, -, -, -, hat⟩ := (Spec.applies_iff hf).mp happ
  obtain ⟨hg, hn⟩ := and_e (Cond.before_iff.mp (show (Jvm.Cond.and given_1 narrow_1).before args s = true from hpre))
  obtain ⟨hcount, hg0⟩ := and_e hg
  obtain ⟨ga0, hg1⟩ := and_e hg0
  obtain ⟨ga1, hg2⟩ := and_e hg1
  obtain ⟨ga2, hg3⟩ := and_e hg2
  have ga3 := hg3
  obtain ⟨w0, w1, w2, w3, rfl⟩ : ∃ w0 w1 w2 w3 : Value, args = #[w0, w1, w2, w3] := by
    have hs : args.size = 4 := by simpa [Cond.value, given_1] using hcount
    obtain ⟨L⟩ := args
    match L, hs with
    | [w0, w1, w2, w3], _ => exact ⟨w0, w1, w2, w3, rfl⟩
  have hw := fun d (hd : d ∈ tables_1) => atoms_spec (ws := Jvm.Cond.code x code maxLocals ret :: tables_1) hat d (List.mem_cons_of_mem _ hd)
  have hfit : Fit s := fun {y c} hc i hi => by
    obtain ⟨ha, rfl⟩ := Array.getElem?_eq_some_iff.mp hc
    have q := List.all_eq_true.mp ((Array.all_eq_true_iff_forall_mem.mp hF) _ (Array.getElem_mem ha)) i (List.mem_range.mpr hi)
    simpa [Array.getElem?_eq_getElem hi] using q
  obtain ⟨i0, ei0⟩ := isL_v ga0
  obtain rfl : w0 = (.long i0) := Option.some.inj ei0
  obtain ⟨i1, ei1⟩ := isL_v ga1
  obtain rfl : w1 = (.long i1) := Option.some.inj ei1
  obtain ⟨i2, ei2⟩ := isL_v ga2
  obtain rfl : w2 = (.long i2) := Option.some.inj ei2
  obtain ⟨i3, ei3⟩ := is_v ga3
  obtain rfl : w3 = (.int i3) := Option.some.inj ei3
  obtain ⟨n, o, h1, h2, h3, _, L, rfl, ⟨rfl, N⟩, hq⟩ := rm0 l s _ hw tables_1 i0 i1 i2 i3 s.heap s.heap.size (Nat.le_refl _) p e ha hc hk s m _ below hf ((Spec.applies_iff_loose hf).mp happ).1 ⟨rfl, State.Warmed39.refl s, rfl⟩ trivial
  refine ⟨n, _, h1, h2, h3, hpost _ _ _ _ _ _ ⟨Cond.after_iff.mpr rfl, Cond.after_iff.mpr (eq_i res_at (Term.int_eval (1)) rfl), trivial⟩ ⟨hq.1, hq.2.1, (hq.2.2.sift fun y hy => Or.inr (N y hy)).mono (by decide) (by decide)⟩⟩
theorem main_1_1 : Claimed_1_1 := comes_1 fun _ _ _ _ _ _ h hF => ⟨h.1, hF⟩
theorem main_1_2 : Claimed_1_2 := comes_1 fun _ _ _ _ _ _ h hF => ⟨h.2.1, hF⟩
end Jvm.Pilot.@@N@@
namespace Jvm.Pilot.@@N@@
open Jvm Jvm.ClassFile Sem Op Lib Jvm.Free Jvm.Stand Jvm.Pilot.@@N@@.Jvm.D
/-! MADE BY PROGRAM (witnessworld.py) out of the Statement's table words and the real class files: 10 classes; the members and pool entries that the words name. The judged class is class 1, her method 1. -/
namespace start1
open Jvm.ClassFile
def u (s : String) : CpInfo := .utf8 (stringToUtf16 s)
/-- a pool by its gaps: so many unusable entries, then the entry; so many at the end -/
def gap : Nat → List CpInfo → List CpInfo
  | 0, r => r
  | n + 1, r => .unusable :: gap n r
def poolList (es : List (Nat × CpInfo)) (last : Nat) : List CpInfo := es.foldr (fun e r => gap e.1 (e.2 :: r)) (gap last [])
def pool (es : List (Nat × CpInfo)) (last : Nat) : Array CpInfo := ⟨poolList es last⟩
def fileOf (pool : Array CpInfo) (this : Nat) (attrs : Array Attribute := #[]) (ms : Array MethodInfo := #[]) (fl : Nat := 33) (sup : Nat := 0) (ifs : Array Nat := #[]) (fds : Array FieldInfo := #[]) : ClassFile where
  minorVersion := 0
  majorVersion := 65
  constantPool := pool
  accessFlags := fl
  thisClass := this
  superClass := sup
  interfaces := ifs
  fields := fds
  methods := ms
  attributes := attrs
def plain (name : String) (sup : Option ClassId) : Class where
  name := name
  kind := .ordinary
  loader := none
  accessFlags := 33
  super := sup
  interfaces := #[]
  cf := none
  fields := #[]
  methods := #[]
  instanceTypes := #[]
  staticTypes := #[]
  resolved := #[]
  callSites := []
  init := .initialized
  statics := none
  mirror := none

def pool0 : Array CpInfo := pool [(5, u "<init>"), (0, u "()V"), (1, .class_ 10), (1, u "java/lang/Object")] 113

def k0c0 : Code := { maxStack := 0, maxLocals := 1, code := object_method_1_code, exceptionTable := #[], attributes := #[] }
def k0m0 : Method := { name := "<init>", desc := "()V", sig := { parameters := [], returnType := none }, accessFlags := 1, code := some k0c0 }
/-- java/lang/Object -/
def k0 : Class := { plain "java/lang/Object" none with
  accessFlags := 33
  interfaces := #[]
  cf := some (fileOf pool0 8 #[] #[{ accessFlags := 1, nameIndex := 5, descriptorIndex := 6, attributes := #[] }] 33 0 #[] #[])
  fields := #[]
  methods := #[k0m0]
  instanceTypes := #[]
  staticTypes := #[]
  resolved := Array.replicate 124 none
  statics := none }

def pool1 : Array CpInfo := pool [(2, .class_ 4), (1, u "java/lang/Object"), (0, u "<init>"), (0, u "()V"), (0, .class_ 8), (0, u "com/example/quillon/quillon/storage/TimeRange"), (0, .methodref 7 10), (0, .nameAndType 5 11), (0, u "(JJ)V"), (0, .methodref 7 13), (0, .nameAndType 14 15), (0, u "contains"), (0, u "(J)Z"), (2, .long 9223372036854775808), (1, .class_ 21), (0, u "com/example/quillon/quillon/storage/TimeRangeContains435PinLaw"), (2, u "law"), (0, u "(JJJI)Z")] 3

def k1m0 : Method := { name := "<init>", desc := "()V", sig := { parameters := [], returnType := none }, accessFlags := 1, code := none }
def k1c1 : Code := { maxStack := 6, maxLocals := 15, code := code, exceptionTable := #[], attributes := #[] }
def k1m1 : Method := { name := "law", desc := "(JJJI)Z", sig := { parameters := [.long, .long, .long, .int], returnType := some .boolean }, accessFlags := 9, code := some k1c1 }
/-- com/example/quillon/quillon/storage/TimeRangeContains435PinLaw -/
def k1 : Class := { plain "com/example/quillon/quillon/storage/TimeRangeContains435PinLaw" (some 0) with
  accessFlags := 49
  interfaces := #[]
  cf := some (fileOf pool1 20 #[] #[{ accessFlags := 1, nameIndex := 5, descriptorIndex := 6, attributes := #[] }, { accessFlags := 9, nameIndex := 24, descriptorIndex := 25, attributes := #[] }] 49 2 #[] #[])
  fields := #[]
  methods := #[k1m0, k1m1]
  instanceTypes := #[]
  staticTypes := #[]
  resolved := Array.replicate 29 none
  statics := none }

def pool2 : Array CpInfo := pool [(1, .methodref 2 3), (0, .class_ 4), (0, .nameAndType 5 6), (0, u "java/lang/Object"), (0, u "<init>"), (0, u "()V"), (0, .class_ 8), (0, u "java/lang/Record")] 13

def k2c0 : Code := { maxStack := 1, maxLocals := 1, code := jdk_30_method_1_code, exceptionTable := #[], attributes := #[] }
def k2m0 : Method := { name := "<init>", desc := "()V", sig := { parameters := [], returnType := none }, accessFlags := 4, code := some k2c0 }
/-- java/lang/Record -/
def k2 : Class := { plain "java/lang/Record" (some 0) with
  accessFlags := 1057
  interfaces := #[]
  cf := some (fileOf pool2 7 #[] #[{ accessFlags := 4, nameIndex := 5, descriptorIndex := 6, attributes := #[] }] 1057 2 #[] #[])
  fields := #[]
  methods := #[k2m0]
  instanceTypes := #[]
  staticTypes := #[]
  resolved := Array.replicate 22 none
  statics := none }

def pool3 : Array CpInfo := pool [(1, .methodref 2 3), (0, .class_ 4), (0, .nameAndType 5 6), (0, u "java/lang/Record"), (0, u "<init>"), (0, u "()V"), (0, .fieldref 8 9), (0, .class_ 10), (0, .nameAndType 11 12), (0, u "com/example/quillon/quillon/storage/TimeRange"), (0, u "first"), (0, u "J"), (0, .fieldref 8 14), (0, .nameAndType 15 12), (0, u "last"), (6, u "(JJ)V"), (2, u "EMPTY"), (0, u "Lcom/example/quillon/quillon/storage/TimeRange;"), (51, u "ALL"), (10, u "contains"), (0, u "(J)Z")] 31

def k3c0 : Code := { maxStack := 3, maxLocals := 5, code := prog_83_method_1_code, exceptionTable := #[], attributes := #[] }
def k3m0 : Method := { name := "<init>", desc := "(JJ)V", sig := { parameters := [.long, .long], returnType := none }, accessFlags := 1, code := some k3c0 }
def k3c1 : Code := { maxStack := 4, maxLocals := 3, code := prog_83_method_8_code, exceptionTable := #[], attributes := #[] }
def k3m1 : Method := { name := "contains", desc := "(J)Z", sig := { parameters := [.long], returnType := some .boolean }, accessFlags := 0, code := some k3c1 }
/-- com/example/quillon/quillon/storage/TimeRange -/
def k3 : Class := { plain "com/example/quillon/quillon/storage/TimeRange" (some 2) with
  accessFlags := 49
  interfaces := #[]
  cf := some (fileOf pool3 8 #[] #[{ accessFlags := 1, nameIndex := 5, descriptorIndex := 22, attributes := #[] }, { accessFlags := 0, nameIndex := 89, descriptorIndex := 90, attributes := #[] }] 49 2 #[] #[{ accessFlags := 18, nameIndex := 11, descriptorIndex := 12, attributes := #[] }, { accessFlags := 18, nameIndex := 15, descriptorIndex := 12, attributes := #[] }, { accessFlags := 25, nameIndex := 78, descriptorIndex := 26, attributes := #[] }, { accessFlags := 25, nameIndex := 25, descriptorIndex := 26, attributes := #[] }])
  fields := #[{ name := "first", type := .long, accessFlags := 18, slot := 0, constantValue := 0 }, { name := "last", type := .long, accessFlags := 18, slot := 1, constantValue := 0 }, { name := "ALL", type := (.object "com/example/quillon/quillon/storage/TimeRange"), accessFlags := 25, slot := 0, constantValue := 0 }, { name := "EMPTY", type := (.object "com/example/quillon/quillon/storage/TimeRange"), accessFlags := 25, slot := 1, constantValue := 0 }]
  methods := #[k3m0, k3m1]
  instanceTypes := #[.long, .long]
  staticTypes := #[(.object "com/example/quillon/quillon/storage/TimeRange"), (.object "com/example/quillon/quillon/storage/TimeRange")]
  resolved := Array.replicate 122 none
  statics := none }

def pool4 : Array CpInfo := pool [(1, u "java/lang/Cloneable"), (0, .class_ 1), (0, u "java/lang/Object"), (0, .class_ 3)] 3

/-- java/lang/Cloneable -/
def k4 : Class := { plain "java/lang/Cloneable" (some 0) with
  accessFlags := 1537
  interfaces := #[]
  cf := some (fileOf pool4 2 #[] #[] 1537 4 #[] #[])
  fields := #[]
  methods := #[]
  instanceTypes := #[]
  staticTypes := #[]
  resolved := Array.replicate 8 none
  statics := none }

def pool5 : Array CpInfo := pool [(1, u "java/io/Serializable"), (0, .class_ 1), (0, u "java/lang/Object"), (0, .class_ 3)] 3

/-- java/io/Serializable -/
def k5 : Class := { plain "java/io/Serializable" (some 0) with
  accessFlags := 1537
  interfaces := #[]
  cf := some (fileOf pool5 2 #[] #[] 1537 4 #[] #[])
  fields := #[]
  methods := #[]
  instanceTypes := #[]
  staticTypes := #[]
  resolved := Array.replicate 8 none
  statics := none }

/-- the primitive byte -/
def k6 : Class := { plain "byte" none with kind := .primitive 'B', accessFlags := 0x411 }
/-- [B -/
def k7 : Class := { plain "[B" (some 0) with kind := .array 6 .byte, interfaces := #[4, 5], accessFlags := 1041 }

/-- the primitive int -/
def k8 : Class := { plain "int" none with kind := .primitive 'I', accessFlags := 0x411 }
/-- [I -/
def k9 : Class := { plain "[I" (some 0) with kind := .array 8 .int, interfaces := #[4, 5], accessFlags := 1041 }

def heap : Heap := #[]
def classes : Array Class := #[k0, k1, k2, k3, k4, k5, k6, k7, k8, k9]
def interned : List (Array UInt16 × Addr) := []
def slotsUsed : Nat := 0
def theMethod : MethodId := ⟨1, 1⟩
def args0 : Array Value := #[.long 5, .long 7, .long 6, .int 0]
def aboutOver (below : List Frame) : State where
  vm := { classes := classes, interned := interned.toArray }
  heap := heap
  slotsUsed := slotsUsed
  threads := #[{ frames := .invoking theMethod args0 :: below }]
def below0 : List Frame := [.native { method := ⟨0, 0⟩, args := #[] }]
def about1 : State := aboutOver below0
def p0 : Program := .bare "" "" ""
def e0 : Env := launch0.env 0 0 0
theorem w_frames : about1.frames = Frame.invoking theMethod args0 :: below0 := rfl
set_option maxRecDepth 65536 in
theorem w_args : argsFit about1.vm theMethod args0 = true := by decide +kernel
set_option maxRecDepth 65536 in
theorem w_heap : heapFits about1 = true := by decide +kernel
set_option maxRecDepth 65536 in
theorem w_runnable : about1.curStatus? = some .runnable := by decide +kernel
set_option maxRecDepth 65536 in
theorem w_alone : about1.alone = true := by decide +kernel
set_option maxRecDepth 65536 in
theorem w_named : about1.methodNamed? x = some theMethod := by decide +kernel
set_option maxRecDepth 65536 in
theorem w_hears : about1.hears theMethod below0 = true := by decide +kernel
set_option maxRecDepth 65536 in
theorem w_ripe : about1.ripe theMethod args0 below0 = true := by decide +kernel
theorem w_running : about1.status = .running := rfl
set_option maxRecDepth 65536 in
theorem w_room : about1.hasRoom e0.platform room_1 = true :=
  launch0.hasRoom_least _ room_1 (by decide +kernel) (by decide +kernel) (by decide +kernel) (by decide +kernel) (by decide +kernel) (by decide +kernel)
theorem allAtoms_all (ts : List Jvm.Cond) (a : Array Jvm.Value) (st : Jvm.State) : (allAtoms ts).before a st = ts.all (fun c => c.before a st) := by
  induction ts with
  | nil => rfl
  | cons c t ih =>
    show (Jvm.Cond.and c (allAtoms t)).before a st = _
    rw [Jvm.Cond.before_and, ih, List.all_cons]
def words1 : List Jvm.Cond := Jvm.Cond.code x code maxLocals ret :: tables_1
/-- a 'code' word, met by the world's own term for the bytes: nothing is compared byte by byte -/
theorem code_word {y : MethodName} {bytes : ByteArray} {mx : Nat} {rt : Option FieldType} {a : Array Value} {s : State} {m : MethodId} {meth : Method} {c : Code} (h1 : s.methodNamed? y = some m) (h2 : s.vm.method? m = some meth) (h3 : meth.code = some c) (h4 : c.code = bytes)
    (h5 : (c.maxLocals == mx && c.exceptionTable.isEmpty && decide (c.maxStack ≤ mostOperands) && decide (meth.sig.returnType = rt) && !meth.locks && decide (parseMethodDescriptor y.desc = some meth.sig)) = true) : (Jvm.Cond.code y bytes mx rt).before a s = true := by
  simp only [Bool.and_eq_true, beq_iff_eq, Bool.not_eq_true', decide_eq_true_eq] at h5
  obtain ⟨⟨⟨⟨⟨g1, g2⟩, g3⟩, g4⟩, g5⟩, g6⟩ := h5
  simp [Cond.before, Cond.holds, Cond.value, h1, h2, h3, h4, g1, g2, g3, g4, g5, g6]
def isCode : Jvm.Cond → Bool
  | .code _ _ _ _ => true
  | _ => false
theorem all_split {L : List Jvm.Cond} {P : Jvm.Cond → Bool} (h1 : L.all (fun c => isCode c || P c) = true) (h2 : ∀ c ∈ L.filter isCode, P c = true) : L.all P = true := by
  refine List.all_eq_true.mpr fun c hc => ?_
  have h := List.all_eq_true.mp h1 c hc
  rcases Bool.eq_false_or_eq_true (isCode c) with hi | hi
  · exact h2 c (List.mem_filter.mpr ⟨hc, hi⟩)
  · simpa [hi] using h
set_option maxRecDepth 65536 in
theorem w_c0 : (Jvm.Cond.code x code maxLocals ret).before args0 about1 = true := code_word (m := ⟨1, 1⟩) (meth := k1m1) (c := k1c1) (by decide +kernel) rfl rfl rfl (by decide +kernel)
set_option maxRecDepth 65536 in
theorem w_c1 : (Jvm.Cond.code ({ cls := "com/example/quillon/quillon/storage/TimeRange", name := "<init>", desc := "(JJ)V" } : Jvm.MethodName) prog_83_method_1_code (5 : Nat) (Option.none : Option Jvm.ClassFile.FieldType)).before args0 about1 = true := code_word (m := ⟨3, 0⟩) (meth := k3m0) (c := k3c0) (by decide +kernel) rfl rfl rfl (by decide +kernel)
set_option maxRecDepth 65536 in
theorem w_c2 : (Jvm.Cond.code ({ cls := "java/lang/Record", name := "<init>", desc := "()V" } : Jvm.MethodName) jdk_30_method_1_code (1 : Nat) (Option.none : Option Jvm.ClassFile.FieldType)).before args0 about1 = true := code_word (m := ⟨2, 0⟩) (meth := k2m0) (c := k2c0) (by decide +kernel) rfl rfl rfl (by decide +kernel)
set_option maxRecDepth 65536 in
theorem w_c3 : (Jvm.Cond.code ({ cls := "java/lang/Object", name := "<init>", desc := "()V" } : Jvm.MethodName) object_method_1_code (1 : Nat) (Option.none : Option Jvm.ClassFile.FieldType)).before args0 about1 = true := code_word (m := ⟨0, 0⟩) (meth := k0m0) (c := k0c0) (by decide +kernel) rfl rfl rfl (by decide +kernel)
set_option maxRecDepth 65536 in
theorem w_c4 : (Jvm.Cond.code ({ cls := "com/example/quillon/quillon/storage/TimeRange", name := "contains", desc := "(J)Z" } : Jvm.MethodName) prog_83_method_8_code (3 : Nat) (Option.some Jvm.ClassFile.FieldType.boolean)).before args0 about1 = true := code_word (m := ⟨3, 1⟩) (meth := k3m1) (c := k3c1) (by decide +kernel) rfl rfl rfl (by decide +kernel)
def codes1 : List Jvm.Cond := [Jvm.Cond.code x code maxLocals ret, Jvm.Cond.code ({ cls := "com/example/quillon/quillon/storage/TimeRange", name := "<init>", desc := "(JJ)V" } : Jvm.MethodName) prog_83_method_1_code (5 : Nat) (Option.none : Option Jvm.ClassFile.FieldType), Jvm.Cond.code ({ cls := "java/lang/Record", name := "<init>", desc := "()V" } : Jvm.MethodName) jdk_30_method_1_code (1 : Nat) (Option.none : Option Jvm.ClassFile.FieldType), Jvm.Cond.code ({ cls := "java/lang/Object", name := "<init>", desc := "()V" } : Jvm.MethodName) object_method_1_code (1 : Nat) (Option.none : Option Jvm.ClassFile.FieldType), Jvm.Cond.code ({ cls := "com/example/quillon/quillon/storage/TimeRange", name := "contains", desc := "(J)Z" } : Jvm.MethodName) prog_83_method_8_code (3 : Nat) (Option.some Jvm.ClassFile.FieldType.boolean)]
set_option maxRecDepth 65536 in
theorem codes_eq : words1.filter isCode = codes1 := rfl
theorem w_codes : ∀ c ∈ words1.filter isCode, c.before args0 about1 = true := by
  rw [codes_eq]
  intro c hc
  simp only [codes1, List.mem_cons, List.not_mem_nil, or_false] at hc
  rcases hc with rfl | rfl | rfl | rfl | rfl
  · exact w_c0
  · exact w_c1
  · exact w_c2
  · exact w_c3
  · exact w_c4
set_option maxRecDepth 65536 in
theorem w_t1 : (words1.take 24).all (fun c => isCode c || c.before args0 about1) = true := by decide +kernel
set_option maxRecDepth 65536 in
theorem w_t2 : (words1.drop 24).all (fun c => isCode c || c.before args0 about1) = true := by decide +kernel
theorem w_tables : (allAtoms (Jvm.Cond.code x code maxLocals ret :: tables_1)).before args0 about1 = true := by
  rw [allAtoms_all]
  show words1.all (fun c => c.before args0 about1) = true
  refine all_split ?_ w_codes
  rw [← List.take_append_drop 24 words1, List.all_append, w_t1, w_t2]
  rfl
set_option maxRecDepth 65536 in
theorem w_case : (Jvm.Cond.and given_1 narrow_1).before args0 about1 = true := by decide +kernel
theorem w_applies : (headSpec (Jvm.Cond.code x code maxLocals ret :: tables_1) room_1).applies x e0.platform about1 = true :=
  (Spec.applies_iff w_frames).mpr ⟨w_running, w_runnable, w_alone, w_named, w_hears, w_ripe, w_room, w_tables⟩
theorem atStart : AtStart classFile x code maxLocals ret World_1 tables_1 room_1 Calls_1 rest_1 Pre_1 launch0 p0 e0 about1 theMethod args0 below0 :=
  ⟨lists_1, trivial, launch0.admits_env _ _ _, launch0.least_env, fairChoices_fair.cas, fairChoices_fair.clock, w_frames, w_args, w_heap, w_applies, trivial, trivial, w_case⟩
end start1
theorem witness_1 : WitnessClaimed_1 := ⟨start1.p0, start1.e0, start1.about1, start1.theMethod, start1.args0, start1.below0, start1.atStart⟩
end Jvm.Pilot.@@N@@
