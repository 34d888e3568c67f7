import JvmDerived
import JvmDerived.Pilot.@@N@@Statement
import JvmDerived.Pilot.@@N@@Code
set_option linter.unusedVariables false
set_option linter.unusedSimpArgs false
@@BLOCK:NumsL.lean.txt@@
namespace Jvm.RoadKit
open Sem ClassFile Op Lib Jvm.Stand Jvm.Free Jvm.LawKit
section New
variable {p : Program} {l : Launch} {e : Env} {R : Room} {s : State} {m : MethodId} {args : Array Value} {below : List Frame} {meth : Method} {c : Code} {T : State} {locs : List Loc} {cells slots : Nat}
theorem retI (X : Stand p l e R s m args below meth c T locs cells slots) (hx : p.tables.exec = Jvm.exec) {pc : Nat} {Ls : Array Slot} {z : Int32} {rest : List Value} (hret : meth.sig.returnType = some .int) (hd : decode c.code pc = .ok (.ireturn, 1)) {fs : List Frame}
    (hl : ∀ (f : JFrame) (acts : List Action), f.method = m → f.locked = none → f.entered = [] → (doReturn e (T.setTop f) acts (some (.int z))).1 = T.setFrames fs) : Steps p.tables e below (T.setTop (mkF m pc Ls (.int z :: rest))) (T.setFrames fs) := by
  have hm' : T.vm.method? m = some meth := X.method'
  have hn : narrow .int (.int z) = .int z := rfl
  show Steps p.tables e below (T.setTop { method := m, pc := pc, locals := Ls, stack := _ :: rest, locked := none }) _
  jvm_step X.here [X.here.top, hx, hd, hm', hret, hn]
  first | (intro acts; rw [hl _ acts rfl rfl rfl]) | rw [hl _ _ rfl rfl rfl]
  exact Steps.refl _
end New
end Jvm.RoadKit
namespace Jvm.Pilot.@@N@@
open Jvm Jvm.ClassFile Sem Op Lib Jvm.Free Jvm.Stand Jvm.LawKit Jvm.RoadKit Bundle Jvm.Pilot.@@N@@.Jvm.D
/-- from A the run comes to an end of which P is said -/
def own_Go (p : Program) (e : Env) (below : List Frame) (P : State → Outcome → Prop) (A : State) : Prop := ∃ s₂ o, Steps p.tables e below A s₂ ∧ P s₂ o
theorem own_step {p : Program} {e : Env} {below : List Frame} {P : State → Outcome → Prop} {A : State} (B : State) (h : ∀ t, Steps p.tables e below B t → Steps p.tables e below A t) (g : own_Go p e below P B) : own_Go p e below P A := by
  obtain ⟨s₂, o, h1, h2⟩ := g; exact ⟨s₂, o, h s₂ h1, h2⟩
theorem own_comes {p : Program} {e : Env} {below : List Frame} {P : State → Outcome → Prop} {A : State} (B : State) (h : Steps p.tables e below A B) (g : own_Go p e below P B) : own_Go p e below P A := by
  obtain ⟨s₂, o, h1, h2⟩ := g; exact ⟨s₂, o, h.trans h1, h2⟩
theorem own_sta_keep {Z : State} {h h' : Heap} {C n d : String} {w : Value} {ws : List Addr} (F : Sta Z h C n d w) (K : Keep h h' ws) (hw : ∀ x ∈ ws, ∀ cell : Cell, h[x]? = some cell → cell.vm.isStatics = false) : Sta Z h' C n d w := by
  obtain ⟨cf, i, k, f, st, cell, h1, h2, h3, h4, h5, h6, r⟩ := F
  exact ⟨cf, i, k, f, st, cell, h1, h2, h3, h4, K.2.1 _ _ h5 (fun q => by rw [hw _ q _ h5] at h6; cases h6), h6, r⟩
theorem own_sel {s : State} {args : Array Value} {y : MethodName} {n : Nat} (w : (Cond.instantiable y.cls n).before args s = true) (hp : (Cond.privateMethod y).before args s = true) (hi : (Cond.instanceMethod y).before args s = true) (hy : y.cls ≠ "java/lang/invoke/MethodHandle" ∧ y.cls ≠ "java/lang/invoke/VarHandle") : (Cond.selects y.cls y y).before args s = true := by
  obtain ⟨c, k, h1, h2, -, h4, -, -⟩ := Cond.instantiable_spec w
  simp only [Bool.or_eq_false_iff] at h4
  exact Jvm.Stand.selects_self_of_private h1 h2 h4.1 (Cond.privateMethod_at hp) hi hy
def own_lrem (x y : Int64) : Int64 := x - x / y * y
theorem own_vne {a b : Int32} (h : a ≠ b) : Value.int a ≠ Value.int b := fun q => h (Value.int.inj q)
theorem own_lgtT {x y : Int64} (h : y < x) : ifCond.holds .gt (lcmpW x y) = true := (if0 _ _).trans (tlt ((lw_gt x y).mpr h)).2.2.1
theorem own_lgtF {x y : Int64} (h : ¬ y < x) : ifCond.holds .gt (lcmpW x y) = false := (if0 _ _).trans (flt (fun q => h ((lw_gt x y).mp q))).2.2.1
theorem own_lleT {x y : Int64} (h : ¬ y < x) : ifCond.holds .le (lcmpW x y) = true := (if0 _ _).trans (flt (fun q => h ((lw_gt x y).mp q))).2.2.2
theorem own_lleF {x y : Int64} (h : y < x) : ifCond.holds .le (lcmpW x y) = false := (if0 _ _).trans (tlt ((lw_gt x y).mpr h)).2.2.2
theorem own_lltT {x y : Int64} (h : x < y) : ifCond.holds .lt (lcmpW x y) = true := (if0 _ _).trans (tlt ((lw_lt x y).mpr h)).1
theorem own_lltF {x y : Int64} (h : ¬ x < y) : ifCond.holds .lt (lcmpW x y) = false := (if0 _ _).trans (flt (fun q => h ((lw_lt x y).mp q))).1
theorem own_lgeT {x y : Int64} (h : ¬ x < y) : ifCond.holds .ge (lcmpW x y) = true := (if0 _ _).trans (flt (fun q => h ((lw_lt x y).mp q))).2.1
theorem own_lgeF {x y : Int64} (h : x < y) : ifCond.holds .ge (lcmpW x y) = false := (if0 _ _).trans (tlt ((lw_lt x y).mpr h)).2.1
theorem own_leqT {x y : Int64} (h : x = y) : ifCond.holds .eq (lcmpW x y) = true := (if0 _ _).trans (teq ((lw_eq x y).mpr h)).1
theorem own_leqF {x y : Int64} (h : ¬ x = y) : ifCond.holds .eq (lcmpW x y) = false := (if0 _ _).trans (feq (fun q => h ((lw_eq x y).mp q))).1
theorem own_lneT {x y : Int64} (h : ¬ x = y) : ifCond.holds .ne (lcmpW x y) = true := (if0 _ _).trans (feq (fun q => h ((lw_eq x y).mp q))).2
theorem own_lneF {x y : Int64} (h : x = y) : ifCond.holds .ne (lcmpW x y) = false := (if0 _ _).trans (teq ((lw_eq x y).mpr h)).2
def own_imax (x y : Int32) : Int32 := if x < y then y else x
def own_imin (x y : Int32) : Int32 := if y < x then y else x
def own_st (j fr n b t e : Int32) : Int32 := if ¬ (j < fr) ∧ j < n ∧ b = t then j else e
def own_all (fr n t b0 b1 b2 b3 : Int32) : Int32 := own_st 0 fr n b0 t (own_st 1 fr n b1 t (own_st 2 fr n b2 t (own_st 3 fr n b3 t (-1))))
def own_FN (fr n : Int32) : Prop := 0 ≤ fr.toInt ∧ fr.toInt ≤ 5 ∧ 0 ≤ n.toInt ∧ n.toInt ≤ 4
theorem own_lit4 {x : Int32} (h0 : 0 ≤ x.toInt) (h1 : x.toInt ≤ 4) : x = 0 ∨ x = 1 ∨ x = 2 ∨ x = 3 ∨ x = 4 := by
  have e0 : (0 : Int32).toInt = 0 := rfl
  have e1 : (1 : Int32).toInt = 1 := rfl
  have e2 : (2 : Int32).toInt = 2 := rfl
  have e3 : (3 : Int32).toInt = 3 := rfl
  have e4 : (4 : Int32).toInt = 4 := rfl
  simp only [← Int32.toInt_inj, e0, e1, e2, e3, e4]
  omega
theorem own_lit5 {x : Int32} (h0 : 0 ≤ x.toInt) (h1 : x.toInt ≤ 5) : x = 0 ∨ x = 1 ∨ x = 2 ∨ x = 3 ∨ x = 4 ∨ x = 5 := by
  have e0 : (0 : Int32).toInt = 0 := rfl
  have e1 : (1 : Int32).toInt = 1 := rfl
  have e2 : (2 : Int32).toInt = 2 := rfl
  have e3 : (3 : Int32).toInt = 3 := rfl
  have e4 : (4 : Int32).toInt = 4 := rfl
  have e5 : (5 : Int32).toInt = 5 := rfl
  simp only [← Int32.toInt_inj, e0, e1, e2, e3, e4, e5]
  omega
theorem own_n (x : Int32) : 0 ≤ ((x &&& (7 : Int32)) % (5 : Int32)).toInt ∧ ((x &&& (7 : Int32)) % (5 : Int32)).toInt ≤ 4 := by
  have e : (x &&& (7 : Int32)).toInt = x.toInt % 2 ^ 3 := Jvm.Kit.i32_mask x 7 (k := 3) (by decide) (by decide)
  rw [Jvm.Kit.i32_rem_nonneg (by omega), show (5 : Int32).toInt = 5 from rfl]; omega
theorem own_f (x : Int32) : 0 ≤ ((x &&& (2147483647 : Int32)) % (6 : Int32)).toInt ∧ ((x &&& (2147483647 : Int32)) % (6 : Int32)).toInt ≤ 5 := by
  have e : (x &&& (2147483647 : Int32)).toInt = x.toInt % 2 ^ 31 := Jvm.Kit.i32_mask x 2147483647 (k := 31) (by decide) (by decide)
  rw [Jvm.Kit.i32_rem_nonneg (by omega), show (6 : Int32).toInt = 6 from rfl]; omega
theorem own_fn (x y : Int32) : own_FN ((x &&& (2147483647 : Int32)) % (6 : Int32)) ((y &&& (7 : Int32)) % (5 : Int32)) := ⟨(own_f x).1, (own_f x).2, (own_n y).1, (own_n y).2⟩
def own_cap (c : Int32) : Prop := 1 ≤ c.toInt ∧ c.toInt ≤ 8
theorem own_caps (x : Int32) : own_cap ((x &&& (7 : Int32)) + (1 : Int32)) := by
  have e : (x &&& (7 : Int32)).toInt = x.toInt % 2 ^ 3 := Jvm.Kit.i32_mask x 7 (k := 3) (by decide) (by decide)
  have e1 : (1 : Int32).toInt = 1 := rfl
  unfold own_cap
  rw [Jvm.Kit.i32_add, e, e1] <;> (try rw [e, e1]) <;> omega
theorem own_cap0 {c : Int32} (h : own_cap c) : ¬ c < 0 := by
  rw [Int32.lt_iff_toInt_lt, show (0 : Int32).toInt = 0 from rfl]; have := h.1; omega
theorem own_cap8 {c : Int32} (h : own_cap c) : c.toNatClampNeg ≤ 8 := by
  have := h.2; unfold Int32.toNatClampNeg; omega
theorem own_cap1 {c : Int32} (h : own_cap c) : ¬ c < 1 := by
  rw [Int32.lt_iff_toInt_lt, show (1 : Int32).toInt = 1 from rfl]; have := h.1; omega
set_option maxRecDepth 20000 in
theorem own_127 : ∀ k, k < 128 → (Int32.ofNat k).toUInt32.toUInt16.toUInt32.toInt32 = Int32.ofNat k ∧ (Int32.ofNat k).toInt8.toInt32 = Int32.ofNat k := by decide +kernel
theorem own_hb (z : Int32) : nar .byte (((z &&& (127 : Int32)).toUInt32.toUInt16.toUInt32.toInt32).toInt8.toInt32) = (z &&& (127 : Int32)).toUInt32.toUInt16.toUInt32.toInt32 := by
  have e : (z &&& (127 : Int32)).toInt = z.toInt % 2 ^ 7 := Jvm.Kit.i32_mask z 127 (k := 7) (by decide) (by decide)
  obtain ⟨k, hk, ek⟩ : ∃ k, k < 128 ∧ (z &&& (127 : Int32)) = Int32.ofNat k := by
    refine ⟨(z.toInt % 2 ^ 7).toNat, by omega, Int32.toInt_inj.mp ?_⟩
    rw [e, Int32.toInt_ofNat_of_lt (by omega)]; omega
  rw [ek, (own_127 k hk).1]
  show ((Int32.ofNat k).toInt8.toInt32).toInt8.toInt32 = _
  rw [(own_127 k hk).2, (own_127 k hk).2]
theorem own_eqk {N k k1 : Int32} (h1 : ¬ N < k) (h2 : N < k1) (h3 : k1.toInt = k.toInt + 1) : N = k := by
  rw [Int32.lt_iff_toInt_lt] at h1 h2
  exact Int32.toInt_inj.mp (by omega)
theorem own_ltk {N k k1 : Int32} (h : ¬ N < k1) (h3 : k.toInt < k1.toInt) : k < N := by
  rw [Int32.lt_iff_toInt_lt] at h ⊢; omega
theorem pd_0 : parseMethodDescriptor "(I)V" = some ⟨[.int], none⟩ := by decide +kernel
theorem pd_1 : parseMethodDescriptor "()V" = some ⟨[], none⟩ := by decide +kernel
theorem pd_2 : parseMethodDescriptor "(C)Lcom/example/notesmith/notesmith/report/LineBuffer;" = some ⟨[.char], some (.object "com/example/notesmith/notesmith/report/LineBuffer")⟩ := by decide +kernel
theorem pd_3 : parseMethodDescriptor "(II)I" = some ⟨[.int, .int], some .int⟩ := by decide +kernel
theorem pd_4 : parseMethodDescriptor "([BI)[B" = some ⟨[(.array .byte), .int], some (.array .byte)⟩ := by decide +kernel
theorem pd_5 : parseMethodDescriptor "(Ljava/lang/Object;ILjava/lang/Object;II)V" = some ⟨[(.object "java/lang/Object"), .int, (.object "java/lang/Object"), .int, .int], none⟩ := by decide +kernel
theorem pd_6 : parseMethodDescriptor "(CI)I" = some ⟨[.char, .int], some .int⟩ := by decide +kernel
theorem pd_7 : parseMethodDescriptor "()I" = some ⟨[], some .int⟩ := by decide +kernel
theorem d5_0 : decode jdk_29_method_65_code 0 = .ok (.iload_n 0, 1) := by decide +kernel
theorem d5_1 : decode jdk_29_method_65_code 1 = .ok (.iload_n 1, 1) := by decide +kernel
theorem d5_2 : decode jdk_29_method_65_code 2 = .ok (.if_icmp .lt 7, 3) := by decide +kernel
theorem d5_5 : decode jdk_29_method_65_code 5 = .ok (.iload_n 0, 1) := by decide +kernel
theorem d5_6 : decode jdk_29_method_65_code 6 = .ok (.goto 4, 3) := by decide +kernel
theorem d5_9 : decode jdk_29_method_65_code 9 = .ok (.iload_n 1, 1) := by decide +kernel
theorem d5_10 : decode jdk_29_method_65_code 10 = .ok (.ireturn, 1) := by decide +kernel
theorem ef_rm5 (m : MethodId) (x1 : Int32) (x2 : Int32) : entryFrame m #[(.int x1), (.int x2)] 2 = mkF m 0 #[.val (.int x1), .val (.int x2)] [] := by first | (simp [entryFrame, mkF, argsToLocals, Value.category]; done) | rfl
def Q_rm5 (Z : State) (x1 : Int32) (x2 : Int32) (h0 : Heap) (n0 : Nat) (v : Option Value) (h : Heap) (L : List Loc) : Prop := v = some (.int (own_imax x1 x2)) ∧ Fr n0 L ∧ h = h0
set_option maxRecDepth 65536 in
set_option maxHeartbeats 40000000 in
theorem rm5 (l : Launch) (Z : State) (a0 : Array Value) (hw : ∀ d ∈ tables_1, d.before a0 Z = true) (ws : List Jvm.Cond) (x1 : Int32) (x2 : Int32) (h0 : Heap) (n0 : Nat) (Z0 : n0 ≤ h0.size) :
    MetFree l (⟨"java/lang/Math", "max", "(II)I"⟩ : MethodName) (head1 (Jvm.Cond.code (⟨"java/lang/Math", "max", "(II)I"⟩ : MethodName) jdk_29_method_65_code 2 (some .int) :: ws) ({ frames := 0, cells := 0, slots := 0, locals := 0 } : Room)) (fun as₉ U => as₉ = #[(.int x1), (.int x2)] ∧ Z.Warmed39 U.vm ∧ U.heap = h0) (fun _ _ _ _ _ => True) (fun _ U o₉ U' => ∃ v L, o₉ = .returned v ∧ Q_rm5 Z x1 x2 h0 n0 v U'.heap L ∧ FrameEnd U o₉ U' L ({ frames := 0, cells := 0, slots := 0, locals := 0 } : Room).cells ({ frames := 0, cells := 0, slots := 0, locals := 0 } : Room).slots) := by
  refine MetFree.of_bodySF (Jvm.Free.JP.mathPlain rfl (by decide +kernel)) hisR ?_
  intro p e s m args below meth c s₁ Bd hml0 hP hK
  obtain ⟨rfl, hZ, hh⟩ := hP
  have hx := Bd.exec
  have hby := Bd.bytes
  have hml : c.maxLocals = 2 := hml0
  have hown : s.vm.findClass "java/lang/Math" = some m.cls := findClass_of_methodNamed Bd.named
  have hnm := (name_of_methodNamed Bd.named Bd.method).1
  have X0 : Stand p l e ({ frames := 0, cells := 0, slots := 0, locals := 0 } : Room) s m #[(.int x1), (.int x2)] below meth c s₁ [] 0 0 := Stand.of_body Bd
  have e0 : s₁.heap = h0 := by rw [← hh, Bd.state]; rfl
  have N0 := Fr.nil n0
  show own_Go p e below (fun s₂ o₉ => s₂.status = .running ∧ Ended s₂ below o₉ ∧ ∃ v L, o₉ = .returned v ∧ Q_rm5 Z x1 x2 h0 n0 v s₂.heap L ∧ FrameEnd s o₉ s₂ L ({ frames := 0, cells := 0, slots := 0, locals := 0 } : Room).cells ({ frames := 0, cells := 0, slots := 0, locals := 0 } : Room).slots) (s₁.setTop (entryFrame m #[(.int x1), (.int x2)] 2))
  rw [ef_rm5 m x1 x2]
  refine own_step (s₁.setTop (mkF m 1 #[.val (.int x1), .val (.int x2)] [(.int x1)])) (fun t₀ k₀ => XS.iloadN X0.here hx rfl (hb hby d5_0) rfl k₀) ?_
  refine own_step (s₁.setTop (mkF m 2 #[.val (.int x1), .val (.int x2)] [(.int x2), (.int x1)])) (fun t₀ k₀ => XS.iloadN X0.here hx rfl (hb hby d5_1) rfl k₀) ?_
  by_cases hc2 : x1 < x2
  · skip
    refine own_step (s₁.setTop (mkF m 9 #[.val (.int x1), .val (.int x2)] [])) (fun t₀ k₀ => XS.icmpYes X0.here hx rfl (pc0 := 2) (pc' := 9) rfl (hb hby d5_2) rfl (tlt hc2).1 (by decide) (by decide) k₀) ?_
    refine own_step (s₁.setTop (mkF m 10 #[.val (.int x1), .val (.int x2)] [(.int x2)])) (fun t₀ k₀ => XS.iloadN X0.here hx rfl (hb hby d5_9) rfl k₀) ?_
    obtain ⟨fs, hr, hrun, hended, hW, hsame⟩ := X0.leave (v := some (.int x2)) (fun h => by rw [Bd.returns] at h; cases h)
    refine ⟨_, _, ?_, hrun, hended, _, _, rfl, ?_, ⟨_, rfl⟩, hW, hsame.mono (by decide) (by decide)⟩
    · exact retI X0 hx Bd.returns (hb hby d5_10) hr
    · show Q_rm5 Z x1 x2 h0 n0 _ s₁.heap _
      rw [e0]
      exact ⟨by simp [own_imax, hc2], N0, rfl⟩
  · skip
    refine own_step (s₁.setTop (mkF m 5 #[.val (.int x1), .val (.int x2)] [])) (fun t₀ k₀ => XS.icmpNo X0.here hx rfl (hb hby d5_2) rfl (flt hc2).1 k₀) ?_
    refine own_step (s₁.setTop (mkF m 6 #[.val (.int x1), .val (.int x2)] [(.int x1)])) (fun t₀ k₀ => XS.iloadN X0.here hx rfl (hb hby d5_5) rfl k₀) ?_
    refine own_step (s₁.setTop (mkF m 10 #[.val (.int x1), .val (.int x2)] [(.int x1)])) (fun t₀ k₀ => XS.goto X0.here hx rfl (pc0 := 6) (pc' := 10) rfl (hb hby d5_6) (by decide) (by decide) k₀) ?_
    obtain ⟨fs, hr, hrun, hended, hW, hsame⟩ := X0.leave (v := some (.int x1)) (fun h => by rw [Bd.returns] at h; cases h)
    refine ⟨_, _, ?_, hrun, hended, _, _, rfl, ?_, ⟨_, rfl⟩, hW, hsame.mono (by decide) (by decide)⟩
    · exact retI X0 hx Bd.returns (hb hby d5_10) hr
    · show Q_rm5 Z x1 x2 h0 n0 _ s₁.heap _
      rw [e0]
      exact ⟨by simp [own_imax, hc2], N0, rfl⟩
theorem d7_0 : decode jdk_29_method_69_code 0 = .ok (.iload_n 0, 1) := by decide +kernel
theorem d7_1 : decode jdk_29_method_69_code 1 = .ok (.iload_n 1, 1) := by decide +kernel
theorem d7_2 : decode jdk_29_method_69_code 2 = .ok (.if_icmp .gt 7, 3) := by decide +kernel
theorem d7_5 : decode jdk_29_method_69_code 5 = .ok (.iload_n 0, 1) := by decide +kernel
theorem d7_6 : decode jdk_29_method_69_code 6 = .ok (.goto 4, 3) := by decide +kernel
theorem d7_9 : decode jdk_29_method_69_code 9 = .ok (.iload_n 1, 1) := by decide +kernel
theorem d7_10 : decode jdk_29_method_69_code 10 = .ok (.ireturn, 1) := by decide +kernel
theorem ef_rm7 (m : MethodId) (x1 : Int32) (x2 : Int32) : entryFrame m #[(.int x1), (.int x2)] 2 = mkF m 0 #[.val (.int x1), .val (.int x2)] [] := by first | (simp [entryFrame, mkF, argsToLocals, Value.category]; done) | rfl
def Q_rm7 (Z : State) (x1 : Int32) (x2 : Int32) (h0 : Heap) (n0 : Nat) (v : Option Value) (h : Heap) (L : List Loc) : Prop := v = some (.int (own_imin x1 x2)) ∧ Fr n0 L ∧ h = h0
set_option maxRecDepth 65536 in
set_option maxHeartbeats 40000000 in
theorem rm7 (l : Launch) (Z : State) (a0 : Array Value) (hw : ∀ d ∈ tables_1, d.before a0 Z = true) (ws : List Jvm.Cond) (x1 : Int32) (x2 : Int32) (h0 : Heap) (n0 : Nat) (Z0 : n0 ≤ h0.size) :
    MetFree l (⟨"java/lang/Math", "min", "(II)I"⟩ : MethodName) (head1 (Jvm.Cond.code (⟨"java/lang/Math", "min", "(II)I"⟩ : MethodName) jdk_29_method_69_code 2 (some .int) :: ws) ({ frames := 0, cells := 0, slots := 0, locals := 0 } : Room)) (fun as₉ U => as₉ = #[(.int x1), (.int x2)] ∧ Z.Warmed39 U.vm ∧ U.heap = h0) (fun _ _ _ _ _ => True) (fun _ U o₉ U' => ∃ v L, o₉ = .returned v ∧ Q_rm7 Z x1 x2 h0 n0 v U'.heap L ∧ FrameEnd U o₉ U' L ({ frames := 0, cells := 0, slots := 0, locals := 0 } : Room).cells ({ frames := 0, cells := 0, slots := 0, locals := 0 } : Room).slots) := by
  refine MetFree.of_bodySF (Jvm.Free.JP.mathPlain rfl (by decide +kernel)) hisR ?_
  intro p e s m args below meth c s₁ Bd hml0 hP hK
  obtain ⟨rfl, hZ, hh⟩ := hP
  have hx := Bd.exec
  have hby := Bd.bytes
  have hml : c.maxLocals = 2 := hml0
  have hown : s.vm.findClass "java/lang/Math" = some m.cls := findClass_of_methodNamed Bd.named
  have hnm := (name_of_methodNamed Bd.named Bd.method).1
  have X0 : Stand p l e ({ frames := 0, cells := 0, slots := 0, locals := 0 } : Room) s m #[(.int x1), (.int x2)] below meth c s₁ [] 0 0 := Stand.of_body Bd
  have e0 : s₁.heap = h0 := by rw [← hh, Bd.state]; rfl
  have N0 := Fr.nil n0
  show own_Go p e below (fun s₂ o₉ => s₂.status = .running ∧ Ended s₂ below o₉ ∧ ∃ v L, o₉ = .returned v ∧ Q_rm7 Z x1 x2 h0 n0 v s₂.heap L ∧ FrameEnd s o₉ s₂ L ({ frames := 0, cells := 0, slots := 0, locals := 0 } : Room).cells ({ frames := 0, cells := 0, slots := 0, locals := 0 } : Room).slots) (s₁.setTop (entryFrame m #[(.int x1), (.int x2)] 2))
  rw [ef_rm7 m x1 x2]
  refine own_step (s₁.setTop (mkF m 1 #[.val (.int x1), .val (.int x2)] [(.int x1)])) (fun t₀ k₀ => XS.iloadN X0.here hx rfl (hb hby d7_0) rfl k₀) ?_
  refine own_step (s₁.setTop (mkF m 2 #[.val (.int x1), .val (.int x2)] [(.int x2), (.int x1)])) (fun t₀ k₀ => XS.iloadN X0.here hx rfl (hb hby d7_1) rfl k₀) ?_
  by_cases hc2 : x2 < x1
  · skip
    refine own_step (s₁.setTop (mkF m 9 #[.val (.int x1), .val (.int x2)] [])) (fun t₀ k₀ => XS.icmpYes X0.here hx rfl (pc0 := 2) (pc' := 9) rfl (hb hby d7_2) rfl (tlt hc2).2.2.1 (by decide) (by decide) k₀) ?_
    refine own_step (s₁.setTop (mkF m 10 #[.val (.int x1), .val (.int x2)] [(.int x2)])) (fun t₀ k₀ => XS.iloadN X0.here hx rfl (hb hby d7_9) rfl k₀) ?_
    obtain ⟨fs, hr, hrun, hended, hW, hsame⟩ := X0.leave (v := some (.int x2)) (fun h => by rw [Bd.returns] at h; cases h)
    refine ⟨_, _, ?_, hrun, hended, _, _, rfl, ?_, ⟨_, rfl⟩, hW, hsame.mono (by decide) (by decide)⟩
    · exact retI X0 hx Bd.returns (hb hby d7_10) hr
    · show Q_rm7 Z x1 x2 h0 n0 _ s₁.heap _
      rw [e0]
      exact ⟨by simp [own_imin, hc2], N0, rfl⟩
  · skip
    refine own_step (s₁.setTop (mkF m 5 #[.val (.int x1), .val (.int x2)] [])) (fun t₀ k₀ => XS.icmpNo X0.here hx rfl (hb hby d7_2) rfl (flt hc2).2.2.1 k₀) ?_
    refine own_step (s₁.setTop (mkF m 6 #[.val (.int x1), .val (.int x2)] [(.int x1)])) (fun t₀ k₀ => XS.iloadN X0.here hx rfl (hb hby d7_5) rfl k₀) ?_
    refine own_step (s₁.setTop (mkF m 10 #[.val (.int x1), .val (.int x2)] [(.int x1)])) (fun t₀ k₀ => XS.goto X0.here hx rfl (pc0 := 6) (pc' := 10) rfl (hb hby d7_6) (by decide) (by decide) k₀) ?_
    obtain ⟨fs, hr, hrun, hended, hW, hsame⟩ := X0.leave (v := some (.int x1)) (fun h => by rw [Bd.returns] at h; cases h)
    refine ⟨_, _, ?_, hrun, hended, _, _, rfl, ?_, ⟨_, rfl⟩, hW, hsame.mono (by decide) (by decide)⟩
    · exact retI X0 hx Bd.returns (hb hby d7_10) hr
    · show Q_rm7 Z x1 x2 h0 n0 _ s₁.heap _
      rw [e0]
      exact ⟨by simp [own_imin, hc2], N0, rfl⟩
theorem d1_0 : decode prog_104_method_1_code 0 = .ok (.aload_n 0, 1) := by decide +kernel
theorem d1_1 : decode prog_104_method_1_code 1 = .ok (.invokespecial 1, 3) := by decide +kernel
theorem d1_4 : decode prog_104_method_1_code 4 = .ok (.aload_n 0, 1) := by decide +kernel
theorem d1_5 : decode prog_104_method_1_code 5 = .ok (.iload_n 1, 1) := by decide +kernel
theorem d1_6 : decode prog_104_method_1_code 6 = .ok (.newarray .byte, 2) := by decide +kernel
theorem d1_8 : decode prog_104_method_1_code 8 = .ok (.putfield 7, 3) := by decide +kernel
theorem d1_11 : decode prog_104_method_1_code 11 = .ok (.return_, 1) := by decide +kernel
theorem pn_1 : plainName "com/example/notesmith/notesmith/report/LineBuffer" = true := by first | (simp [plainName, overriddenIn]; done) | decide +kernel
theorem ef_rm1 (m : MethodId) (a : Addr) (cap : Int32) : entryFrame m #[(.ref a), (.int cap)] 2 = mkF m 0 #[.val (.ref a), .val (.int cap)] [] := by first | (simp [entryFrame, mkF, argsToLocals, Value.category]; done) | rfl
def Q_rm1 (Z : State) (a : Addr) (cap : Int32) (h0 : Heap) (n0 : Nat) (v : Option Value) (h : Heap) (L : List Loc) : Prop := ∃ (ba : Addr) (kc : ClassId), v = none ∧ Fr n0 L ∧ n0 ≤ h.size ∧ n0 ≤ ba ∧ Exa Z h a "com/example/notesmith/notesmith/report/LineBuffer" ∧ Fld Z h a "com/example/notesmith/notesmith/report/LineBuffer" "bytes" "[B" (.ref ba) ∧ Fld Z h a "com/example/notesmith/notesmith/report/LineBuffer" "length" "I" (.int (0 : Int32)) ∧ Arv Z h ba kc .byte cap [(.int (0 : Int32)), (.int (0 : Int32)), (.int (0 : Int32)), (.int (0 : Int32))] (.int (0 : Int32))
set_option maxRecDepth 65536 in
set_option maxHeartbeats 40000000 in
theorem rm1 (l : Launch) (Z : State) (a0 : Array Value) (hw : ∀ d ∈ tables_1, d.before a0 Z = true) (ws : List Jvm.Cond) (a : Addr) (cap : Int32) (h0 : Heap) (n0 : Nat) (Z0 : n0 ≤ h0.size) (Ea : Exa Z h0 a "com/example/notesmith/notesmith/report/LineBuffer") (Fb : Fld Z h0 a "com/example/notesmith/notesmith/report/LineBuffer" "bytes" "[B" .null) (Fl : Fld Z h0 a "com/example/notesmith/notesmith/report/LineBuffer" "length" "I" (.int (0 : Int32))) (ga : n0 ≤ a) (hcap : own_cap cap) :
    MetFree l (⟨"com/example/notesmith/notesmith/report/LineBuffer", "<init>", "(I)V"⟩ : MethodName) (head1 (Jvm.Cond.code (⟨"com/example/notesmith/notesmith/report/LineBuffer", "<init>", "(I)V"⟩ : MethodName) prog_104_method_1_code 2 none :: ws) ({ frames := 1, cells := 1, slots := 8, locals := 12 } : Room)) (fun as₉ U => as₉ = #[(.ref a), (.int cap)] ∧ Z.Warmed39 U.vm ∧ U.heap = h0) (fun _ _ _ _ _ => True) (fun _ U o₉ U' => ∃ v L, o₉ = .returned v ∧ Q_rm1 Z a cap h0 n0 v U'.heap L ∧ FrameEnd U o₉ U' L ({ frames := 1, cells := 1, slots := 8, locals := 12 } : Room).cells ({ frames := 1, cells := 1, slots := 8, locals := 12 } : Room).slots) := by
  refine MetFree.of_bodySF (plainFor_of_name pn_1) hisR ?_
  intro p e s m args below meth c s₁ Bd hml0 hP hK
  obtain ⟨rfl, hZ, hh⟩ := hP
  have hx := Bd.exec
  have hby := Bd.bytes
  have hml : c.maxLocals = 2 := hml0
  have hown : s.vm.findClass "com/example/notesmith/notesmith/report/LineBuffer" = some m.cls := findClass_of_methodNamed Bd.named
  have hnm := (name_of_methodNamed Bd.named Bd.method).1
  have X0 : Stand p l e ({ frames := 1, cells := 1, slots := 8, locals := 12 } : Room) s m #[(.ref a), (.int cap)] below meth c s₁ [] 0 0 := Stand.of_body Bd
  have e0 : s₁.heap = h0 := by rw [← hh, Bd.state]; rfl
  have N0 := Fr.nil n0
  show own_Go p e below (fun s₂ o₉ => s₂.status = .running ∧ Ended s₂ below o₉ ∧ ∃ v L, o₉ = .returned v ∧ Q_rm1 Z a cap h0 n0 v s₂.heap L ∧ FrameEnd s o₉ s₂ L ({ frames := 1, cells := 1, slots := 8, locals := 12 } : Room).cells ({ frames := 1, cells := 1, slots := 8, locals := 12 } : Room).slots) (s₁.setTop (entryFrame m #[(.ref a), (.int cap)] 2))
  rw [ef_rm1 m a cap]
  refine own_step (s₁.setTop (mkF m 1 #[.val (.ref a), .val (.int cap)] [(.ref a)])) (fun t₀ k₀ => XS.aloadN X0.here hx rfl (hb hby d1_0) rfl rfl k₀) ?_
  obtain ⟨T1, X1, e1, st1⟩ := initO X0 hx hZ hown (hw _ (List.mem_of_getElem? (i := 7) rfl)) (hw _ (List.mem_of_getElem? (i := 8) rfl)) (hw _ (List.mem_of_getElem? (i := 9) rfl)) e0 (g := (mkF m 1 #[.val (.ref a), .val (.int cap)] [(.ref a)])) rfl (by rw [hml]; rfl) rfl (hb hby d1_1) (by decide) (W := 0) (by show 2 * 0 + _ ≤ _; exact Nat.le_of_eq rfl) (by decide)
  refine own_step (T1.setTop (mkF m 4 #[.val (.ref a), .val (.int cap)] [])) (fun t₀ k₀ => st1 t₀ k₀) ?_
  refine own_step (T1.setTop (mkF m 5 #[.val (.ref a), .val (.int cap)] [(.ref a)])) (fun t₀ k₀ => XS.aloadN X1.here hx rfl (hb hby d1_4) rfl rfl k₀) ?_
  refine own_step (T1.setTop (mkF m 6 #[.val (.ref a), .val (.int cap)] [(.int cap), (.ref a)])) (fun t₀ k₀ => XS.iloadN X1.here hx rfl (hb hby d1_5) rfl k₀) ?_
  obtain ⟨T2, h2, k2, X2, e2, E2, A2, st2⟩ := newP X1 hx hZ (hw _ (List.mem_of_getElem? (i := 10) rfl)) e1 (g := (mkF m 6 #[.val (.ref a), .val (.int cap)] [(.int cap), (.ref a)])) rfl (hb hby d1_6) rfl (own_cap0 hcap) (cap := 8) (own_cap8 hcap) (by decide) (by decide) (by decide)
  obtain ⟨b2, g2⟩ : ∃ z, z = h0.size := ⟨_, rfl⟩
  rw [← g2] at A2 st2
  have ne3 : a ≠ b2 := Nat.ne_of_lt (Nat.lt_of_lt_of_le Ea.lt (Nat.le_of_eq g2.symm))
  have fr_b2 : n0 ≤ b2 := Nat.le_trans Z0 (Nat.le_of_eq g2.symm)
  have f4 : Exa Z h2 a "com/example/notesmith/notesmith/report/LineBuffer" := Ea.ext E2
  have f5 : Fld Z h2 a "com/example/notesmith/notesmith/report/LineBuffer" "bytes" "[B" .null := Fb.ext E2
  have f6 : Fld Z h2 a "com/example/notesmith/notesmith/report/LineBuffer" "length" "I" (.int (0 : Int32)) := Fl.ext E2
  have V2 : Arv Z h2 b2 k2 .byte cap [(.int (0 : Int32)), (.int (0 : Int32)), (.int (0 : Int32)), (.int (0 : Int32))] (.int (0 : Int32)) := (Arv.new A2 (own_cap0 hcap)).pad (pad_rep [] (.int (0 : Int32)) 4)
  have z2 : n0 ≤ h2.size := Nat.le_trans Z0 E2.1
  refine own_step (T2.setTop (mkF m 8 #[.val (.ref a), .val (.int cap)] [(.ref b2), (.ref a)])) (fun t₀ k₀ => st2 t₀ k₀) ?_
  obtain ⟨T7, h7, X7, e7, W7, st7⟩ := putF X2 hx hZ hown (host := "") (Or.inl (hw _ (List.mem_of_getElem? (i := 11) rfl))) Via.refl e2 f5 f4 (Or.inl (hw _ (List.mem_of_getElem? (i := 12) rfl))) (hw _ (List.mem_of_getElem? (i := 2) rfl)) (ty := (.array .byte)) (by decide) rfl rfl (g := (mkF m 8 #[.val (.ref a), .val (.int cap)] [(.ref b2), (.ref a)])) rfl rfl (hb hby d1_8)
  have f8 : Fld Z h7 a "com/example/notesmith/notesmith/report/LineBuffer" "bytes" "[B" (.ref b2) := f5.same W7
  have f9 : Exa Z h7 a "com/example/notesmith/notesmith/report/LineBuffer" := f4.wr W7
  have f10 : Fld Z h7 a "com/example/notesmith/notesmith/report/LineBuffer" "length" "I" (.int (0 : Int32)) := f6.other W7 (Or.inr (slot_ne (Or.inl (hw _ (List.mem_of_getElem? (i := 23) rfl))) (Or.inl (hw _ (List.mem_of_getElem? (i := 12) rfl))) (by decide) (t := .int) (t' := (.array .byte)) (by decide) (by decide)))
  have f11 : Arv Z h7 b2 k2 .byte cap [(.int (0 : Int32)), (.int (0 : Int32)), (.int (0 : Int32)), (.int (0 : Int32))] (.int (0 : Int32)) := V2.other W7 (Ne.symm ne3)
  have N7 := Fr.snoc X7 N0 ga
  have z7 : n0 ≤ h7.size := Nat.le_trans z2 (Keep.of_wr W7).1
  refine own_step (T7.setTop (mkF m 11 #[.val (.ref a), .val (.int cap)] [])) (fun t₀ k₀ => st7 t₀ k₀) ?_
  obtain ⟨fs, hr, hrun, hended, hW, hsame⟩ := X7.leave (v := none) (fun _ => rfl)
  refine ⟨_, _, ?_, hrun, hended, _, _, rfl, ?_, ⟨_, rfl⟩, hW, hsame.mono (by decide) (by decide)⟩
  · exact X7.returnOut hx Bd.returns (hb hby d1_11) hr
  · show Q_rm1 Z a cap h0 n0 _ T7.heap _
    rw [e7]
    exact ⟨b2, k2, rfl, N7, z7, fr_b2, f9, f8, f10, f11⟩
theorem d6_0 : decode jdk_65_method_121_code 0 = .ok (.iload_n 1, 1) := by decide +kernel
theorem d6_1 : decode jdk_65_method_121_code 1 = .ok (.aload_n 0, 1) := by decide +kernel
theorem d6_2 : decode jdk_65_method_121_code 2 = .ok (.arraylength, 1) := by decide +kernel
theorem d6_3 : decode jdk_65_method_121_code 3 = .ok (.if_icmp .ne 11, 3) := by decide +kernel
theorem d6_6 : decode jdk_65_method_121_code 6 = .ok (.aload_n 0, 1) := by decide +kernel
theorem d6_7 : decode jdk_65_method_121_code 7 = .ok (.invokevirtual 310, 3) := by decide +kernel
theorem d6_10 : decode jdk_65_method_121_code 10 = .ok (.checkcast 311, 3) := by decide +kernel
theorem d6_13 : decode jdk_65_method_121_code 13 = .ok (.areturn, 1) := by decide +kernel
theorem d6_14 : decode jdk_65_method_121_code 14 = .ok (.iload_n 1, 1) := by decide +kernel
theorem d6_15 : decode jdk_65_method_121_code 15 = .ok (.newarray .byte, 2) := by decide +kernel
theorem d6_17 : decode jdk_65_method_121_code 17 = .ok (.astore_n 2, 1) := by decide +kernel
theorem d6_18 : decode jdk_65_method_121_code 18 = .ok (.aload_n 0, 1) := by decide +kernel
theorem d6_19 : decode jdk_65_method_121_code 19 = .ok (.iconst 0, 1) := by decide +kernel
theorem d6_20 : decode jdk_65_method_121_code 20 = .ok (.aload_n 2, 1) := by decide +kernel
theorem d6_21 : decode jdk_65_method_121_code 21 = .ok (.iconst 0, 1) := by decide +kernel
theorem d6_22 : decode jdk_65_method_121_code 22 = .ok (.aload_n 0, 1) := by decide +kernel
theorem d6_23 : decode jdk_65_method_121_code 23 = .ok (.arraylength, 1) := by decide +kernel
theorem d6_24 : decode jdk_65_method_121_code 24 = .ok (.iload_n 1, 1) := by decide +kernel
theorem d6_25 : decode jdk_65_method_121_code 25 = .ok (.invokestatic 304, 3) := by decide +kernel
theorem d6_28 : decode jdk_65_method_121_code 28 = .ok (.invokestatic 150, 3) := by decide +kernel
theorem d6_31 : decode jdk_65_method_121_code 31 = .ok (.aload_n 2, 1) := by decide +kernel
theorem d6_32 : decode jdk_65_method_121_code 32 = .ok (.areturn, 1) := by decide +kernel
theorem pn_6 : plainName "java/util/Arrays" = true := by first | (simp [plainName, overriddenIn]; done) | decide +kernel
theorem ef_rm6_1 (m : MethodId) (ba : Addr) : entryFrame m #[(.ref ba), (.int (2 : Int32))] 3 = mkF m 0 #[.val (.ref ba), .val (.int (2 : Int32)), .unset] [] := by first | (simp [entryFrame, mkF, argsToLocals, Value.category]; done) | rfl
def Q_rm6_1 (Z : State) (ba : Addr) (kb : ClassId) (b0 : Int32) (h0 : Heap) (n0 : Nat) (v : Option Value) (h : Heap) (L : List Loc) : Prop := ∃ (nb : Addr) (kc : ClassId), v = some (.ref nb) ∧ Fr n0 L ∧ Keep h0 h [] ∧ n0 ≤ nb ∧ Arv Z h nb kc .byte (2 : Int32) [(.int b0), (.int (0 : Int32))] (.int (0 : Int32))
set_option maxRecDepth 65536 in
set_option maxHeartbeats 40000000 in
theorem rm6_1 (l : Launch) (Z : State) (a0 : Array Value) (hw : ∀ d ∈ tables_1, d.before a0 Z = true) (ws : List Jvm.Cond) (ba : Addr) (kb : ClassId) (b0 : Int32) (h0 : Heap) (n0 : Nat) (Z0 : n0 ≤ h0.size) (Va : Arv Z h0 ba kb .byte (1 : Int32) [(.int b0)] (.int (0 : Int32))) :
    MetFree l (⟨"java/util/Arrays", "copyOf", "([BI)[B"⟩ : MethodName) (head1 (Jvm.Cond.code (⟨"java/util/Arrays", "copyOf", "([BI)[B"⟩ : MethodName) jdk_65_method_121_code 3 (some (.array .byte)) :: ws) ({ frames := 1, cells := 1, slots := 2, locals := 40 } : Room)) (fun as₉ U => as₉ = #[(.ref ba), (.int (2 : Int32))] ∧ Z.Warmed39 U.vm ∧ U.heap = h0) (fun _ _ _ _ _ => True) (fun _ U o₉ U' => ∃ v L, o₉ = .returned v ∧ Q_rm6_1 Z ba kb b0 h0 n0 v U'.heap L ∧ FrameEnd U o₉ U' L ({ frames := 1, cells := 1, slots := 2, locals := 40 } : Room).cells ({ frames := 1, cells := 1, slots := 2, locals := 40 } : Room).slots) := by
  refine MetFree.of_bodySF (plainFor_of_name pn_6) hisR ?_
  intro p e s m args below meth c s₁ Bd hml0 hP hK
  obtain ⟨rfl, hZ, hh⟩ := hP
  have hx := Bd.exec
  have hby := Bd.bytes
  have hml : c.maxLocals = 3 := hml0
  have hown : s.vm.findClass "java/util/Arrays" = some m.cls := findClass_of_methodNamed Bd.named
  have hnm := (name_of_methodNamed Bd.named Bd.method).1
  have X0 : Stand p l e ({ frames := 1, cells := 1, slots := 2, locals := 40 } : Room) s m #[(.ref ba), (.int (2 : Int32))] below meth c s₁ [] 0 0 := Stand.of_body Bd
  have e0 : s₁.heap = h0 := by rw [← hh, Bd.state]; rfl
  have N0 := Fr.nil n0
  show own_Go p e below (fun s₂ o₉ => s₂.status = .running ∧ Ended s₂ below o₉ ∧ ∃ v L, o₉ = .returned v ∧ Q_rm6_1 Z ba kb b0 h0 n0 v s₂.heap L ∧ FrameEnd s o₉ s₂ L ({ frames := 1, cells := 1, slots := 2, locals := 40 } : Room).cells ({ frames := 1, cells := 1, slots := 2, locals := 40 } : Room).slots) (s₁.setTop (entryFrame m #[(.ref ba), (.int (2 : Int32))] 3))
  rw [ef_rm6_1 m ba]
  refine own_step (s₁.setTop (mkF m 1 #[.val (.ref ba), .val (.int (2 : Int32)), .unset] [(.int (2 : Int32))])) (fun t₀ k₀ => XS.iloadN X0.here hx rfl (hb hby d6_0) rfl k₀) ?_
  refine own_step (s₁.setTop (mkF m 2 #[.val (.ref ba), .val (.int (2 : Int32)), .unset] [(.ref ba), (.int (2 : Int32))])) (fun t₀ k₀ => XS.aloadN X0.here hx rfl (hb hby d6_1) rfl rfl k₀) ?_
  obtain ⟨clo12, Aro12, qo12, So12, Mo12, Ho12, Go12⟩ := id Va
  refine own_step (s₁.setTop (mkF m 3 #[.val (.ref ba), .val (.int (2 : Int32)), .unset] [(.int (1 : Int32)), (.int (2 : Int32))])) (fun t₀ k₀ => X0.arraylength hx (by rw [e0]; exact Aro12.1) (State.isArrayOf_alike hZ.alike Aro12.2.1) (g := (mkF m 2 #[.val (.ref ba), .val (.int (2 : Int32)), .unset] [(.ref ba), (.int (2 : Int32))])) rfl rfl (hb hby d6_2) _ (by rw [len_of So12 Mo12]; exact k₀)) ?_
  refine own_step (s₁.setTop (mkF m 14 #[.val (.ref ba), .val (.int (2 : Int32)), .unset] [])) (fun t₀ k₀ => XS.icmpYes X0.here hx rfl (pc0 := 3) (pc' := 14) rfl (hb hby d6_3) rfl (by decide) (by decide) (by decide) k₀) ?_
  refine own_step (s₁.setTop (mkF m 15 #[.val (.ref ba), .val (.int (2 : Int32)), .unset] [(.int (2 : Int32))])) (fun t₀ k₀ => XS.iloadN X0.here hx rfl (hb hby d6_14) rfl k₀) ?_
  obtain ⟨T13, h13, k13, X13, e13, E13, A13, st13⟩ := newP X0 hx hZ (hw _ (List.mem_of_getElem? (i := 10) rfl)) e0 (g := (mkF m 15 #[.val (.ref ba), .val (.int (2 : Int32)), .unset] [(.int (2 : Int32))])) rfl (hb hby d6_15) rfl (by decide) (cap := 2) (by decide) (by decide) (by decide) (by decide)
  obtain ⟨b13, g13⟩ : ∃ z, z = h0.size := ⟨_, rfl⟩
  rw [← g13] at A13 st13
  have ne14 : ba ≠ b13 := Nat.ne_of_lt (Nat.lt_of_lt_of_le Va.lt (Nat.le_of_eq g13.symm))
  have fr_b13 : n0 ≤ b13 := Nat.le_trans Z0 (Nat.le_of_eq g13.symm)
  have sz_b13 : h0.size ≤ b13 := Nat.le_trans (Keep.refl h0 []).1 (Nat.le_of_eq g13.symm)
  have f15 : Arv Z h13 ba kb .byte (1 : Int32) [(.int b0)] (.int (0 : Int32)) := Va.ext E13
  have V13 : Arv Z h13 b13 k13 .byte (2 : Int32) [(.int (0 : Int32)), (.int (0 : Int32))] (.int (0 : Int32)) := (Arv.new A13 (by decide)).pad (pad_rep [] (.int (0 : Int32)) 2)
  have z13 : n0 ≤ h13.size := Nat.le_trans Z0 E13.1
  have K13 : Keep h0 h13 [] := (Keep.refl h0 []).ext E13
  refine own_step (T13.setTop (mkF m 17 #[.val (.ref ba), .val (.int (2 : Int32)), .unset] [(.ref b13)])) (fun t₀ k₀ => st13 t₀ k₀) ?_
  refine own_step (T13.setTop (mkF m 18 #[.val (.ref ba), .val (.int (2 : Int32)), .val (.ref b13)] [])) (fun t₀ k₀ => XS.astoreN X13.here hx rfl (hb hby d6_17) rfl rfl (l' := #[.val (.ref ba), .val (.int (2 : Int32)), .val (.ref b13)]) rfl k₀) ?_
  refine own_step (T13.setTop (mkF m 19 #[.val (.ref ba), .val (.int (2 : Int32)), .val (.ref b13)] [(.ref ba)])) (fun t₀ k₀ => XS.aloadN X13.here hx rfl (hb hby d6_18) rfl rfl k₀) ?_
  refine own_step (T13.setTop (mkF m 20 #[.val (.ref ba), .val (.int (2 : Int32)), .val (.ref b13)] [(.int (0 : Int32)), (.ref ba)])) (fun t₀ k₀ => XS.iconst X13.here hx rfl (hb hby d6_19) k₀) ?_
  refine own_step (T13.setTop (mkF m 21 #[.val (.ref ba), .val (.int (2 : Int32)), .val (.ref b13)] [(.ref b13), (.int (0 : Int32)), (.ref ba)])) (fun t₀ k₀ => XS.aloadN X13.here hx rfl (hb hby d6_20) rfl rfl k₀) ?_
  refine own_step (T13.setTop (mkF m 22 #[.val (.ref ba), .val (.int (2 : Int32)), .val (.ref b13)] [(.int (0 : Int32)), (.ref b13), (.int (0 : Int32)), (.ref ba)])) (fun t₀ k₀ => XS.iconst X13.here hx rfl (hb hby d6_21) k₀) ?_
  refine own_step (T13.setTop (mkF m 23 #[.val (.ref ba), .val (.int (2 : Int32)), .val (.ref b13)] [(.ref ba), (.int (0 : Int32)), (.ref b13), (.int (0 : Int32)), (.ref ba)])) (fun t₀ k₀ => XS.aloadN X13.here hx rfl (hb hby d6_22) rfl rfl k₀) ?_
  obtain ⟨clo16, Aro16, qo16, So16, Mo16, Ho16, Go16⟩ := id f15
  refine own_step (T13.setTop (mkF m 24 #[.val (.ref ba), .val (.int (2 : Int32)), .val (.ref b13)] [(.int (1 : Int32)), (.int (0 : Int32)), (.ref b13), (.int (0 : Int32)), (.ref ba)])) (fun t₀ k₀ => X13.arraylength hx (by rw [e13]; exact Aro16.1) (State.isArrayOf_alike hZ.alike Aro16.2.1) (g := (mkF m 23 #[.val (.ref ba), .val (.int (2 : Int32)), .val (.ref b13)] [(.ref ba), (.int (0 : Int32)), (.ref b13), (.int (0 : Int32)), (.ref ba)])) rfl rfl (hb hby d6_23) _ (by rw [len_of So16 Mo16]; exact k₀)) ?_
  refine own_step (T13.setTop (mkF m 25 #[.val (.ref ba), .val (.int (2 : Int32)), .val (.ref b13)] [(.int (2 : Int32)), (.int (1 : Int32)), (.int (0 : Int32)), (.ref b13), (.int (0 : Int32)), (.ref ba)])) (fun t₀ k₀ => XS.iloadN X13.here hx rfl (hb hby d6_24) rfl k₀) ?_
  obtain ⟨_, _, ⟨T17, L17, k17, n17⟩, -, X17, ⟨Lc17, hQ17, l17, y17, z17⟩, st17⟩ := Jvm.LawKit.callS X13 hx (y := (⟨"java/lang/Math", "min", "(II)I"⟩ : MethodName)) hown (mvT hZ (hw _ (List.mem_of_getElem? (i := 32) rfl))) (mvT hZ (hw _ (List.mem_of_getElem? (i := 33) rfl))) (mvT hZ (hw _ (List.mem_of_getElem? (i := 26) rfl))) (mvT hZ (hw _ (List.mem_of_getElem? (i := 34) rfl))) (by decide) (backOf (W := 4) (rm7 l Z a0 hw [] (1 : Int32) (2 : Int32) h13 n0 z13) hZ (hw _ (List.mem_of_getElem? (i := 34) rfl)) (hw _ (List.mem_of_getElem? (i := 26) rfl)) (by decide) (by decide)) (g := (mkF m 25 #[.val (.ref ba), .val (.int (2 : Int32)), .val (.ref b13)] [(.int (2 : Int32)), (.int (1 : Int32)), (.int (0 : Int32)), (.ref b13), (.int (0 : Int32)), (.ref ba)])) rfl (by rw [hml]; rfl) (argsL := [(.int (1 : Int32)), (.int (2 : Int32))]) (rest := [(.int (0 : Int32)), (.ref b13), (.int (0 : Int32)), (.ref ba)]) (lenOf pd_3 rfl) rfl (by show 2 * 0 + _ ≤ _; exact Nat.le_of_eq rfl) (hb hby d6_25) (fun _ _ => ⟨rfl, e13, (by decide : 1 + 0 ≤ _), (by decide : 2 + 0 ≤ _)⟩)
  dsimp only [Pt.U, Pt.locs, Pt.cells, Pt.slots] at X17 l17 y17 z17 st17 hQ17
  subst l17 y17 z17
  obtain ⟨rfl, N17q, e17⟩ := hQ17
  have N17 := Fr.app N0 N17q
  refine own_step (T17.setTop (mkF m 28 #[.val (.ref ba), .val (.int (2 : Int32)), .val (.ref b13)] [(.int (own_imin (1 : Int32) (2 : Int32))), (.int (0 : Int32)), (.ref b13), (.int (0 : Int32)), (.ref ba)])) (fun t₀ k₀ => st17 t₀ k₀) ?_
  rw [show own_imin (1 : Int32) (2 : Int32) = (1 : Int32) from by decide]
  obtain ⟨T18, h18, L18, X18, e18, N18, K18, V18, st18⟩ := cpA X17 hx hZ hown (hw _ (List.mem_of_getElem? (i := 35) rfl)) (hw _ (List.mem_of_getElem? (i := 38) rfl)) (hw _ (List.mem_of_getElem? (i := 36) rfl)) (hw _ (List.mem_of_getElem? (i := 37) rfl)) e17 f15 V13 (us := [(.int b0)]) (Or.inl ⟨rfl, rfl⟩) (by decide) (by decide) (by decide) (by decide) (by decide) rfl (by decide) N17 fr_b13 (g := (mkF m 28 #[.val (.ref ba), .val (.int (2 : Int32)), .val (.ref b13)] [(.int (1 : Int32)), (.int (0 : Int32)), (.ref b13), (.int (0 : Int32)), (.ref ba)])) rfl (by rw [hml]; rfl) rfl (hb hby d6_28) (by decide) (W := 0) (by show 2 * 0 + _ ≤ _; exact Nat.le_of_eq rfl) (by decide)
  have Vq18 : Arv Z h18 b13 k13 .byte (2 : Int32) [(.int b0), (.int (0 : Int32))] (.int (0 : Int32)) := V18
  have f19 : Arv Z h18 ba kb .byte (1 : Int32) [(.int b0)] (.int (0 : Int32)) := f15.keep K18 (ninS ne14 nin0)
  have z18 : n0 ≤ h18.size := Nat.le_trans z13 K18.1
  have Kq18 : Keep h0 h18 [] := K13.trans K18 (allS (Or.inr sz_b13) all0)
  refine own_step (T18.setTop (mkF m 31 #[.val (.ref ba), .val (.int (2 : Int32)), .val (.ref b13)] [])) (fun t₀ k₀ => st18 t₀ k₀) ?_
  refine own_step (T18.setTop (mkF m 32 #[.val (.ref ba), .val (.int (2 : Int32)), .val (.ref b13)] [(.ref b13)])) (fun t₀ k₀ => XS.aloadN X18.here hx rfl (hb hby d6_31) rfl rfl k₀) ?_
  obtain ⟨fs, hr, hrun, hended, hW, hsame⟩ := X18.leave (v := some (.ref b13)) (fun h => by rw [Bd.returns] at h; cases h)
  refine ⟨_, _, ?_, hrun, hended, _, _, rfl, ?_, ⟨_, rfl⟩, hW, hsame.mono (by decide) (by decide)⟩
  · jvm_step X18.here [X18.here.top, hx, (hb hby d6_32), X18.method', Bd.returns, Value.isRef, FieldType.isReference]
    first | (intro acts; rw [hr _ acts rfl rfl rfl]) | rw [hr _ _ rfl rfl rfl]
    exact Steps.refl _
  · show Q_rm6_1 Z ba kb b0 h0 n0 _ T18.heap _
    rw [e18]
    exact ⟨b13, k13, rfl, N18, Kq18, fr_b13, Vq18⟩
theorem ef_rm6_2 (m : MethodId) (ba : Addr) : entryFrame m #[(.ref ba), (.int (4 : Int32))] 3 = mkF m 0 #[.val (.ref ba), .val (.int (4 : Int32)), .unset] [] := by first | (simp [entryFrame, mkF, argsToLocals, Value.category]; done) | rfl
def Q_rm6_2 (Z : State) (ba : Addr) (kb : ClassId) (b0 : Int32) (b1 : Int32) (h0 : Heap) (n0 : Nat) (v : Option Value) (h : Heap) (L : List Loc) : Prop := ∃ (nb : Addr) (kc : ClassId), v = some (.ref nb) ∧ Fr n0 L ∧ Keep h0 h [] ∧ n0 ≤ nb ∧ Arv Z h nb kc .byte (4 : Int32) [(.int b0), (.int b1), (.int (0 : Int32)), (.int (0 : Int32))] (.int (0 : Int32))
set_option maxRecDepth 65536 in
set_option maxHeartbeats 40000000 in
theorem rm6_2 (l : Launch) (Z : State) (a0 : Array Value) (hw : ∀ d ∈ tables_1, d.before a0 Z = true) (ws : List Jvm.Cond) (ba : Addr) (kb : ClassId) (b0 : Int32) (b1 : Int32) (h0 : Heap) (n0 : Nat) (Z0 : n0 ≤ h0.size) (Va : Arv Z h0 ba kb .byte (2 : Int32) [(.int b0), (.int b1)] (.int (0 : Int32))) :
    MetFree l (⟨"java/util/Arrays", "copyOf", "([BI)[B"⟩ : MethodName) (head1 (Jvm.Cond.code (⟨"java/util/Arrays", "copyOf", "([BI)[B"⟩ : MethodName) jdk_65_method_121_code 3 (some (.array .byte)) :: ws) ({ frames := 1, cells := 1, slots := 4, locals := 40 } : Room)) (fun as₉ U => as₉ = #[(.ref ba), (.int (4 : Int32))] ∧ Z.Warmed39 U.vm ∧ U.heap = h0) (fun _ _ _ _ _ => True) (fun _ U o₉ U' => ∃ v L, o₉ = .returned v ∧ Q_rm6_2 Z ba kb b0 b1 h0 n0 v U'.heap L ∧ FrameEnd U o₉ U' L ({ frames := 1, cells := 1, slots := 4, locals := 40 } : Room).cells ({ frames := 1, cells := 1, slots := 4, locals := 40 } : Room).slots) := by
  refine MetFree.of_bodySF (plainFor_of_name pn_6) hisR ?_
  intro p e s m args below meth c s₁ Bd hml0 hP hK
  obtain ⟨rfl, hZ, hh⟩ := hP
  have hx := Bd.exec
  have hby := Bd.bytes
  have hml : c.maxLocals = 3 := hml0
  have hown : s.vm.findClass "java/util/Arrays" = some m.cls := findClass_of_methodNamed Bd.named
  have hnm := (name_of_methodNamed Bd.named Bd.method).1
  have X0 : Stand p l e ({ frames := 1, cells := 1, slots := 4, locals := 40 } : Room) s m #[(.ref ba), (.int (4 : Int32))] below meth c s₁ [] 0 0 := Stand.of_body Bd
  have e0 : s₁.heap = h0 := by rw [← hh, Bd.state]; rfl
  have N0 := Fr.nil n0
  show own_Go p e below (fun s₂ o₉ => s₂.status = .running ∧ Ended s₂ below o₉ ∧ ∃ v L, o₉ = .returned v ∧ Q_rm6_2 Z ba kb b0 b1 h0 n0 v s₂.heap L ∧ FrameEnd s o₉ s₂ L ({ frames := 1, cells := 1, slots := 4, locals := 40 } : Room).cells ({ frames := 1, cells := 1, slots := 4, locals := 40 } : Room).slots) (s₁.setTop (entryFrame m #[(.ref ba), (.int (4 : Int32))] 3))
  rw [ef_rm6_2 m ba]
  refine own_step (s₁.setTop (mkF m 1 #[.val (.ref ba), .val (.int (4 : Int32)), .unset] [(.int (4 : Int32))])) (fun t₀ k₀ => XS.iloadN X0.here hx rfl (hb hby d6_0) rfl k₀) ?_
  refine own_step (s₁.setTop (mkF m 2 #[.val (.ref ba), .val (.int (4 : Int32)), .unset] [(.ref ba), (.int (4 : Int32))])) (fun t₀ k₀ => XS.aloadN X0.here hx rfl (hb hby d6_1) rfl rfl k₀) ?_
  obtain ⟨clo21, Aro21, qo21, So21, Mo21, Ho21, Go21⟩ := id Va
  refine own_step (s₁.setTop (mkF m 3 #[.val (.ref ba), .val (.int (4 : Int32)), .unset] [(.int (2 : Int32)), (.int (4 : Int32))])) (fun t₀ k₀ => X0.arraylength hx (by rw [e0]; exact Aro21.1) (State.isArrayOf_alike hZ.alike Aro21.2.1) (g := (mkF m 2 #[.val (.ref ba), .val (.int (4 : Int32)), .unset] [(.ref ba), (.int (4 : Int32))])) rfl rfl (hb hby d6_2) _ (by rw [len_of So21 Mo21]; exact k₀)) ?_
  refine own_step (s₁.setTop (mkF m 14 #[.val (.ref ba), .val (.int (4 : Int32)), .unset] [])) (fun t₀ k₀ => XS.icmpYes X0.here hx rfl (pc0 := 3) (pc' := 14) rfl (hb hby d6_3) rfl (by decide) (by decide) (by decide) k₀) ?_
  refine own_step (s₁.setTop (mkF m 15 #[.val (.ref ba), .val (.int (4 : Int32)), .unset] [(.int (4 : Int32))])) (fun t₀ k₀ => XS.iloadN X0.here hx rfl (hb hby d6_14) rfl k₀) ?_
  obtain ⟨T22, h22, k22, X22, e22, E22, A22, st22⟩ := newP X0 hx hZ (hw _ (List.mem_of_getElem? (i := 10) rfl)) e0 (g := (mkF m 15 #[.val (.ref ba), .val (.int (4 : Int32)), .unset] [(.int (4 : Int32))])) rfl (hb hby d6_15) rfl (by decide) (cap := 4) (by decide) (by decide) (by decide) (by decide)
  obtain ⟨b22, g22⟩ : ∃ z, z = h0.size := ⟨_, rfl⟩
  rw [← g22] at A22 st22
  have ne23 : ba ≠ b22 := Nat.ne_of_lt (Nat.lt_of_lt_of_le Va.lt (Nat.le_of_eq g22.symm))
  have fr_b22 : n0 ≤ b22 := Nat.le_trans Z0 (Nat.le_of_eq g22.symm)
  have sz_b22 : h0.size ≤ b22 := Nat.le_trans (Keep.refl h0 []).1 (Nat.le_of_eq g22.symm)
  have f24 : Arv Z h22 ba kb .byte (2 : Int32) [(.int b0), (.int b1)] (.int (0 : Int32)) := Va.ext E22
  have V22 : Arv Z h22 b22 k22 .byte (4 : Int32) [(.int (0 : Int32)), (.int (0 : Int32)), (.int (0 : Int32)), (.int (0 : Int32))] (.int (0 : Int32)) := (Arv.new A22 (by decide)).pad (pad_rep [] (.int (0 : Int32)) 4)
  have z22 : n0 ≤ h22.size := Nat.le_trans Z0 E22.1
  have K22 : Keep h0 h22 [] := (Keep.refl h0 []).ext E22
  refine own_step (T22.setTop (mkF m 17 #[.val (.ref ba), .val (.int (4 : Int32)), .unset] [(.ref b22)])) (fun t₀ k₀ => st22 t₀ k₀) ?_
  refine own_step (T22.setTop (mkF m 18 #[.val (.ref ba), .val (.int (4 : Int32)), .val (.ref b22)] [])) (fun t₀ k₀ => XS.astoreN X22.here hx rfl (hb hby d6_17) rfl rfl (l' := #[.val (.ref ba), .val (.int (4 : Int32)), .val (.ref b22)]) rfl k₀) ?_
  refine own_step (T22.setTop (mkF m 19 #[.val (.ref ba), .val (.int (4 : Int32)), .val (.ref b22)] [(.ref ba)])) (fun t₀ k₀ => XS.aloadN X22.here hx rfl (hb hby d6_18) rfl rfl k₀) ?_
  refine own_step (T22.setTop (mkF m 20 #[.val (.ref ba), .val (.int (4 : Int32)), .val (.ref b22)] [(.int (0 : Int32)), (.ref ba)])) (fun t₀ k₀ => XS.iconst X22.here hx rfl (hb hby d6_19) k₀) ?_
  refine own_step (T22.setTop (mkF m 21 #[.val (.ref ba), .val (.int (4 : Int32)), .val (.ref b22)] [(.ref b22), (.int (0 : Int32)), (.ref ba)])) (fun t₀ k₀ => XS.aloadN X22.here hx rfl (hb hby d6_20) rfl rfl k₀) ?_
  refine own_step (T22.setTop (mkF m 22 #[.val (.ref ba), .val (.int (4 : Int32)), .val (.ref b22)] [(.int (0 : Int32)), (.ref b22), (.int (0 : Int32)), (.ref ba)])) (fun t₀ k₀ => XS.iconst X22.here hx rfl (hb hby d6_21) k₀) ?_
  refine own_step (T22.setTop (mkF m 23 #[.val (.ref ba), .val (.int (4 : Int32)), .val (.ref b22)] [(.ref ba), (.int (0 : Int32)), (.ref b22), (.int (0 : Int32)), (.ref ba)])) (fun t₀ k₀ => XS.aloadN X22.here hx rfl (hb hby d6_22) rfl rfl k₀) ?_
  obtain ⟨clo25, Aro25, qo25, So25, Mo25, Ho25, Go25⟩ := id f24
  refine own_step (T22.setTop (mkF m 24 #[.val (.ref ba), .val (.int (4 : Int32)), .val (.ref b22)] [(.int (2 : Int32)), (.int (0 : Int32)), (.ref b22), (.int (0 : Int32)), (.ref ba)])) (fun t₀ k₀ => X22.arraylength hx (by rw [e22]; exact Aro25.1) (State.isArrayOf_alike hZ.alike Aro25.2.1) (g := (mkF m 23 #[.val (.ref ba), .val (.int (4 : Int32)), .val (.ref b22)] [(.ref ba), (.int (0 : Int32)), (.ref b22), (.int (0 : Int32)), (.ref ba)])) rfl rfl (hb hby d6_23) _ (by rw [len_of So25 Mo25]; exact k₀)) ?_
  refine own_step (T22.setTop (mkF m 25 #[.val (.ref ba), .val (.int (4 : Int32)), .val (.ref b22)] [(.int (4 : Int32)), (.int (2 : Int32)), (.int (0 : Int32)), (.ref b22), (.int (0 : Int32)), (.ref ba)])) (fun t₀ k₀ => XS.iloadN X22.here hx rfl (hb hby d6_24) rfl k₀) ?_
  obtain ⟨_, _, ⟨T26, L26, k26, n26⟩, -, X26, ⟨Lc26, hQ26, l26, y26, z26⟩, st26⟩ := Jvm.LawKit.callS X22 hx (y := (⟨"java/lang/Math", "min", "(II)I"⟩ : MethodName)) hown (mvT hZ (hw _ (List.mem_of_getElem? (i := 32) rfl))) (mvT hZ (hw _ (List.mem_of_getElem? (i := 33) rfl))) (mvT hZ (hw _ (List.mem_of_getElem? (i := 26) rfl))) (mvT hZ (hw _ (List.mem_of_getElem? (i := 34) rfl))) (by decide) (backOf (W := 4) (rm7 l Z a0 hw [] (2 : Int32) (4 : Int32) h22 n0 z22) hZ (hw _ (List.mem_of_getElem? (i := 34) rfl)) (hw _ (List.mem_of_getElem? (i := 26) rfl)) (by decide) (by decide)) (g := (mkF m 25 #[.val (.ref ba), .val (.int (4 : Int32)), .val (.ref b22)] [(.int (4 : Int32)), (.int (2 : Int32)), (.int (0 : Int32)), (.ref b22), (.int (0 : Int32)), (.ref ba)])) rfl (by rw [hml]; rfl) (argsL := [(.int (2 : Int32)), (.int (4 : Int32))]) (rest := [(.int (0 : Int32)), (.ref b22), (.int (0 : Int32)), (.ref ba)]) (lenOf pd_3 rfl) rfl (by show 2 * 0 + _ ≤ _; exact Nat.le_of_eq rfl) (hb hby d6_25) (fun _ _ => ⟨rfl, e22, (by decide : 1 + 0 ≤ _), (by decide : 4 + 0 ≤ _)⟩)
  dsimp only [Pt.U, Pt.locs, Pt.cells, Pt.slots] at X26 l26 y26 z26 st26 hQ26
  subst l26 y26 z26
  obtain ⟨rfl, N26q, e26⟩ := hQ26
  have N26 := Fr.app N0 N26q
  refine own_step (T26.setTop (mkF m 28 #[.val (.ref ba), .val (.int (4 : Int32)), .val (.ref b22)] [(.int (own_imin (2 : Int32) (4 : Int32))), (.int (0 : Int32)), (.ref b22), (.int (0 : Int32)), (.ref ba)])) (fun t₀ k₀ => st26 t₀ k₀) ?_
  rw [show own_imin (2 : Int32) (4 : Int32) = (2 : Int32) from by decide]
  obtain ⟨T27, h27, L27, X27, e27, N27, K27, V27, st27⟩ := cpA X26 hx hZ hown (hw _ (List.mem_of_getElem? (i := 35) rfl)) (hw _ (List.mem_of_getElem? (i := 38) rfl)) (hw _ (List.mem_of_getElem? (i := 36) rfl)) (hw _ (List.mem_of_getElem? (i := 37) rfl)) e26 f24 V22 (us := [(.int b0), (.int b1)]) (Or.inl ⟨rfl, rfl⟩) (by decide) (by decide) (by decide) (by decide) (by decide) rfl (by decide) N26 fr_b22 (g := (mkF m 28 #[.val (.ref ba), .val (.int (4 : Int32)), .val (.ref b22)] [(.int (2 : Int32)), (.int (0 : Int32)), (.ref b22), (.int (0 : Int32)), (.ref ba)])) rfl (by rw [hml]; rfl) rfl (hb hby d6_28) (by decide) (W := 0) (by show 2 * 0 + _ ≤ _; exact Nat.le_of_eq rfl) (by decide)
  have Vq27 : Arv Z h27 b22 k22 .byte (4 : Int32) [(.int b0), (.int b1), (.int (0 : Int32)), (.int (0 : Int32))] (.int (0 : Int32)) := V27
  have f28 : Arv Z h27 ba kb .byte (2 : Int32) [(.int b0), (.int b1)] (.int (0 : Int32)) := f24.keep K27 (ninS ne23 nin0)
  have z27 : n0 ≤ h27.size := Nat.le_trans z22 K27.1
  have Kq27 : Keep h0 h27 [] := K22.trans K27 (allS (Or.inr sz_b22) all0)
  refine own_step (T27.setTop (mkF m 31 #[.val (.ref ba), .val (.int (4 : Int32)), .val (.ref b22)] [])) (fun t₀ k₀ => st27 t₀ k₀) ?_
  refine own_step (T27.setTop (mkF m 32 #[.val (.ref ba), .val (.int (4 : Int32)), .val (.ref b22)] [(.ref b22)])) (fun t₀ k₀ => XS.aloadN X27.here hx rfl (hb hby d6_31) rfl rfl k₀) ?_
  obtain ⟨fs, hr, hrun, hended, hW, hsame⟩ := X27.leave (v := some (.ref b22)) (fun h => by rw [Bd.returns] at h; cases h)
  refine ⟨_, _, ?_, hrun, hended, _, _, rfl, ?_, ⟨_, rfl⟩, hW, hsame.mono (by decide) (by decide)⟩
  · jvm_step X27.here [X27.here.top, hx, (hb hby d6_32), X27.method', Bd.returns, Value.isRef, FieldType.isReference]
    first | (intro acts; rw [hr _ acts rfl rfl rfl]) | rw [hr _ _ rfl rfl rfl]
    exact Steps.refl _
  · show Q_rm6_2 Z ba kb b0 b1 h0 n0 _ T27.heap _
    rw [e27]
    exact ⟨b22, k22, rfl, N27, Kq27, fr_b22, Vq27⟩
theorem ef_rm6_3 (m : MethodId) (ba : Addr) : entryFrame m #[(.ref ba), (.int (6 : Int32))] 3 = mkF m 0 #[.val (.ref ba), .val (.int (6 : Int32)), .unset] [] := by first | (simp [entryFrame, mkF, argsToLocals, Value.category]; done) | rfl
def Q_rm6_3 (Z : State) (ba : Addr) (kb : ClassId) (b0 : Int32) (b1 : Int32) (b2 : Int32) (h0 : Heap) (n0 : Nat) (v : Option Value) (h : Heap) (L : List Loc) : Prop := ∃ (nb : Addr) (kc : ClassId), v = some (.ref nb) ∧ Fr n0 L ∧ Keep h0 h [] ∧ n0 ≤ nb ∧ Arv Z h nb kc .byte (6 : Int32) [(.int b0), (.int b1), (.int b2), (.int (0 : Int32)), (.int (0 : Int32)), (.int (0 : Int32))] (.int (0 : Int32))
set_option maxRecDepth 65536 in
set_option maxHeartbeats 40000000 in
theorem rm6_3 (l : Launch) (Z : State) (a0 : Array Value) (hw : ∀ d ∈ tables_1, d.before a0 Z = true) (ws : List Jvm.Cond) (ba : Addr) (kb : ClassId) (b0 : Int32) (b1 : Int32) (b2 : Int32) (h0 : Heap) (n0 : Nat) (Z0 : n0 ≤ h0.size) (Va : Arv Z h0 ba kb .byte (3 : Int32) [(.int b0), (.int b1), (.int b2)] (.int (0 : Int32))) :
    MetFree l (⟨"java/util/Arrays", "copyOf", "([BI)[B"⟩ : MethodName) (head1 (Jvm.Cond.code (⟨"java/util/Arrays", "copyOf", "([BI)[B"⟩ : MethodName) jdk_65_method_121_code 3 (some (.array .byte)) :: ws) ({ frames := 1, cells := 1, slots := 6, locals := 40 } : Room)) (fun as₉ U => as₉ = #[(.ref ba), (.int (6 : Int32))] ∧ Z.Warmed39 U.vm ∧ U.heap = h0) (fun _ _ _ _ _ => True) (fun _ U o₉ U' => ∃ v L, o₉ = .returned v ∧ Q_rm6_3 Z ba kb b0 b1 b2 h0 n0 v U'.heap L ∧ FrameEnd U o₉ U' L ({ frames := 1, cells := 1, slots := 6, locals := 40 } : Room).cells ({ frames := 1, cells := 1, slots := 6, locals := 40 } : Room).slots) := by
  refine MetFree.of_bodySF (plainFor_of_name pn_6) hisR ?_
  intro p e s m args below meth c s₁ Bd hml0 hP hK
  obtain ⟨rfl, hZ, hh⟩ := hP
  have hx := Bd.exec
  have hby := Bd.bytes
  have hml : c.maxLocals = 3 := hml0
  have hown : s.vm.findClass "java/util/Arrays" = some m.cls := findClass_of_methodNamed Bd.named
  have hnm := (name_of_methodNamed Bd.named Bd.method).1
  have X0 : Stand p l e ({ frames := 1, cells := 1, slots := 6, locals := 40 } : Room) s m #[(.ref ba), (.int (6 : Int32))] below meth c s₁ [] 0 0 := Stand.of_body Bd
  have e0 : s₁.heap = h0 := by rw [← hh, Bd.state]; rfl
  have N0 := Fr.nil n0
  show own_Go p e below (fun s₂ o₉ => s₂.status = .running ∧ Ended s₂ below o₉ ∧ ∃ v L, o₉ = .returned v ∧ Q_rm6_3 Z ba kb b0 b1 b2 h0 n0 v s₂.heap L ∧ FrameEnd s o₉ s₂ L ({ frames := 1, cells := 1, slots := 6, locals := 40 } : Room).cells ({ frames := 1, cells := 1, slots := 6, locals := 40 } : Room).slots) (s₁.setTop (entryFrame m #[(.ref ba), (.int (6 : Int32))] 3))
  rw [ef_rm6_3 m ba]
  refine own_step (s₁.setTop (mkF m 1 #[.val (.ref ba), .val (.int (6 : Int32)), .unset] [(.int (6 : Int32))])) (fun t₀ k₀ => XS.iloadN X0.here hx rfl (hb hby d6_0) rfl k₀) ?_
  refine own_step (s₁.setTop (mkF m 2 #[.val (.ref ba), .val (.int (6 : Int32)), .unset] [(.ref ba), (.int (6 : Int32))])) (fun t₀ k₀ => XS.aloadN X0.here hx rfl (hb hby d6_1) rfl rfl k₀) ?_
  obtain ⟨clo30, Aro30, qo30, So30, Mo30, Ho30, Go30⟩ := id Va
  refine own_step (s₁.setTop (mkF m 3 #[.val (.ref ba), .val (.int (6 : Int32)), .unset] [(.int (3 : Int32)), (.int (6 : Int32))])) (fun t₀ k₀ => X0.arraylength hx (by rw [e0]; exact Aro30.1) (State.isArrayOf_alike hZ.alike Aro30.2.1) (g := (mkF m 2 #[.val (.ref ba), .val (.int (6 : Int32)), .unset] [(.ref ba), (.int (6 : Int32))])) rfl rfl (hb hby d6_2) _ (by rw [len_of So30 Mo30]; exact k₀)) ?_
  refine own_step (s₁.setTop (mkF m 14 #[.val (.ref ba), .val (.int (6 : Int32)), .unset] [])) (fun t₀ k₀ => XS.icmpYes X0.here hx rfl (pc0 := 3) (pc' := 14) rfl (hb hby d6_3) rfl (by decide) (by decide) (by decide) k₀) ?_
  refine own_step (s₁.setTop (mkF m 15 #[.val (.ref ba), .val (.int (6 : Int32)), .unset] [(.int (6 : Int32))])) (fun t₀ k₀ => XS.iloadN X0.here hx rfl (hb hby d6_14) rfl k₀) ?_
  obtain ⟨T31, h31, k31, X31, e31, E31, A31, st31⟩ := newP X0 hx hZ (hw _ (List.mem_of_getElem? (i := 10) rfl)) e0 (g := (mkF m 15 #[.val (.ref ba), .val (.int (6 : Int32)), .unset] [(.int (6 : Int32))])) rfl (hb hby d6_15) rfl (by decide) (cap := 6) (by decide) (by decide) (by decide) (by decide)
  obtain ⟨b31, g31⟩ : ∃ z, z = h0.size := ⟨_, rfl⟩
  rw [← g31] at A31 st31
  have ne32 : ba ≠ b31 := Nat.ne_of_lt (Nat.lt_of_lt_of_le Va.lt (Nat.le_of_eq g31.symm))
  have fr_b31 : n0 ≤ b31 := Nat.le_trans Z0 (Nat.le_of_eq g31.symm)
  have sz_b31 : h0.size ≤ b31 := Nat.le_trans (Keep.refl h0 []).1 (Nat.le_of_eq g31.symm)
  have f33 : Arv Z h31 ba kb .byte (3 : Int32) [(.int b0), (.int b1), (.int b2)] (.int (0 : Int32)) := Va.ext E31
  have V31 : Arv Z h31 b31 k31 .byte (6 : Int32) [(.int (0 : Int32)), (.int (0 : Int32)), (.int (0 : Int32)), (.int (0 : Int32)), (.int (0 : Int32)), (.int (0 : Int32))] (.int (0 : Int32)) := (Arv.new A31 (by decide)).pad (pad_rep [] (.int (0 : Int32)) 6)
  have z31 : n0 ≤ h31.size := Nat.le_trans Z0 E31.1
  have K31 : Keep h0 h31 [] := (Keep.refl h0 []).ext E31
  refine own_step (T31.setTop (mkF m 17 #[.val (.ref ba), .val (.int (6 : Int32)), .unset] [(.ref b31)])) (fun t₀ k₀ => st31 t₀ k₀) ?_
  refine own_step (T31.setTop (mkF m 18 #[.val (.ref ba), .val (.int (6 : Int32)), .val (.ref b31)] [])) (fun t₀ k₀ => XS.astoreN X31.here hx rfl (hb hby d6_17) rfl rfl (l' := #[.val (.ref ba), .val (.int (6 : Int32)), .val (.ref b31)]) rfl k₀) ?_
  refine own_step (T31.setTop (mkF m 19 #[.val (.ref ba), .val (.int (6 : Int32)), .val (.ref b31)] [(.ref ba)])) (fun t₀ k₀ => XS.aloadN X31.here hx rfl (hb hby d6_18) rfl rfl k₀) ?_
  refine own_step (T31.setTop (mkF m 20 #[.val (.ref ba), .val (.int (6 : Int32)), .val (.ref b31)] [(.int (0 : Int32)), (.ref ba)])) (fun t₀ k₀ => XS.iconst X31.here hx rfl (hb hby d6_19) k₀) ?_
  refine own_step (T31.setTop (mkF m 21 #[.val (.ref ba), .val (.int (6 : Int32)), .val (.ref b31)] [(.ref b31), (.int (0 : Int32)), (.ref ba)])) (fun t₀ k₀ => XS.aloadN X31.here hx rfl (hb hby d6_20) rfl rfl k₀) ?_
  refine own_step (T31.setTop (mkF m 22 #[.val (.ref ba), .val (.int (6 : Int32)), .val (.ref b31)] [(.int (0 : Int32)), (.ref b31), (.int (0 : Int32)), (.ref ba)])) (fun t₀ k₀ => XS.iconst X31.here hx rfl (hb hby d6_21) k₀) ?_
  refine own_step (T31.setTop (mkF m 23 #[.val (.ref ba), .val (.int (6 : Int32)), .val (.ref b31)] [(.ref ba), (.int (0 : Int32)), (.ref b31), (.int (0 : Int32)), (.ref ba)])) (fun t₀ k₀ => XS.aloadN X31.here hx rfl (hb hby d6_22) rfl rfl k₀) ?_
  obtain ⟨clo34, Aro34, qo34, So34, Mo34, Ho34, Go34⟩ := id f33
  refine own_step (T31.setTop (mkF m 24 #[.val (.ref ba), .val (.int (6 : Int32)), .val (.ref b31)] [(.int (3 : Int32)), (.int (0 : Int32)), (.ref b31), (.int (0 : Int32)), (.ref ba)])) (fun t₀ k₀ => X31.arraylength hx (by rw [e31]; exact Aro34.1) (State.isArrayOf_alike hZ.alike Aro34.2.1) (g := (mkF m 23 #[.val (.ref ba), .val (.int (6 : Int32)), .val (.ref b31)] [(.ref ba), (.int (0 : Int32)), (.ref b31), (.int (0 : Int32)), (.ref ba)])) rfl rfl (hb hby d6_23) _ (by rw [len_of So34 Mo34]; exact k₀)) ?_
  refine own_step (T31.setTop (mkF m 25 #[.val (.ref ba), .val (.int (6 : Int32)), .val (.ref b31)] [(.int (6 : Int32)), (.int (3 : Int32)), (.int (0 : Int32)), (.ref b31), (.int (0 : Int32)), (.ref ba)])) (fun t₀ k₀ => XS.iloadN X31.here hx rfl (hb hby d6_24) rfl k₀) ?_
  obtain ⟨_, _, ⟨T35, L35, k35, n35⟩, -, X35, ⟨Lc35, hQ35, l35, y35, z35⟩, st35⟩ := Jvm.LawKit.callS X31 hx (y := (⟨"java/lang/Math", "min", "(II)I"⟩ : MethodName)) hown (mvT hZ (hw _ (List.mem_of_getElem? (i := 32) rfl))) (mvT hZ (hw _ (List.mem_of_getElem? (i := 33) rfl))) (mvT hZ (hw _ (List.mem_of_getElem? (i := 26) rfl))) (mvT hZ (hw _ (List.mem_of_getElem? (i := 34) rfl))) (by decide) (backOf (W := 4) (rm7 l Z a0 hw [] (3 : Int32) (6 : Int32) h31 n0 z31) hZ (hw _ (List.mem_of_getElem? (i := 34) rfl)) (hw _ (List.mem_of_getElem? (i := 26) rfl)) (by decide) (by decide)) (g := (mkF m 25 #[.val (.ref ba), .val (.int (6 : Int32)), .val (.ref b31)] [(.int (6 : Int32)), (.int (3 : Int32)), (.int (0 : Int32)), (.ref b31), (.int (0 : Int32)), (.ref ba)])) rfl (by rw [hml]; rfl) (argsL := [(.int (3 : Int32)), (.int (6 : Int32))]) (rest := [(.int (0 : Int32)), (.ref b31), (.int (0 : Int32)), (.ref ba)]) (lenOf pd_3 rfl) rfl (by show 2 * 0 + _ ≤ _; exact Nat.le_of_eq rfl) (hb hby d6_25) (fun _ _ => ⟨rfl, e31, (by decide : 1 + 0 ≤ _), (by decide : 6 + 0 ≤ _)⟩)
  dsimp only [Pt.U, Pt.locs, Pt.cells, Pt.slots] at X35 l35 y35 z35 st35 hQ35
  subst l35 y35 z35
  obtain ⟨rfl, N35q, e35⟩ := hQ35
  have N35 := Fr.app N0 N35q
  refine own_step (T35.setTop (mkF m 28 #[.val (.ref ba), .val (.int (6 : Int32)), .val (.ref b31)] [(.int (own_imin (3 : Int32) (6 : Int32))), (.int (0 : Int32)), (.ref b31), (.int (0 : Int32)), (.ref ba)])) (fun t₀ k₀ => st35 t₀ k₀) ?_
  rw [show own_imin (3 : Int32) (6 : Int32) = (3 : Int32) from by decide]
  obtain ⟨T36, h36, L36, X36, e36, N36, K36, V36, st36⟩ := cpA X35 hx hZ hown (hw _ (List.mem_of_getElem? (i := 35) rfl)) (hw _ (List.mem_of_getElem? (i := 38) rfl)) (hw _ (List.mem_of_getElem? (i := 36) rfl)) (hw _ (List.mem_of_getElem? (i := 37) rfl)) e35 f33 V31 (us := [(.int b0), (.int b1), (.int b2)]) (Or.inl ⟨rfl, rfl⟩) (by decide) (by decide) (by decide) (by decide) (by decide) rfl (by decide) N35 fr_b31 (g := (mkF m 28 #[.val (.ref ba), .val (.int (6 : Int32)), .val (.ref b31)] [(.int (3 : Int32)), (.int (0 : Int32)), (.ref b31), (.int (0 : Int32)), (.ref ba)])) rfl (by rw [hml]; rfl) rfl (hb hby d6_28) (by decide) (W := 0) (by show 2 * 0 + _ ≤ _; exact Nat.le_of_eq rfl) (by decide)
  have Vq36 : Arv Z h36 b31 k31 .byte (6 : Int32) [(.int b0), (.int b1), (.int b2), (.int (0 : Int32)), (.int (0 : Int32)), (.int (0 : Int32))] (.int (0 : Int32)) := V36
  have f37 : Arv Z h36 ba kb .byte (3 : Int32) [(.int b0), (.int b1), (.int b2)] (.int (0 : Int32)) := f33.keep K36 (ninS ne32 nin0)
  have z36 : n0 ≤ h36.size := Nat.le_trans z31 K36.1
  have Kq36 : Keep h0 h36 [] := K31.trans K36 (allS (Or.inr sz_b31) all0)
  refine own_step (T36.setTop (mkF m 31 #[.val (.ref ba), .val (.int (6 : Int32)), .val (.ref b31)] [])) (fun t₀ k₀ => st36 t₀ k₀) ?_
  refine own_step (T36.setTop (mkF m 32 #[.val (.ref ba), .val (.int (6 : Int32)), .val (.ref b31)] [(.ref b31)])) (fun t₀ k₀ => XS.aloadN X36.here hx rfl (hb hby d6_31) rfl rfl k₀) ?_
  obtain ⟨fs, hr, hrun, hended, hW, hsame⟩ := X36.leave (v := some (.ref b31)) (fun h => by rw [Bd.returns] at h; cases h)
  refine ⟨_, _, ?_, hrun, hended, _, _, rfl, ?_, ⟨_, rfl⟩, hW, hsame.mono (by decide) (by decide)⟩
  · jvm_step X36.here [X36.here.top, hx, (hb hby d6_32), X36.method', Bd.returns, Value.isRef, FieldType.isReference]
    first | (intro acts; rw [hr _ acts rfl rfl rfl]) | rw [hr _ _ rfl rfl rfl]
    exact Steps.refl _
  · show Q_rm6_3 Z ba kb b0 b1 b2 h0 n0 _ T36.heap _
    rw [e36]
    exact ⟨b31, k31, rfl, N36, Kq36, fr_b31, Vq36⟩
theorem d4_0 : decode prog_104_method_17_code 0 = .ok (.aload_n 0, 1) := by decide +kernel
theorem d4_1 : decode prog_104_method_17_code 1 = .ok (.getfield 13, 3) := by decide +kernel
theorem d4_4 : decode prog_104_method_17_code 4 = .ok (.iload_n 1, 1) := by decide +kernel
theorem d4_5 : decode prog_104_method_17_code 5 = .ok (.iadd, 1) := by decide +kernel
theorem d4_6 : decode prog_104_method_17_code 6 = .ok (.aload_n 0, 1) := by decide +kernel
theorem d4_7 : decode prog_104_method_17_code 7 = .ok (.getfield 7, 3) := by decide +kernel
theorem d4_10 : decode prog_104_method_17_code 10 = .ok (.arraylength, 1) := by decide +kernel
theorem d4_11 : decode prog_104_method_17_code 11 = .ok (.if_icmp .le 30, 3) := by decide +kernel
theorem d4_14 : decode prog_104_method_17_code 14 = .ok (.aload_n 0, 1) := by decide +kernel
theorem d4_15 : decode prog_104_method_17_code 15 = .ok (.aload_n 0, 1) := by decide +kernel
theorem d4_16 : decode prog_104_method_17_code 16 = .ok (.getfield 7, 3) := by decide +kernel
theorem d4_19 : decode prog_104_method_17_code 19 = .ok (.iconst 2, 1) := by decide +kernel
theorem d4_20 : decode prog_104_method_17_code 20 = .ok (.aload_n 0, 1) := by decide +kernel
theorem d4_21 : decode prog_104_method_17_code 21 = .ok (.getfield 7, 3) := by decide +kernel
theorem d4_24 : decode prog_104_method_17_code 24 = .ok (.arraylength, 1) := by decide +kernel
theorem d4_25 : decode prog_104_method_17_code 25 = .ok (.imul, 1) := by decide +kernel
theorem d4_26 : decode prog_104_method_17_code 26 = .ok (.aload_n 0, 1) := by decide +kernel
theorem d4_27 : decode prog_104_method_17_code 27 = .ok (.getfield 13, 3) := by decide +kernel
theorem d4_30 : decode prog_104_method_17_code 30 = .ok (.iload_n 1, 1) := by decide +kernel
theorem d4_31 : decode prog_104_method_17_code 31 = .ok (.iadd, 1) := by decide +kernel
theorem d4_32 : decode prog_104_method_17_code 32 = .ok (.invokestatic 79, 3) := by decide +kernel
theorem d4_35 : decode prog_104_method_17_code 35 = .ok (.invokestatic 83, 3) := by decide +kernel
theorem d4_38 : decode prog_104_method_17_code 38 = .ok (.putfield 7, 3) := by decide +kernel
theorem d4_41 : decode prog_104_method_17_code 41 = .ok (.return_, 1) := by decide +kernel
theorem ef_rm4_0 (m : MethodId) (a : Addr) : entryFrame m #[(.ref a), (.int (1 : Int32))] 2 = mkF m 0 #[.val (.ref a), .val (.int (1 : Int32))] [] := by first | (simp [entryFrame, mkF, argsToLocals, Value.category]; done) | rfl
def Q_rm4_0 (Z : State) (a : Addr) (ba : Addr) (kc : ClassId) (N : Int32) (h0 : Heap) (n0 : Nat) (v : Option Value) (h : Heap) (L : List Loc) : Prop := ∃ (nb : Addr) (kd : ClassId) (M : Int32), v = none ∧ Fr n0 L ∧ n0 ≤ h.size ∧ n0 ≤ nb ∧ ¬ M < 1 ∧ Exa Z h a "com/example/notesmith/notesmith/report/LineBuffer" ∧ Fld Z h a "com/example/notesmith/notesmith/report/LineBuffer" "bytes" "[B" (.ref nb) ∧ Fld Z h a "com/example/notesmith/notesmith/report/LineBuffer" "length" "I" (.int (0 : Int32)) ∧ Arv Z h nb kd .byte M [(.int (0 : Int32)), (.int (0 : Int32)), (.int (0 : Int32)), (.int (0 : Int32))] (.int (0 : Int32))
set_option maxRecDepth 65536 in
set_option maxHeartbeats 40000000 in
theorem rm4_0 (l : Launch) (Z : State) (a0 : Array Value) (hw : ∀ d ∈ tables_1, d.before a0 Z = true) (ws : List Jvm.Cond) (a : Addr) (ba : Addr) (kc : ClassId) (N : Int32) (h0 : Heap) (n0 : Nat) (Z0 : n0 ≤ h0.size) (UE : Exa Z h0 a "com/example/notesmith/notesmith/report/LineBuffer") (Ub : Fld Z h0 a "com/example/notesmith/notesmith/report/LineBuffer" "bytes" "[B" (.ref ba)) (Ul : Fld Z h0 a "com/example/notesmith/notesmith/report/LineBuffer" "length" "I" (.int (0 : Int32))) (UV : Arv Z h0 ba kc .byte N [(.int (0 : Int32)), (.int (0 : Int32)), (.int (0 : Int32)), (.int (0 : Int32))] (.int (0 : Int32))) (ga : n0 ≤ a) (gba : n0 ≤ ba) (hkN : ¬ N < 0) (hkN1 : ¬ N < 1) :
    MetFree l (⟨"com/example/notesmith/notesmith/report/LineBuffer", "ensureRoom", "(I)V"⟩ : MethodName) (head1 (Jvm.Cond.code (⟨"com/example/notesmith/notesmith/report/LineBuffer", "ensureRoom", "(I)V"⟩ : MethodName) prog_104_method_17_code 2 none :: ws) ({ frames := 2, cells := 1, slots := 8, locals := 55 } : Room)) (fun as₉ U => as₉ = #[(.ref a), (.int (1 : Int32))] ∧ Z.Warmed39 U.vm ∧ U.heap = h0) (fun _ _ _ _ _ => True) (fun _ U o₉ U' => ∃ v L, o₉ = .returned v ∧ Q_rm4_0 Z a ba kc N h0 n0 v U'.heap L ∧ FrameEnd U o₉ U' L ({ frames := 2, cells := 1, slots := 8, locals := 55 } : Room).cells ({ frames := 2, cells := 1, slots := 8, locals := 55 } : Room).slots) := by
  refine MetFree.of_bodySF (plainFor_of_name pn_1) hisR ?_
  intro p e s m args below meth c s₁ Bd hml0 hP hK
  obtain ⟨rfl, hZ, hh⟩ := hP
  have hx := Bd.exec
  have hby := Bd.bytes
  have hml : c.maxLocals = 2 := hml0
  have hown : s.vm.findClass "com/example/notesmith/notesmith/report/LineBuffer" = some m.cls := findClass_of_methodNamed Bd.named
  have hnm := (name_of_methodNamed Bd.named Bd.method).1
  have X0 : Stand p l e ({ frames := 2, cells := 1, slots := 8, locals := 55 } : Room) s m #[(.ref a), (.int (1 : Int32))] below meth c s₁ [] 0 0 := Stand.of_body Bd
  have e0 : s₁.heap = h0 := by rw [← hh, Bd.state]; rfl
  have N0 := Fr.nil n0
  show own_Go p e below (fun s₂ o₉ => s₂.status = .running ∧ Ended s₂ below o₉ ∧ ∃ v L, o₉ = .returned v ∧ Q_rm4_0 Z a ba kc N h0 n0 v s₂.heap L ∧ FrameEnd s o₉ s₂ L ({ frames := 2, cells := 1, slots := 8, locals := 55 } : Room).cells ({ frames := 2, cells := 1, slots := 8, locals := 55 } : Room).slots) (s₁.setTop (entryFrame m #[(.ref a), (.int (1 : Int32))] 2))
  rw [ef_rm4_0 m a]
  refine own_step (s₁.setTop (mkF m 1 #[.val (.ref a), .val (.int (1 : Int32))] [(.ref a)])) (fun t₀ k₀ => XS.aloadN X0.here hx rfl (hb hby d4_0) rfl rfl k₀) ?_
  obtain ⟨T39, X39, e39, st39⟩ := getF X0 hx hZ hown (host := "") (Or.inl (hw _ (List.mem_of_getElem? (i := 22) rfl))) Via.refl e0 Ul (g := (mkF m 1 #[.val (.ref a), .val (.int (1 : Int32))] [(.ref a)])) rfl rfl (hb hby d4_1)
  refine own_step (T39.setTop (mkF m 4 #[.val (.ref a), .val (.int (1 : Int32))] [(.int (0 : Int32))])) (fun t₀ k₀ => st39 t₀ k₀) ?_
  refine own_step (T39.setTop (mkF m 5 #[.val (.ref a), .val (.int (1 : Int32))] [(.int (1 : Int32)), (.int (0 : Int32))])) (fun t₀ k₀ => XS.iloadN X39.here hx rfl (hb hby d4_4) rfl k₀) ?_
  refine own_step (T39.setTop (mkF m 6 #[.val (.ref a), .val (.int (1 : Int32))] [(.int (1 : Int32))])) (fun t₀ k₀ => XS.iadd X39.here hx rfl (hb hby d4_5) rfl k₀) ?_
  refine own_step (T39.setTop (mkF m 7 #[.val (.ref a), .val (.int (1 : Int32))] [(.ref a), (.int (1 : Int32))])) (fun t₀ k₀ => XS.aloadN X39.here hx rfl (hb hby d4_6) rfl rfl k₀) ?_
  obtain ⟨T40, X40, e40, st40⟩ := getF X39 hx hZ hown (host := "") (Or.inl (hw _ (List.mem_of_getElem? (i := 11) rfl))) Via.refl e39 Ub (g := (mkF m 7 #[.val (.ref a), .val (.int (1 : Int32))] [(.ref a), (.int (1 : Int32))])) rfl rfl (hb hby d4_7)
  refine own_step (T40.setTop (mkF m 10 #[.val (.ref a), .val (.int (1 : Int32))] [(.ref ba), (.int (1 : Int32))])) (fun t₀ k₀ => st40 t₀ k₀) ?_
  obtain ⟨clo41, Aro41, qo41, So41, Mo41, Ho41, Go41⟩ := id UV
  refine own_step (T40.setTop (mkF m 11 #[.val (.ref a), .val (.int (1 : Int32))] [(.int N), (.int (1 : Int32))])) (fun t₀ k₀ => X40.arraylength hx (by rw [e40]; exact Aro41.1) (State.isArrayOf_alike hZ.alike Aro41.2.1) (g := (mkF m 10 #[.val (.ref a), .val (.int (1 : Int32))] [(.ref ba), (.int (1 : Int32))])) rfl rfl (hb hby d4_10) _ (by rw [len_of So41 Mo41]; exact k₀)) ?_
  by_cases hc11 : N < (1 : Int32)
  · skip
    refine own_step (T40.setTop (mkF m 14 #[.val (.ref a), .val (.int (1 : Int32))] [])) (fun t₀ k₀ => XS.icmpNo X40.here hx rfl (hb hby d4_11) rfl (tlt hc11).2.2.2 k₀) ?_
    exact absurd hc11 hkN1
  · skip
    refine own_step (T40.setTop (mkF m 41 #[.val (.ref a), .val (.int (1 : Int32))] [])) (fun t₀ k₀ => XS.icmpYes X40.here hx rfl (pc0 := 11) (pc' := 41) rfl (hb hby d4_11) rfl (flt hc11).2.2.2 (by decide) (by decide) k₀) ?_
    obtain ⟨fs, hr, hrun, hended, hW, hsame⟩ := X40.leave (v := none) (fun _ => rfl)
    refine ⟨_, _, ?_, hrun, hended, _, _, rfl, ?_, ⟨_, rfl⟩, hW, hsame.mono (by decide) (by decide)⟩
    · exact X40.returnOut hx Bd.returns (hb hby d4_41) hr
    · show Q_rm4_0 Z a ba kc N h0 n0 _ T40.heap _
      rw [e40]
      exact ⟨ba, kc, N, rfl, N0, Z0, gba, hc11, UE, Ub, Ul, UV⟩
theorem d3_0 : decode prog_104_method_7_code 0 = .ok (.aload_n 0, 1) := by decide +kernel
theorem d3_1 : decode prog_104_method_7_code 1 = .ok (.iconst 1, 1) := by decide +kernel
theorem d3_2 : decode prog_104_method_7_code 2 = .ok (.invokevirtual 17, 3) := by decide +kernel
theorem d3_5 : decode prog_104_method_7_code 5 = .ok (.aload_n 0, 1) := by decide +kernel
theorem d3_6 : decode prog_104_method_7_code 6 = .ok (.getfield 7, 3) := by decide +kernel
theorem d3_9 : decode prog_104_method_7_code 9 = .ok (.aload_n 0, 1) := by decide +kernel
theorem d3_10 : decode prog_104_method_7_code 10 = .ok (.getfield 13, 3) := by decide +kernel
theorem d3_13 : decode prog_104_method_7_code 13 = .ok (.iload_n 1, 1) := by decide +kernel
theorem d3_14 : decode prog_104_method_7_code 14 = .ok (.i2b, 1) := by decide +kernel
theorem d3_15 : decode prog_104_method_7_code 15 = .ok (.bastore, 1) := by decide +kernel
theorem d3_16 : decode prog_104_method_7_code 16 = .ok (.aload_n 0, 1) := by decide +kernel
theorem d3_17 : decode prog_104_method_7_code 17 = .ok (.dup, 1) := by decide +kernel
theorem d3_18 : decode prog_104_method_7_code 18 = .ok (.getfield 13, 3) := by decide +kernel
theorem d3_21 : decode prog_104_method_7_code 21 = .ok (.iconst 1, 1) := by decide +kernel
theorem d3_22 : decode prog_104_method_7_code 22 = .ok (.iadd, 1) := by decide +kernel
theorem d3_23 : decode prog_104_method_7_code 23 = .ok (.putfield 13, 3) := by decide +kernel
theorem d3_26 : decode prog_104_method_7_code 26 = .ok (.aload_n 0, 1) := by decide +kernel
theorem d3_27 : decode prog_104_method_7_code 27 = .ok (.areturn, 1) := by decide +kernel
theorem ef_rm3_0 (m : MethodId) (a : Addr) (ch : Int32) : entryFrame m #[(.ref a), (.int ch)] 2 = mkF m 0 #[.val (.ref a), .val (.int ch)] [] := by first | (simp [entryFrame, mkF, argsToLocals, Value.category]; done) | rfl
def Q_rm3_0 (Z : State) (a : Addr) (ch : Int32) (ba : Addr) (kc : ClassId) (N : Int32) (h0 : Heap) (n0 : Nat) (v : Option Value) (h : Heap) (L : List Loc) : Prop := ∃ (nb : Addr) (kd : ClassId) (M : Int32), v = some (.ref a) ∧ Fr n0 L ∧ n0 ≤ h.size ∧ n0 ≤ nb ∧ ¬ M < 1 ∧ Exa Z h a "com/example/notesmith/notesmith/report/LineBuffer" ∧ Fld Z h a "com/example/notesmith/notesmith/report/LineBuffer" "bytes" "[B" (.ref nb) ∧ Fld Z h a "com/example/notesmith/notesmith/report/LineBuffer" "length" "I" (.int (1 : Int32)) ∧ Arv Z h nb kd .byte M [(.int ch), (.int (0 : Int32)), (.int (0 : Int32)), (.int (0 : Int32))] (.int (0 : Int32))
set_option maxRecDepth 65536 in
set_option maxHeartbeats 40000000 in
theorem rm3_0 (l : Launch) (Z : State) (a0 : Array Value) (hw : ∀ d ∈ tables_1, d.before a0 Z = true) (ws : List Jvm.Cond) (a : Addr) (ch : Int32) (ba : Addr) (kc : ClassId) (N : Int32) (h0 : Heap) (n0 : Nat) (Z0 : n0 ≤ h0.size) (UE : Exa Z h0 a "com/example/notesmith/notesmith/report/LineBuffer") (Ub : Fld Z h0 a "com/example/notesmith/notesmith/report/LineBuffer" "bytes" "[B" (.ref ba)) (Ul : Fld Z h0 a "com/example/notesmith/notesmith/report/LineBuffer" "length" "I" (.int (0 : Int32))) (UV : Arv Z h0 ba kc .byte N [(.int (0 : Int32)), (.int (0 : Int32)), (.int (0 : Int32)), (.int (0 : Int32))] (.int (0 : Int32))) (ga : n0 ≤ a) (gba : n0 ≤ ba) (hkN : ¬ N < 0) (hkN1 : ¬ N < 1) (hch : nar .byte (ch.toInt8.toInt32) = ch) :
    MetFree l (⟨"com/example/notesmith/notesmith/report/LineBuffer", "append", "(C)Lcom/example/notesmith/notesmith/report/LineBuffer;"⟩ : MethodName) (head1 (Jvm.Cond.code (⟨"com/example/notesmith/notesmith/report/LineBuffer", "append", "(C)Lcom/example/notesmith/notesmith/report/LineBuffer;"⟩ : MethodName) prog_104_method_7_code 2 (some (.object "com/example/notesmith/notesmith/report/LineBuffer")) :: ws) ({ frames := 3, cells := 1, slots := 8, locals := 68 } : Room)) (fun as₉ U => as₉ = #[(.ref a), (.int ch)] ∧ Z.Warmed39 U.vm ∧ U.heap = h0) (fun _ _ _ _ _ => True) (fun _ U o₉ U' => ∃ v L, o₉ = .returned v ∧ Q_rm3_0 Z a ch ba kc N h0 n0 v U'.heap L ∧ FrameEnd U o₉ U' L ({ frames := 3, cells := 1, slots := 8, locals := 68 } : Room).cells ({ frames := 3, cells := 1, slots := 8, locals := 68 } : Room).slots) := by
  refine MetFree.of_bodySF (plainFor_of_name pn_1) hisR ?_
  intro p e s m args below meth c s₁ Bd hml0 hP hK
  obtain ⟨rfl, hZ, hh⟩ := hP
  have hx := Bd.exec
  have hby := Bd.bytes
  have hml : c.maxLocals = 2 := hml0
  have hown : s.vm.findClass "com/example/notesmith/notesmith/report/LineBuffer" = some m.cls := findClass_of_methodNamed Bd.named
  have hnm := (name_of_methodNamed Bd.named Bd.method).1
  have X0 : Stand p l e ({ frames := 3, cells := 1, slots := 8, locals := 68 } : Room) s m #[(.ref a), (.int ch)] below meth c s₁ [] 0 0 := Stand.of_body Bd
  have e0 : s₁.heap = h0 := by rw [← hh, Bd.state]; rfl
  have N0 := Fr.nil n0
  show own_Go p e below (fun s₂ o₉ => s₂.status = .running ∧ Ended s₂ below o₉ ∧ ∃ v L, o₉ = .returned v ∧ Q_rm3_0 Z a ch ba kc N h0 n0 v s₂.heap L ∧ FrameEnd s o₉ s₂ L ({ frames := 3, cells := 1, slots := 8, locals := 68 } : Room).cells ({ frames := 3, cells := 1, slots := 8, locals := 68 } : Room).slots) (s₁.setTop (entryFrame m #[(.ref a), (.int ch)] 2))
  rw [ef_rm3_0 m a ch]
  refine own_step (s₁.setTop (mkF m 1 #[.val (.ref a), .val (.int ch)] [(.ref a)])) (fun t₀ k₀ => XS.aloadN X0.here hx rfl (hb hby d3_0) rfl rfl k₀) ?_
  refine own_step (s₁.setTop (mkF m 2 #[.val (.ref a), .val (.int ch)] [(.int (1 : Int32)), (.ref a)])) (fun t₀ k₀ => XS.iconst X0.here hx rfl (hb hby d3_1) k₀) ?_
  obtain ⟨cq42, q42, q42'⟩ := UE.cell
  obtain ⟨_, _, ⟨T42, L42, k42, n42⟩, -, X42, ⟨Lc42, hQ42, l42, y42, z42⟩, st42⟩ := X0.privateBack hx (y := (⟨"com/example/notesmith/notesmith/report/LineBuffer", "ensureRoom", "(I)V"⟩ : MethodName)) hown (mvT hZ (hw _ (List.mem_of_getElem? (i := 18) rfl))) (mvT hZ (hw _ (List.mem_of_getElem? (i := 19) rfl))) (own_sel (y := (⟨"com/example/notesmith/notesmith/report/LineBuffer", "ensureRoom", "(I)V"⟩ : MethodName)) (mvT hZ (hw _ (List.mem_of_getElem? (i := 2) rfl))) (mvP hZ (hw _ (List.mem_of_getElem? (i := 20) rfl))) (mvT hZ (hw _ (List.mem_of_getElem? (i := 19) rfl))) (by decide)) (Cond.privateMethod_at (mvP hZ (hw _ (List.mem_of_getElem? (i := 20) rfl)) (args := #[]))) (mvT hZ (hw _ (List.mem_of_getElem? (i := 21) rfl))) (by decide) (backOf (W := 0) (rm4_0 l Z a0 hw [] a ba kc N h0 n0 Z0 UE Ub Ul UV ga gba hkN hkN1) hZ (hw _ (List.mem_of_getElem? (i := 21) rfl)) (hw _ (List.mem_of_getElem? (i := 3) rfl)) (by decide) (by decide)) (g := (mkF m 2 #[.val (.ref a), .val (.int ch)] [(.int (1 : Int32)), (.ref a)])) rfl (by rw [hml]; rfl) (Steps.refl _) (a := a) (by rw [e0]; exact q42) q42' (argsL := [(.int (1 : Int32))]) (rest := []) (lenOf pd_0 rfl) rfl (by show 2 * 0 + _ ≤ _; exact Nat.le_of_eq rfl) (hb hby d3_2) (fun _ _ => ⟨rfl, e0, (by decide : 0 + 1 ≤ _), (by decide : 0 + 8 ≤ _)⟩)
  dsimp only [Pt.U, Pt.locs, Pt.cells, Pt.slots] at X42 l42 y42 z42 st42 hQ42
  subst l42 y42 z42
  obtain ⟨nb43, kd44, M45, rfl, N42q, K42, f46, f47, f48, f49, f50, f51⟩ := hQ42
  have N42 := Fr.app N0 N42q
  refine own_comes (T42.setTop (mkF m 5 #[.val (.ref a), .val (.int ch)] [])) st42 ?_
  refine own_step (T42.setTop (mkF m 6 #[.val (.ref a), .val (.int ch)] [(.ref a)])) (fun t₀ k₀ => XS.aloadN X42.here hx rfl (hb hby d3_5) rfl rfl k₀) ?_
  obtain ⟨T52, X52, e52, st52⟩ := getF X42 hx hZ hown (host := "") (Or.inl (hw _ (List.mem_of_getElem? (i := 11) rfl))) Via.refl rfl f49 (g := (mkF m 6 #[.val (.ref a), .val (.int ch)] [(.ref a)])) rfl rfl (hb hby d3_6)
  refine own_step (T52.setTop (mkF m 9 #[.val (.ref a), .val (.int ch)] [(.ref nb43)])) (fun t₀ k₀ => st52 t₀ k₀) ?_
  refine own_step (T52.setTop (mkF m 10 #[.val (.ref a), .val (.int ch)] [(.ref a), (.ref nb43)])) (fun t₀ k₀ => XS.aloadN X52.here hx rfl (hb hby d3_9) rfl rfl k₀) ?_
  obtain ⟨T53, X53, e53, st53⟩ := getF X52 hx hZ hown (host := "") (Or.inl (hw _ (List.mem_of_getElem? (i := 22) rfl))) Via.refl e52 f50 (g := (mkF m 10 #[.val (.ref a), .val (.int ch)] [(.ref a), (.ref nb43)])) rfl rfl (hb hby d3_10)
  refine own_step (T53.setTop (mkF m 13 #[.val (.ref a), .val (.int ch)] [(.int (0 : Int32)), (.ref nb43)])) (fun t₀ k₀ => st53 t₀ k₀) ?_
  refine own_step (T53.setTop (mkF m 14 #[.val (.ref a), .val (.int ch)] [(.int ch), (.int (0 : Int32)), (.ref nb43)])) (fun t₀ k₀ => XS.iloadN X53.here hx rfl (hb hby d3_13) rfl k₀) ?_
  refine own_step (T53.setTop (mkF m 15 #[.val (.ref a), .val (.int ch)] [(.int (ch.toInt8.toInt32)), (.int (0 : Int32)), (.ref nb43)])) (fun t₀ k₀ => XS.i2b X53.here hx rfl (hb hby d3_14) rfl k₀) ?_
  obtain ⟨clo54, Aro54, qo54, So54, Mo54, Ho54, Go54⟩ := id f51
  have hino54 : ¬ ((0 : Int32) < 0 ∨ clo54.slots.size ≤ ((0 : Int32)).toNatClampNeg) := inb_of So54 ⟨by decide, own_ltk f47 (by decide)⟩
  obtain ⟨T55, h55, X55, e55, W55, st55⟩ := stB X53 hx hZ e53 Aro54 (j := (0 : Int32)) hino54 (g := (mkF m 15 #[.val (.ref a), .val (.int ch)] [(.int (ch.toInt8.toInt32)), (.int (0 : Int32)), (.ref nb43)])) rfl rfl (hb hby d3_15)
  have V55 : Arv Z h55 nb43 kd44 .byte M45 [(.int (nar .byte (ch.toInt8.toInt32))), (.int (0 : Int32)), (.int (0 : Int32)), (.int (0 : Int32))] (.int (0 : Int32)) := Arv.set Aro54 qo54 So54 Mo54 Ho54 Go54 (fits_nar_byte _) W55 0 rfl (Nat.le_of_ble_eq_true rfl)
  have ne56 : a ≠ nb43 := (Exa.neArv f48 f51 (hw _ (List.mem_of_getElem? (i := 2) rfl)))
  have f57 : Exa Z h55 a "com/example/notesmith/notesmith/report/LineBuffer" := f48.wr W55
  have f58 : Fld Z h55 a "com/example/notesmith/notesmith/report/LineBuffer" "bytes" "[B" (.ref nb43) := f49.other W55 (Or.inl ne56)
  have f59 : Fld Z h55 a "com/example/notesmith/notesmith/report/LineBuffer" "length" "I" (.int (0 : Int32)) := f50.other W55 (Or.inl ne56)
  have N55 := Fr.snoc X55 N42 f46
  have z55 : n0 ≤ h55.size := Nat.le_trans K42 (Keep.of_wr W55).1
  refine own_step (T55.setTop (mkF m 16 #[.val (.ref a), .val (.int ch)] [])) (fun t₀ k₀ => st55 t₀ k₀) ?_
  have Vc60 : Arv Z h55 nb43 kd44 .byte M45 [(.int ch), (.int (0 : Int32)), (.int (0 : Int32)), (.int (0 : Int32))] (.int (0 : Int32)) := by have q := V55; rw [hch] at q; exact q
  refine own_step (T55.setTop (mkF m 17 #[.val (.ref a), .val (.int ch)] [(.ref a)])) (fun t₀ k₀ => XS.aloadN X55.here hx rfl (hb hby d3_16) rfl rfl k₀) ?_
  refine own_step (T55.setTop (mkF m 18 #[.val (.ref a), .val (.int ch)] [(.ref a), (.ref a)])) (fun t₀ k₀ => XS.dup X55.here hx rfl (hb hby d3_17) rfl rfl k₀) ?_
  obtain ⟨T61, X61, e61, st61⟩ := getF X55 hx hZ hown (host := "") (Or.inl (hw _ (List.mem_of_getElem? (i := 22) rfl))) Via.refl e55 f59 (g := (mkF m 18 #[.val (.ref a), .val (.int ch)] [(.ref a), (.ref a)])) rfl rfl (hb hby d3_18)
  refine own_step (T61.setTop (mkF m 21 #[.val (.ref a), .val (.int ch)] [(.int (0 : Int32)), (.ref a)])) (fun t₀ k₀ => st61 t₀ k₀) ?_
  refine own_step (T61.setTop (mkF m 22 #[.val (.ref a), .val (.int ch)] [(.int (1 : Int32)), (.int (0 : Int32)), (.ref a)])) (fun t₀ k₀ => XS.iconst X61.here hx rfl (hb hby d3_21) k₀) ?_
  refine own_step (T61.setTop (mkF m 23 #[.val (.ref a), .val (.int ch)] [(.int (1 : Int32)), (.ref a)])) (fun t₀ k₀ => XS.iadd X61.here hx rfl (hb hby d3_22) rfl k₀) ?_
  obtain ⟨T62, h62, X62, e62, W62, st62⟩ := putF X61 hx hZ hown (host := "") (Or.inl (hw _ (List.mem_of_getElem? (i := 22) rfl))) Via.refl e61 f59 f57 (Or.inl (hw _ (List.mem_of_getElem? (i := 23) rfl))) (hw _ (List.mem_of_getElem? (i := 2) rfl)) (ty := .int) (by decide) rfl rfl (g := (mkF m 23 #[.val (.ref a), .val (.int ch)] [(.int (1 : Int32)), (.ref a)])) rfl rfl (hb hby d3_23)
  have f63 : Fld Z h62 a "com/example/notesmith/notesmith/report/LineBuffer" "length" "I" (.int (1 : Int32)) := f59.same W62
  have f64 : Exa Z h62 a "com/example/notesmith/notesmith/report/LineBuffer" := f57.wr W62
  have f65 : Fld Z h62 a "com/example/notesmith/notesmith/report/LineBuffer" "bytes" "[B" (.ref nb43) := f58.other W62 (Or.inr (slot_ne (Or.inl (hw _ (List.mem_of_getElem? (i := 12) rfl))) (Or.inl (hw _ (List.mem_of_getElem? (i := 23) rfl))) (by decide) (t := (.array .byte)) (t' := .int) (by decide) (by decide)))
  have f66 : Arv Z h62 nb43 kd44 .byte M45 [(.int ch), (.int (0 : Int32)), (.int (0 : Int32)), (.int (0 : Int32))] (.int (0 : Int32)) := Vc60.other W62 (Ne.symm ne56)
  have N62 := Fr.snoc X62 N55 ga
  have z62 : n0 ≤ h62.size := Nat.le_trans z55 (Keep.of_wr W62).1
  refine own_step (T62.setTop (mkF m 26 #[.val (.ref a), .val (.int ch)] [])) (fun t₀ k₀ => st62 t₀ k₀) ?_
  refine own_step (T62.setTop (mkF m 27 #[.val (.ref a), .val (.int ch)] [(.ref a)])) (fun t₀ k₀ => XS.aloadN X62.here hx rfl (hb hby d3_26) rfl rfl k₀) ?_
  obtain ⟨fs, hr, hrun, hended, hW, hsame⟩ := X62.leave (v := some (.ref a)) (fun h => by rw [Bd.returns] at h; cases h)
  refine ⟨_, _, ?_, hrun, hended, _, _, rfl, ?_, ⟨_, rfl⟩, hW, hsame.mono (by decide) (by decide)⟩
  · jvm_step X62.here [X62.here.top, hx, (hb hby d3_27), X62.method', Bd.returns, Value.isRef, FieldType.isReference]
    first | (intro acts; rw [hr _ acts rfl rfl rfl]) | rw [hr _ _ rfl rfl rfl]
    exact Steps.refl _
  · show Q_rm3_0 Z a ch ba kc N h0 n0 _ T62.heap _
    rw [e62]
    exact ⟨nb43, kd44, M45, rfl, N62, z62, f46, f47, f64, f65, f63, f66⟩
theorem ef_rm4_1 (m : MethodId) (a : Addr) : entryFrame m #[(.ref a), (.int (1 : Int32))] 2 = mkF m 0 #[.val (.ref a), .val (.int (1 : Int32))] [] := by first | (simp [entryFrame, mkF, argsToLocals, Value.category]; done) | rfl
def Q_rm4_1 (Z : State) (a : Addr) (ba : Addr) (kc : ClassId) (N : Int32) (b0 : Int32) (h0 : Heap) (n0 : Nat) (v : Option Value) (h : Heap) (L : List Loc) : Prop := ∃ (nb : Addr) (kd : ClassId) (M : Int32), v = none ∧ Fr n0 L ∧ n0 ≤ h.size ∧ n0 ≤ nb ∧ ¬ M < 2 ∧ Exa Z h a "com/example/notesmith/notesmith/report/LineBuffer" ∧ Fld Z h a "com/example/notesmith/notesmith/report/LineBuffer" "bytes" "[B" (.ref nb) ∧ Fld Z h a "com/example/notesmith/notesmith/report/LineBuffer" "length" "I" (.int (1 : Int32)) ∧ Arv Z h nb kd .byte M [(.int b0), (.int (0 : Int32)), (.int (0 : Int32)), (.int (0 : Int32))] (.int (0 : Int32))
set_option maxRecDepth 65536 in
set_option maxHeartbeats 40000000 in
theorem rm4_1 (l : Launch) (Z : State) (a0 : Array Value) (hw : ∀ d ∈ tables_1, d.before a0 Z = true) (ws : List Jvm.Cond) (a : Addr) (ba : Addr) (kc : ClassId) (N : Int32) (b0 : Int32) (h0 : Heap) (n0 : Nat) (Z0 : n0 ≤ h0.size) (UE : Exa Z h0 a "com/example/notesmith/notesmith/report/LineBuffer") (Ub : Fld Z h0 a "com/example/notesmith/notesmith/report/LineBuffer" "bytes" "[B" (.ref ba)) (Ul : Fld Z h0 a "com/example/notesmith/notesmith/report/LineBuffer" "length" "I" (.int (1 : Int32))) (UV : Arv Z h0 ba kc .byte N [(.int b0), (.int (0 : Int32)), (.int (0 : Int32)), (.int (0 : Int32))] (.int (0 : Int32))) (ga : n0 ≤ a) (gba : n0 ≤ ba) (hkN : ¬ N < 1) (hkN1 : ¬ N < 1) :
    MetFree l (⟨"com/example/notesmith/notesmith/report/LineBuffer", "ensureRoom", "(I)V"⟩ : MethodName) (head1 (Jvm.Cond.code (⟨"com/example/notesmith/notesmith/report/LineBuffer", "ensureRoom", "(I)V"⟩ : MethodName) prog_104_method_17_code 2 none :: ws) ({ frames := 2, cells := 1, slots := 8, locals := 55 } : Room)) (fun as₉ U => as₉ = #[(.ref a), (.int (1 : Int32))] ∧ Z.Warmed39 U.vm ∧ U.heap = h0) (fun _ _ _ _ _ => True) (fun _ U o₉ U' => ∃ v L, o₉ = .returned v ∧ Q_rm4_1 Z a ba kc N b0 h0 n0 v U'.heap L ∧ FrameEnd U o₉ U' L ({ frames := 2, cells := 1, slots := 8, locals := 55 } : Room).cells ({ frames := 2, cells := 1, slots := 8, locals := 55 } : Room).slots) := by
  refine MetFree.of_bodySF (plainFor_of_name pn_1) hisR ?_
  intro p e s m args below meth c s₁ Bd hml0 hP hK
  obtain ⟨rfl, hZ, hh⟩ := hP
  have hx := Bd.exec
  have hby := Bd.bytes
  have hml : c.maxLocals = 2 := hml0
  have hown : s.vm.findClass "com/example/notesmith/notesmith/report/LineBuffer" = some m.cls := findClass_of_methodNamed Bd.named
  have hnm := (name_of_methodNamed Bd.named Bd.method).1
  have X0 : Stand p l e ({ frames := 2, cells := 1, slots := 8, locals := 55 } : Room) s m #[(.ref a), (.int (1 : Int32))] below meth c s₁ [] 0 0 := Stand.of_body Bd
  have e0 : s₁.heap = h0 := by rw [← hh, Bd.state]; rfl
  have N0 := Fr.nil n0
  show own_Go p e below (fun s₂ o₉ => s₂.status = .running ∧ Ended s₂ below o₉ ∧ ∃ v L, o₉ = .returned v ∧ Q_rm4_1 Z a ba kc N b0 h0 n0 v s₂.heap L ∧ FrameEnd s o₉ s₂ L ({ frames := 2, cells := 1, slots := 8, locals := 55 } : Room).cells ({ frames := 2, cells := 1, slots := 8, locals := 55 } : Room).slots) (s₁.setTop (entryFrame m #[(.ref a), (.int (1 : Int32))] 2))
  rw [ef_rm4_1 m a]
  refine own_step (s₁.setTop (mkF m 1 #[.val (.ref a), .val (.int (1 : Int32))] [(.ref a)])) (fun t₀ k₀ => XS.aloadN X0.here hx rfl (hb hby d4_0) rfl rfl k₀) ?_
  obtain ⟨T67, X67, e67, st67⟩ := getF X0 hx hZ hown (host := "") (Or.inl (hw _ (List.mem_of_getElem? (i := 22) rfl))) Via.refl e0 Ul (g := (mkF m 1 #[.val (.ref a), .val (.int (1 : Int32))] [(.ref a)])) rfl rfl (hb hby d4_1)
  refine own_step (T67.setTop (mkF m 4 #[.val (.ref a), .val (.int (1 : Int32))] [(.int (1 : Int32))])) (fun t₀ k₀ => st67 t₀ k₀) ?_
  refine own_step (T67.setTop (mkF m 5 #[.val (.ref a), .val (.int (1 : Int32))] [(.int (1 : Int32)), (.int (1 : Int32))])) (fun t₀ k₀ => XS.iloadN X67.here hx rfl (hb hby d4_4) rfl k₀) ?_
  refine own_step (T67.setTop (mkF m 6 #[.val (.ref a), .val (.int (1 : Int32))] [(.int (2 : Int32))])) (fun t₀ k₀ => XS.iadd X67.here hx rfl (hb hby d4_5) rfl k₀) ?_
  refine own_step (T67.setTop (mkF m 7 #[.val (.ref a), .val (.int (1 : Int32))] [(.ref a), (.int (2 : Int32))])) (fun t₀ k₀ => XS.aloadN X67.here hx rfl (hb hby d4_6) rfl rfl k₀) ?_
  obtain ⟨T68, X68, e68, st68⟩ := getF X67 hx hZ hown (host := "") (Or.inl (hw _ (List.mem_of_getElem? (i := 11) rfl))) Via.refl e67 Ub (g := (mkF m 7 #[.val (.ref a), .val (.int (1 : Int32))] [(.ref a), (.int (2 : Int32))])) rfl rfl (hb hby d4_7)
  refine own_step (T68.setTop (mkF m 10 #[.val (.ref a), .val (.int (1 : Int32))] [(.ref ba), (.int (2 : Int32))])) (fun t₀ k₀ => st68 t₀ k₀) ?_
  obtain ⟨clo69, Aro69, qo69, So69, Mo69, Ho69, Go69⟩ := id UV
  refine own_step (T68.setTop (mkF m 11 #[.val (.ref a), .val (.int (1 : Int32))] [(.int N), (.int (2 : Int32))])) (fun t₀ k₀ => X68.arraylength hx (by rw [e68]; exact Aro69.1) (State.isArrayOf_alike hZ.alike Aro69.2.1) (g := (mkF m 10 #[.val (.ref a), .val (.int (1 : Int32))] [(.ref ba), (.int (2 : Int32))])) rfl rfl (hb hby d4_10) _ (by rw [len_of So69 Mo69]; exact k₀)) ?_
  by_cases hc11 : N < (2 : Int32)
  · skip
    refine own_step (T68.setTop (mkF m 14 #[.val (.ref a), .val (.int (1 : Int32))] [])) (fun t₀ k₀ => XS.icmpNo X68.here hx rfl (hb hby d4_11) rfl (tlt hc11).2.2.2 k₀) ?_
    have hNk : N = (1 : Int32) := own_eqk hkN hc11 (by decide)
    have Vl0 : Arv Z h0 ba kc .byte N [(.int b0)] (.int (0 : Int32)) := UV.pad (by intro i; match i with | 0 => rfl | 1 => rfl | 2 => rfl | 3 => rfl | 4 => rfl | 5 => rfl | _ + 6 => rfl)
    have Vl : Arv Z h0 ba kc .byte (1 : Int32) [(.int b0)] (.int (0 : Int32)) := by have q := Vl0; rw [hNk] at q; exact q
    refine own_step (T68.setTop (mkF m 15 #[.val (.ref a), .val (.int (1 : Int32))] [(.ref a)])) (fun t₀ k₀ => XS.aloadN X68.here hx rfl (hb hby d4_14) rfl rfl k₀) ?_
    refine own_step (T68.setTop (mkF m 16 #[.val (.ref a), .val (.int (1 : Int32))] [(.ref a), (.ref a)])) (fun t₀ k₀ => XS.aloadN X68.here hx rfl (hb hby d4_15) rfl rfl k₀) ?_
    obtain ⟨T70, X70, e70, st70⟩ := getF X68 hx hZ hown (host := "") (Or.inl (hw _ (List.mem_of_getElem? (i := 11) rfl))) Via.refl e68 Ub (g := (mkF m 16 #[.val (.ref a), .val (.int (1 : Int32))] [(.ref a), (.ref a)])) rfl rfl (hb hby d4_16)
    refine own_step (T70.setTop (mkF m 19 #[.val (.ref a), .val (.int (1 : Int32))] [(.ref ba), (.ref a)])) (fun t₀ k₀ => st70 t₀ k₀) ?_
    refine own_step (T70.setTop (mkF m 20 #[.val (.ref a), .val (.int (1 : Int32))] [(.int (2 : Int32)), (.ref ba), (.ref a)])) (fun t₀ k₀ => XS.iconst X70.here hx rfl (hb hby d4_19) k₀) ?_
    refine own_step (T70.setTop (mkF m 21 #[.val (.ref a), .val (.int (1 : Int32))] [(.ref a), (.int (2 : Int32)), (.ref ba), (.ref a)])) (fun t₀ k₀ => XS.aloadN X70.here hx rfl (hb hby d4_20) rfl rfl k₀) ?_
    obtain ⟨T71, X71, e71, st71⟩ := getF X70 hx hZ hown (host := "") (Or.inl (hw _ (List.mem_of_getElem? (i := 11) rfl))) Via.refl e70 Ub (g := (mkF m 21 #[.val (.ref a), .val (.int (1 : Int32))] [(.ref a), (.int (2 : Int32)), (.ref ba), (.ref a)])) rfl rfl (hb hby d4_21)
    refine own_step (T71.setTop (mkF m 24 #[.val (.ref a), .val (.int (1 : Int32))] [(.ref ba), (.int (2 : Int32)), (.ref ba), (.ref a)])) (fun t₀ k₀ => st71 t₀ k₀) ?_
    obtain ⟨clo72, Aro72, qo72, So72, Mo72, Ho72, Go72⟩ := id Vl
    refine own_step (T71.setTop (mkF m 25 #[.val (.ref a), .val (.int (1 : Int32))] [(.int (1 : Int32)), (.int (2 : Int32)), (.ref ba), (.ref a)])) (fun t₀ k₀ => X71.arraylength hx (by rw [e71]; exact Aro72.1) (State.isArrayOf_alike hZ.alike Aro72.2.1) (g := (mkF m 24 #[.val (.ref a), .val (.int (1 : Int32))] [(.ref ba), (.int (2 : Int32)), (.ref ba), (.ref a)])) rfl rfl (hb hby d4_24) _ (by rw [len_of So72 Mo72]; exact k₀)) ?_
    refine own_step (T71.setTop (mkF m 26 #[.val (.ref a), .val (.int (1 : Int32))] [(.int (2 : Int32)), (.ref ba), (.ref a)])) (fun t₀ k₀ => XS.imul X71.here hx rfl (hb hby d4_25) rfl k₀) ?_
    refine own_step (T71.setTop (mkF m 27 #[.val (.ref a), .val (.int (1 : Int32))] [(.ref a), (.int (2 : Int32)), (.ref ba), (.ref a)])) (fun t₀ k₀ => XS.aloadN X71.here hx rfl (hb hby d4_26) rfl rfl k₀) ?_
    obtain ⟨T73, X73, e73, st73⟩ := getF X71 hx hZ hown (host := "") (Or.inl (hw _ (List.mem_of_getElem? (i := 22) rfl))) Via.refl e71 Ul (g := (mkF m 27 #[.val (.ref a), .val (.int (1 : Int32))] [(.ref a), (.int (2 : Int32)), (.ref ba), (.ref a)])) rfl rfl (hb hby d4_27)
    refine own_step (T73.setTop (mkF m 30 #[.val (.ref a), .val (.int (1 : Int32))] [(.int (1 : Int32)), (.int (2 : Int32)), (.ref ba), (.ref a)])) (fun t₀ k₀ => st73 t₀ k₀) ?_
    refine own_step (T73.setTop (mkF m 31 #[.val (.ref a), .val (.int (1 : Int32))] [(.int (1 : Int32)), (.int (1 : Int32)), (.int (2 : Int32)), (.ref ba), (.ref a)])) (fun t₀ k₀ => XS.iloadN X73.here hx rfl (hb hby d4_30) rfl k₀) ?_
    refine own_step (T73.setTop (mkF m 32 #[.val (.ref a), .val (.int (1 : Int32))] [(.int (2 : Int32)), (.int (2 : Int32)), (.ref ba), (.ref a)])) (fun t₀ k₀ => XS.iadd X73.here hx rfl (hb hby d4_31) rfl k₀) ?_
    obtain ⟨_, _, ⟨T74, L74, k74, n74⟩, -, X74, ⟨Lc74, hQ74, l74, y74, z74⟩, st74⟩ := Jvm.LawKit.callS X73 hx (y := (⟨"java/lang/Math", "max", "(II)I"⟩ : MethodName)) hown (mvT hZ (hw _ (List.mem_of_getElem? (i := 24) rfl))) (mvT hZ (hw _ (List.mem_of_getElem? (i := 25) rfl))) (mvT hZ (hw _ (List.mem_of_getElem? (i := 26) rfl))) (mvT hZ (hw _ (List.mem_of_getElem? (i := 27) rfl))) (by decide) (backOf (W := 2) (rm5 l Z a0 hw [] (2 : Int32) (2 : Int32) h0 n0 Z0) hZ (hw _ (List.mem_of_getElem? (i := 27) rfl)) (hw _ (List.mem_of_getElem? (i := 26) rfl)) (by decide) (by decide)) (g := (mkF m 32 #[.val (.ref a), .val (.int (1 : Int32))] [(.int (2 : Int32)), (.int (2 : Int32)), (.ref ba), (.ref a)])) rfl (by rw [hml]; rfl) (argsL := [(.int (2 : Int32)), (.int (2 : Int32))]) (rest := [(.ref ba), (.ref a)]) (lenOf pd_3 rfl) rfl (by show 2 * 0 + _ ≤ _; exact Nat.le_of_eq rfl) (hb hby d4_32) (fun _ _ => ⟨rfl, e73, (by decide : 0 + 0 ≤ _), (by decide : 0 + 0 ≤ _)⟩)
    dsimp only [Pt.U, Pt.locs, Pt.cells, Pt.slots] at X74 l74 y74 z74 st74 hQ74
    subst l74 y74 z74
    obtain ⟨rfl, N74q, e74⟩ := hQ74
    have N74 := Fr.app N0 N74q
    refine own_step (T74.setTop (mkF m 35 #[.val (.ref a), .val (.int (1 : Int32))] [(.int (own_imax (2 : Int32) (2 : Int32))), (.ref ba), (.ref a)])) (fun t₀ k₀ => st74 t₀ k₀) ?_
    rw [show own_imax (2 : Int32) (2 : Int32) = (2 : Int32) from by decide]
    obtain ⟨_, _, ⟨T75, L75, k75, n75⟩, -, X75, ⟨Lc75, hQ75, l75, y75, z75⟩, st75⟩ := Jvm.LawKit.callS X74 hx (y := (⟨"java/util/Arrays", "copyOf", "([BI)[B"⟩ : MethodName)) hown (mvT hZ (hw _ (List.mem_of_getElem? (i := 28) rfl))) (mvT hZ (hw _ (List.mem_of_getElem? (i := 29) rfl))) (mvT hZ (hw _ (List.mem_of_getElem? (i := 30) rfl))) (mvT hZ (hw _ (List.mem_of_getElem? (i := 31) rfl))) (by decide) (backOf (W := 1) (rm6_1 l Z a0 hw [] ba kc b0 h0 n0 Z0 Vl) hZ (hw _ (List.mem_of_getElem? (i := 31) rfl)) (hw _ (List.mem_of_getElem? (i := 30) rfl)) (by decide) (by decide)) (g := (mkF m 35 #[.val (.ref a), .val (.int (1 : Int32))] [(.int (2 : Int32)), (.ref ba), (.ref a)])) rfl (by rw [hml]; rfl) (argsL := [(.ref ba), (.int (2 : Int32))]) (rest := [(.ref a)]) (lenOf pd_4 rfl) rfl (by show 2 * 0 + _ ≤ _; exact Nat.le_of_eq rfl) (hb hby d4_35) (fun _ _ => ⟨rfl, e74, (by decide : 0 + 1 ≤ _), (by decide : 0 + 2 ≤ _)⟩)
    dsimp only [Pt.U, Pt.locs, Pt.cells, Pt.slots] at X75 l75 y75 z75 st75 hQ75
    subst l75 y75 z75
    obtain ⟨nb76, kc77, rfl, N75q, K75, f78, f79⟩ := hQ75
    have N75 := Fr.app N74 N75q
    have f80 : Exa Z T75.heap a "com/example/notesmith/notesmith/report/LineBuffer" := UE.keep K75
    have f81 : Fld Z T75.heap a "com/example/notesmith/notesmith/report/LineBuffer" "bytes" "[B" (.ref ba) := Ub.keep K75 nin0
    have f82 : Fld Z T75.heap a "com/example/notesmith/notesmith/report/LineBuffer" "length" "I" (.int (1 : Int32)) := Ul.keep K75 nin0
    have f83 : Arv Z T75.heap ba kc .byte (1 : Int32) [(.int b0)] (.int (0 : Int32)) := Vl.keep K75 nin0
    have z75' : n0 ≤ T75.heap.size := Nat.le_trans Z0 K75.1
    refine own_step (T75.setTop (mkF m 38 #[.val (.ref a), .val (.int (1 : Int32))] [(.ref nb76), (.ref a)])) (fun t₀ k₀ => st75 t₀ k₀) ?_
    obtain ⟨T84, h84, X84, e84, W84, st84⟩ := putF X75 hx hZ hown (host := "") (Or.inl (hw _ (List.mem_of_getElem? (i := 11) rfl))) Via.refl rfl f81 f80 (Or.inl (hw _ (List.mem_of_getElem? (i := 12) rfl))) (hw _ (List.mem_of_getElem? (i := 2) rfl)) (ty := (.array .byte)) (by decide) rfl rfl (g := (mkF m 38 #[.val (.ref a), .val (.int (1 : Int32))] [(.ref nb76), (.ref a)])) rfl rfl (hb hby d4_38)
    have f85 : Fld Z h84 a "com/example/notesmith/notesmith/report/LineBuffer" "bytes" "[B" (.ref nb76) := f81.same W84
    have ne86 : ba ≠ a := (Ne.symm (Exa.neArv f80 f83 (hw _ (List.mem_of_getElem? (i := 2) rfl))))
    have ne87 : nb76 ≠ a := (Ne.symm (Exa.neArv f80 f79 (hw _ (List.mem_of_getElem? (i := 2) rfl))))
    have f88 : Exa Z h84 a "com/example/notesmith/notesmith/report/LineBuffer" := f80.wr W84
    have f89 : Fld Z h84 a "com/example/notesmith/notesmith/report/LineBuffer" "length" "I" (.int (1 : Int32)) := f82.other W84 (Or.inr (slot_ne (Or.inl (hw _ (List.mem_of_getElem? (i := 23) rfl))) (Or.inl (hw _ (List.mem_of_getElem? (i := 12) rfl))) (by decide) (t := .int) (t' := (.array .byte)) (by decide) (by decide)))
    have f90 : Arv Z h84 ba kc .byte (1 : Int32) [(.int b0)] (.int (0 : Int32)) := f83.other W84 ne86
    have f91 : Arv Z h84 nb76 kc77 .byte (2 : Int32) [(.int b0), (.int (0 : Int32))] (.int (0 : Int32)) := f79.other W84 ne87
    have N84 := Fr.snoc X84 N75 ga
    have z84 : n0 ≤ h84.size := Nat.le_trans z75' (Keep.of_wr W84).1
    refine own_step (T84.setTop (mkF m 41 #[.val (.ref a), .val (.int (1 : Int32))] [])) (fun t₀ k₀ => st84 t₀ k₀) ?_
    obtain ⟨fs, hr, hrun, hended, hW, hsame⟩ := X84.leave (v := none) (fun _ => rfl)
    refine ⟨_, _, ?_, hrun, hended, _, _, rfl, ?_, ⟨_, rfl⟩, hW, hsame.mono (by decide) (by decide)⟩
    · exact X84.returnOut hx Bd.returns (hb hby d4_41) hr
    · show Q_rm4_1 Z a ba kc N b0 h0 n0 _ T84.heap _
      rw [e84]
      exact ⟨nb76, kc77, (2 : Int32), rfl, N84, z84, f78, (by decide), f88, f85, f89, (f91.pad (by intro i; match i with | 0 => rfl | 1 => rfl | 2 => rfl | 3 => rfl | 4 => rfl | 5 => rfl | _ + 6 => rfl))⟩
  · skip
    refine own_step (T68.setTop (mkF m 41 #[.val (.ref a), .val (.int (1 : Int32))] [])) (fun t₀ k₀ => XS.icmpYes X68.here hx rfl (pc0 := 11) (pc' := 41) rfl (hb hby d4_11) rfl (flt hc11).2.2.2 (by decide) (by decide) k₀) ?_
    obtain ⟨fs, hr, hrun, hended, hW, hsame⟩ := X68.leave (v := none) (fun _ => rfl)
    refine ⟨_, _, ?_, hrun, hended, _, _, rfl, ?_, ⟨_, rfl⟩, hW, hsame.mono (by decide) (by decide)⟩
    · exact X68.returnOut hx Bd.returns (hb hby d4_41) hr
    · show Q_rm4_1 Z a ba kc N b0 h0 n0 _ T68.heap _
      rw [e68]
      exact ⟨ba, kc, N, rfl, N0, Z0, gba, hc11, UE, Ub, Ul, UV⟩
theorem ef_rm3_1 (m : MethodId) (a : Addr) (ch : Int32) : entryFrame m #[(.ref a), (.int ch)] 2 = mkF m 0 #[.val (.ref a), .val (.int ch)] [] := by first | (simp [entryFrame, mkF, argsToLocals, Value.category]; done) | rfl
def Q_rm3_1 (Z : State) (a : Addr) (ch : Int32) (ba : Addr) (kc : ClassId) (N : Int32) (b0 : Int32) (h0 : Heap) (n0 : Nat) (v : Option Value) (h : Heap) (L : List Loc) : Prop := ∃ (nb : Addr) (kd : ClassId) (M : Int32), v = some (.ref a) ∧ Fr n0 L ∧ n0 ≤ h.size ∧ n0 ≤ nb ∧ ¬ M < 2 ∧ Exa Z h a "com/example/notesmith/notesmith/report/LineBuffer" ∧ Fld Z h a "com/example/notesmith/notesmith/report/LineBuffer" "bytes" "[B" (.ref nb) ∧ Fld Z h a "com/example/notesmith/notesmith/report/LineBuffer" "length" "I" (.int (2 : Int32)) ∧ Arv Z h nb kd .byte M [(.int b0), (.int ch), (.int (0 : Int32)), (.int (0 : Int32))] (.int (0 : Int32))
set_option maxRecDepth 65536 in
set_option maxHeartbeats 40000000 in
theorem rm3_1 (l : Launch) (Z : State) (a0 : Array Value) (hw : ∀ d ∈ tables_1, d.before a0 Z = true) (ws : List Jvm.Cond) (a : Addr) (ch : Int32) (ba : Addr) (kc : ClassId) (N : Int32) (b0 : Int32) (h0 : Heap) (n0 : Nat) (Z0 : n0 ≤ h0.size) (UE : Exa Z h0 a "com/example/notesmith/notesmith/report/LineBuffer") (Ub : Fld Z h0 a "com/example/notesmith/notesmith/report/LineBuffer" "bytes" "[B" (.ref ba)) (Ul : Fld Z h0 a "com/example/notesmith/notesmith/report/LineBuffer" "length" "I" (.int (1 : Int32))) (UV : Arv Z h0 ba kc .byte N [(.int b0), (.int (0 : Int32)), (.int (0 : Int32)), (.int (0 : Int32))] (.int (0 : Int32))) (ga : n0 ≤ a) (gba : n0 ≤ ba) (hkN : ¬ N < 1) (hkN1 : ¬ N < 1) (hch : nar .byte (ch.toInt8.toInt32) = ch) :
    MetFree l (⟨"com/example/notesmith/notesmith/report/LineBuffer", "append", "(C)Lcom/example/notesmith/notesmith/report/LineBuffer;"⟩ : MethodName) (head1 (Jvm.Cond.code (⟨"com/example/notesmith/notesmith/report/LineBuffer", "append", "(C)Lcom/example/notesmith/notesmith/report/LineBuffer;"⟩ : MethodName) prog_104_method_7_code 2 (some (.object "com/example/notesmith/notesmith/report/LineBuffer")) :: ws) ({ frames := 3, cells := 1, slots := 8, locals := 68 } : Room)) (fun as₉ U => as₉ = #[(.ref a), (.int ch)] ∧ Z.Warmed39 U.vm ∧ U.heap = h0) (fun _ _ _ _ _ => True) (fun _ U o₉ U' => ∃ v L, o₉ = .returned v ∧ Q_rm3_1 Z a ch ba kc N b0 h0 n0 v U'.heap L ∧ FrameEnd U o₉ U' L ({ frames := 3, cells := 1, slots := 8, locals := 68 } : Room).cells ({ frames := 3, cells := 1, slots := 8, locals := 68 } : Room).slots) := by
  refine MetFree.of_bodySF (plainFor_of_name pn_1) hisR ?_
  intro p e s m args below meth c s₁ Bd hml0 hP hK
  obtain ⟨rfl, hZ, hh⟩ := hP
  have hx := Bd.exec
  have hby := Bd.bytes
  have hml : c.maxLocals = 2 := hml0
  have hown : s.vm.findClass "com/example/notesmith/notesmith/report/LineBuffer" = some m.cls := findClass_of_methodNamed Bd.named
  have hnm := (name_of_methodNamed Bd.named Bd.method).1
  have X0 : Stand p l e ({ frames := 3, cells := 1, slots := 8, locals := 68 } : Room) s m #[(.ref a), (.int ch)] below meth c s₁ [] 0 0 := Stand.of_body Bd
  have e0 : s₁.heap = h0 := by rw [← hh, Bd.state]; rfl
  have N0 := Fr.nil n0
  show own_Go p e below (fun s₂ o₉ => s₂.status = .running ∧ Ended s₂ below o₉ ∧ ∃ v L, o₉ = .returned v ∧ Q_rm3_1 Z a ch ba kc N b0 h0 n0 v s₂.heap L ∧ FrameEnd s o₉ s₂ L ({ frames := 3, cells := 1, slots := 8, locals := 68 } : Room).cells ({ frames := 3, cells := 1, slots := 8, locals := 68 } : Room).slots) (s₁.setTop (entryFrame m #[(.ref a), (.int ch)] 2))
  rw [ef_rm3_1 m a ch]
  refine own_step (s₁.setTop (mkF m 1 #[.val (.ref a), .val (.int ch)] [(.ref a)])) (fun t₀ k₀ => XS.aloadN X0.here hx rfl (hb hby d3_0) rfl rfl k₀) ?_
  refine own_step (s₁.setTop (mkF m 2 #[.val (.ref a), .val (.int ch)] [(.int (1 : Int32)), (.ref a)])) (fun t₀ k₀ => XS.iconst X0.here hx rfl (hb hby d3_1) k₀) ?_
  obtain ⟨cq92, q92, q92'⟩ := UE.cell
  obtain ⟨_, _, ⟨T92, L92, k92, n92⟩, -, X92, ⟨Lc92, hQ92, l92, y92, z92⟩, st92⟩ := X0.privateBack hx (y := (⟨"com/example/notesmith/notesmith/report/LineBuffer", "ensureRoom", "(I)V"⟩ : MethodName)) hown (mvT hZ (hw _ (List.mem_of_getElem? (i := 18) rfl))) (mvT hZ (hw _ (List.mem_of_getElem? (i := 19) rfl))) (own_sel (y := (⟨"com/example/notesmith/notesmith/report/LineBuffer", "ensureRoom", "(I)V"⟩ : MethodName)) (mvT hZ (hw _ (List.mem_of_getElem? (i := 2) rfl))) (mvP hZ (hw _ (List.mem_of_getElem? (i := 20) rfl))) (mvT hZ (hw _ (List.mem_of_getElem? (i := 19) rfl))) (by decide)) (Cond.privateMethod_at (mvP hZ (hw _ (List.mem_of_getElem? (i := 20) rfl)) (args := #[]))) (mvT hZ (hw _ (List.mem_of_getElem? (i := 21) rfl))) (by decide) (backOf (W := 0) (rm4_1 l Z a0 hw [] a ba kc N b0 h0 n0 Z0 UE Ub Ul UV ga gba hkN hkN1) hZ (hw _ (List.mem_of_getElem? (i := 21) rfl)) (hw _ (List.mem_of_getElem? (i := 3) rfl)) (by decide) (by decide)) (g := (mkF m 2 #[.val (.ref a), .val (.int ch)] [(.int (1 : Int32)), (.ref a)])) rfl (by rw [hml]; rfl) (Steps.refl _) (a := a) (by rw [e0]; exact q92) q92' (argsL := [(.int (1 : Int32))]) (rest := []) (lenOf pd_0 rfl) rfl (by show 2 * 0 + _ ≤ _; exact Nat.le_of_eq rfl) (hb hby d3_2) (fun _ _ => ⟨rfl, e0, (by decide : 0 + 1 ≤ _), (by decide : 0 + 8 ≤ _)⟩)
  dsimp only [Pt.U, Pt.locs, Pt.cells, Pt.slots] at X92 l92 y92 z92 st92 hQ92
  subst l92 y92 z92
  obtain ⟨nb93, kd94, M95, rfl, N92q, K92, f96, f97, f98, f99, f100, f101⟩ := hQ92
  have N92 := Fr.app N0 N92q
  refine own_comes (T92.setTop (mkF m 5 #[.val (.ref a), .val (.int ch)] [])) st92 ?_
  refine own_step (T92.setTop (mkF m 6 #[.val (.ref a), .val (.int ch)] [(.ref a)])) (fun t₀ k₀ => XS.aloadN X92.here hx rfl (hb hby d3_5) rfl rfl k₀) ?_
  obtain ⟨T102, X102, e102, st102⟩ := getF X92 hx hZ hown (host := "") (Or.inl (hw _ (List.mem_of_getElem? (i := 11) rfl))) Via.refl rfl f99 (g := (mkF m 6 #[.val (.ref a), .val (.int ch)] [(.ref a)])) rfl rfl (hb hby d3_6)
  refine own_step (T102.setTop (mkF m 9 #[.val (.ref a), .val (.int ch)] [(.ref nb93)])) (fun t₀ k₀ => st102 t₀ k₀) ?_
  refine own_step (T102.setTop (mkF m 10 #[.val (.ref a), .val (.int ch)] [(.ref a), (.ref nb93)])) (fun t₀ k₀ => XS.aloadN X102.here hx rfl (hb hby d3_9) rfl rfl k₀) ?_
  obtain ⟨T103, X103, e103, st103⟩ := getF X102 hx hZ hown (host := "") (Or.inl (hw _ (List.mem_of_getElem? (i := 22) rfl))) Via.refl e102 f100 (g := (mkF m 10 #[.val (.ref a), .val (.int ch)] [(.ref a), (.ref nb93)])) rfl rfl (hb hby d3_10)
  refine own_step (T103.setTop (mkF m 13 #[.val (.ref a), .val (.int ch)] [(.int (1 : Int32)), (.ref nb93)])) (fun t₀ k₀ => st103 t₀ k₀) ?_
  refine own_step (T103.setTop (mkF m 14 #[.val (.ref a), .val (.int ch)] [(.int ch), (.int (1 : Int32)), (.ref nb93)])) (fun t₀ k₀ => XS.iloadN X103.here hx rfl (hb hby d3_13) rfl k₀) ?_
  refine own_step (T103.setTop (mkF m 15 #[.val (.ref a), .val (.int ch)] [(.int (ch.toInt8.toInt32)), (.int (1 : Int32)), (.ref nb93)])) (fun t₀ k₀ => XS.i2b X103.here hx rfl (hb hby d3_14) rfl k₀) ?_
  obtain ⟨clo104, Aro104, qo104, So104, Mo104, Ho104, Go104⟩ := id f101
  have hino104 : ¬ ((1 : Int32) < 0 ∨ clo104.slots.size ≤ ((1 : Int32)).toNatClampNeg) := inb_of So104 ⟨by decide, own_ltk f97 (by decide)⟩
  obtain ⟨T105, h105, X105, e105, W105, st105⟩ := stB X103 hx hZ e103 Aro104 (j := (1 : Int32)) hino104 (g := (mkF m 15 #[.val (.ref a), .val (.int ch)] [(.int (ch.toInt8.toInt32)), (.int (1 : Int32)), (.ref nb93)])) rfl rfl (hb hby d3_15)
  have V105 : Arv Z h105 nb93 kd94 .byte M95 [(.int b0), (.int (nar .byte (ch.toInt8.toInt32))), (.int (0 : Int32)), (.int (0 : Int32))] (.int (0 : Int32)) := Arv.set Aro104 qo104 So104 Mo104 Ho104 Go104 (fits_nar_byte _) W105 1 rfl (Nat.le_of_ble_eq_true rfl)
  have ne106 : a ≠ nb93 := (Exa.neArv f98 f101 (hw _ (List.mem_of_getElem? (i := 2) rfl)))
  have f107 : Exa Z h105 a "com/example/notesmith/notesmith/report/LineBuffer" := f98.wr W105
  have f108 : Fld Z h105 a "com/example/notesmith/notesmith/report/LineBuffer" "bytes" "[B" (.ref nb93) := f99.other W105 (Or.inl ne106)
  have f109 : Fld Z h105 a "com/example/notesmith/notesmith/report/LineBuffer" "length" "I" (.int (1 : Int32)) := f100.other W105 (Or.inl ne106)
  have N105 := Fr.snoc X105 N92 f96
  have z105 : n0 ≤ h105.size := Nat.le_trans K92 (Keep.of_wr W105).1
  refine own_step (T105.setTop (mkF m 16 #[.val (.ref a), .val (.int ch)] [])) (fun t₀ k₀ => st105 t₀ k₀) ?_
  have Vc110 : Arv Z h105 nb93 kd94 .byte M95 [(.int b0), (.int ch), (.int (0 : Int32)), (.int (0 : Int32))] (.int (0 : Int32)) := by have q := V105; rw [hch] at q; exact q
  refine own_step (T105.setTop (mkF m 17 #[.val (.ref a), .val (.int ch)] [(.ref a)])) (fun t₀ k₀ => XS.aloadN X105.here hx rfl (hb hby d3_16) rfl rfl k₀) ?_
  refine own_step (T105.setTop (mkF m 18 #[.val (.ref a), .val (.int ch)] [(.ref a), (.ref a)])) (fun t₀ k₀ => XS.dup X105.here hx rfl (hb hby d3_17) rfl rfl k₀) ?_
  obtain ⟨T111, X111, e111, st111⟩ := getF X105 hx hZ hown (host := "") (Or.inl (hw _ (List.mem_of_getElem? (i := 22) rfl))) Via.refl e105 f109 (g := (mkF m 18 #[.val (.ref a), .val (.int ch)] [(.ref a), (.ref a)])) rfl rfl (hb hby d3_18)
  refine own_step (T111.setTop (mkF m 21 #[.val (.ref a), .val (.int ch)] [(.int (1 : Int32)), (.ref a)])) (fun t₀ k₀ => st111 t₀ k₀) ?_
  refine own_step (T111.setTop (mkF m 22 #[.val (.ref a), .val (.int ch)] [(.int (1 : Int32)), (.int (1 : Int32)), (.ref a)])) (fun t₀ k₀ => XS.iconst X111.here hx rfl (hb hby d3_21) k₀) ?_
  refine own_step (T111.setTop (mkF m 23 #[.val (.ref a), .val (.int ch)] [(.int (2 : Int32)), (.ref a)])) (fun t₀ k₀ => XS.iadd X111.here hx rfl (hb hby d3_22) rfl k₀) ?_
  obtain ⟨T112, h112, X112, e112, W112, st112⟩ := putF X111 hx hZ hown (host := "") (Or.inl (hw _ (List.mem_of_getElem? (i := 22) rfl))) Via.refl e111 f109 f107 (Or.inl (hw _ (List.mem_of_getElem? (i := 23) rfl))) (hw _ (List.mem_of_getElem? (i := 2) rfl)) (ty := .int) (by decide) rfl rfl (g := (mkF m 23 #[.val (.ref a), .val (.int ch)] [(.int (2 : Int32)), (.ref a)])) rfl rfl (hb hby d3_23)
  have f113 : Fld Z h112 a "com/example/notesmith/notesmith/report/LineBuffer" "length" "I" (.int (2 : Int32)) := f109.same W112
  have f114 : Exa Z h112 a "com/example/notesmith/notesmith/report/LineBuffer" := f107.wr W112
  have f115 : Fld Z h112 a "com/example/notesmith/notesmith/report/LineBuffer" "bytes" "[B" (.ref nb93) := f108.other W112 (Or.inr (slot_ne (Or.inl (hw _ (List.mem_of_getElem? (i := 12) rfl))) (Or.inl (hw _ (List.mem_of_getElem? (i := 23) rfl))) (by decide) (t := (.array .byte)) (t' := .int) (by decide) (by decide)))
  have f116 : Arv Z h112 nb93 kd94 .byte M95 [(.int b0), (.int ch), (.int (0 : Int32)), (.int (0 : Int32))] (.int (0 : Int32)) := Vc110.other W112 (Ne.symm ne106)
  have N112 := Fr.snoc X112 N105 ga
  have z112 : n0 ≤ h112.size := Nat.le_trans z105 (Keep.of_wr W112).1
  refine own_step (T112.setTop (mkF m 26 #[.val (.ref a), .val (.int ch)] [])) (fun t₀ k₀ => st112 t₀ k₀) ?_
  refine own_step (T112.setTop (mkF m 27 #[.val (.ref a), .val (.int ch)] [(.ref a)])) (fun t₀ k₀ => XS.aloadN X112.here hx rfl (hb hby d3_26) rfl rfl k₀) ?_
  obtain ⟨fs, hr, hrun, hended, hW, hsame⟩ := X112.leave (v := some (.ref a)) (fun h => by rw [Bd.returns] at h; cases h)
  refine ⟨_, _, ?_, hrun, hended, _, _, rfl, ?_, ⟨_, rfl⟩, hW, hsame.mono (by decide) (by decide)⟩
  · jvm_step X112.here [X112.here.top, hx, (hb hby d3_27), X112.method', Bd.returns, Value.isRef, FieldType.isReference]
    first | (intro acts; rw [hr _ acts rfl rfl rfl]) | rw [hr _ _ rfl rfl rfl]
    exact Steps.refl _
  · show Q_rm3_1 Z a ch ba kc N b0 h0 n0 _ T112.heap _
    rw [e112]
    exact ⟨nb93, kd94, M95, rfl, N112, z112, f96, f97, f114, f115, f113, f116⟩
theorem ef_rm4_2 (m : MethodId) (a : Addr) : entryFrame m #[(.ref a), (.int (1 : Int32))] 2 = mkF m 0 #[.val (.ref a), .val (.int (1 : Int32))] [] := by first | (simp [entryFrame, mkF, argsToLocals, Value.category]; done) | rfl
def Q_rm4_2 (Z : State) (a : Addr) (ba : Addr) (kc : ClassId) (N : Int32) (b0 : Int32) (b1 : Int32) (h0 : Heap) (n0 : Nat) (v : Option Value) (h : Heap) (L : List Loc) : Prop := ∃ (nb : Addr) (kd : ClassId) (M : Int32), v = none ∧ Fr n0 L ∧ n0 ≤ h.size ∧ n0 ≤ nb ∧ ¬ M < 3 ∧ Exa Z h a "com/example/notesmith/notesmith/report/LineBuffer" ∧ Fld Z h a "com/example/notesmith/notesmith/report/LineBuffer" "bytes" "[B" (.ref nb) ∧ Fld Z h a "com/example/notesmith/notesmith/report/LineBuffer" "length" "I" (.int (2 : Int32)) ∧ Arv Z h nb kd .byte M [(.int b0), (.int b1), (.int (0 : Int32)), (.int (0 : Int32))] (.int (0 : Int32))
set_option maxRecDepth 65536 in
set_option maxHeartbeats 40000000 in
theorem rm4_2 (l : Launch) (Z : State) (a0 : Array Value) (hw : ∀ d ∈ tables_1, d.before a0 Z = true) (ws : List Jvm.Cond) (a : Addr) (ba : Addr) (kc : ClassId) (N : Int32) (b0 : Int32) (b1 : Int32) (h0 : Heap) (n0 : Nat) (Z0 : n0 ≤ h0.size) (UE : Exa Z h0 a "com/example/notesmith/notesmith/report/LineBuffer") (Ub : Fld Z h0 a "com/example/notesmith/notesmith/report/LineBuffer" "bytes" "[B" (.ref ba)) (Ul : Fld Z h0 a "com/example/notesmith/notesmith/report/LineBuffer" "length" "I" (.int (2 : Int32))) (UV : Arv Z h0 ba kc .byte N [(.int b0), (.int b1), (.int (0 : Int32)), (.int (0 : Int32))] (.int (0 : Int32))) (ga : n0 ≤ a) (gba : n0 ≤ ba) (hkN : ¬ N < 2) (hkN1 : ¬ N < 1) :
    MetFree l (⟨"com/example/notesmith/notesmith/report/LineBuffer", "ensureRoom", "(I)V"⟩ : MethodName) (head1 (Jvm.Cond.code (⟨"com/example/notesmith/notesmith/report/LineBuffer", "ensureRoom", "(I)V"⟩ : MethodName) prog_104_method_17_code 2 none :: ws) ({ frames := 2, cells := 1, slots := 8, locals := 55 } : Room)) (fun as₉ U => as₉ = #[(.ref a), (.int (1 : Int32))] ∧ Z.Warmed39 U.vm ∧ U.heap = h0) (fun _ _ _ _ _ => True) (fun _ U o₉ U' => ∃ v L, o₉ = .returned v ∧ Q_rm4_2 Z a ba kc N b0 b1 h0 n0 v U'.heap L ∧ FrameEnd U o₉ U' L ({ frames := 2, cells := 1, slots := 8, locals := 55 } : Room).cells ({ frames := 2, cells := 1, slots := 8, locals := 55 } : Room).slots) := by
  refine MetFree.of_bodySF (plainFor_of_name pn_1) hisR ?_
  intro p e s m args below meth c s₁ Bd hml0 hP hK
  obtain ⟨rfl, hZ, hh⟩ := hP
  have hx := Bd.exec
  have hby := Bd.bytes
  have hml : c.maxLocals = 2 := hml0
  have hown : s.vm.findClass "com/example/notesmith/notesmith/report/LineBuffer" = some m.cls := findClass_of_methodNamed Bd.named
  have hnm := (name_of_methodNamed Bd.named Bd.method).1
  have X0 : Stand p l e ({ frames := 2, cells := 1, slots := 8, locals := 55 } : Room) s m #[(.ref a), (.int (1 : Int32))] below meth c s₁ [] 0 0 := Stand.of_body Bd
  have e0 : s₁.heap = h0 := by rw [← hh, Bd.state]; rfl
  have N0 := Fr.nil n0
  show own_Go p e below (fun s₂ o₉ => s₂.status = .running ∧ Ended s₂ below o₉ ∧ ∃ v L, o₉ = .returned v ∧ Q_rm4_2 Z a ba kc N b0 b1 h0 n0 v s₂.heap L ∧ FrameEnd s o₉ s₂ L ({ frames := 2, cells := 1, slots := 8, locals := 55 } : Room).cells ({ frames := 2, cells := 1, slots := 8, locals := 55 } : Room).slots) (s₁.setTop (entryFrame m #[(.ref a), (.int (1 : Int32))] 2))
  rw [ef_rm4_2 m a]
  refine own_step (s₁.setTop (mkF m 1 #[.val (.ref a), .val (.int (1 : Int32))] [(.ref a)])) (fun t₀ k₀ => XS.aloadN X0.here hx rfl (hb hby d4_0) rfl rfl k₀) ?_
  obtain ⟨T117, X117, e117, st117⟩ := getF X0 hx hZ hown (host := "") (Or.inl (hw _ (List.mem_of_getElem? (i := 22) rfl))) Via.refl e0 Ul (g := (mkF m 1 #[.val (.ref a), .val (.int (1 : Int32))] [(.ref a)])) rfl rfl (hb hby d4_1)
  refine own_step (T117.setTop (mkF m 4 #[.val (.ref a), .val (.int (1 : Int32))] [(.int (2 : Int32))])) (fun t₀ k₀ => st117 t₀ k₀) ?_
  refine own_step (T117.setTop (mkF m 5 #[.val (.ref a), .val (.int (1 : Int32))] [(.int (1 : Int32)), (.int (2 : Int32))])) (fun t₀ k₀ => XS.iloadN X117.here hx rfl (hb hby d4_4) rfl k₀) ?_
  refine own_step (T117.setTop (mkF m 6 #[.val (.ref a), .val (.int (1 : Int32))] [(.int (3 : Int32))])) (fun t₀ k₀ => XS.iadd X117.here hx rfl (hb hby d4_5) rfl k₀) ?_
  refine own_step (T117.setTop (mkF m 7 #[.val (.ref a), .val (.int (1 : Int32))] [(.ref a), (.int (3 : Int32))])) (fun t₀ k₀ => XS.aloadN X117.here hx rfl (hb hby d4_6) rfl rfl k₀) ?_
  obtain ⟨T118, X118, e118, st118⟩ := getF X117 hx hZ hown (host := "") (Or.inl (hw _ (List.mem_of_getElem? (i := 11) rfl))) Via.refl e117 Ub (g := (mkF m 7 #[.val (.ref a), .val (.int (1 : Int32))] [(.ref a), (.int (3 : Int32))])) rfl rfl (hb hby d4_7)
  refine own_step (T118.setTop (mkF m 10 #[.val (.ref a), .val (.int (1 : Int32))] [(.ref ba), (.int (3 : Int32))])) (fun t₀ k₀ => st118 t₀ k₀) ?_
  obtain ⟨clo119, Aro119, qo119, So119, Mo119, Ho119, Go119⟩ := id UV
  refine own_step (T118.setTop (mkF m 11 #[.val (.ref a), .val (.int (1 : Int32))] [(.int N), (.int (3 : Int32))])) (fun t₀ k₀ => X118.arraylength hx (by rw [e118]; exact Aro119.1) (State.isArrayOf_alike hZ.alike Aro119.2.1) (g := (mkF m 10 #[.val (.ref a), .val (.int (1 : Int32))] [(.ref ba), (.int (3 : Int32))])) rfl rfl (hb hby d4_10) _ (by rw [len_of So119 Mo119]; exact k₀)) ?_
  by_cases hc11 : N < (3 : Int32)
  · skip
    refine own_step (T118.setTop (mkF m 14 #[.val (.ref a), .val (.int (1 : Int32))] [])) (fun t₀ k₀ => XS.icmpNo X118.here hx rfl (hb hby d4_11) rfl (tlt hc11).2.2.2 k₀) ?_
    have hNk : N = (2 : Int32) := own_eqk hkN hc11 (by decide)
    have Vl0 : Arv Z h0 ba kc .byte N [(.int b0), (.int b1)] (.int (0 : Int32)) := UV.pad (by intro i; match i with | 0 => rfl | 1 => rfl | 2 => rfl | 3 => rfl | 4 => rfl | 5 => rfl | _ + 6 => rfl)
    have Vl : Arv Z h0 ba kc .byte (2 : Int32) [(.int b0), (.int b1)] (.int (0 : Int32)) := by have q := Vl0; rw [hNk] at q; exact q
    refine own_step (T118.setTop (mkF m 15 #[.val (.ref a), .val (.int (1 : Int32))] [(.ref a)])) (fun t₀ k₀ => XS.aloadN X118.here hx rfl (hb hby d4_14) rfl rfl k₀) ?_
    refine own_step (T118.setTop (mkF m 16 #[.val (.ref a), .val (.int (1 : Int32))] [(.ref a), (.ref a)])) (fun t₀ k₀ => XS.aloadN X118.here hx rfl (hb hby d4_15) rfl rfl k₀) ?_
    obtain ⟨T120, X120, e120, st120⟩ := getF X118 hx hZ hown (host := "") (Or.inl (hw _ (List.mem_of_getElem? (i := 11) rfl))) Via.refl e118 Ub (g := (mkF m 16 #[.val (.ref a), .val (.int (1 : Int32))] [(.ref a), (.ref a)])) rfl rfl (hb hby d4_16)
    refine own_step (T120.setTop (mkF m 19 #[.val (.ref a), .val (.int (1 : Int32))] [(.ref ba), (.ref a)])) (fun t₀ k₀ => st120 t₀ k₀) ?_
    refine own_step (T120.setTop (mkF m 20 #[.val (.ref a), .val (.int (1 : Int32))] [(.int (2 : Int32)), (.ref ba), (.ref a)])) (fun t₀ k₀ => XS.iconst X120.here hx rfl (hb hby d4_19) k₀) ?_
    refine own_step (T120.setTop (mkF m 21 #[.val (.ref a), .val (.int (1 : Int32))] [(.ref a), (.int (2 : Int32)), (.ref ba), (.ref a)])) (fun t₀ k₀ => XS.aloadN X120.here hx rfl (hb hby d4_20) rfl rfl k₀) ?_
    obtain ⟨T121, X121, e121, st121⟩ := getF X120 hx hZ hown (host := "") (Or.inl (hw _ (List.mem_of_getElem? (i := 11) rfl))) Via.refl e120 Ub (g := (mkF m 21 #[.val (.ref a), .val (.int (1 : Int32))] [(.ref a), (.int (2 : Int32)), (.ref ba), (.ref a)])) rfl rfl (hb hby d4_21)
    refine own_step (T121.setTop (mkF m 24 #[.val (.ref a), .val (.int (1 : Int32))] [(.ref ba), (.int (2 : Int32)), (.ref ba), (.ref a)])) (fun t₀ k₀ => st121 t₀ k₀) ?_
    obtain ⟨clo122, Aro122, qo122, So122, Mo122, Ho122, Go122⟩ := id Vl
    refine own_step (T121.setTop (mkF m 25 #[.val (.ref a), .val (.int (1 : Int32))] [(.int (2 : Int32)), (.int (2 : Int32)), (.ref ba), (.ref a)])) (fun t₀ k₀ => X121.arraylength hx (by rw [e121]; exact Aro122.1) (State.isArrayOf_alike hZ.alike Aro122.2.1) (g := (mkF m 24 #[.val (.ref a), .val (.int (1 : Int32))] [(.ref ba), (.int (2 : Int32)), (.ref ba), (.ref a)])) rfl rfl (hb hby d4_24) _ (by rw [len_of So122 Mo122]; exact k₀)) ?_
    refine own_step (T121.setTop (mkF m 26 #[.val (.ref a), .val (.int (1 : Int32))] [(.int (4 : Int32)), (.ref ba), (.ref a)])) (fun t₀ k₀ => XS.imul X121.here hx rfl (hb hby d4_25) rfl k₀) ?_
    refine own_step (T121.setTop (mkF m 27 #[.val (.ref a), .val (.int (1 : Int32))] [(.ref a), (.int (4 : Int32)), (.ref ba), (.ref a)])) (fun t₀ k₀ => XS.aloadN X121.here hx rfl (hb hby d4_26) rfl rfl k₀) ?_
    obtain ⟨T123, X123, e123, st123⟩ := getF X121 hx hZ hown (host := "") (Or.inl (hw _ (List.mem_of_getElem? (i := 22) rfl))) Via.refl e121 Ul (g := (mkF m 27 #[.val (.ref a), .val (.int (1 : Int32))] [(.ref a), (.int (4 : Int32)), (.ref ba), (.ref a)])) rfl rfl (hb hby d4_27)
    refine own_step (T123.setTop (mkF m 30 #[.val (.ref a), .val (.int (1 : Int32))] [(.int (2 : Int32)), (.int (4 : Int32)), (.ref ba), (.ref a)])) (fun t₀ k₀ => st123 t₀ k₀) ?_
    refine own_step (T123.setTop (mkF m 31 #[.val (.ref a), .val (.int (1 : Int32))] [(.int (1 : Int32)), (.int (2 : Int32)), (.int (4 : Int32)), (.ref ba), (.ref a)])) (fun t₀ k₀ => XS.iloadN X123.here hx rfl (hb hby d4_30) rfl k₀) ?_
    refine own_step (T123.setTop (mkF m 32 #[.val (.ref a), .val (.int (1 : Int32))] [(.int (3 : Int32)), (.int (4 : Int32)), (.ref ba), (.ref a)])) (fun t₀ k₀ => XS.iadd X123.here hx rfl (hb hby d4_31) rfl k₀) ?_
    obtain ⟨_, _, ⟨T124, L124, k124, n124⟩, -, X124, ⟨Lc124, hQ124, l124, y124, z124⟩, st124⟩ := Jvm.LawKit.callS X123 hx (y := (⟨"java/lang/Math", "max", "(II)I"⟩ : MethodName)) hown (mvT hZ (hw _ (List.mem_of_getElem? (i := 24) rfl))) (mvT hZ (hw _ (List.mem_of_getElem? (i := 25) rfl))) (mvT hZ (hw _ (List.mem_of_getElem? (i := 26) rfl))) (mvT hZ (hw _ (List.mem_of_getElem? (i := 27) rfl))) (by decide) (backOf (W := 2) (rm5 l Z a0 hw [] (4 : Int32) (3 : Int32) h0 n0 Z0) hZ (hw _ (List.mem_of_getElem? (i := 27) rfl)) (hw _ (List.mem_of_getElem? (i := 26) rfl)) (by decide) (by decide)) (g := (mkF m 32 #[.val (.ref a), .val (.int (1 : Int32))] [(.int (3 : Int32)), (.int (4 : Int32)), (.ref ba), (.ref a)])) rfl (by rw [hml]; rfl) (argsL := [(.int (4 : Int32)), (.int (3 : Int32))]) (rest := [(.ref ba), (.ref a)]) (lenOf pd_3 rfl) rfl (by show 2 * 0 + _ ≤ _; exact Nat.le_of_eq rfl) (hb hby d4_32) (fun _ _ => ⟨rfl, e123, (by decide : 0 + 0 ≤ _), (by decide : 0 + 0 ≤ _)⟩)
    dsimp only [Pt.U, Pt.locs, Pt.cells, Pt.slots] at X124 l124 y124 z124 st124 hQ124
    subst l124 y124 z124
    obtain ⟨rfl, N124q, e124⟩ := hQ124
    have N124 := Fr.app N0 N124q
    refine own_step (T124.setTop (mkF m 35 #[.val (.ref a), .val (.int (1 : Int32))] [(.int (own_imax (4 : Int32) (3 : Int32))), (.ref ba), (.ref a)])) (fun t₀ k₀ => st124 t₀ k₀) ?_
    rw [show own_imax (4 : Int32) (3 : Int32) = (4 : Int32) from by decide]
    obtain ⟨_, _, ⟨T125, L125, k125, n125⟩, -, X125, ⟨Lc125, hQ125, l125, y125, z125⟩, st125⟩ := Jvm.LawKit.callS X124 hx (y := (⟨"java/util/Arrays", "copyOf", "([BI)[B"⟩ : MethodName)) hown (mvT hZ (hw _ (List.mem_of_getElem? (i := 28) rfl))) (mvT hZ (hw _ (List.mem_of_getElem? (i := 29) rfl))) (mvT hZ (hw _ (List.mem_of_getElem? (i := 30) rfl))) (mvT hZ (hw _ (List.mem_of_getElem? (i := 31) rfl))) (by decide) (backOf (W := 1) (rm6_2 l Z a0 hw [] ba kc b0 b1 h0 n0 Z0 Vl) hZ (hw _ (List.mem_of_getElem? (i := 31) rfl)) (hw _ (List.mem_of_getElem? (i := 30) rfl)) (by decide) (by decide)) (g := (mkF m 35 #[.val (.ref a), .val (.int (1 : Int32))] [(.int (4 : Int32)), (.ref ba), (.ref a)])) rfl (by rw [hml]; rfl) (argsL := [(.ref ba), (.int (4 : Int32))]) (rest := [(.ref a)]) (lenOf pd_4 rfl) rfl (by show 2 * 0 + _ ≤ _; exact Nat.le_of_eq rfl) (hb hby d4_35) (fun _ _ => ⟨rfl, e124, (by decide : 0 + 1 ≤ _), (by decide : 0 + 4 ≤ _)⟩)
    dsimp only [Pt.U, Pt.locs, Pt.cells, Pt.slots] at X125 l125 y125 z125 st125 hQ125
    subst l125 y125 z125
    obtain ⟨nb126, kc127, rfl, N125q, K125, f128, f129⟩ := hQ125
    have N125 := Fr.app N124 N125q
    have f130 : Exa Z T125.heap a "com/example/notesmith/notesmith/report/LineBuffer" := UE.keep K125
    have f131 : Fld Z T125.heap a "com/example/notesmith/notesmith/report/LineBuffer" "bytes" "[B" (.ref ba) := Ub.keep K125 nin0
    have f132 : Fld Z T125.heap a "com/example/notesmith/notesmith/report/LineBuffer" "length" "I" (.int (2 : Int32)) := Ul.keep K125 nin0
    have f133 : Arv Z T125.heap ba kc .byte (2 : Int32) [(.int b0), (.int b1)] (.int (0 : Int32)) := Vl.keep K125 nin0
    have z125' : n0 ≤ T125.heap.size := Nat.le_trans Z0 K125.1
    refine own_step (T125.setTop (mkF m 38 #[.val (.ref a), .val (.int (1 : Int32))] [(.ref nb126), (.ref a)])) (fun t₀ k₀ => st125 t₀ k₀) ?_
    obtain ⟨T134, h134, X134, e134, W134, st134⟩ := putF X125 hx hZ hown (host := "") (Or.inl (hw _ (List.mem_of_getElem? (i := 11) rfl))) Via.refl rfl f131 f130 (Or.inl (hw _ (List.mem_of_getElem? (i := 12) rfl))) (hw _ (List.mem_of_getElem? (i := 2) rfl)) (ty := (.array .byte)) (by decide) rfl rfl (g := (mkF m 38 #[.val (.ref a), .val (.int (1 : Int32))] [(.ref nb126), (.ref a)])) rfl rfl (hb hby d4_38)
    have f135 : Fld Z h134 a "com/example/notesmith/notesmith/report/LineBuffer" "bytes" "[B" (.ref nb126) := f131.same W134
    have ne136 : ba ≠ a := (Ne.symm (Exa.neArv f130 f133 (hw _ (List.mem_of_getElem? (i := 2) rfl))))
    have ne137 : nb126 ≠ a := (Ne.symm (Exa.neArv f130 f129 (hw _ (List.mem_of_getElem? (i := 2) rfl))))
    have f138 : Exa Z h134 a "com/example/notesmith/notesmith/report/LineBuffer" := f130.wr W134
    have f139 : Fld Z h134 a "com/example/notesmith/notesmith/report/LineBuffer" "length" "I" (.int (2 : Int32)) := f132.other W134 (Or.inr (slot_ne (Or.inl (hw _ (List.mem_of_getElem? (i := 23) rfl))) (Or.inl (hw _ (List.mem_of_getElem? (i := 12) rfl))) (by decide) (t := .int) (t' := (.array .byte)) (by decide) (by decide)))
    have f140 : Arv Z h134 ba kc .byte (2 : Int32) [(.int b0), (.int b1)] (.int (0 : Int32)) := f133.other W134 ne136
    have f141 : Arv Z h134 nb126 kc127 .byte (4 : Int32) [(.int b0), (.int b1), (.int (0 : Int32)), (.int (0 : Int32))] (.int (0 : Int32)) := f129.other W134 ne137
    have N134 := Fr.snoc X134 N125 ga
    have z134 : n0 ≤ h134.size := Nat.le_trans z125' (Keep.of_wr W134).1
    refine own_step (T134.setTop (mkF m 41 #[.val (.ref a), .val (.int (1 : Int32))] [])) (fun t₀ k₀ => st134 t₀ k₀) ?_
    obtain ⟨fs, hr, hrun, hended, hW, hsame⟩ := X134.leave (v := none) (fun _ => rfl)
    refine ⟨_, _, ?_, hrun, hended, _, _, rfl, ?_, ⟨_, rfl⟩, hW, hsame.mono (by decide) (by decide)⟩
    · exact X134.returnOut hx Bd.returns (hb hby d4_41) hr
    · show Q_rm4_2 Z a ba kc N b0 b1 h0 n0 _ T134.heap _
      rw [e134]
      exact ⟨nb126, kc127, (4 : Int32), rfl, N134, z134, f128, (by decide), f138, f135, f139, (f141.pad (by intro i; match i with | 0 => rfl | 1 => rfl | 2 => rfl | 3 => rfl | 4 => rfl | 5 => rfl | _ + 6 => rfl))⟩
  · skip
    refine own_step (T118.setTop (mkF m 41 #[.val (.ref a), .val (.int (1 : Int32))] [])) (fun t₀ k₀ => XS.icmpYes X118.here hx rfl (pc0 := 11) (pc' := 41) rfl (hb hby d4_11) rfl (flt hc11).2.2.2 (by decide) (by decide) k₀) ?_
    obtain ⟨fs, hr, hrun, hended, hW, hsame⟩ := X118.leave (v := none) (fun _ => rfl)
    refine ⟨_, _, ?_, hrun, hended, _, _, rfl, ?_, ⟨_, rfl⟩, hW, hsame.mono (by decide) (by decide)⟩
    · exact X118.returnOut hx Bd.returns (hb hby d4_41) hr
    · show Q_rm4_2 Z a ba kc N b0 b1 h0 n0 _ T118.heap _
      rw [e118]
      exact ⟨ba, kc, N, rfl, N0, Z0, gba, hc11, UE, Ub, Ul, UV⟩
theorem ef_rm3_2 (m : MethodId) (a : Addr) (ch : Int32) : entryFrame m #[(.ref a), (.int ch)] 2 = mkF m 0 #[.val (.ref a), .val (.int ch)] [] := by first | (simp [entryFrame, mkF, argsToLocals, Value.category]; done) | rfl
def Q_rm3_2 (Z : State) (a : Addr) (ch : Int32) (ba : Addr) (kc : ClassId) (N : Int32) (b0 : Int32) (b1 : Int32) (h0 : Heap) (n0 : Nat) (v : Option Value) (h : Heap) (L : List Loc) : Prop := ∃ (nb : Addr) (kd : ClassId) (M : Int32), v = some (.ref a) ∧ Fr n0 L ∧ n0 ≤ h.size ∧ n0 ≤ nb ∧ ¬ M < 3 ∧ Exa Z h a "com/example/notesmith/notesmith/report/LineBuffer" ∧ Fld Z h a "com/example/notesmith/notesmith/report/LineBuffer" "bytes" "[B" (.ref nb) ∧ Fld Z h a "com/example/notesmith/notesmith/report/LineBuffer" "length" "I" (.int (3 : Int32)) ∧ Arv Z h nb kd .byte M [(.int b0), (.int b1), (.int ch), (.int (0 : Int32))] (.int (0 : Int32))
set_option maxRecDepth 65536 in
set_option maxHeartbeats 40000000 in
theorem rm3_2 (l : Launch) (Z : State) (a0 : Array Value) (hw : ∀ d ∈ tables_1, d.before a0 Z = true) (ws : List Jvm.Cond) (a : Addr) (ch : Int32) (ba : Addr) (kc : ClassId) (N : Int32) (b0 : Int32) (b1 : Int32) (h0 : Heap) (n0 : Nat) (Z0 : n0 ≤ h0.size) (UE : Exa Z h0 a "com/example/notesmith/notesmith/report/LineBuffer") (Ub : Fld Z h0 a "com/example/notesmith/notesmith/report/LineBuffer" "bytes" "[B" (.ref ba)) (Ul : Fld Z h0 a "com/example/notesmith/notesmith/report/LineBuffer" "length" "I" (.int (2 : Int32))) (UV : Arv Z h0 ba kc .byte N [(.int b0), (.int b1), (.int (0 : Int32)), (.int (0 : Int32))] (.int (0 : Int32))) (ga : n0 ≤ a) (gba : n0 ≤ ba) (hkN : ¬ N < 2) (hkN1 : ¬ N < 1) (hch : nar .byte (ch.toInt8.toInt32) = ch) :
    MetFree l (⟨"com/example/notesmith/notesmith/report/LineBuffer", "append", "(C)Lcom/example/notesmith/notesmith/report/LineBuffer;"⟩ : MethodName) (head1 (Jvm.Cond.code (⟨"com/example/notesmith/notesmith/report/LineBuffer", "append", "(C)Lcom/example/notesmith/notesmith/report/LineBuffer;"⟩ : MethodName) prog_104_method_7_code 2 (some (.object "com/example/notesmith/notesmith/report/LineBuffer")) :: ws) ({ frames := 3, cells := 1, slots := 8, locals := 68 } : Room)) (fun as₉ U => as₉ = #[(.ref a), (.int ch)] ∧ Z.Warmed39 U.vm ∧ U.heap = h0) (fun _ _ _ _ _ => True) (fun _ U o₉ U' => ∃ v L, o₉ = .returned v ∧ Q_rm3_2 Z a ch ba kc N b0 b1 h0 n0 v U'.heap L ∧ FrameEnd U o₉ U' L ({ frames := 3, cells := 1, slots := 8, locals := 68 } : Room).cells ({ frames := 3, cells := 1, slots := 8, locals := 68 } : Room).slots) := by
  refine MetFree.of_bodySF (plainFor_of_name pn_1) hisR ?_
  intro p e s m args below meth c s₁ Bd hml0 hP hK
  obtain ⟨rfl, hZ, hh⟩ := hP
  have hx := Bd.exec
  have hby := Bd.bytes
  have hml : c.maxLocals = 2 := hml0
  have hown : s.vm.findClass "com/example/notesmith/notesmith/report/LineBuffer" = some m.cls := findClass_of_methodNamed Bd.named
  have hnm := (name_of_methodNamed Bd.named Bd.method).1
  have X0 : Stand p l e ({ frames := 3, cells := 1, slots := 8, locals := 68 } : Room) s m #[(.ref a), (.int ch)] below meth c s₁ [] 0 0 := Stand.of_body Bd
  have e0 : s₁.heap = h0 := by rw [← hh, Bd.state]; rfl
  have N0 := Fr.nil n0
  show own_Go p e below (fun s₂ o₉ => s₂.status = .running ∧ Ended s₂ below o₉ ∧ ∃ v L, o₉ = .returned v ∧ Q_rm3_2 Z a ch ba kc N b0 b1 h0 n0 v s₂.heap L ∧ FrameEnd s o₉ s₂ L ({ frames := 3, cells := 1, slots := 8, locals := 68 } : Room).cells ({ frames := 3, cells := 1, slots := 8, locals := 68 } : Room).slots) (s₁.setTop (entryFrame m #[(.ref a), (.int ch)] 2))
  rw [ef_rm3_2 m a ch]
  refine own_step (s₁.setTop (mkF m 1 #[.val (.ref a), .val (.int ch)] [(.ref a)])) (fun t₀ k₀ => XS.aloadN X0.here hx rfl (hb hby d3_0) rfl rfl k₀) ?_
  refine own_step (s₁.setTop (mkF m 2 #[.val (.ref a), .val (.int ch)] [(.int (1 : Int32)), (.ref a)])) (fun t₀ k₀ => XS.iconst X0.here hx rfl (hb hby d3_1) k₀) ?_
  obtain ⟨cq142, q142, q142'⟩ := UE.cell
  obtain ⟨_, _, ⟨T142, L142, k142, n142⟩, -, X142, ⟨Lc142, hQ142, l142, y142, z142⟩, st142⟩ := X0.privateBack hx (y := (⟨"com/example/notesmith/notesmith/report/LineBuffer", "ensureRoom", "(I)V"⟩ : MethodName)) hown (mvT hZ (hw _ (List.mem_of_getElem? (i := 18) rfl))) (mvT hZ (hw _ (List.mem_of_getElem? (i := 19) rfl))) (own_sel (y := (⟨"com/example/notesmith/notesmith/report/LineBuffer", "ensureRoom", "(I)V"⟩ : MethodName)) (mvT hZ (hw _ (List.mem_of_getElem? (i := 2) rfl))) (mvP hZ (hw _ (List.mem_of_getElem? (i := 20) rfl))) (mvT hZ (hw _ (List.mem_of_getElem? (i := 19) rfl))) (by decide)) (Cond.privateMethod_at (mvP hZ (hw _ (List.mem_of_getElem? (i := 20) rfl)) (args := #[]))) (mvT hZ (hw _ (List.mem_of_getElem? (i := 21) rfl))) (by decide) (backOf (W := 0) (rm4_2 l Z a0 hw [] a ba kc N b0 b1 h0 n0 Z0 UE Ub Ul UV ga gba hkN hkN1) hZ (hw _ (List.mem_of_getElem? (i := 21) rfl)) (hw _ (List.mem_of_getElem? (i := 3) rfl)) (by decide) (by decide)) (g := (mkF m 2 #[.val (.ref a), .val (.int ch)] [(.int (1 : Int32)), (.ref a)])) rfl (by rw [hml]; rfl) (Steps.refl _) (a := a) (by rw [e0]; exact q142) q142' (argsL := [(.int (1 : Int32))]) (rest := []) (lenOf pd_0 rfl) rfl (by show 2 * 0 + _ ≤ _; exact Nat.le_of_eq rfl) (hb hby d3_2) (fun _ _ => ⟨rfl, e0, (by decide : 0 + 1 ≤ _), (by decide : 0 + 8 ≤ _)⟩)
  dsimp only [Pt.U, Pt.locs, Pt.cells, Pt.slots] at X142 l142 y142 z142 st142 hQ142
  subst l142 y142 z142
  obtain ⟨nb143, kd144, M145, rfl, N142q, K142, f146, f147, f148, f149, f150, f151⟩ := hQ142
  have N142 := Fr.app N0 N142q
  refine own_comes (T142.setTop (mkF m 5 #[.val (.ref a), .val (.int ch)] [])) st142 ?_
  refine own_step (T142.setTop (mkF m 6 #[.val (.ref a), .val (.int ch)] [(.ref a)])) (fun t₀ k₀ => XS.aloadN X142.here hx rfl (hb hby d3_5) rfl rfl k₀) ?_
  obtain ⟨T152, X152, e152, st152⟩ := getF X142 hx hZ hown (host := "") (Or.inl (hw _ (List.mem_of_getElem? (i := 11) rfl))) Via.refl rfl f149 (g := (mkF m 6 #[.val (.ref a), .val (.int ch)] [(.ref a)])) rfl rfl (hb hby d3_6)
  refine own_step (T152.setTop (mkF m 9 #[.val (.ref a), .val (.int ch)] [(.ref nb143)])) (fun t₀ k₀ => st152 t₀ k₀) ?_
  refine own_step (T152.setTop (mkF m 10 #[.val (.ref a), .val (.int ch)] [(.ref a), (.ref nb143)])) (fun t₀ k₀ => XS.aloadN X152.here hx rfl (hb hby d3_9) rfl rfl k₀) ?_
  obtain ⟨T153, X153, e153, st153⟩ := getF X152 hx hZ hown (host := "") (Or.inl (hw _ (List.mem_of_getElem? (i := 22) rfl))) Via.refl e152 f150 (g := (mkF m 10 #[.val (.ref a), .val (.int ch)] [(.ref a), (.ref nb143)])) rfl rfl (hb hby d3_10)
  refine own_step (T153.setTop (mkF m 13 #[.val (.ref a), .val (.int ch)] [(.int (2 : Int32)), (.ref nb143)])) (fun t₀ k₀ => st153 t₀ k₀) ?_
  refine own_step (T153.setTop (mkF m 14 #[.val (.ref a), .val (.int ch)] [(.int ch), (.int (2 : Int32)), (.ref nb143)])) (fun t₀ k₀ => XS.iloadN X153.here hx rfl (hb hby d3_13) rfl k₀) ?_
  refine own_step (T153.setTop (mkF m 15 #[.val (.ref a), .val (.int ch)] [(.int (ch.toInt8.toInt32)), (.int (2 : Int32)), (.ref nb143)])) (fun t₀ k₀ => XS.i2b X153.here hx rfl (hb hby d3_14) rfl k₀) ?_
  obtain ⟨clo154, Aro154, qo154, So154, Mo154, Ho154, Go154⟩ := id f151
  have hino154 : ¬ ((2 : Int32) < 0 ∨ clo154.slots.size ≤ ((2 : Int32)).toNatClampNeg) := inb_of So154 ⟨by decide, own_ltk f147 (by decide)⟩
  obtain ⟨T155, h155, X155, e155, W155, st155⟩ := stB X153 hx hZ e153 Aro154 (j := (2 : Int32)) hino154 (g := (mkF m 15 #[.val (.ref a), .val (.int ch)] [(.int (ch.toInt8.toInt32)), (.int (2 : Int32)), (.ref nb143)])) rfl rfl (hb hby d3_15)
  have V155 : Arv Z h155 nb143 kd144 .byte M145 [(.int b0), (.int b1), (.int (nar .byte (ch.toInt8.toInt32))), (.int (0 : Int32))] (.int (0 : Int32)) := Arv.set Aro154 qo154 So154 Mo154 Ho154 Go154 (fits_nar_byte _) W155 2 rfl (Nat.le_of_ble_eq_true rfl)
  have ne156 : a ≠ nb143 := (Exa.neArv f148 f151 (hw _ (List.mem_of_getElem? (i := 2) rfl)))
  have f157 : Exa Z h155 a "com/example/notesmith/notesmith/report/LineBuffer" := f148.wr W155
  have f158 : Fld Z h155 a "com/example/notesmith/notesmith/report/LineBuffer" "bytes" "[B" (.ref nb143) := f149.other W155 (Or.inl ne156)
  have f159 : Fld Z h155 a "com/example/notesmith/notesmith/report/LineBuffer" "length" "I" (.int (2 : Int32)) := f150.other W155 (Or.inl ne156)
  have N155 := Fr.snoc X155 N142 f146
  have z155 : n0 ≤ h155.size := Nat.le_trans K142 (Keep.of_wr W155).1
  refine own_step (T155.setTop (mkF m 16 #[.val (.ref a), .val (.int ch)] [])) (fun t₀ k₀ => st155 t₀ k₀) ?_
  have Vc160 : Arv Z h155 nb143 kd144 .byte M145 [(.int b0), (.int b1), (.int ch), (.int (0 : Int32))] (.int (0 : Int32)) := by have q := V155; rw [hch] at q; exact q
  refine own_step (T155.setTop (mkF m 17 #[.val (.ref a), .val (.int ch)] [(.ref a)])) (fun t₀ k₀ => XS.aloadN X155.here hx rfl (hb hby d3_16) rfl rfl k₀) ?_
  refine own_step (T155.setTop (mkF m 18 #[.val (.ref a), .val (.int ch)] [(.ref a), (.ref a)])) (fun t₀ k₀ => XS.dup X155.here hx rfl (hb hby d3_17) rfl rfl k₀) ?_
  obtain ⟨T161, X161, e161, st161⟩ := getF X155 hx hZ hown (host := "") (Or.inl (hw _ (List.mem_of_getElem? (i := 22) rfl))) Via.refl e155 f159 (g := (mkF m 18 #[.val (.ref a), .val (.int ch)] [(.ref a), (.ref a)])) rfl rfl (hb hby d3_18)
  refine own_step (T161.setTop (mkF m 21 #[.val (.ref a), .val (.int ch)] [(.int (2 : Int32)), (.ref a)])) (fun t₀ k₀ => st161 t₀ k₀) ?_
  refine own_step (T161.setTop (mkF m 22 #[.val (.ref a), .val (.int ch)] [(.int (1 : Int32)), (.int (2 : Int32)), (.ref a)])) (fun t₀ k₀ => XS.iconst X161.here hx rfl (hb hby d3_21) k₀) ?_
  refine own_step (T161.setTop (mkF m 23 #[.val (.ref a), .val (.int ch)] [(.int (3 : Int32)), (.ref a)])) (fun t₀ k₀ => XS.iadd X161.here hx rfl (hb hby d3_22) rfl k₀) ?_
  obtain ⟨T162, h162, X162, e162, W162, st162⟩ := putF X161 hx hZ hown (host := "") (Or.inl (hw _ (List.mem_of_getElem? (i := 22) rfl))) Via.refl e161 f159 f157 (Or.inl (hw _ (List.mem_of_getElem? (i := 23) rfl))) (hw _ (List.mem_of_getElem? (i := 2) rfl)) (ty := .int) (by decide) rfl rfl (g := (mkF m 23 #[.val (.ref a), .val (.int ch)] [(.int (3 : Int32)), (.ref a)])) rfl rfl (hb hby d3_23)
  have f163 : Fld Z h162 a "com/example/notesmith/notesmith/report/LineBuffer" "length" "I" (.int (3 : Int32)) := f159.same W162
  have f164 : Exa Z h162 a "com/example/notesmith/notesmith/report/LineBuffer" := f157.wr W162
  have f165 : Fld Z h162 a "com/example/notesmith/notesmith/report/LineBuffer" "bytes" "[B" (.ref nb143) := f158.other W162 (Or.inr (slot_ne (Or.inl (hw _ (List.mem_of_getElem? (i := 12) rfl))) (Or.inl (hw _ (List.mem_of_getElem? (i := 23) rfl))) (by decide) (t := (.array .byte)) (t' := .int) (by decide) (by decide)))
  have f166 : Arv Z h162 nb143 kd144 .byte M145 [(.int b0), (.int b1), (.int ch), (.int (0 : Int32))] (.int (0 : Int32)) := Vc160.other W162 (Ne.symm ne156)
  have N162 := Fr.snoc X162 N155 ga
  have z162 : n0 ≤ h162.size := Nat.le_trans z155 (Keep.of_wr W162).1
  refine own_step (T162.setTop (mkF m 26 #[.val (.ref a), .val (.int ch)] [])) (fun t₀ k₀ => st162 t₀ k₀) ?_
  refine own_step (T162.setTop (mkF m 27 #[.val (.ref a), .val (.int ch)] [(.ref a)])) (fun t₀ k₀ => XS.aloadN X162.here hx rfl (hb hby d3_26) rfl rfl k₀) ?_
  obtain ⟨fs, hr, hrun, hended, hW, hsame⟩ := X162.leave (v := some (.ref a)) (fun h => by rw [Bd.returns] at h; cases h)
  refine ⟨_, _, ?_, hrun, hended, _, _, rfl, ?_, ⟨_, rfl⟩, hW, hsame.mono (by decide) (by decide)⟩
  · jvm_step X162.here [X162.here.top, hx, (hb hby d3_27), X162.method', Bd.returns, Value.isRef, FieldType.isReference]
    first | (intro acts; rw [hr _ acts rfl rfl rfl]) | rw [hr _ _ rfl rfl rfl]
    exact Steps.refl _
  · show Q_rm3_2 Z a ch ba kc N b0 b1 h0 n0 _ T162.heap _
    rw [e162]
    exact ⟨nb143, kd144, M145, rfl, N162, z162, f146, f147, f164, f165, f163, f166⟩
theorem ef_rm4_3 (m : MethodId) (a : Addr) : entryFrame m #[(.ref a), (.int (1 : Int32))] 2 = mkF m 0 #[.val (.ref a), .val (.int (1 : Int32))] [] := by first | (simp [entryFrame, mkF, argsToLocals, Value.category]; done) | rfl
def Q_rm4_3 (Z : State) (a : Addr) (ba : Addr) (kc : ClassId) (N : Int32) (b0 : Int32) (b1 : Int32) (b2 : Int32) (h0 : Heap) (n0 : Nat) (v : Option Value) (h : Heap) (L : List Loc) : Prop := ∃ (nb : Addr) (kd : ClassId) (M : Int32), v = none ∧ Fr n0 L ∧ n0 ≤ h.size ∧ n0 ≤ nb ∧ ¬ M < 4 ∧ Exa Z h a "com/example/notesmith/notesmith/report/LineBuffer" ∧ Fld Z h a "com/example/notesmith/notesmith/report/LineBuffer" "bytes" "[B" (.ref nb) ∧ Fld Z h a "com/example/notesmith/notesmith/report/LineBuffer" "length" "I" (.int (3 : Int32)) ∧ Arv Z h nb kd .byte M [(.int b0), (.int b1), (.int b2), (.int (0 : Int32))] (.int (0 : Int32))
set_option maxRecDepth 65536 in
set_option maxHeartbeats 40000000 in
theorem rm4_3 (l : Launch) (Z : State) (a0 : Array Value) (hw : ∀ d ∈ tables_1, d.before a0 Z = true) (ws : List Jvm.Cond) (a : Addr) (ba : Addr) (kc : ClassId) (N : Int32) (b0 : Int32) (b1 : Int32) (b2 : Int32) (h0 : Heap) (n0 : Nat) (Z0 : n0 ≤ h0.size) (UE : Exa Z h0 a "com/example/notesmith/notesmith/report/LineBuffer") (Ub : Fld Z h0 a "com/example/notesmith/notesmith/report/LineBuffer" "bytes" "[B" (.ref ba)) (Ul : Fld Z h0 a "com/example/notesmith/notesmith/report/LineBuffer" "length" "I" (.int (3 : Int32))) (UV : Arv Z h0 ba kc .byte N [(.int b0), (.int b1), (.int b2), (.int (0 : Int32))] (.int (0 : Int32))) (ga : n0 ≤ a) (gba : n0 ≤ ba) (hkN : ¬ N < 3) (hkN1 : ¬ N < 1) :
    MetFree l (⟨"com/example/notesmith/notesmith/report/LineBuffer", "ensureRoom", "(I)V"⟩ : MethodName) (head1 (Jvm.Cond.code (⟨"com/example/notesmith/notesmith/report/LineBuffer", "ensureRoom", "(I)V"⟩ : MethodName) prog_104_method_17_code 2 none :: ws) ({ frames := 2, cells := 1, slots := 8, locals := 55 } : Room)) (fun as₉ U => as₉ = #[(.ref a), (.int (1 : Int32))] ∧ Z.Warmed39 U.vm ∧ U.heap = h0) (fun _ _ _ _ _ => True) (fun _ U o₉ U' => ∃ v L, o₉ = .returned v ∧ Q_rm4_3 Z a ba kc N b0 b1 b2 h0 n0 v U'.heap L ∧ FrameEnd U o₉ U' L ({ frames := 2, cells := 1, slots := 8, locals := 55 } : Room).cells ({ frames := 2, cells := 1, slots := 8, locals := 55 } : Room).slots) := by
  refine MetFree.of_bodySF (plainFor_of_name pn_1) hisR ?_
  intro p e s m args below meth c s₁ Bd hml0 hP hK
  obtain ⟨rfl, hZ, hh⟩ := hP
  have hx := Bd.exec
  have hby := Bd.bytes
  have hml : c.maxLocals = 2 := hml0
  have hown : s.vm.findClass "com/example/notesmith/notesmith/report/LineBuffer" = some m.cls := findClass_of_methodNamed Bd.named
  have hnm := (name_of_methodNamed Bd.named Bd.method).1
  have X0 : Stand p l e ({ frames := 2, cells := 1, slots := 8, locals := 55 } : Room) s m #[(.ref a), (.int (1 : Int32))] below meth c s₁ [] 0 0 := Stand.of_body Bd
  have e0 : s₁.heap = h0 := by rw [← hh, Bd.state]; rfl
  have N0 := Fr.nil n0
  show own_Go p e below (fun s₂ o₉ => s₂.status = .running ∧ Ended s₂ below o₉ ∧ ∃ v L, o₉ = .returned v ∧ Q_rm4_3 Z a ba kc N b0 b1 b2 h0 n0 v s₂.heap L ∧ FrameEnd s o₉ s₂ L ({ frames := 2, cells := 1, slots := 8, locals := 55 } : Room).cells ({ frames := 2, cells := 1, slots := 8, locals := 55 } : Room).slots) (s₁.setTop (entryFrame m #[(.ref a), (.int (1 : Int32))] 2))
  rw [ef_rm4_3 m a]
  refine own_step (s₁.setTop (mkF m 1 #[.val (.ref a), .val (.int (1 : Int32))] [(.ref a)])) (fun t₀ k₀ => XS.aloadN X0.here hx rfl (hb hby d4_0) rfl rfl k₀) ?_
  obtain ⟨T167, X167, e167, st167⟩ := getF X0 hx hZ hown (host := "") (Or.inl (hw _ (List.mem_of_getElem? (i := 22) rfl))) Via.refl e0 Ul (g := (mkF m 1 #[.val (.ref a), .val (.int (1 : Int32))] [(.ref a)])) rfl rfl (hb hby d4_1)
  refine own_step (T167.setTop (mkF m 4 #[.val (.ref a), .val (.int (1 : Int32))] [(.int (3 : Int32))])) (fun t₀ k₀ => st167 t₀ k₀) ?_
  refine own_step (T167.setTop (mkF m 5 #[.val (.ref a), .val (.int (1 : Int32))] [(.int (1 : Int32)), (.int (3 : Int32))])) (fun t₀ k₀ => XS.iloadN X167.here hx rfl (hb hby d4_4) rfl k₀) ?_
  refine own_step (T167.setTop (mkF m 6 #[.val (.ref a), .val (.int (1 : Int32))] [(.int (4 : Int32))])) (fun t₀ k₀ => XS.iadd X167.here hx rfl (hb hby d4_5) rfl k₀) ?_
  refine own_step (T167.setTop (mkF m 7 #[.val (.ref a), .val (.int (1 : Int32))] [(.ref a), (.int (4 : Int32))])) (fun t₀ k₀ => XS.aloadN X167.here hx rfl (hb hby d4_6) rfl rfl k₀) ?_
  obtain ⟨T168, X168, e168, st168⟩ := getF X167 hx hZ hown (host := "") (Or.inl (hw _ (List.mem_of_getElem? (i := 11) rfl))) Via.refl e167 Ub (g := (mkF m 7 #[.val (.ref a), .val (.int (1 : Int32))] [(.ref a), (.int (4 : Int32))])) rfl rfl (hb hby d4_7)
  refine own_step (T168.setTop (mkF m 10 #[.val (.ref a), .val (.int (1 : Int32))] [(.ref ba), (.int (4 : Int32))])) (fun t₀ k₀ => st168 t₀ k₀) ?_
  obtain ⟨clo169, Aro169, qo169, So169, Mo169, Ho169, Go169⟩ := id UV
  refine own_step (T168.setTop (mkF m 11 #[.val (.ref a), .val (.int (1 : Int32))] [(.int N), (.int (4 : Int32))])) (fun t₀ k₀ => X168.arraylength hx (by rw [e168]; exact Aro169.1) (State.isArrayOf_alike hZ.alike Aro169.2.1) (g := (mkF m 10 #[.val (.ref a), .val (.int (1 : Int32))] [(.ref ba), (.int (4 : Int32))])) rfl rfl (hb hby d4_10) _ (by rw [len_of So169 Mo169]; exact k₀)) ?_
  by_cases hc11 : N < (4 : Int32)
  · skip
    refine own_step (T168.setTop (mkF m 14 #[.val (.ref a), .val (.int (1 : Int32))] [])) (fun t₀ k₀ => XS.icmpNo X168.here hx rfl (hb hby d4_11) rfl (tlt hc11).2.2.2 k₀) ?_
    have hNk : N = (3 : Int32) := own_eqk hkN hc11 (by decide)
    have Vl0 : Arv Z h0 ba kc .byte N [(.int b0), (.int b1), (.int b2)] (.int (0 : Int32)) := UV.pad (by intro i; match i with | 0 => rfl | 1 => rfl | 2 => rfl | 3 => rfl | 4 => rfl | 5 => rfl | _ + 6 => rfl)
    have Vl : Arv Z h0 ba kc .byte (3 : Int32) [(.int b0), (.int b1), (.int b2)] (.int (0 : Int32)) := by have q := Vl0; rw [hNk] at q; exact q
    refine own_step (T168.setTop (mkF m 15 #[.val (.ref a), .val (.int (1 : Int32))] [(.ref a)])) (fun t₀ k₀ => XS.aloadN X168.here hx rfl (hb hby d4_14) rfl rfl k₀) ?_
    refine own_step (T168.setTop (mkF m 16 #[.val (.ref a), .val (.int (1 : Int32))] [(.ref a), (.ref a)])) (fun t₀ k₀ => XS.aloadN X168.here hx rfl (hb hby d4_15) rfl rfl k₀) ?_
    obtain ⟨T170, X170, e170, st170⟩ := getF X168 hx hZ hown (host := "") (Or.inl (hw _ (List.mem_of_getElem? (i := 11) rfl))) Via.refl e168 Ub (g := (mkF m 16 #[.val (.ref a), .val (.int (1 : Int32))] [(.ref a), (.ref a)])) rfl rfl (hb hby d4_16)
    refine own_step (T170.setTop (mkF m 19 #[.val (.ref a), .val (.int (1 : Int32))] [(.ref ba), (.ref a)])) (fun t₀ k₀ => st170 t₀ k₀) ?_
    refine own_step (T170.setTop (mkF m 20 #[.val (.ref a), .val (.int (1 : Int32))] [(.int (2 : Int32)), (.ref ba), (.ref a)])) (fun t₀ k₀ => XS.iconst X170.here hx rfl (hb hby d4_19) k₀) ?_
    refine own_step (T170.setTop (mkF m 21 #[.val (.ref a), .val (.int (1 : Int32))] [(.ref a), (.int (2 : Int32)), (.ref ba), (.ref a)])) (fun t₀ k₀ => XS.aloadN X170.here hx rfl (hb hby d4_20) rfl rfl k₀) ?_
    obtain ⟨T171, X171, e171, st171⟩ := getF X170 hx hZ hown (host := "") (Or.inl (hw _ (List.mem_of_getElem? (i := 11) rfl))) Via.refl e170 Ub (g := (mkF m 21 #[.val (.ref a), .val (.int (1 : Int32))] [(.ref a), (.int (2 : Int32)), (.ref ba), (.ref a)])) rfl rfl (hb hby d4_21)
    refine own_step (T171.setTop (mkF m 24 #[.val (.ref a), .val (.int (1 : Int32))] [(.ref ba), (.int (2 : Int32)), (.ref ba), (.ref a)])) (fun t₀ k₀ => st171 t₀ k₀) ?_
    obtain ⟨clo172, Aro172, qo172, So172, Mo172, Ho172, Go172⟩ := id Vl
    refine own_step (T171.setTop (mkF m 25 #[.val (.ref a), .val (.int (1 : Int32))] [(.int (3 : Int32)), (.int (2 : Int32)), (.ref ba), (.ref a)])) (fun t₀ k₀ => X171.arraylength hx (by rw [e171]; exact Aro172.1) (State.isArrayOf_alike hZ.alike Aro172.2.1) (g := (mkF m 24 #[.val (.ref a), .val (.int (1 : Int32))] [(.ref ba), (.int (2 : Int32)), (.ref ba), (.ref a)])) rfl rfl (hb hby d4_24) _ (by rw [len_of So172 Mo172]; exact k₀)) ?_
    refine own_step (T171.setTop (mkF m 26 #[.val (.ref a), .val (.int (1 : Int32))] [(.int (6 : Int32)), (.ref ba), (.ref a)])) (fun t₀ k₀ => XS.imul X171.here hx rfl (hb hby d4_25) rfl k₀) ?_
    refine own_step (T171.setTop (mkF m 27 #[.val (.ref a), .val (.int (1 : Int32))] [(.ref a), (.int (6 : Int32)), (.ref ba), (.ref a)])) (fun t₀ k₀ => XS.aloadN X171.here hx rfl (hb hby d4_26) rfl rfl k₀) ?_
    obtain ⟨T173, X173, e173, st173⟩ := getF X171 hx hZ hown (host := "") (Or.inl (hw _ (List.mem_of_getElem? (i := 22) rfl))) Via.refl e171 Ul (g := (mkF m 27 #[.val (.ref a), .val (.int (1 : Int32))] [(.ref a), (.int (6 : Int32)), (.ref ba), (.ref a)])) rfl rfl (hb hby d4_27)
    refine own_step (T173.setTop (mkF m 30 #[.val (.ref a), .val (.int (1 : Int32))] [(.int (3 : Int32)), (.int (6 : Int32)), (.ref ba), (.ref a)])) (fun t₀ k₀ => st173 t₀ k₀) ?_
    refine own_step (T173.setTop (mkF m 31 #[.val (.ref a), .val (.int (1 : Int32))] [(.int (1 : Int32)), (.int (3 : Int32)), (.int (6 : Int32)), (.ref ba), (.ref a)])) (fun t₀ k₀ => XS.iloadN X173.here hx rfl (hb hby d4_30) rfl k₀) ?_
    refine own_step (T173.setTop (mkF m 32 #[.val (.ref a), .val (.int (1 : Int32))] [(.int (4 : Int32)), (.int (6 : Int32)), (.ref ba), (.ref a)])) (fun t₀ k₀ => XS.iadd X173.here hx rfl (hb hby d4_31) rfl k₀) ?_
    obtain ⟨_, _, ⟨T174, L174, k174, n174⟩, -, X174, ⟨Lc174, hQ174, l174, y174, z174⟩, st174⟩ := Jvm.LawKit.callS X173 hx (y := (⟨"java/lang/Math", "max", "(II)I"⟩ : MethodName)) hown (mvT hZ (hw _ (List.mem_of_getElem? (i := 24) rfl))) (mvT hZ (hw _ (List.mem_of_getElem? (i := 25) rfl))) (mvT hZ (hw _ (List.mem_of_getElem? (i := 26) rfl))) (mvT hZ (hw _ (List.mem_of_getElem? (i := 27) rfl))) (by decide) (backOf (W := 2) (rm5 l Z a0 hw [] (6 : Int32) (4 : Int32) h0 n0 Z0) hZ (hw _ (List.mem_of_getElem? (i := 27) rfl)) (hw _ (List.mem_of_getElem? (i := 26) rfl)) (by decide) (by decide)) (g := (mkF m 32 #[.val (.ref a), .val (.int (1 : Int32))] [(.int (4 : Int32)), (.int (6 : Int32)), (.ref ba), (.ref a)])) rfl (by rw [hml]; rfl) (argsL := [(.int (6 : Int32)), (.int (4 : Int32))]) (rest := [(.ref ba), (.ref a)]) (lenOf pd_3 rfl) rfl (by show 2 * 0 + _ ≤ _; exact Nat.le_of_eq rfl) (hb hby d4_32) (fun _ _ => ⟨rfl, e173, (by decide : 0 + 0 ≤ _), (by decide : 0 + 0 ≤ _)⟩)
    dsimp only [Pt.U, Pt.locs, Pt.cells, Pt.slots] at X174 l174 y174 z174 st174 hQ174
    subst l174 y174 z174
    obtain ⟨rfl, N174q, e174⟩ := hQ174
    have N174 := Fr.app N0 N174q
    refine own_step (T174.setTop (mkF m 35 #[.val (.ref a), .val (.int (1 : Int32))] [(.int (own_imax (6 : Int32) (4 : Int32))), (.ref ba), (.ref a)])) (fun t₀ k₀ => st174 t₀ k₀) ?_
    rw [show own_imax (6 : Int32) (4 : Int32) = (6 : Int32) from by decide]
    obtain ⟨_, _, ⟨T175, L175, k175, n175⟩, -, X175, ⟨Lc175, hQ175, l175, y175, z175⟩, st175⟩ := Jvm.LawKit.callS X174 hx (y := (⟨"java/util/Arrays", "copyOf", "([BI)[B"⟩ : MethodName)) hown (mvT hZ (hw _ (List.mem_of_getElem? (i := 28) rfl))) (mvT hZ (hw _ (List.mem_of_getElem? (i := 29) rfl))) (mvT hZ (hw _ (List.mem_of_getElem? (i := 30) rfl))) (mvT hZ (hw _ (List.mem_of_getElem? (i := 31) rfl))) (by decide) (backOf (W := 1) (rm6_3 l Z a0 hw [] ba kc b0 b1 b2 h0 n0 Z0 Vl) hZ (hw _ (List.mem_of_getElem? (i := 31) rfl)) (hw _ (List.mem_of_getElem? (i := 30) rfl)) (by decide) (by decide)) (g := (mkF m 35 #[.val (.ref a), .val (.int (1 : Int32))] [(.int (6 : Int32)), (.ref ba), (.ref a)])) rfl (by rw [hml]; rfl) (argsL := [(.ref ba), (.int (6 : Int32))]) (rest := [(.ref a)]) (lenOf pd_4 rfl) rfl (by show 2 * 0 + _ ≤ _; exact Nat.le_of_eq rfl) (hb hby d4_35) (fun _ _ => ⟨rfl, e174, (by decide : 0 + 1 ≤ _), (by decide : 0 + 6 ≤ _)⟩)
    dsimp only [Pt.U, Pt.locs, Pt.cells, Pt.slots] at X175 l175 y175 z175 st175 hQ175
    subst l175 y175 z175
    obtain ⟨nb176, kc177, rfl, N175q, K175, f178, f179⟩ := hQ175
    have N175 := Fr.app N174 N175q
    have f180 : Exa Z T175.heap a "com/example/notesmith/notesmith/report/LineBuffer" := UE.keep K175
    have f181 : Fld Z T175.heap a "com/example/notesmith/notesmith/report/LineBuffer" "bytes" "[B" (.ref ba) := Ub.keep K175 nin0
    have f182 : Fld Z T175.heap a "com/example/notesmith/notesmith/report/LineBuffer" "length" "I" (.int (3 : Int32)) := Ul.keep K175 nin0
    have f183 : Arv Z T175.heap ba kc .byte (3 : Int32) [(.int b0), (.int b1), (.int b2)] (.int (0 : Int32)) := Vl.keep K175 nin0
    have z175' : n0 ≤ T175.heap.size := Nat.le_trans Z0 K175.1
    refine own_step (T175.setTop (mkF m 38 #[.val (.ref a), .val (.int (1 : Int32))] [(.ref nb176), (.ref a)])) (fun t₀ k₀ => st175 t₀ k₀) ?_
    obtain ⟨T184, h184, X184, e184, W184, st184⟩ := putF X175 hx hZ hown (host := "") (Or.inl (hw _ (List.mem_of_getElem? (i := 11) rfl))) Via.refl rfl f181 f180 (Or.inl (hw _ (List.mem_of_getElem? (i := 12) rfl))) (hw _ (List.mem_of_getElem? (i := 2) rfl)) (ty := (.array .byte)) (by decide) rfl rfl (g := (mkF m 38 #[.val (.ref a), .val (.int (1 : Int32))] [(.ref nb176), (.ref a)])) rfl rfl (hb hby d4_38)
    have f185 : Fld Z h184 a "com/example/notesmith/notesmith/report/LineBuffer" "bytes" "[B" (.ref nb176) := f181.same W184
    have ne186 : ba ≠ a := (Ne.symm (Exa.neArv f180 f183 (hw _ (List.mem_of_getElem? (i := 2) rfl))))
    have ne187 : nb176 ≠ a := (Ne.symm (Exa.neArv f180 f179 (hw _ (List.mem_of_getElem? (i := 2) rfl))))
    have f188 : Exa Z h184 a "com/example/notesmith/notesmith/report/LineBuffer" := f180.wr W184
    have f189 : Fld Z h184 a "com/example/notesmith/notesmith/report/LineBuffer" "length" "I" (.int (3 : Int32)) := f182.other W184 (Or.inr (slot_ne (Or.inl (hw _ (List.mem_of_getElem? (i := 23) rfl))) (Or.inl (hw _ (List.mem_of_getElem? (i := 12) rfl))) (by decide) (t := .int) (t' := (.array .byte)) (by decide) (by decide)))
    have f190 : Arv Z h184 ba kc .byte (3 : Int32) [(.int b0), (.int b1), (.int b2)] (.int (0 : Int32)) := f183.other W184 ne186
    have f191 : Arv Z h184 nb176 kc177 .byte (6 : Int32) [(.int b0), (.int b1), (.int b2), (.int (0 : Int32)), (.int (0 : Int32)), (.int (0 : Int32))] (.int (0 : Int32)) := f179.other W184 ne187
    have N184 := Fr.snoc X184 N175 ga
    have z184 : n0 ≤ h184.size := Nat.le_trans z175' (Keep.of_wr W184).1
    refine own_step (T184.setTop (mkF m 41 #[.val (.ref a), .val (.int (1 : Int32))] [])) (fun t₀ k₀ => st184 t₀ k₀) ?_
    obtain ⟨fs, hr, hrun, hended, hW, hsame⟩ := X184.leave (v := none) (fun _ => rfl)
    refine ⟨_, _, ?_, hrun, hended, _, _, rfl, ?_, ⟨_, rfl⟩, hW, hsame.mono (by decide) (by decide)⟩
    · exact X184.returnOut hx Bd.returns (hb hby d4_41) hr
    · show Q_rm4_3 Z a ba kc N b0 b1 b2 h0 n0 _ T184.heap _
      rw [e184]
      exact ⟨nb176, kc177, (6 : Int32), rfl, N184, z184, f178, (by decide), f188, f185, f189, (f191.pad (by intro i; match i with | 0 => rfl | 1 => rfl | 2 => rfl | 3 => rfl | 4 => rfl | 5 => rfl | _ + 6 => rfl))⟩
  · skip
    refine own_step (T168.setTop (mkF m 41 #[.val (.ref a), .val (.int (1 : Int32))] [])) (fun t₀ k₀ => XS.icmpYes X168.here hx rfl (pc0 := 11) (pc' := 41) rfl (hb hby d4_11) rfl (flt hc11).2.2.2 (by decide) (by decide) k₀) ?_
    obtain ⟨fs, hr, hrun, hended, hW, hsame⟩ := X168.leave (v := none) (fun _ => rfl)
    refine ⟨_, _, ?_, hrun, hended, _, _, rfl, ?_, ⟨_, rfl⟩, hW, hsame.mono (by decide) (by decide)⟩
    · exact X168.returnOut hx Bd.returns (hb hby d4_41) hr
    · show Q_rm4_3 Z a ba kc N b0 b1 b2 h0 n0 _ T168.heap _
      rw [e168]
      exact ⟨ba, kc, N, rfl, N0, Z0, gba, hc11, UE, Ub, Ul, UV⟩
theorem ef_rm3_3 (m : MethodId) (a : Addr) (ch : Int32) : entryFrame m #[(.ref a), (.int ch)] 2 = mkF m 0 #[.val (.ref a), .val (.int ch)] [] := by first | (simp [entryFrame, mkF, argsToLocals, Value.category]; done) | rfl
def Q_rm3_3 (Z : State) (a : Addr) (ch : Int32) (ba : Addr) (kc : ClassId) (N : Int32) (b0 : Int32) (b1 : Int32) (b2 : Int32) (h0 : Heap) (n0 : Nat) (v : Option Value) (h : Heap) (L : List Loc) : Prop := ∃ (nb : Addr) (kd : ClassId) (M : Int32), v = some (.ref a) ∧ Fr n0 L ∧ n0 ≤ h.size ∧ n0 ≤ nb ∧ ¬ M < 4 ∧ Exa Z h a "com/example/notesmith/notesmith/report/LineBuffer" ∧ Fld Z h a "com/example/notesmith/notesmith/report/LineBuffer" "bytes" "[B" (.ref nb) ∧ Fld Z h a "com/example/notesmith/notesmith/report/LineBuffer" "length" "I" (.int (4 : Int32)) ∧ Arv Z h nb kd .byte M [(.int b0), (.int b1), (.int b2), (.int ch)] (.int (0 : Int32))
set_option maxRecDepth 65536 in
set_option maxHeartbeats 40000000 in
theorem rm3_3 (l : Launch) (Z : State) (a0 : Array Value) (hw : ∀ d ∈ tables_1, d.before a0 Z = true) (ws : List Jvm.Cond) (a : Addr) (ch : Int32) (ba : Addr) (kc : ClassId) (N : Int32) (b0 : Int32) (b1 : Int32) (b2 : Int32) (h0 : Heap) (n0 : Nat) (Z0 : n0 ≤ h0.size) (UE : Exa Z h0 a "com/example/notesmith/notesmith/report/LineBuffer") (Ub : Fld Z h0 a "com/example/notesmith/notesmith/report/LineBuffer" "bytes" "[B" (.ref ba)) (Ul : Fld Z h0 a "com/example/notesmith/notesmith/report/LineBuffer" "length" "I" (.int (3 : Int32))) (UV : Arv Z h0 ba kc .byte N [(.int b0), (.int b1), (.int b2), (.int (0 : Int32))] (.int (0 : Int32))) (ga : n0 ≤ a) (gba : n0 ≤ ba) (hkN : ¬ N < 3) (hkN1 : ¬ N < 1) (hch : nar .byte (ch.toInt8.toInt32) = ch) :
    MetFree l (⟨"com/example/notesmith/notesmith/report/LineBuffer", "append", "(C)Lcom/example/notesmith/notesmith/report/LineBuffer;"⟩ : MethodName) (head1 (Jvm.Cond.code (⟨"com/example/notesmith/notesmith/report/LineBuffer", "append", "(C)Lcom/example/notesmith/notesmith/report/LineBuffer;"⟩ : MethodName) prog_104_method_7_code 2 (some (.object "com/example/notesmith/notesmith/report/LineBuffer")) :: ws) ({ frames := 3, cells := 1, slots := 8, locals := 68 } : Room)) (fun as₉ U => as₉ = #[(.ref a), (.int ch)] ∧ Z.Warmed39 U.vm ∧ U.heap = h0) (fun _ _ _ _ _ => True) (fun _ U o₉ U' => ∃ v L, o₉ = .returned v ∧ Q_rm3_3 Z a ch ba kc N b0 b1 b2 h0 n0 v U'.heap L ∧ FrameEnd U o₉ U' L ({ frames := 3, cells := 1, slots := 8, locals := 68 } : Room).cells ({ frames := 3, cells := 1, slots := 8, locals := 68 } : Room).slots) := by
  refine MetFree.of_bodySF (plainFor_of_name pn_1) hisR ?_
  intro p e s m args below meth c s₁ Bd hml0 hP hK
  obtain ⟨rfl, hZ, hh⟩ := hP
  have hx := Bd.exec
  have hby := Bd.bytes
  have hml : c.maxLocals = 2 := hml0
  have hown : s.vm.findClass "com/example/notesmith/notesmith/report/LineBuffer" = some m.cls := findClass_of_methodNamed Bd.named
  have hnm := (name_of_methodNamed Bd.named Bd.method).1
  have X0 : Stand p l e ({ frames := 3, cells := 1, slots := 8, locals := 68 } : Room) s m #[(.ref a), (.int ch)] below meth c s₁ [] 0 0 := Stand.of_body Bd
  have e0 : s₁.heap = h0 := by rw [← hh, Bd.state]; rfl
  have N0 := Fr.nil n0
  show own_Go p e below (fun s₂ o₉ => s₂.status = .running ∧ Ended s₂ below o₉ ∧ ∃ v L, o₉ = .returned v ∧ Q_rm3_3 Z a ch ba kc N b0 b1 b2 h0 n0 v s₂.heap L ∧ FrameEnd s o₉ s₂ L ({ frames := 3, cells := 1, slots := 8, locals := 68 } : Room).cells ({ frames := 3, cells := 1, slots := 8, locals := 68 } : Room).slots) (s₁.setTop (entryFrame m #[(.ref a), (.int ch)] 2))
  rw [ef_rm3_3 m a ch]
  refine own_step (s₁.setTop (mkF m 1 #[.val (.ref a), .val (.int ch)] [(.ref a)])) (fun t₀ k₀ => XS.aloadN X0.here hx rfl (hb hby d3_0) rfl rfl k₀) ?_
  refine own_step (s₁.setTop (mkF m 2 #[.val (.ref a), .val (.int ch)] [(.int (1 : Int32)), (.ref a)])) (fun t₀ k₀ => XS.iconst X0.here hx rfl (hb hby d3_1) k₀) ?_
  obtain ⟨cq192, q192, q192'⟩ := UE.cell
  obtain ⟨_, _, ⟨T192, L192, k192, n192⟩, -, X192, ⟨Lc192, hQ192, l192, y192, z192⟩, st192⟩ := X0.privateBack hx (y := (⟨"com/example/notesmith/notesmith/report/LineBuffer", "ensureRoom", "(I)V"⟩ : MethodName)) hown (mvT hZ (hw _ (List.mem_of_getElem? (i := 18) rfl))) (mvT hZ (hw _ (List.mem_of_getElem? (i := 19) rfl))) (own_sel (y := (⟨"com/example/notesmith/notesmith/report/LineBuffer", "ensureRoom", "(I)V"⟩ : MethodName)) (mvT hZ (hw _ (List.mem_of_getElem? (i := 2) rfl))) (mvP hZ (hw _ (List.mem_of_getElem? (i := 20) rfl))) (mvT hZ (hw _ (List.mem_of_getElem? (i := 19) rfl))) (by decide)) (Cond.privateMethod_at (mvP hZ (hw _ (List.mem_of_getElem? (i := 20) rfl)) (args := #[]))) (mvT hZ (hw _ (List.mem_of_getElem? (i := 21) rfl))) (by decide) (backOf (W := 0) (rm4_3 l Z a0 hw [] a ba kc N b0 b1 b2 h0 n0 Z0 UE Ub Ul UV ga gba hkN hkN1) hZ (hw _ (List.mem_of_getElem? (i := 21) rfl)) (hw _ (List.mem_of_getElem? (i := 3) rfl)) (by decide) (by decide)) (g := (mkF m 2 #[.val (.ref a), .val (.int ch)] [(.int (1 : Int32)), (.ref a)])) rfl (by rw [hml]; rfl) (Steps.refl _) (a := a) (by rw [e0]; exact q192) q192' (argsL := [(.int (1 : Int32))]) (rest := []) (lenOf pd_0 rfl) rfl (by show 2 * 0 + _ ≤ _; exact Nat.le_of_eq rfl) (hb hby d3_2) (fun _ _ => ⟨rfl, e0, (by decide : 0 + 1 ≤ _), (by decide : 0 + 8 ≤ _)⟩)
  dsimp only [Pt.U, Pt.locs, Pt.cells, Pt.slots] at X192 l192 y192 z192 st192 hQ192
  subst l192 y192 z192
  obtain ⟨nb193, kd194, M195, rfl, N192q, K192, f196, f197, f198, f199, f200, f201⟩ := hQ192
  have N192 := Fr.app N0 N192q
  refine own_comes (T192.setTop (mkF m 5 #[.val (.ref a), .val (.int ch)] [])) st192 ?_
  refine own_step (T192.setTop (mkF m 6 #[.val (.ref a), .val (.int ch)] [(.ref a)])) (fun t₀ k₀ => XS.aloadN X192.here hx rfl (hb hby d3_5) rfl rfl k₀) ?_
  obtain ⟨T202, X202, e202, st202⟩ := getF X192 hx hZ hown (host := "") (Or.inl (hw _ (List.mem_of_getElem? (i := 11) rfl))) Via.refl rfl f199 (g := (mkF m 6 #[.val (.ref a), .val (.int ch)] [(.ref a)])) rfl rfl (hb hby d3_6)
  refine own_step (T202.setTop (mkF m 9 #[.val (.ref a), .val (.int ch)] [(.ref nb193)])) (fun t₀ k₀ => st202 t₀ k₀) ?_
  refine own_step (T202.setTop (mkF m 10 #[.val (.ref a), .val (.int ch)] [(.ref a), (.ref nb193)])) (fun t₀ k₀ => XS.aloadN X202.here hx rfl (hb hby d3_9) rfl rfl k₀) ?_
  obtain ⟨T203, X203, e203, st203⟩ := getF X202 hx hZ hown (host := "") (Or.inl (hw _ (List.mem_of_getElem? (i := 22) rfl))) Via.refl e202 f200 (g := (mkF m 10 #[.val (.ref a), .val (.int ch)] [(.ref a), (.ref nb193)])) rfl rfl (hb hby d3_10)
  refine own_step (T203.setTop (mkF m 13 #[.val (.ref a), .val (.int ch)] [(.int (3 : Int32)), (.ref nb193)])) (fun t₀ k₀ => st203 t₀ k₀) ?_
  refine own_step (T203.setTop (mkF m 14 #[.val (.ref a), .val (.int ch)] [(.int ch), (.int (3 : Int32)), (.ref nb193)])) (fun t₀ k₀ => XS.iloadN X203.here hx rfl (hb hby d3_13) rfl k₀) ?_
  refine own_step (T203.setTop (mkF m 15 #[.val (.ref a), .val (.int ch)] [(.int (ch.toInt8.toInt32)), (.int (3 : Int32)), (.ref nb193)])) (fun t₀ k₀ => XS.i2b X203.here hx rfl (hb hby d3_14) rfl k₀) ?_
  obtain ⟨clo204, Aro204, qo204, So204, Mo204, Ho204, Go204⟩ := id f201
  have hino204 : ¬ ((3 : Int32) < 0 ∨ clo204.slots.size ≤ ((3 : Int32)).toNatClampNeg) := inb_of So204 ⟨by decide, own_ltk f197 (by decide)⟩
  obtain ⟨T205, h205, X205, e205, W205, st205⟩ := stB X203 hx hZ e203 Aro204 (j := (3 : Int32)) hino204 (g := (mkF m 15 #[.val (.ref a), .val (.int ch)] [(.int (ch.toInt8.toInt32)), (.int (3 : Int32)), (.ref nb193)])) rfl rfl (hb hby d3_15)
  have V205 : Arv Z h205 nb193 kd194 .byte M195 [(.int b0), (.int b1), (.int b2), (.int (nar .byte (ch.toInt8.toInt32)))] (.int (0 : Int32)) := Arv.set Aro204 qo204 So204 Mo204 Ho204 Go204 (fits_nar_byte _) W205 3 rfl (Nat.le_of_ble_eq_true rfl)
  have ne206 : a ≠ nb193 := (Exa.neArv f198 f201 (hw _ (List.mem_of_getElem? (i := 2) rfl)))
  have f207 : Exa Z h205 a "com/example/notesmith/notesmith/report/LineBuffer" := f198.wr W205
  have f208 : Fld Z h205 a "com/example/notesmith/notesmith/report/LineBuffer" "bytes" "[B" (.ref nb193) := f199.other W205 (Or.inl ne206)
  have f209 : Fld Z h205 a "com/example/notesmith/notesmith/report/LineBuffer" "length" "I" (.int (3 : Int32)) := f200.other W205 (Or.inl ne206)
  have N205 := Fr.snoc X205 N192 f196
  have z205 : n0 ≤ h205.size := Nat.le_trans K192 (Keep.of_wr W205).1
  refine own_step (T205.setTop (mkF m 16 #[.val (.ref a), .val (.int ch)] [])) (fun t₀ k₀ => st205 t₀ k₀) ?_
  have Vc210 : Arv Z h205 nb193 kd194 .byte M195 [(.int b0), (.int b1), (.int b2), (.int ch)] (.int (0 : Int32)) := by have q := V205; rw [hch] at q; exact q
  refine own_step (T205.setTop (mkF m 17 #[.val (.ref a), .val (.int ch)] [(.ref a)])) (fun t₀ k₀ => XS.aloadN X205.here hx rfl (hb hby d3_16) rfl rfl k₀) ?_
  refine own_step (T205.setTop (mkF m 18 #[.val (.ref a), .val (.int ch)] [(.ref a), (.ref a)])) (fun t₀ k₀ => XS.dup X205.here hx rfl (hb hby d3_17) rfl rfl k₀) ?_
  obtain ⟨T211, X211, e211, st211⟩ := getF X205 hx hZ hown (host := "") (Or.inl (hw _ (List.mem_of_getElem? (i := 22) rfl))) Via.refl e205 f209 (g := (mkF m 18 #[.val (.ref a), .val (.int ch)] [(.ref a), (.ref a)])) rfl rfl (hb hby d3_18)
  refine own_step (T211.setTop (mkF m 21 #[.val (.ref a), .val (.int ch)] [(.int (3 : Int32)), (.ref a)])) (fun t₀ k₀ => st211 t₀ k₀) ?_
  refine own_step (T211.setTop (mkF m 22 #[.val (.ref a), .val (.int ch)] [(.int (1 : Int32)), (.int (3 : Int32)), (.ref a)])) (fun t₀ k₀ => XS.iconst X211.here hx rfl (hb hby d3_21) k₀) ?_
  refine own_step (T211.setTop (mkF m 23 #[.val (.ref a), .val (.int ch)] [(.int (4 : Int32)), (.ref a)])) (fun t₀ k₀ => XS.iadd X211.here hx rfl (hb hby d3_22) rfl k₀) ?_
  obtain ⟨T212, h212, X212, e212, W212, st212⟩ := putF X211 hx hZ hown (host := "") (Or.inl (hw _ (List.mem_of_getElem? (i := 22) rfl))) Via.refl e211 f209 f207 (Or.inl (hw _ (List.mem_of_getElem? (i := 23) rfl))) (hw _ (List.mem_of_getElem? (i := 2) rfl)) (ty := .int) (by decide) rfl rfl (g := (mkF m 23 #[.val (.ref a), .val (.int ch)] [(.int (4 : Int32)), (.ref a)])) rfl rfl (hb hby d3_23)
  have f213 : Fld Z h212 a "com/example/notesmith/notesmith/report/LineBuffer" "length" "I" (.int (4 : Int32)) := f209.same W212
  have f214 : Exa Z h212 a "com/example/notesmith/notesmith/report/LineBuffer" := f207.wr W212
  have f215 : Fld Z h212 a "com/example/notesmith/notesmith/report/LineBuffer" "bytes" "[B" (.ref nb193) := f208.other W212 (Or.inr (slot_ne (Or.inl (hw _ (List.mem_of_getElem? (i := 12) rfl))) (Or.inl (hw _ (List.mem_of_getElem? (i := 23) rfl))) (by decide) (t := (.array .byte)) (t' := .int) (by decide) (by decide)))
  have f216 : Arv Z h212 nb193 kd194 .byte M195 [(.int b0), (.int b1), (.int b2), (.int ch)] (.int (0 : Int32)) := Vc210.other W212 (Ne.symm ne206)
  have N212 := Fr.snoc X212 N205 ga
  have z212 : n0 ≤ h212.size := Nat.le_trans z205 (Keep.of_wr W212).1
  refine own_step (T212.setTop (mkF m 26 #[.val (.ref a), .val (.int ch)] [])) (fun t₀ k₀ => st212 t₀ k₀) ?_
  refine own_step (T212.setTop (mkF m 27 #[.val (.ref a), .val (.int ch)] [(.ref a)])) (fun t₀ k₀ => XS.aloadN X212.here hx rfl (hb hby d3_26) rfl rfl k₀) ?_
  obtain ⟨fs, hr, hrun, hended, hW, hsame⟩ := X212.leave (v := some (.ref a)) (fun h => by rw [Bd.returns] at h; cases h)
  refine ⟨_, _, ?_, hrun, hended, _, _, rfl, ?_, ⟨_, rfl⟩, hW, hsame.mono (by decide) (by decide)⟩
  · jvm_step X212.here [X212.here.top, hx, (hb hby d3_27), X212.method', Bd.returns, Value.isRef, FieldType.isReference]
    first | (intro acts; rw [hr _ acts rfl rfl rfl]) | rw [hr _ _ rfl rfl rfl]
    exact Steps.refl _
  · show Q_rm3_3 Z a ch ba kc N b0 b1 b2 h0 n0 _ T212.heap _
    rw [e212]
    exact ⟨nb193, kd194, M195, rfl, N212, z212, f196, f197, f214, f215, f213, f216⟩
theorem d8_0 : decode prog_104_method_3_code 0 = .ok (.aload_n 0, 1) := by decide +kernel
theorem d8_1 : decode prog_104_method_3_code 1 = .ok (.iload_n 1, 1) := by decide +kernel
theorem d8_2 : decode prog_104_method_3_code 2 = .ok (.putfield 13, 3) := by decide +kernel
theorem d8_5 : decode prog_104_method_3_code 5 = .ok (.return_, 1) := by decide +kernel
theorem ef_rm8 (m : MethodId) (a : Addr) (n : Int32) : entryFrame m #[(.ref a), (.int n)] 2 = mkF m 0 #[.val (.ref a), .val (.int n)] [] := by first | (simp [entryFrame, mkF, argsToLocals, Value.category]; done) | rfl
def Q_rm8 (Z : State) (a : Addr) (n : Int32) (ba : Addr) (u1 : Int32) (h0 : Heap) (n0 : Nat) (v : Option Value) (h : Heap) (L : List Loc) : Prop := v = none ∧ Fr n0 L ∧ Keep h0 h [a] ∧ Exa Z h a "com/example/notesmith/notesmith/report/LineBuffer" ∧ Fld Z h a "com/example/notesmith/notesmith/report/LineBuffer" "bytes" "[B" (.ref ba) ∧ Fld Z h a "com/example/notesmith/notesmith/report/LineBuffer" "length" "I" (.int n)
set_option maxRecDepth 65536 in
set_option maxHeartbeats 40000000 in
theorem rm8 (l : Launch) (Z : State) (a0 : Array Value) (hw : ∀ d ∈ tables_1, d.before a0 Z = true) (ws : List Jvm.Cond) (a : Addr) (n : Int32) (ba : Addr) (u1 : Int32) (h0 : Heap) (n0 : Nat) (Z0 : n0 ≤ h0.size) (Ea : Exa Z h0 a "com/example/notesmith/notesmith/report/LineBuffer") (Fb : Fld Z h0 a "com/example/notesmith/notesmith/report/LineBuffer" "bytes" "[B" (.ref ba)) (Fl : Fld Z h0 a "com/example/notesmith/notesmith/report/LineBuffer" "length" "I" (.int u1)) (ga : n0 ≤ a) :
    MetFree l (⟨"com/example/notesmith/notesmith/report/LineBuffer", "setLength", "(I)V"⟩ : MethodName) (head1 (Jvm.Cond.code (⟨"com/example/notesmith/notesmith/report/LineBuffer", "setLength", "(I)V"⟩ : MethodName) prog_104_method_3_code 2 none :: ws) ({ frames := 0, cells := 0, slots := 0, locals := 0 } : Room)) (fun as₉ U => as₉ = #[(.ref a), (.int n)] ∧ Z.Warmed39 U.vm ∧ U.heap = h0) (fun _ _ _ _ _ => True) (fun _ U o₉ U' => ∃ v L, o₉ = .returned v ∧ Q_rm8 Z a n ba u1 h0 n0 v U'.heap L ∧ FrameEnd U o₉ U' L ({ frames := 0, cells := 0, slots := 0, locals := 0 } : Room).cells ({ frames := 0, cells := 0, slots := 0, locals := 0 } : Room).slots) := by
  refine MetFree.of_bodySF (plainFor_of_name pn_1) hisR ?_
  intro p e s m args below meth c s₁ Bd hml0 hP hK
  obtain ⟨rfl, hZ, hh⟩ := hP
  have hx := Bd.exec
  have hby := Bd.bytes
  have hml : c.maxLocals = 2 := hml0
  have hown : s.vm.findClass "com/example/notesmith/notesmith/report/LineBuffer" = some m.cls := findClass_of_methodNamed Bd.named
  have hnm := (name_of_methodNamed Bd.named Bd.method).1
  have X0 : Stand p l e ({ frames := 0, cells := 0, slots := 0, locals := 0 } : Room) s m #[(.ref a), (.int n)] below meth c s₁ [] 0 0 := Stand.of_body Bd
  have e0 : s₁.heap = h0 := by rw [← hh, Bd.state]; rfl
  have N0 := Fr.nil n0
  show own_Go p e below (fun s₂ o₉ => s₂.status = .running ∧ Ended s₂ below o₉ ∧ ∃ v L, o₉ = .returned v ∧ Q_rm8 Z a n ba u1 h0 n0 v s₂.heap L ∧ FrameEnd s o₉ s₂ L ({ frames := 0, cells := 0, slots := 0, locals := 0 } : Room).cells ({ frames := 0, cells := 0, slots := 0, locals := 0 } : Room).slots) (s₁.setTop (entryFrame m #[(.ref a), (.int n)] 2))
  rw [ef_rm8 m a n]
  refine own_step (s₁.setTop (mkF m 1 #[.val (.ref a), .val (.int n)] [(.ref a)])) (fun t₀ k₀ => XS.aloadN X0.here hx rfl (hb hby d8_0) rfl rfl k₀) ?_
  refine own_step (s₁.setTop (mkF m 2 #[.val (.ref a), .val (.int n)] [(.int n), (.ref a)])) (fun t₀ k₀ => XS.iloadN X0.here hx rfl (hb hby d8_1) rfl k₀) ?_
  obtain ⟨T217, h217, X217, e217, W217, st217⟩ := putF X0 hx hZ hown (host := "") (Or.inl (hw _ (List.mem_of_getElem? (i := 22) rfl))) Via.refl e0 Fl Ea (Or.inl (hw _ (List.mem_of_getElem? (i := 23) rfl))) (hw _ (List.mem_of_getElem? (i := 2) rfl)) (ty := .int) (by decide) rfl rfl (g := (mkF m 2 #[.val (.ref a), .val (.int n)] [(.int n), (.ref a)])) rfl rfl (hb hby d8_2)
  have f218 : Fld Z h217 a "com/example/notesmith/notesmith/report/LineBuffer" "length" "I" (.int n) := Fl.same W217
  have f219 : Exa Z h217 a "com/example/notesmith/notesmith/report/LineBuffer" := Ea.wr W217
  have f220 : Fld Z h217 a "com/example/notesmith/notesmith/report/LineBuffer" "bytes" "[B" (.ref ba) := Fb.other W217 (Or.inr (slot_ne (Or.inl (hw _ (List.mem_of_getElem? (i := 12) rfl))) (Or.inl (hw _ (List.mem_of_getElem? (i := 23) rfl))) (by decide) (t := (.array .byte)) (t' := .int) (by decide) (by decide)))
  have N217 := Fr.snoc X217 N0 ga
  have z217 : n0 ≤ h217.size := Nat.le_trans Z0 (Keep.of_wr W217).1
  have K217 : Keep h0 h217 [a] := (Keep.refl h0 [a]).wr W217 (Or.inl (List.mem_of_getElem? (i := 0) rfl))
  refine own_step (T217.setTop (mkF m 5 #[.val (.ref a), .val (.int n)] [])) (fun t₀ k₀ => st217 t₀ k₀) ?_
  obtain ⟨fs, hr, hrun, hended, hW, hsame⟩ := X217.leave (v := none) (fun _ => rfl)
  refine ⟨_, _, ?_, hrun, hended, _, _, rfl, ?_, ⟨_, rfl⟩, hW, hsame.mono (by decide) (by decide)⟩
  · exact X217.returnOut hx Bd.returns (hb hby d8_5) hr
  · show Q_rm8 Z a n ba u1 h0 n0 _ T217.heap _
    rw [e217]
    exact ⟨rfl, N217, K217, f219, f220, f218⟩
theorem d10_0 : decode prog_104_method_2_code 0 = .ok (.aload_n 0, 1) := by decide +kernel
theorem d10_1 : decode prog_104_method_2_code 1 = .ok (.getfield 13, 3) := by decide +kernel
theorem d10_4 : decode prog_104_method_2_code 4 = .ok (.ireturn, 1) := by decide +kernel
theorem ef_rm10 (m : MethodId) (a : Addr) : entryFrame m #[(.ref a)] 1 = mkF m 0 #[.val (.ref a)] [] := by first | (simp [entryFrame, mkF, argsToLocals, Value.category]; done) | rfl
def Q_rm10 (Z : State) (a : Addr) (u1 : Int32) (h0 : Heap) (n0 : Nat) (v : Option Value) (h : Heap) (L : List Loc) : Prop := v = some (.int u1) ∧ Fr n0 L ∧ h = h0
set_option maxRecDepth 65536 in
set_option maxHeartbeats 40000000 in
theorem rm10 (l : Launch) (Z : State) (a0 : Array Value) (hw : ∀ d ∈ tables_1, d.before a0 Z = true) (ws : List Jvm.Cond) (a : Addr) (u1 : Int32) (h0 : Heap) (n0 : Nat) (Z0 : n0 ≤ h0.size) (Fl : Fld Z h0 a "com/example/notesmith/notesmith/report/LineBuffer" "length" "I" (.int u1)) :
    MetFree l (⟨"com/example/notesmith/notesmith/report/LineBuffer", "length", "()I"⟩ : MethodName) (head1 (Jvm.Cond.code (⟨"com/example/notesmith/notesmith/report/LineBuffer", "length", "()I"⟩ : MethodName) prog_104_method_2_code 1 (some .int) :: ws) ({ frames := 0, cells := 0, slots := 0, locals := 0 } : Room)) (fun as₉ U => as₉ = #[(.ref a)] ∧ Z.Warmed39 U.vm ∧ U.heap = h0) (fun _ _ _ _ _ => True) (fun _ U o₉ U' => ∃ v L, o₉ = .returned v ∧ Q_rm10 Z a u1 h0 n0 v U'.heap L ∧ FrameEnd U o₉ U' L ({ frames := 0, cells := 0, slots := 0, locals := 0 } : Room).cells ({ frames := 0, cells := 0, slots := 0, locals := 0 } : Room).slots) := by
  refine MetFree.of_bodySF (plainFor_of_name pn_1) hisR ?_
  intro p e s m args below meth c s₁ Bd hml0 hP hK
  obtain ⟨rfl, hZ, hh⟩ := hP
  have hx := Bd.exec
  have hby := Bd.bytes
  have hml : c.maxLocals = 1 := hml0
  have hown : s.vm.findClass "com/example/notesmith/notesmith/report/LineBuffer" = some m.cls := findClass_of_methodNamed Bd.named
  have hnm := (name_of_methodNamed Bd.named Bd.method).1
  have X0 : Stand p l e ({ frames := 0, cells := 0, slots := 0, locals := 0 } : Room) s m #[(.ref a)] below meth c s₁ [] 0 0 := Stand.of_body Bd
  have e0 : s₁.heap = h0 := by rw [← hh, Bd.state]; rfl
  have N0 := Fr.nil n0
  show own_Go p e below (fun s₂ o₉ => s₂.status = .running ∧ Ended s₂ below o₉ ∧ ∃ v L, o₉ = .returned v ∧ Q_rm10 Z a u1 h0 n0 v s₂.heap L ∧ FrameEnd s o₉ s₂ L ({ frames := 0, cells := 0, slots := 0, locals := 0 } : Room).cells ({ frames := 0, cells := 0, slots := 0, locals := 0 } : Room).slots) (s₁.setTop (entryFrame m #[(.ref a)] 1))
  rw [ef_rm10 m a]
  refine own_step (s₁.setTop (mkF m 1 #[.val (.ref a)] [(.ref a)])) (fun t₀ k₀ => XS.aloadN X0.here hx rfl (hb hby d10_0) rfl rfl k₀) ?_
  obtain ⟨T221, X221, e221, st221⟩ := getF X0 hx hZ hown (host := "") (Or.inl (hw _ (List.mem_of_getElem? (i := 22) rfl))) Via.refl e0 Fl (g := (mkF m 1 #[.val (.ref a)] [(.ref a)])) rfl rfl (hb hby d10_1)
  refine own_step (T221.setTop (mkF m 4 #[.val (.ref a)] [(.int u1)])) (fun t₀ k₀ => st221 t₀ k₀) ?_
  obtain ⟨fs, hr, hrun, hended, hW, hsame⟩ := X221.leave (v := some (.int u1)) (fun h => by rw [Bd.returns] at h; cases h)
  refine ⟨_, _, ?_, hrun, hended, _, _, rfl, ?_, ⟨_, rfl⟩, hW, hsame.mono (by decide) (by decide)⟩
  · exact retI X221 hx Bd.returns (hb hby d10_4) hr
  · show Q_rm10 Z a u1 h0 n0 _ T221.heap _
    rw [e221]
    exact ⟨rfl, N0, rfl⟩
theorem d9_0 : decode prog_104_method_6_code 0 = .ok (.iconst (-1), 1) := by decide +kernel
theorem d9_1 : decode prog_104_method_6_code 1 = .ok (.istore_n 3, 1) := by decide +kernel
theorem d9_2 : decode prog_104_method_6_code 2 = .ok (.iload_n 2, 1) := by decide +kernel
theorem d9_3 : decode prog_104_method_6_code 3 = .ok (.istore 4, 2) := by decide +kernel
theorem d9_5 : decode prog_104_method_6_code 5 = .ok (.iload_n 3, 1) := by decide +kernel
theorem d9_6 : decode prog_104_method_6_code 6 = .ok (.ifCond .ge 32, 3) := by decide +kernel
theorem d9_9 : decode prog_104_method_6_code 9 = .ok (.iload 4, 2) := by decide +kernel
theorem d9_11 : decode prog_104_method_6_code 11 = .ok (.aload_n 0, 1) := by decide +kernel
theorem d9_12 : decode prog_104_method_6_code 12 = .ok (.getfield 13, 3) := by decide +kernel
theorem d9_15 : decode prog_104_method_6_code 15 = .ok (.if_icmp .ge 23, 3) := by decide +kernel
theorem d9_18 : decode prog_104_method_6_code 18 = .ok (.aload_n 0, 1) := by decide +kernel
theorem d9_19 : decode prog_104_method_6_code 19 = .ok (.getfield 7, 3) := by decide +kernel
theorem d9_22 : decode prog_104_method_6_code 22 = .ok (.iload 4, 2) := by decide +kernel
theorem d9_24 : decode prog_104_method_6_code 24 = .ok (.baload, 1) := by decide +kernel
theorem d9_25 : decode prog_104_method_6_code 25 = .ok (.iload_n 1, 1) := by decide +kernel
theorem d9_26 : decode prog_104_method_6_code 26 = .ok (.if_icmp .ne 6, 3) := by decide +kernel
theorem d9_29 : decode prog_104_method_6_code 29 = .ok (.iload 4, 2) := by decide +kernel
theorem d9_31 : decode prog_104_method_6_code 31 = .ok (.istore_n 3, 1) := by decide +kernel
theorem d9_32 : decode prog_104_method_6_code 32 = .ok (.iinc 4 1, 3) := by decide +kernel
theorem d9_35 : decode prog_104_method_6_code 35 = .ok (.goto (-30), 3) := by decide +kernel
theorem d9_38 : decode prog_104_method_6_code 38 = .ok (.iload_n 3, 1) := by decide +kernel
theorem d9_39 : decode prog_104_method_6_code 39 = .ok (.ireturn, 1) := by decide +kernel
theorem ef_rm9_0_0 (m : MethodId) (a : Addr) (t : Int32) : entryFrame m #[(.ref a), (.int t), (.int (0 : Int32))] 5 = mkF m 0 #[.val (.ref a), .val (.int t), .val (.int (0 : Int32)), .unset, .unset] [] := by first | (simp [entryFrame, mkF, argsToLocals, Value.category]; done) | rfl
def Q_rm9_0_0 (Z : State) (a : Addr) (t : Int32) (ba : Addr) (kc : ClassId) (N : Int32) (b0 : Int32) (b1 : Int32) (b2 : Int32) (b3 : Int32) (h0 : Heap) (n0 : Nat) (v : Option Value) (h : Heap) (L : List Loc) : Prop := v = some (.int (own_all 0 0 t b0 b1 b2 b3)) ∧ Fr n0 L ∧ h = h0
set_option maxRecDepth 65536 in
set_option maxHeartbeats 40000000 in
theorem rm9_0_0 (l : Launch) (Z : State) (a0 : Array Value) (hw : ∀ d ∈ tables_1, d.before a0 Z = true) (ws : List Jvm.Cond) (a : Addr) (t : Int32) (ba : Addr) (kc : ClassId) (N : Int32) (b0 : Int32) (b1 : Int32) (b2 : Int32) (b3 : Int32) (h0 : Heap) (n0 : Nat) (Z0 : n0 ≤ h0.size) (Fb : Fld Z h0 a "com/example/notesmith/notesmith/report/LineBuffer" "bytes" "[B" (.ref ba)) (Fl : Fld Z h0 a "com/example/notesmith/notesmith/report/LineBuffer" "length" "I" (.int (0 : Int32))) (Vb : Arv Z h0 ba kc .byte N [(.int b0), (.int b1), (.int b2), (.int b3)] (.int (0 : Int32))) (hN4 : ¬ N < 4) :
    MetFree l (⟨"com/example/notesmith/notesmith/report/LineBuffer", "indexOf", "(CI)I"⟩ : MethodName) (head1 (Jvm.Cond.code (⟨"com/example/notesmith/notesmith/report/LineBuffer", "indexOf", "(CI)I"⟩ : MethodName) prog_104_method_6_code 5 (some .int) :: ws) ({ frames := 0, cells := 0, slots := 0, locals := 0 } : Room)) (fun as₉ U => as₉ = #[(.ref a), (.int t), (.int (0 : Int32))] ∧ Z.Warmed39 U.vm ∧ U.heap = h0) (fun _ _ _ _ _ => True) (fun _ U o₉ U' => ∃ v L, o₉ = .returned v ∧ Q_rm9_0_0 Z a t ba kc N b0 b1 b2 b3 h0 n0 v U'.heap L ∧ FrameEnd U o₉ U' L ({ frames := 0, cells := 0, slots := 0, locals := 0 } : Room).cells ({ frames := 0, cells := 0, slots := 0, locals := 0 } : Room).slots) := by
  refine MetFree.of_bodySF (plainFor_of_name pn_1) hisR ?_
  intro p e s m args below meth c s₁ Bd hml0 hP hK
  obtain ⟨rfl, hZ, hh⟩ := hP
  have hx := Bd.exec
  have hby := Bd.bytes
  have hml : c.maxLocals = 5 := hml0
  have hown : s.vm.findClass "com/example/notesmith/notesmith/report/LineBuffer" = some m.cls := findClass_of_methodNamed Bd.named
  have hnm := (name_of_methodNamed Bd.named Bd.method).1
  have X0 : Stand p l e ({ frames := 0, cells := 0, slots := 0, locals := 0 } : Room) s m #[(.ref a), (.int t), (.int (0 : Int32))] below meth c s₁ [] 0 0 := Stand.of_body Bd
  have e0 : s₁.heap = h0 := by rw [← hh, Bd.state]; rfl
  have N0 := Fr.nil n0
  show own_Go p e below (fun s₂ o₉ => s₂.status = .running ∧ Ended s₂ below o₉ ∧ ∃ v L, o₉ = .returned v ∧ Q_rm9_0_0 Z a t ba kc N b0 b1 b2 b3 h0 n0 v s₂.heap L ∧ FrameEnd s o₉ s₂ L ({ frames := 0, cells := 0, slots := 0, locals := 0 } : Room).cells ({ frames := 0, cells := 0, slots := 0, locals := 0 } : Room).slots) (s₁.setTop (entryFrame m #[(.ref a), (.int t), (.int (0 : Int32))] 5))
  rw [ef_rm9_0_0 m a t]
  refine own_step (s₁.setTop (mkF m 1 #[.val (.ref a), .val (.int t), .val (.int (0 : Int32)), .unset, .unset] [(.int (-1 : Int32))])) (fun t₀ k₀ => XS.iconst X0.here hx rfl (hb hby d9_0) k₀) ?_
  refine own_step (s₁.setTop (mkF m 2 #[.val (.ref a), .val (.int t), .val (.int (0 : Int32)), .val (.int (-1 : Int32)), .unset] [])) (fun t₀ k₀ => XS.istoreN X0.here hx rfl (hb hby d9_1) rfl (l' := #[.val (.ref a), .val (.int t), .val (.int (0 : Int32)), .val (.int (-1 : Int32)), .unset]) rfl k₀) ?_
  refine own_step (s₁.setTop (mkF m 3 #[.val (.ref a), .val (.int t), .val (.int (0 : Int32)), .val (.int (-1 : Int32)), .unset] [(.int (0 : Int32))])) (fun t₀ k₀ => XS.iloadN X0.here hx rfl (hb hby d9_2) rfl k₀) ?_
  refine own_step (s₁.setTop (mkF m 5 #[.val (.ref a), .val (.int t), .val (.int (0 : Int32)), .val (.int (-1 : Int32)), .val (.int (0 : Int32))] [])) (fun t₀ k₀ => XS.istore X0.here hx rfl (hb hby d9_3) rfl (l' := #[.val (.ref a), .val (.int t), .val (.int (0 : Int32)), .val (.int (-1 : Int32)), .val (.int (0 : Int32))]) rfl k₀) ?_
  refine own_step (s₁.setTop (mkF m 6 #[.val (.ref a), .val (.int t), .val (.int (0 : Int32)), .val (.int (-1 : Int32)), .val (.int (0 : Int32))] [(.int (-1 : Int32))])) (fun t₀ k₀ => XS.iloadN X0.here hx rfl (hb hby d9_5) rfl k₀) ?_
  refine own_step (s₁.setTop (mkF m 9 #[.val (.ref a), .val (.int t), .val (.int (0 : Int32)), .val (.int (-1 : Int32)), .val (.int (0 : Int32))] [])) (fun t₀ k₀ => XS.ifNo X0.here hx rfl (hb hby d9_6) rfl (by decide) k₀) ?_
  refine own_step (s₁.setTop (mkF m 11 #[.val (.ref a), .val (.int t), .val (.int (0 : Int32)), .val (.int (-1 : Int32)), .val (.int (0 : Int32))] [(.int (0 : Int32))])) (fun t₀ k₀ => XS.iload X0.here hx rfl (hb hby d9_9) rfl k₀) ?_
  refine own_step (s₁.setTop (mkF m 12 #[.val (.ref a), .val (.int t), .val (.int (0 : Int32)), .val (.int (-1 : Int32)), .val (.int (0 : Int32))] [(.ref a), (.int (0 : Int32))])) (fun t₀ k₀ => XS.aloadN X0.here hx rfl (hb hby d9_11) rfl rfl k₀) ?_
  obtain ⟨T222, X222, e222, st222⟩ := getF X0 hx hZ hown (host := "") (Or.inl (hw _ (List.mem_of_getElem? (i := 22) rfl))) Via.refl e0 Fl (g := (mkF m 12 #[.val (.ref a), .val (.int t), .val (.int (0 : Int32)), .val (.int (-1 : Int32)), .val (.int (0 : Int32))] [(.ref a), (.int (0 : Int32))])) rfl rfl (hb hby d9_12)
  refine own_step (T222.setTop (mkF m 15 #[.val (.ref a), .val (.int t), .val (.int (0 : Int32)), .val (.int (-1 : Int32)), .val (.int (0 : Int32))] [(.int (0 : Int32)), (.int (0 : Int32))])) (fun t₀ k₀ => st222 t₀ k₀) ?_
  refine own_step (T222.setTop (mkF m 38 #[.val (.ref a), .val (.int t), .val (.int (0 : Int32)), .val (.int (-1 : Int32)), .val (.int (0 : Int32))] [])) (fun t₀ k₀ => XS.icmpYes X222.here hx rfl (pc0 := 15) (pc' := 38) rfl (hb hby d9_15) rfl (by decide) (by decide) (by decide) k₀) ?_
  refine own_step (T222.setTop (mkF m 39 #[.val (.ref a), .val (.int t), .val (.int (0 : Int32)), .val (.int (-1 : Int32)), .val (.int (0 : Int32))] [(.int (-1 : Int32))])) (fun t₀ k₀ => XS.iloadN X222.here hx rfl (hb hby d9_38) rfl k₀) ?_
  obtain ⟨fs, hr, hrun, hended, hW, hsame⟩ := X222.leave (v := some (.int (-1 : Int32))) (fun h => by rw [Bd.returns] at h; cases h)
  refine ⟨_, _, ?_, hrun, hended, _, _, rfl, ?_, ⟨_, rfl⟩, hW, hsame.mono (by decide) (by decide)⟩
  · exact retI X222 hx Bd.returns (hb hby d9_39) hr
  · show Q_rm9_0_0 Z a t ba kc N b0 b1 b2 b3 h0 n0 _ T222.heap _
    rw [e222]
    exact ⟨by simp +decide [own_all, own_st], N0, rfl⟩
theorem ef_rm9_0_1 (m : MethodId) (a : Addr) (t : Int32) : entryFrame m #[(.ref a), (.int t), (.int (0 : Int32))] 5 = mkF m 0 #[.val (.ref a), .val (.int t), .val (.int (0 : Int32)), .unset, .unset] [] := by first | (simp [entryFrame, mkF, argsToLocals, Value.category]; done) | rfl
def Q_rm9_0_1 (Z : State) (a : Addr) (t : Int32) (ba : Addr) (kc : ClassId) (N : Int32) (b0 : Int32) (b1 : Int32) (b2 : Int32) (b3 : Int32) (h0 : Heap) (n0 : Nat) (v : Option Value) (h : Heap) (L : List Loc) : Prop := v = some (.int (own_all 0 1 t b0 b1 b2 b3)) ∧ Fr n0 L ∧ h = h0
set_option maxRecDepth 65536 in
set_option maxHeartbeats 40000000 in
theorem rm9_0_1 (l : Launch) (Z : State) (a0 : Array Value) (hw : ∀ d ∈ tables_1, d.before a0 Z = true) (ws : List Jvm.Cond) (a : Addr) (t : Int32) (ba : Addr) (kc : ClassId) (N : Int32) (b0 : Int32) (b1 : Int32) (b2 : Int32) (b3 : Int32) (h0 : Heap) (n0 : Nat) (Z0 : n0 ≤ h0.size) (Fb : Fld Z h0 a "com/example/notesmith/notesmith/report/LineBuffer" "bytes" "[B" (.ref ba)) (Fl : Fld Z h0 a "com/example/notesmith/notesmith/report/LineBuffer" "length" "I" (.int (1 : Int32))) (Vb : Arv Z h0 ba kc .byte N [(.int b0), (.int b1), (.int b2), (.int b3)] (.int (0 : Int32))) (hN4 : ¬ N < 4) :
    MetFree l (⟨"com/example/notesmith/notesmith/report/LineBuffer", "indexOf", "(CI)I"⟩ : MethodName) (head1 (Jvm.Cond.code (⟨"com/example/notesmith/notesmith/report/LineBuffer", "indexOf", "(CI)I"⟩ : MethodName) prog_104_method_6_code 5 (some .int) :: ws) ({ frames := 0, cells := 0, slots := 0, locals := 0 } : Room)) (fun as₉ U => as₉ = #[(.ref a), (.int t), (.int (0 : Int32))] ∧ Z.Warmed39 U.vm ∧ U.heap = h0) (fun _ _ _ _ _ => True) (fun _ U o₉ U' => ∃ v L, o₉ = .returned v ∧ Q_rm9_0_1 Z a t ba kc N b0 b1 b2 b3 h0 n0 v U'.heap L ∧ FrameEnd U o₉ U' L ({ frames := 0, cells := 0, slots := 0, locals := 0 } : Room).cells ({ frames := 0, cells := 0, slots := 0, locals := 0 } : Room).slots) := by
  refine MetFree.of_bodySF (plainFor_of_name pn_1) hisR ?_
  intro p e s m args below meth c s₁ Bd hml0 hP hK
  obtain ⟨rfl, hZ, hh⟩ := hP
  have hx := Bd.exec
  have hby := Bd.bytes
  have hml : c.maxLocals = 5 := hml0
  have hown : s.vm.findClass "com/example/notesmith/notesmith/report/LineBuffer" = some m.cls := findClass_of_methodNamed Bd.named
  have hnm := (name_of_methodNamed Bd.named Bd.method).1
  have X0 : Stand p l e ({ frames := 0, cells := 0, slots := 0, locals := 0 } : Room) s m #[(.ref a), (.int t), (.int (0 : Int32))] below meth c s₁ [] 0 0 := Stand.of_body Bd
  have e0 : s₁.heap = h0 := by rw [← hh, Bd.state]; rfl
  have N0 := Fr.nil n0
  show own_Go p e below (fun s₂ o₉ => s₂.status = .running ∧ Ended s₂ below o₉ ∧ ∃ v L, o₉ = .returned v ∧ Q_rm9_0_1 Z a t ba kc N b0 b1 b2 b3 h0 n0 v s₂.heap L ∧ FrameEnd s o₉ s₂ L ({ frames := 0, cells := 0, slots := 0, locals := 0 } : Room).cells ({ frames := 0, cells := 0, slots := 0, locals := 0 } : Room).slots) (s₁.setTop (entryFrame m #[(.ref a), (.int t), (.int (0 : Int32))] 5))
  rw [ef_rm9_0_1 m a t]
  refine own_step (s₁.setTop (mkF m 1 #[.val (.ref a), .val (.int t), .val (.int (0 : Int32)), .unset, .unset] [(.int (-1 : Int32))])) (fun t₀ k₀ => XS.iconst X0.here hx rfl (hb hby d9_0) k₀) ?_
  refine own_step (s₁.setTop (mkF m 2 #[.val (.ref a), .val (.int t), .val (.int (0 : Int32)), .val (.int (-1 : Int32)), .unset] [])) (fun t₀ k₀ => XS.istoreN X0.here hx rfl (hb hby d9_1) rfl (l' := #[.val (.ref a), .val (.int t), .val (.int (0 : Int32)), .val (.int (-1 : Int32)), .unset]) rfl k₀) ?_
  refine own_step (s₁.setTop (mkF m 3 #[.val (.ref a), .val (.int t), .val (.int (0 : Int32)), .val (.int (-1 : Int32)), .unset] [(.int (0 : Int32))])) (fun t₀ k₀ => XS.iloadN X0.here hx rfl (hb hby d9_2) rfl k₀) ?_
  refine own_step (s₁.setTop (mkF m 5 #[.val (.ref a), .val (.int t), .val (.int (0 : Int32)), .val (.int (-1 : Int32)), .val (.int (0 : Int32))] [])) (fun t₀ k₀ => XS.istore X0.here hx rfl (hb hby d9_3) rfl (l' := #[.val (.ref a), .val (.int t), .val (.int (0 : Int32)), .val (.int (-1 : Int32)), .val (.int (0 : Int32))]) rfl k₀) ?_
  refine own_step (s₁.setTop (mkF m 6 #[.val (.ref a), .val (.int t), .val (.int (0 : Int32)), .val (.int (-1 : Int32)), .val (.int (0 : Int32))] [(.int (-1 : Int32))])) (fun t₀ k₀ => XS.iloadN X0.here hx rfl (hb hby d9_5) rfl k₀) ?_
  refine own_step (s₁.setTop (mkF m 9 #[.val (.ref a), .val (.int t), .val (.int (0 : Int32)), .val (.int (-1 : Int32)), .val (.int (0 : Int32))] [])) (fun t₀ k₀ => XS.ifNo X0.here hx rfl (hb hby d9_6) rfl (by decide) k₀) ?_
  refine own_step (s₁.setTop (mkF m 11 #[.val (.ref a), .val (.int t), .val (.int (0 : Int32)), .val (.int (-1 : Int32)), .val (.int (0 : Int32))] [(.int (0 : Int32))])) (fun t₀ k₀ => XS.iload X0.here hx rfl (hb hby d9_9) rfl k₀) ?_
  refine own_step (s₁.setTop (mkF m 12 #[.val (.ref a), .val (.int t), .val (.int (0 : Int32)), .val (.int (-1 : Int32)), .val (.int (0 : Int32))] [(.ref a), (.int (0 : Int32))])) (fun t₀ k₀ => XS.aloadN X0.here hx rfl (hb hby d9_11) rfl rfl k₀) ?_
  obtain ⟨T223, X223, e223, st223⟩ := getF X0 hx hZ hown (host := "") (Or.inl (hw _ (List.mem_of_getElem? (i := 22) rfl))) Via.refl e0 Fl (g := (mkF m 12 #[.val (.ref a), .val (.int t), .val (.int (0 : Int32)), .val (.int (-1 : Int32)), .val (.int (0 : Int32))] [(.ref a), (.int (0 : Int32))])) rfl rfl (hb hby d9_12)
  refine own_step (T223.setTop (mkF m 15 #[.val (.ref a), .val (.int t), .val (.int (0 : Int32)), .val (.int (-1 : Int32)), .val (.int (0 : Int32))] [(.int (1 : Int32)), (.int (0 : Int32))])) (fun t₀ k₀ => st223 t₀ k₀) ?_
  refine own_step (T223.setTop (mkF m 18 #[.val (.ref a), .val (.int t), .val (.int (0 : Int32)), .val (.int (-1 : Int32)), .val (.int (0 : Int32))] [])) (fun t₀ k₀ => XS.icmpNo X223.here hx rfl (hb hby d9_15) rfl (by decide) k₀) ?_
  refine own_step (T223.setTop (mkF m 19 #[.val (.ref a), .val (.int t), .val (.int (0 : Int32)), .val (.int (-1 : Int32)), .val (.int (0 : Int32))] [(.ref a)])) (fun t₀ k₀ => XS.aloadN X223.here hx rfl (hb hby d9_18) rfl rfl k₀) ?_
  obtain ⟨T224, X224, e224, st224⟩ := getF X223 hx hZ hown (host := "") (Or.inl (hw _ (List.mem_of_getElem? (i := 11) rfl))) Via.refl e223 Fb (g := (mkF m 19 #[.val (.ref a), .val (.int t), .val (.int (0 : Int32)), .val (.int (-1 : Int32)), .val (.int (0 : Int32))] [(.ref a)])) rfl rfl (hb hby d9_19)
  refine own_step (T224.setTop (mkF m 22 #[.val (.ref a), .val (.int t), .val (.int (0 : Int32)), .val (.int (-1 : Int32)), .val (.int (0 : Int32))] [(.ref ba)])) (fun t₀ k₀ => st224 t₀ k₀) ?_
  refine own_step (T224.setTop (mkF m 24 #[.val (.ref a), .val (.int t), .val (.int (0 : Int32)), .val (.int (-1 : Int32)), .val (.int (0 : Int32))] [(.int (0 : Int32)), (.ref ba)])) (fun t₀ k₀ => XS.iload X224.here hx rfl (hb hby d9_22) rfl k₀) ?_
  obtain ⟨clo225, Aro225, qo225, So225, Mo225, Ho225, Go225⟩ := id Vb
  have hino225 : ¬ ((0 : Int32) < 0 ∨ clo225.slots.size ≤ ((0 : Int32)).toNatClampNeg) := inb_of So225 ⟨by decide, own_ltk hN4 (by decide)⟩
  have hato225 : clo225.slots[((0 : Int32)).toNatClampNeg]? = some (.int b0) := Has.at Ho225 hino225 rfl
  refine own_step (T224.setTop (mkF m 25 #[.val (.ref a), .val (.int t), .val (.int (0 : Int32)), .val (.int (-1 : Int32)), .val (.int (0 : Int32))] [(.int b0)])) (fun t₀ k₀ => X224.baloadBytes hx (j := (0 : Int32)) (v := (.int b0)) (by rw [e224]; exact Aro225.1) (State.isArrayOf_alike hZ.alike Aro225.2.1) Aro225.2.2 hino225 hato225 (g := (mkF m 24 #[.val (.ref a), .val (.int t), .val (.int (0 : Int32)), .val (.int (-1 : Int32)), .val (.int (0 : Int32))] [(.int (0 : Int32)), (.ref ba)])) rfl rfl (hb hby d9_24) _ k₀) ?_
  refine own_step (T224.setTop (mkF m 26 #[.val (.ref a), .val (.int t), .val (.int (0 : Int32)), .val (.int (-1 : Int32)), .val (.int (0 : Int32))] [(.int t), (.int b0)])) (fun t₀ k₀ => XS.iloadN X224.here hx rfl (hb hby d9_25) rfl k₀) ?_
  by_cases hc26 : b0 = t
  · skip
    refine own_step (T224.setTop (mkF m 29 #[.val (.ref a), .val (.int t), .val (.int (0 : Int32)), .val (.int (-1 : Int32)), .val (.int (0 : Int32))] [])) (fun t₀ k₀ => XS.icmpNo X224.here hx rfl (hb hby d9_26) rfl (teq hc26).2 k₀) ?_
    refine own_step (T224.setTop (mkF m 31 #[.val (.ref a), .val (.int t), .val (.int (0 : Int32)), .val (.int (-1 : Int32)), .val (.int (0 : Int32))] [(.int (0 : Int32))])) (fun t₀ k₀ => XS.iload X224.here hx rfl (hb hby d9_29) rfl k₀) ?_
    refine own_step (T224.setTop (mkF m 32 #[.val (.ref a), .val (.int t), .val (.int (0 : Int32)), .val (.int (0 : Int32)), .val (.int (0 : Int32))] [])) (fun t₀ k₀ => XS.istoreN X224.here hx rfl (hb hby d9_31) rfl (l' := #[.val (.ref a), .val (.int t), .val (.int (0 : Int32)), .val (.int (0 : Int32)), .val (.int (0 : Int32))]) rfl k₀) ?_
    refine own_step (T224.setTop (mkF m 35 #[.val (.ref a), .val (.int t), .val (.int (0 : Int32)), .val (.int (0 : Int32)), .val (.int (1 : Int32))] [])) (fun t₀ k₀ => XS.iinc X224.here hx rfl (hb hby d9_32) rfl (l' := #[.val (.ref a), .val (.int t), .val (.int (0 : Int32)), .val (.int (0 : Int32)), .val (.int (1 : Int32))]) rfl k₀) ?_
    refine own_step (T224.setTop (mkF m 5 #[.val (.ref a), .val (.int t), .val (.int (0 : Int32)), .val (.int (0 : Int32)), .val (.int (1 : Int32))] [])) (fun t₀ k₀ => XS.goto X224.here hx rfl (pc0 := 35) (pc' := 5) rfl (hb hby d9_35) (by decide) (by decide) k₀) ?_
    refine own_step (T224.setTop (mkF m 6 #[.val (.ref a), .val (.int t), .val (.int (0 : Int32)), .val (.int (0 : Int32)), .val (.int (1 : Int32))] [(.int (0 : Int32))])) (fun t₀ k₀ => XS.iloadN X224.here hx rfl (hb hby d9_5) rfl k₀) ?_
    refine own_step (T224.setTop (mkF m 38 #[.val (.ref a), .val (.int t), .val (.int (0 : Int32)), .val (.int (0 : Int32)), .val (.int (1 : Int32))] [])) (fun t₀ k₀ => XS.ifYes X224.here hx rfl (pc0 := 6) (pc' := 38) rfl (hb hby d9_6) rfl (by decide) (by decide) (by decide) k₀) ?_
    refine own_step (T224.setTop (mkF m 39 #[.val (.ref a), .val (.int t), .val (.int (0 : Int32)), .val (.int (0 : Int32)), .val (.int (1 : Int32))] [(.int (0 : Int32))])) (fun t₀ k₀ => XS.iloadN X224.here hx rfl (hb hby d9_38) rfl k₀) ?_
    obtain ⟨fs, hr, hrun, hended, hW, hsame⟩ := X224.leave (v := some (.int (0 : Int32))) (fun h => by rw [Bd.returns] at h; cases h)
    refine ⟨_, _, ?_, hrun, hended, _, _, rfl, ?_, ⟨_, rfl⟩, hW, hsame.mono (by decide) (by decide)⟩
    · exact retI X224 hx Bd.returns (hb hby d9_39) hr
    · show Q_rm9_0_1 Z a t ba kc N b0 b1 b2 b3 h0 n0 _ T224.heap _
      rw [e224]
      exact ⟨by simp +decide [own_all, own_st, hc26], N0, rfl⟩
  · skip
    refine own_step (T224.setTop (mkF m 32 #[.val (.ref a), .val (.int t), .val (.int (0 : Int32)), .val (.int (-1 : Int32)), .val (.int (0 : Int32))] [])) (fun t₀ k₀ => XS.icmpYes X224.here hx rfl (pc0 := 26) (pc' := 32) rfl (hb hby d9_26) rfl (feq hc26).2 (by decide) (by decide) k₀) ?_
    refine own_step (T224.setTop (mkF m 35 #[.val (.ref a), .val (.int t), .val (.int (0 : Int32)), .val (.int (-1 : Int32)), .val (.int (1 : Int32))] [])) (fun t₀ k₀ => XS.iinc X224.here hx rfl (hb hby d9_32) rfl (l' := #[.val (.ref a), .val (.int t), .val (.int (0 : Int32)), .val (.int (-1 : Int32)), .val (.int (1 : Int32))]) rfl k₀) ?_
    refine own_step (T224.setTop (mkF m 5 #[.val (.ref a), .val (.int t), .val (.int (0 : Int32)), .val (.int (-1 : Int32)), .val (.int (1 : Int32))] [])) (fun t₀ k₀ => XS.goto X224.here hx rfl (pc0 := 35) (pc' := 5) rfl (hb hby d9_35) (by decide) (by decide) k₀) ?_
    refine own_step (T224.setTop (mkF m 6 #[.val (.ref a), .val (.int t), .val (.int (0 : Int32)), .val (.int (-1 : Int32)), .val (.int (1 : Int32))] [(.int (-1 : Int32))])) (fun t₀ k₀ => XS.iloadN X224.here hx rfl (hb hby d9_5) rfl k₀) ?_
    refine own_step (T224.setTop (mkF m 9 #[.val (.ref a), .val (.int t), .val (.int (0 : Int32)), .val (.int (-1 : Int32)), .val (.int (1 : Int32))] [])) (fun t₀ k₀ => XS.ifNo X224.here hx rfl (hb hby d9_6) rfl (by decide) k₀) ?_
    refine own_step (T224.setTop (mkF m 11 #[.val (.ref a), .val (.int t), .val (.int (0 : Int32)), .val (.int (-1 : Int32)), .val (.int (1 : Int32))] [(.int (1 : Int32))])) (fun t₀ k₀ => XS.iload X224.here hx rfl (hb hby d9_9) rfl k₀) ?_
    refine own_step (T224.setTop (mkF m 12 #[.val (.ref a), .val (.int t), .val (.int (0 : Int32)), .val (.int (-1 : Int32)), .val (.int (1 : Int32))] [(.ref a), (.int (1 : Int32))])) (fun t₀ k₀ => XS.aloadN X224.here hx rfl (hb hby d9_11) rfl rfl k₀) ?_
    obtain ⟨T226, X226, e226, st226⟩ := getF X224 hx hZ hown (host := "") (Or.inl (hw _ (List.mem_of_getElem? (i := 22) rfl))) Via.refl e224 Fl (g := (mkF m 12 #[.val (.ref a), .val (.int t), .val (.int (0 : Int32)), .val (.int (-1 : Int32)), .val (.int (1 : Int32))] [(.ref a), (.int (1 : Int32))])) rfl rfl (hb hby d9_12)
    refine own_step (T226.setTop (mkF m 15 #[.val (.ref a), .val (.int t), .val (.int (0 : Int32)), .val (.int (-1 : Int32)), .val (.int (1 : Int32))] [(.int (1 : Int32)), (.int (1 : Int32))])) (fun t₀ k₀ => st226 t₀ k₀) ?_
    refine own_step (T226.setTop (mkF m 38 #[.val (.ref a), .val (.int t), .val (.int (0 : Int32)), .val (.int (-1 : Int32)), .val (.int (1 : Int32))] [])) (fun t₀ k₀ => XS.icmpYes X226.here hx rfl (pc0 := 15) (pc' := 38) rfl (hb hby d9_15) rfl (by decide) (by decide) (by decide) k₀) ?_
    refine own_step (T226.setTop (mkF m 39 #[.val (.ref a), .val (.int t), .val (.int (0 : Int32)), .val (.int (-1 : Int32)), .val (.int (1 : Int32))] [(.int (-1 : Int32))])) (fun t₀ k₀ => XS.iloadN X226.here hx rfl (hb hby d9_38) rfl k₀) ?_
    obtain ⟨fs, hr, hrun, hended, hW, hsame⟩ := X226.leave (v := some (.int (-1 : Int32))) (fun h => by rw [Bd.returns] at h; cases h)
    refine ⟨_, _, ?_, hrun, hended, _, _, rfl, ?_, ⟨_, rfl⟩, hW, hsame.mono (by decide) (by decide)⟩
    · exact retI X226 hx Bd.returns (hb hby d9_39) hr
    · show Q_rm9_0_1 Z a t ba kc N b0 b1 b2 b3 h0 n0 _ T226.heap _
      rw [e226]
      exact ⟨by simp +decide [own_all, own_st, hc26], N0, rfl⟩
theorem ef_rm9_0_2 (m : MethodId) (a : Addr) (t : Int32) : entryFrame m #[(.ref a), (.int t), (.int (0 : Int32))] 5 = mkF m 0 #[.val (.ref a), .val (.int t), .val (.int (0 : Int32)), .unset, .unset] [] := by first | (simp [entryFrame, mkF, argsToLocals, Value.category]; done) | rfl
def Q_rm9_0_2 (Z : State) (a : Addr) (t : Int32) (ba : Addr) (kc : ClassId) (N : Int32) (b0 : Int32) (b1 : Int32) (b2 : Int32) (b3 : Int32) (h0 : Heap) (n0 : Nat) (v : Option Value) (h : Heap) (L : List Loc) : Prop := v = some (.int (own_all 0 2 t b0 b1 b2 b3)) ∧ Fr n0 L ∧ h = h0
set_option maxRecDepth 65536 in
set_option maxHeartbeats 40000000 in
theorem rm9_0_2 (l : Launch) (Z : State) (a0 : Array Value) (hw : ∀ d ∈ tables_1, d.before a0 Z = true) (ws : List Jvm.Cond) (a : Addr) (t : Int32) (ba : Addr) (kc : ClassId) (N : Int32) (b0 : Int32) (b1 : Int32) (b2 : Int32) (b3 : Int32) (h0 : Heap) (n0 : Nat) (Z0 : n0 ≤ h0.size) (Fb : Fld Z h0 a "com/example/notesmith/notesmith/report/LineBuffer" "bytes" "[B" (.ref ba)) (Fl : Fld Z h0 a "com/example/notesmith/notesmith/report/LineBuffer" "length" "I" (.int (2 : Int32))) (Vb : Arv Z h0 ba kc .byte N [(.int b0), (.int b1), (.int b2), (.int b3)] (.int (0 : Int32))) (hN4 : ¬ N < 4) :
    MetFree l (⟨"com/example/notesmith/notesmith/report/LineBuffer", "indexOf", "(CI)I"⟩ : MethodName) (head1 (Jvm.Cond.code (⟨"com/example/notesmith/notesmith/report/LineBuffer", "indexOf", "(CI)I"⟩ : MethodName) prog_104_method_6_code 5 (some .int) :: ws) ({ frames := 0, cells := 0, slots := 0, locals := 0 } : Room)) (fun as₉ U => as₉ = #[(.ref a), (.int t), (.int (0 : Int32))] ∧ Z.Warmed39 U.vm ∧ U.heap = h0) (fun _ _ _ _ _ => True) (fun _ U o₉ U' => ∃ v L, o₉ = .returned v ∧ Q_rm9_0_2 Z a t ba kc N b0 b1 b2 b3 h0 n0 v U'.heap L ∧ FrameEnd U o₉ U' L ({ frames := 0, cells := 0, slots := 0, locals := 0 } : Room).cells ({ frames := 0, cells := 0, slots := 0, locals := 0 } : Room).slots) := by
  refine MetFree.of_bodySF (plainFor_of_name pn_1) hisR ?_
  intro p e s m args below meth c s₁ Bd hml0 hP hK
  obtain ⟨rfl, hZ, hh⟩ := hP
  have hx := Bd.exec
  have hby := Bd.bytes
  have hml : c.maxLocals = 5 := hml0
  have hown : s.vm.findClass "com/example/notesmith/notesmith/report/LineBuffer" = some m.cls := findClass_of_methodNamed Bd.named
  have hnm := (name_of_methodNamed Bd.named Bd.method).1
  have X0 : Stand p l e ({ frames := 0, cells := 0, slots := 0, locals := 0 } : Room) s m #[(.ref a), (.int t), (.int (0 : Int32))] below meth c s₁ [] 0 0 := Stand.of_body Bd
  have e0 : s₁.heap = h0 := by rw [← hh, Bd.state]; rfl
  have N0 := Fr.nil n0
  show own_Go p e below (fun s₂ o₉ => s₂.status = .running ∧ Ended s₂ below o₉ ∧ ∃ v L, o₉ = .returned v ∧ Q_rm9_0_2 Z a t ba kc N b0 b1 b2 b3 h0 n0 v s₂.heap L ∧ FrameEnd s o₉ s₂ L ({ frames := 0, cells := 0, slots := 0, locals := 0 } : Room).cells ({ frames := 0, cells := 0, slots := 0, locals := 0 } : Room).slots) (s₁.setTop (entryFrame m #[(.ref a), (.int t), (.int (0 : Int32))] 5))
  rw [ef_rm9_0_2 m a t]
  refine own_step (s₁.setTop (mkF m 1 #[.val (.ref a), .val (.int t), .val (.int (0 : Int32)), .unset, .unset] [(.int (-1 : Int32))])) (fun t₀ k₀ => XS.iconst X0.here hx rfl (hb hby d9_0) k₀) ?_
  refine own_step (s₁.setTop (mkF m 2 #[.val (.ref a), .val (.int t), .val (.int (0 : Int32)), .val (.int (-1 : Int32)), .unset] [])) (fun t₀ k₀ => XS.istoreN X0.here hx rfl (hb hby d9_1) rfl (l' := #[.val (.ref a), .val (.int t), .val (.int (0 : Int32)), .val (.int (-1 : Int32)), .unset]) rfl k₀) ?_
  refine own_step (s₁.setTop (mkF m 3 #[.val (.ref a), .val (.int t), .val (.int (0 : Int32)), .val (.int (-1 : Int32)), .unset] [(.int (0 : Int32))])) (fun t₀ k₀ => XS.iloadN X0.here hx rfl (hb hby d9_2) rfl k₀) ?_
  refine own_step (s₁.setTop (mkF m 5 #[.val (.ref a), .val (.int t), .val (.int (0 : Int32)), .val (.int (-1 : Int32)), .val (.int (0 : Int32))] [])) (fun t₀ k₀ => XS.istore X0.here hx rfl (hb hby d9_3) rfl (l' := #[.val (.ref a), .val (.int t), .val (.int (0 : Int32)), .val (.int (-1 : Int32)), .val (.int (0 : Int32))]) rfl k₀) ?_
  refine own_step (s₁.setTop (mkF m 6 #[.val (.ref a), .val (.int t), .val (.int (0 : Int32)), .val (.int (-1 : Int32)), .val (.int (0 : Int32))] [(.int (-1 : Int32))])) (fun t₀ k₀ => XS.iloadN X0.here hx rfl (hb hby d9_5) rfl k₀) ?_
  refine own_step (s₁.setTop (mkF m 9 #[.val (.ref a), .val (.int t), .val (.int (0 : Int32)), .val (.int (-1 : Int32)), .val (.int (0 : Int32))] [])) (fun t₀ k₀ => XS.ifNo X0.here hx rfl (hb hby d9_6) rfl (by decide) k₀) ?_
  refine own_step (s₁.setTop (mkF m 11 #[.val (.ref a), .val (.int t), .val (.int (0 : Int32)), .val (.int (-1 : Int32)), .val (.int (0 : Int32))] [(.int (0 : Int32))])) (fun t₀ k₀ => XS.iload X0.here hx rfl (hb hby d9_9) rfl k₀) ?_
  refine own_step (s₁.setTop (mkF m 12 #[.val (.ref a), .val (.int t), .val (.int (0 : Int32)), .val (.int (-1 : Int32)), .val (.int (0 : Int32))] [(.ref a), (.int (0 : Int32))])) (fun t₀ k₀ => XS.aloadN X0.here hx rfl (hb hby d9_11) rfl rfl k₀) ?_
  obtain ⟨T227, X227, e227, st227⟩ := getF X0 hx hZ hown (host := "") (Or.inl (hw _ (List.mem_of_getElem? (i := 22) rfl))) Via.refl e0 Fl (g := (mkF m 12 #[.val (.ref a), .val (.int t), .val (.int (0 : Int32)), .val (.int (-1 : Int32)), .val (.int (0 : Int32))] [(.ref a), (.int (0 : Int32))])) rfl rfl (hb hby d9_12)
  refine own_step (T227.setTop (mkF m 15 #[.val (.ref a), .val (.int t), .val (.int (0 : Int32)), .val (.int (-1 : Int32)), .val (.int (0 : Int32))] [(.int (2 : Int32)), (.int (0 : Int32))])) (fun t₀ k₀ => st227 t₀ k₀) ?_
  refine own_step (T227.setTop (mkF m 18 #[.val (.ref a), .val (.int t), .val (.int (0 : Int32)), .val (.int (-1 : Int32)), .val (.int (0 : Int32))] [])) (fun t₀ k₀ => XS.icmpNo X227.here hx rfl (hb hby d9_15) rfl (by decide) k₀) ?_
  refine own_step (T227.setTop (mkF m 19 #[.val (.ref a), .val (.int t), .val (.int (0 : Int32)), .val (.int (-1 : Int32)), .val (.int (0 : Int32))] [(.ref a)])) (fun t₀ k₀ => XS.aloadN X227.here hx rfl (hb hby d9_18) rfl rfl k₀) ?_
  obtain ⟨T228, X228, e228, st228⟩ := getF X227 hx hZ hown (host := "") (Or.inl (hw _ (List.mem_of_getElem? (i := 11) rfl))) Via.refl e227 Fb (g := (mkF m 19 #[.val (.ref a), .val (.int t), .val (.int (0 : Int32)), .val (.int (-1 : Int32)), .val (.int (0 : Int32))] [(.ref a)])) rfl rfl (hb hby d9_19)
  refine own_step (T228.setTop (mkF m 22 #[.val (.ref a), .val (.int t), .val (.int (0 : Int32)), .val (.int (-1 : Int32)), .val (.int (0 : Int32))] [(.ref ba)])) (fun t₀ k₀ => st228 t₀ k₀) ?_
  refine own_step (T228.setTop (mkF m 24 #[.val (.ref a), .val (.int t), .val (.int (0 : Int32)), .val (.int (-1 : Int32)), .val (.int (0 : Int32))] [(.int (0 : Int32)), (.ref ba)])) (fun t₀ k₀ => XS.iload X228.here hx rfl (hb hby d9_22) rfl k₀) ?_
  obtain ⟨clo229, Aro229, qo229, So229, Mo229, Ho229, Go229⟩ := id Vb
  have hino229 : ¬ ((0 : Int32) < 0 ∨ clo229.slots.size ≤ ((0 : Int32)).toNatClampNeg) := inb_of So229 ⟨by decide, own_ltk hN4 (by decide)⟩
  have hato229 : clo229.slots[((0 : Int32)).toNatClampNeg]? = some (.int b0) := Has.at Ho229 hino229 rfl
  refine own_step (T228.setTop (mkF m 25 #[.val (.ref a), .val (.int t), .val (.int (0 : Int32)), .val (.int (-1 : Int32)), .val (.int (0 : Int32))] [(.int b0)])) (fun t₀ k₀ => X228.baloadBytes hx (j := (0 : Int32)) (v := (.int b0)) (by rw [e228]; exact Aro229.1) (State.isArrayOf_alike hZ.alike Aro229.2.1) Aro229.2.2 hino229 hato229 (g := (mkF m 24 #[.val (.ref a), .val (.int t), .val (.int (0 : Int32)), .val (.int (-1 : Int32)), .val (.int (0 : Int32))] [(.int (0 : Int32)), (.ref ba)])) rfl rfl (hb hby d9_24) _ k₀) ?_
  refine own_step (T228.setTop (mkF m 26 #[.val (.ref a), .val (.int t), .val (.int (0 : Int32)), .val (.int (-1 : Int32)), .val (.int (0 : Int32))] [(.int t), (.int b0)])) (fun t₀ k₀ => XS.iloadN X228.here hx rfl (hb hby d9_25) rfl k₀) ?_
  by_cases hc26 : b0 = t
  · skip
    refine own_step (T228.setTop (mkF m 29 #[.val (.ref a), .val (.int t), .val (.int (0 : Int32)), .val (.int (-1 : Int32)), .val (.int (0 : Int32))] [])) (fun t₀ k₀ => XS.icmpNo X228.here hx rfl (hb hby d9_26) rfl (teq hc26).2 k₀) ?_
    refine own_step (T228.setTop (mkF m 31 #[.val (.ref a), .val (.int t), .val (.int (0 : Int32)), .val (.int (-1 : Int32)), .val (.int (0 : Int32))] [(.int (0 : Int32))])) (fun t₀ k₀ => XS.iload X228.here hx rfl (hb hby d9_29) rfl k₀) ?_
    refine own_step (T228.setTop (mkF m 32 #[.val (.ref a), .val (.int t), .val (.int (0 : Int32)), .val (.int (0 : Int32)), .val (.int (0 : Int32))] [])) (fun t₀ k₀ => XS.istoreN X228.here hx rfl (hb hby d9_31) rfl (l' := #[.val (.ref a), .val (.int t), .val (.int (0 : Int32)), .val (.int (0 : Int32)), .val (.int (0 : Int32))]) rfl k₀) ?_
    refine own_step (T228.setTop (mkF m 35 #[.val (.ref a), .val (.int t), .val (.int (0 : Int32)), .val (.int (0 : Int32)), .val (.int (1 : Int32))] [])) (fun t₀ k₀ => XS.iinc X228.here hx rfl (hb hby d9_32) rfl (l' := #[.val (.ref a), .val (.int t), .val (.int (0 : Int32)), .val (.int (0 : Int32)), .val (.int (1 : Int32))]) rfl k₀) ?_
    refine own_step (T228.setTop (mkF m 5 #[.val (.ref a), .val (.int t), .val (.int (0 : Int32)), .val (.int (0 : Int32)), .val (.int (1 : Int32))] [])) (fun t₀ k₀ => XS.goto X228.here hx rfl (pc0 := 35) (pc' := 5) rfl (hb hby d9_35) (by decide) (by decide) k₀) ?_
    refine own_step (T228.setTop (mkF m 6 #[.val (.ref a), .val (.int t), .val (.int (0 : Int32)), .val (.int (0 : Int32)), .val (.int (1 : Int32))] [(.int (0 : Int32))])) (fun t₀ k₀ => XS.iloadN X228.here hx rfl (hb hby d9_5) rfl k₀) ?_
    refine own_step (T228.setTop (mkF m 38 #[.val (.ref a), .val (.int t), .val (.int (0 : Int32)), .val (.int (0 : Int32)), .val (.int (1 : Int32))] [])) (fun t₀ k₀ => XS.ifYes X228.here hx rfl (pc0 := 6) (pc' := 38) rfl (hb hby d9_6) rfl (by decide) (by decide) (by decide) k₀) ?_
    refine own_step (T228.setTop (mkF m 39 #[.val (.ref a), .val (.int t), .val (.int (0 : Int32)), .val (.int (0 : Int32)), .val (.int (1 : Int32))] [(.int (0 : Int32))])) (fun t₀ k₀ => XS.iloadN X228.here hx rfl (hb hby d9_38) rfl k₀) ?_
    obtain ⟨fs, hr, hrun, hended, hW, hsame⟩ := X228.leave (v := some (.int (0 : Int32))) (fun h => by rw [Bd.returns] at h; cases h)
    refine ⟨_, _, ?_, hrun, hended, _, _, rfl, ?_, ⟨_, rfl⟩, hW, hsame.mono (by decide) (by decide)⟩
    · exact retI X228 hx Bd.returns (hb hby d9_39) hr
    · show Q_rm9_0_2 Z a t ba kc N b0 b1 b2 b3 h0 n0 _ T228.heap _
      rw [e228]
      exact ⟨by simp +decide [own_all, own_st, hc26], N0, rfl⟩
  · skip
    refine own_step (T228.setTop (mkF m 32 #[.val (.ref a), .val (.int t), .val (.int (0 : Int32)), .val (.int (-1 : Int32)), .val (.int (0 : Int32))] [])) (fun t₀ k₀ => XS.icmpYes X228.here hx rfl (pc0 := 26) (pc' := 32) rfl (hb hby d9_26) rfl (feq hc26).2 (by decide) (by decide) k₀) ?_
    refine own_step (T228.setTop (mkF m 35 #[.val (.ref a), .val (.int t), .val (.int (0 : Int32)), .val (.int (-1 : Int32)), .val (.int (1 : Int32))] [])) (fun t₀ k₀ => XS.iinc X228.here hx rfl (hb hby d9_32) rfl (l' := #[.val (.ref a), .val (.int t), .val (.int (0 : Int32)), .val (.int (-1 : Int32)), .val (.int (1 : Int32))]) rfl k₀) ?_
    refine own_step (T228.setTop (mkF m 5 #[.val (.ref a), .val (.int t), .val (.int (0 : Int32)), .val (.int (-1 : Int32)), .val (.int (1 : Int32))] [])) (fun t₀ k₀ => XS.goto X228.here hx rfl (pc0 := 35) (pc' := 5) rfl (hb hby d9_35) (by decide) (by decide) k₀) ?_
    refine own_step (T228.setTop (mkF m 6 #[.val (.ref a), .val (.int t), .val (.int (0 : Int32)), .val (.int (-1 : Int32)), .val (.int (1 : Int32))] [(.int (-1 : Int32))])) (fun t₀ k₀ => XS.iloadN X228.here hx rfl (hb hby d9_5) rfl k₀) ?_
    refine own_step (T228.setTop (mkF m 9 #[.val (.ref a), .val (.int t), .val (.int (0 : Int32)), .val (.int (-1 : Int32)), .val (.int (1 : Int32))] [])) (fun t₀ k₀ => XS.ifNo X228.here hx rfl (hb hby d9_6) rfl (by decide) k₀) ?_
    refine own_step (T228.setTop (mkF m 11 #[.val (.ref a), .val (.int t), .val (.int (0 : Int32)), .val (.int (-1 : Int32)), .val (.int (1 : Int32))] [(.int (1 : Int32))])) (fun t₀ k₀ => XS.iload X228.here hx rfl (hb hby d9_9) rfl k₀) ?_
    refine own_step (T228.setTop (mkF m 12 #[.val (.ref a), .val (.int t), .val (.int (0 : Int32)), .val (.int (-1 : Int32)), .val (.int (1 : Int32))] [(.ref a), (.int (1 : Int32))])) (fun t₀ k₀ => XS.aloadN X228.here hx rfl (hb hby d9_11) rfl rfl k₀) ?_
    obtain ⟨T230, X230, e230, st230⟩ := getF X228 hx hZ hown (host := "") (Or.inl (hw _ (List.mem_of_getElem? (i := 22) rfl))) Via.refl e228 Fl (g := (mkF m 12 #[.val (.ref a), .val (.int t), .val (.int (0 : Int32)), .val (.int (-1 : Int32)), .val (.int (1 : Int32))] [(.ref a), (.int (1 : Int32))])) rfl rfl (hb hby d9_12)
    refine own_step (T230.setTop (mkF m 15 #[.val (.ref a), .val (.int t), .val (.int (0 : Int32)), .val (.int (-1 : Int32)), .val (.int (1 : Int32))] [(.int (2 : Int32)), (.int (1 : Int32))])) (fun t₀ k₀ => st230 t₀ k₀) ?_
    refine own_step (T230.setTop (mkF m 18 #[.val (.ref a), .val (.int t), .val (.int (0 : Int32)), .val (.int (-1 : Int32)), .val (.int (1 : Int32))] [])) (fun t₀ k₀ => XS.icmpNo X230.here hx rfl (hb hby d9_15) rfl (by decide) k₀) ?_
    refine own_step (T230.setTop (mkF m 19 #[.val (.ref a), .val (.int t), .val (.int (0 : Int32)), .val (.int (-1 : Int32)), .val (.int (1 : Int32))] [(.ref a)])) (fun t₀ k₀ => XS.aloadN X230.here hx rfl (hb hby d9_18) rfl rfl k₀) ?_
    obtain ⟨T231, X231, e231, st231⟩ := getF X230 hx hZ hown (host := "") (Or.inl (hw _ (List.mem_of_getElem? (i := 11) rfl))) Via.refl e230 Fb (g := (mkF m 19 #[.val (.ref a), .val (.int t), .val (.int (0 : Int32)), .val (.int (-1 : Int32)), .val (.int (1 : Int32))] [(.ref a)])) rfl rfl (hb hby d9_19)
    refine own_step (T231.setTop (mkF m 22 #[.val (.ref a), .val (.int t), .val (.int (0 : Int32)), .val (.int (-1 : Int32)), .val (.int (1 : Int32))] [(.ref ba)])) (fun t₀ k₀ => st231 t₀ k₀) ?_
    refine own_step (T231.setTop (mkF m 24 #[.val (.ref a), .val (.int t), .val (.int (0 : Int32)), .val (.int (-1 : Int32)), .val (.int (1 : Int32))] [(.int (1 : Int32)), (.ref ba)])) (fun t₀ k₀ => XS.iload X231.here hx rfl (hb hby d9_22) rfl k₀) ?_
    obtain ⟨clo232, Aro232, qo232, So232, Mo232, Ho232, Go232⟩ := id Vb
    have hino232 : ¬ ((1 : Int32) < 0 ∨ clo232.slots.size ≤ ((1 : Int32)).toNatClampNeg) := inb_of So232 ⟨by decide, own_ltk hN4 (by decide)⟩
    have hato232 : clo232.slots[((1 : Int32)).toNatClampNeg]? = some (.int b1) := Has.at Ho232 hino232 rfl
    refine own_step (T231.setTop (mkF m 25 #[.val (.ref a), .val (.int t), .val (.int (0 : Int32)), .val (.int (-1 : Int32)), .val (.int (1 : Int32))] [(.int b1)])) (fun t₀ k₀ => X231.baloadBytes hx (j := (1 : Int32)) (v := (.int b1)) (by rw [e231]; exact Aro232.1) (State.isArrayOf_alike hZ.alike Aro232.2.1) Aro232.2.2 hino232 hato232 (g := (mkF m 24 #[.val (.ref a), .val (.int t), .val (.int (0 : Int32)), .val (.int (-1 : Int32)), .val (.int (1 : Int32))] [(.int (1 : Int32)), (.ref ba)])) rfl rfl (hb hby d9_24) _ k₀) ?_
    refine own_step (T231.setTop (mkF m 26 #[.val (.ref a), .val (.int t), .val (.int (0 : Int32)), .val (.int (-1 : Int32)), .val (.int (1 : Int32))] [(.int t), (.int b1)])) (fun t₀ k₀ => XS.iloadN X231.here hx rfl (hb hby d9_25) rfl k₀) ?_
    by_cases hc26_233 : b1 = t
    · skip
      refine own_step (T231.setTop (mkF m 29 #[.val (.ref a), .val (.int t), .val (.int (0 : Int32)), .val (.int (-1 : Int32)), .val (.int (1 : Int32))] [])) (fun t₀ k₀ => XS.icmpNo X231.here hx rfl (hb hby d9_26) rfl (teq hc26_233).2 k₀) ?_
      refine own_step (T231.setTop (mkF m 31 #[.val (.ref a), .val (.int t), .val (.int (0 : Int32)), .val (.int (-1 : Int32)), .val (.int (1 : Int32))] [(.int (1 : Int32))])) (fun t₀ k₀ => XS.iload X231.here hx rfl (hb hby d9_29) rfl k₀) ?_
      refine own_step (T231.setTop (mkF m 32 #[.val (.ref a), .val (.int t), .val (.int (0 : Int32)), .val (.int (1 : Int32)), .val (.int (1 : Int32))] [])) (fun t₀ k₀ => XS.istoreN X231.here hx rfl (hb hby d9_31) rfl (l' := #[.val (.ref a), .val (.int t), .val (.int (0 : Int32)), .val (.int (1 : Int32)), .val (.int (1 : Int32))]) rfl k₀) ?_
      refine own_step (T231.setTop (mkF m 35 #[.val (.ref a), .val (.int t), .val (.int (0 : Int32)), .val (.int (1 : Int32)), .val (.int (2 : Int32))] [])) (fun t₀ k₀ => XS.iinc X231.here hx rfl (hb hby d9_32) rfl (l' := #[.val (.ref a), .val (.int t), .val (.int (0 : Int32)), .val (.int (1 : Int32)), .val (.int (2 : Int32))]) rfl k₀) ?_
      refine own_step (T231.setTop (mkF m 5 #[.val (.ref a), .val (.int t), .val (.int (0 : Int32)), .val (.int (1 : Int32)), .val (.int (2 : Int32))] [])) (fun t₀ k₀ => XS.goto X231.here hx rfl (pc0 := 35) (pc' := 5) rfl (hb hby d9_35) (by decide) (by decide) k₀) ?_
      refine own_step (T231.setTop (mkF m 6 #[.val (.ref a), .val (.int t), .val (.int (0 : Int32)), .val (.int (1 : Int32)), .val (.int (2 : Int32))] [(.int (1 : Int32))])) (fun t₀ k₀ => XS.iloadN X231.here hx rfl (hb hby d9_5) rfl k₀) ?_
      refine own_step (T231.setTop (mkF m 38 #[.val (.ref a), .val (.int t), .val (.int (0 : Int32)), .val (.int (1 : Int32)), .val (.int (2 : Int32))] [])) (fun t₀ k₀ => XS.ifYes X231.here hx rfl (pc0 := 6) (pc' := 38) rfl (hb hby d9_6) rfl (by decide) (by decide) (by decide) k₀) ?_
      refine own_step (T231.setTop (mkF m 39 #[.val (.ref a), .val (.int t), .val (.int (0 : Int32)), .val (.int (1 : Int32)), .val (.int (2 : Int32))] [(.int (1 : Int32))])) (fun t₀ k₀ => XS.iloadN X231.here hx rfl (hb hby d9_38) rfl k₀) ?_
      obtain ⟨fs, hr, hrun, hended, hW, hsame⟩ := X231.leave (v := some (.int (1 : Int32))) (fun h => by rw [Bd.returns] at h; cases h)
      refine ⟨_, _, ?_, hrun, hended, _, _, rfl, ?_, ⟨_, rfl⟩, hW, hsame.mono (by decide) (by decide)⟩
      · exact retI X231 hx Bd.returns (hb hby d9_39) hr
      · show Q_rm9_0_2 Z a t ba kc N b0 b1 b2 b3 h0 n0 _ T231.heap _
        rw [e231]
        exact ⟨by simp +decide [own_all, own_st, hc26, hc26_233], N0, rfl⟩
    · skip
      refine own_step (T231.setTop (mkF m 32 #[.val (.ref a), .val (.int t), .val (.int (0 : Int32)), .val (.int (-1 : Int32)), .val (.int (1 : Int32))] [])) (fun t₀ k₀ => XS.icmpYes X231.here hx rfl (pc0 := 26) (pc' := 32) rfl (hb hby d9_26) rfl (feq hc26_233).2 (by decide) (by decide) k₀) ?_
      refine own_step (T231.setTop (mkF m 35 #[.val (.ref a), .val (.int t), .val (.int (0 : Int32)), .val (.int (-1 : Int32)), .val (.int (2 : Int32))] [])) (fun t₀ k₀ => XS.iinc X231.here hx rfl (hb hby d9_32) rfl (l' := #[.val (.ref a), .val (.int t), .val (.int (0 : Int32)), .val (.int (-1 : Int32)), .val (.int (2 : Int32))]) rfl k₀) ?_
      refine own_step (T231.setTop (mkF m 5 #[.val (.ref a), .val (.int t), .val (.int (0 : Int32)), .val (.int (-1 : Int32)), .val (.int (2 : Int32))] [])) (fun t₀ k₀ => XS.goto X231.here hx rfl (pc0 := 35) (pc' := 5) rfl (hb hby d9_35) (by decide) (by decide) k₀) ?_
      refine own_step (T231.setTop (mkF m 6 #[.val (.ref a), .val (.int t), .val (.int (0 : Int32)), .val (.int (-1 : Int32)), .val (.int (2 : Int32))] [(.int (-1 : Int32))])) (fun t₀ k₀ => XS.iloadN X231.here hx rfl (hb hby d9_5) rfl k₀) ?_
      refine own_step (T231.setTop (mkF m 9 #[.val (.ref a), .val (.int t), .val (.int (0 : Int32)), .val (.int (-1 : Int32)), .val (.int (2 : Int32))] [])) (fun t₀ k₀ => XS.ifNo X231.here hx rfl (hb hby d9_6) rfl (by decide) k₀) ?_
      refine own_step (T231.setTop (mkF m 11 #[.val (.ref a), .val (.int t), .val (.int (0 : Int32)), .val (.int (-1 : Int32)), .val (.int (2 : Int32))] [(.int (2 : Int32))])) (fun t₀ k₀ => XS.iload X231.here hx rfl (hb hby d9_9) rfl k₀) ?_
      refine own_step (T231.setTop (mkF m 12 #[.val (.ref a), .val (.int t), .val (.int (0 : Int32)), .val (.int (-1 : Int32)), .val (.int (2 : Int32))] [(.ref a), (.int (2 : Int32))])) (fun t₀ k₀ => XS.aloadN X231.here hx rfl (hb hby d9_11) rfl rfl k₀) ?_
      obtain ⟨T234, X234, e234, st234⟩ := getF X231 hx hZ hown (host := "") (Or.inl (hw _ (List.mem_of_getElem? (i := 22) rfl))) Via.refl e231 Fl (g := (mkF m 12 #[.val (.ref a), .val (.int t), .val (.int (0 : Int32)), .val (.int (-1 : Int32)), .val (.int (2 : Int32))] [(.ref a), (.int (2 : Int32))])) rfl rfl (hb hby d9_12)
      refine own_step (T234.setTop (mkF m 15 #[.val (.ref a), .val (.int t), .val (.int (0 : Int32)), .val (.int (-1 : Int32)), .val (.int (2 : Int32))] [(.int (2 : Int32)), (.int (2 : Int32))])) (fun t₀ k₀ => st234 t₀ k₀) ?_
      refine own_step (T234.setTop (mkF m 38 #[.val (.ref a), .val (.int t), .val (.int (0 : Int32)), .val (.int (-1 : Int32)), .val (.int (2 : Int32))] [])) (fun t₀ k₀ => XS.icmpYes X234.here hx rfl (pc0 := 15) (pc' := 38) rfl (hb hby d9_15) rfl (by decide) (by decide) (by decide) k₀) ?_
      refine own_step (T234.setTop (mkF m 39 #[.val (.ref a), .val (.int t), .val (.int (0 : Int32)), .val (.int (-1 : Int32)), .val (.int (2 : Int32))] [(.int (-1 : Int32))])) (fun t₀ k₀ => XS.iloadN X234.here hx rfl (hb hby d9_38) rfl k₀) ?_
      obtain ⟨fs, hr, hrun, hended, hW, hsame⟩ := X234.leave (v := some (.int (-1 : Int32))) (fun h => by rw [Bd.returns] at h; cases h)
      refine ⟨_, _, ?_, hrun, hended, _, _, rfl, ?_, ⟨_, rfl⟩, hW, hsame.mono (by decide) (by decide)⟩
      · exact retI X234 hx Bd.returns (hb hby d9_39) hr
      · show Q_rm9_0_2 Z a t ba kc N b0 b1 b2 b3 h0 n0 _ T234.heap _
        rw [e234]
        exact ⟨by simp +decide [own_all, own_st, hc26, hc26_233], N0, rfl⟩
theorem ef_rm9_0_3 (m : MethodId) (a : Addr) (t : Int32) : entryFrame m #[(.ref a), (.int t), (.int (0 : Int32))] 5 = mkF m 0 #[.val (.ref a), .val (.int t), .val (.int (0 : Int32)), .unset, .unset] [] := by first | (simp [entryFrame, mkF, argsToLocals, Value.category]; done) | rfl
def Q_rm9_0_3 (Z : State) (a : Addr) (t : Int32) (ba : Addr) (kc : ClassId) (N : Int32) (b0 : Int32) (b1 : Int32) (b2 : Int32) (b3 : Int32) (h0 : Heap) (n0 : Nat) (v : Option Value) (h : Heap) (L : List Loc) : Prop := v = some (.int (own_all 0 3 t b0 b1 b2 b3)) ∧ Fr n0 L ∧ h = h0
set_option maxRecDepth 65536 in
set_option maxHeartbeats 40000000 in
theorem rm9_0_3 (l : Launch) (Z : State) (a0 : Array Value) (hw : ∀ d ∈ tables_1, d.before a0 Z = true) (ws : List Jvm.Cond) (a : Addr) (t : Int32) (ba : Addr) (kc : ClassId) (N : Int32) (b0 : Int32) (b1 : Int32) (b2 : Int32) (b3 : Int32) (h0 : Heap) (n0 : Nat) (Z0 : n0 ≤ h0.size) (Fb : Fld Z h0 a "com/example/notesmith/notesmith/report/LineBuffer" "bytes" "[B" (.ref ba)) (Fl : Fld Z h0 a "com/example/notesmith/notesmith/report/LineBuffer" "length" "I" (.int (3 : Int32))) (Vb : Arv Z h0 ba kc .byte N [(.int b0), (.int b1), (.int b2), (.int b3)] (.int (0 : Int32))) (hN4 : ¬ N < 4) :
    MetFree l (⟨"com/example/notesmith/notesmith/report/LineBuffer", "indexOf", "(CI)I"⟩ : MethodName) (head1 (Jvm.Cond.code (⟨"com/example/notesmith/notesmith/report/LineBuffer", "indexOf", "(CI)I"⟩ : MethodName) prog_104_method_6_code 5 (some .int) :: ws) ({ frames := 0, cells := 0, slots := 0, locals := 0 } : Room)) (fun as₉ U => as₉ = #[(.ref a), (.int t), (.int (0 : Int32))] ∧ Z.Warmed39 U.vm ∧ U.heap = h0) (fun _ _ _ _ _ => True) (fun _ U o₉ U' => ∃ v L, o₉ = .returned v ∧ Q_rm9_0_3 Z a t ba kc N b0 b1 b2 b3 h0 n0 v U'.heap L ∧ FrameEnd U o₉ U' L ({ frames := 0, cells := 0, slots := 0, locals := 0 } : Room).cells ({ frames := 0, cells := 0, slots := 0, locals := 0 } : Room).slots) := by
  refine MetFree.of_bodySF (plainFor_of_name pn_1) hisR ?_
  intro p e s m args below meth c s₁ Bd hml0 hP hK
  obtain ⟨rfl, hZ, hh⟩ := hP
  have hx := Bd.exec
  have hby := Bd.bytes
  have hml : c.maxLocals = 5 := hml0
  have hown : s.vm.findClass "com/example/notesmith/notesmith/report/LineBuffer" = some m.cls := findClass_of_methodNamed Bd.named
  have hnm := (name_of_methodNamed Bd.named Bd.method).1
  have X0 : Stand p l e ({ frames := 0, cells := 0, slots := 0, locals := 0 } : Room) s m #[(.ref a), (.int t), (.int (0 : Int32))] below meth c s₁ [] 0 0 := Stand.of_body Bd
  have e0 : s₁.heap = h0 := by rw [← hh, Bd.state]; rfl
  have N0 := Fr.nil n0
  show own_Go p e below (fun s₂ o₉ => s₂.status = .running ∧ Ended s₂ below o₉ ∧ ∃ v L, o₉ = .returned v ∧ Q_rm9_0_3 Z a t ba kc N b0 b1 b2 b3 h0 n0 v s₂.heap L ∧ FrameEnd s o₉ s₂ L ({ frames := 0, cells := 0, slots := 0, locals := 0 } : Room).cells ({ frames := 0, cells := 0, slots := 0, locals := 0 } : Room).slots) (s₁.setTop (entryFrame m #[(.ref a), (.int t), (.int (0 : Int32))] 5))
  rw [ef_rm9_0_3 m a t]
  refine own_step (s₁.setTop (mkF m 1 #[.val (.ref a), .val (.int t), .val (.int (0 : Int32)), .unset, .unset] [(.int (-1 : Int32))])) (fun t₀ k₀ => XS.iconst X0.here hx rfl (hb hby d9_0) k₀) ?_
  refine own_step (s₁.setTop (mkF m 2 #[.val (.ref a), .val (.int t), .val (.int (0 : Int32)), .val (.int (-1 : Int32)), .unset] [])) (fun t₀ k₀ => XS.istoreN X0.here hx rfl (hb hby d9_1) rfl (l' := #[.val (.ref a), .val (.int t), .val (.int (0 : Int32)), .val (.int (-1 : Int32)), .unset]) rfl k₀) ?_
  refine own_step (s₁.setTop (mkF m 3 #[.val (.ref a), .val (.int t), .val (.int (0 : Int32)), .val (.int (-1 : Int32)), .unset] [(.int (0 : Int32))])) (fun t₀ k₀ => XS.iloadN X0.here hx rfl (hb hby d9_2) rfl k₀) ?_
  refine own_step (s₁.setTop (mkF m 5 #[.val (.ref a), .val (.int t), .val (.int (0 : Int32)), .val (.int (-1 : Int32)), .val (.int (0 : Int32))] [])) (fun t₀ k₀ => XS.istore X0.here hx rfl (hb hby d9_3) rfl (l' := #[.val (.ref a), .val (.int t), .val (.int (0 : Int32)), .val (.int (-1 : Int32)), .val (.int (0 : Int32))]) rfl k₀) ?_
  refine own_step (s₁.setTop (mkF m 6 #[.val (.ref a), .val (.int t), .val (.int (0 : Int32)), .val (.int (-1 : Int32)), .val (.int (0 : Int32))] [(.int (-1 : Int32))])) (fun t₀ k₀ => XS.iloadN X0.here hx rfl (hb hby d9_5) rfl k₀) ?_
  refine own_step (s₁.setTop (mkF m 9 #[.val (.ref a), .val (.int t), .val (.int (0 : Int32)), .val (.int (-1 : Int32)), .val (.int (0 : Int32))] [])) (fun t₀ k₀ => XS.ifNo X0.here hx rfl (hb hby d9_6) rfl (by decide) k₀) ?_
  refine own_step (s₁.setTop (mkF m 11 #[.val (.ref a), .val (.int t), .val (.int (0 : Int32)), .val (.int (-1 : Int32)), .val (.int (0 : Int32))] [(.int (0 : Int32))])) (fun t₀ k₀ => XS.iload X0.here hx rfl (hb hby d9_9) rfl k₀) ?_
  refine own_step (s₁.setTop (mkF m 12 #[.val (.ref a), .val (.int t), .val (.int (0 : Int32)), .val (.int (-1 : Int32)), .val (.int (0 : Int32))] [(.ref a), (.int (0 : Int32))])) (fun t₀ k₀ => XS.aloadN X0.here hx rfl (hb hby d9_11) rfl rfl k₀) ?_
  obtain ⟨T235, X235, e235, st235⟩ := getF X0 hx hZ hown (host := "") (Or.inl (hw _ (List.mem_of_getElem? (i := 22) rfl))) Via.refl e0 Fl (g := (mkF m 12 #[.val (.ref a), .val (.int t), .val (.int (0 : Int32)), .val (.int (-1 : Int32)), .val (.int (0 : Int32))] [(.ref a), (.int (0 : Int32))])) rfl rfl (hb hby d9_12)
  refine own_step (T235.setTop (mkF m 15 #[.val (.ref a), .val (.int t), .val (.int (0 : Int32)), .val (.int (-1 : Int32)), .val (.int (0 : Int32))] [(.int (3 : Int32)), (.int (0 : Int32))])) (fun t₀ k₀ => st235 t₀ k₀) ?_
  refine own_step (T235.setTop (mkF m 18 #[.val (.ref a), .val (.int t), .val (.int (0 : Int32)), .val (.int (-1 : Int32)), .val (.int (0 : Int32))] [])) (fun t₀ k₀ => XS.icmpNo X235.here hx rfl (hb hby d9_15) rfl (by decide) k₀) ?_
  refine own_step (T235.setTop (mkF m 19 #[.val (.ref a), .val (.int t), .val (.int (0 : Int32)), .val (.int (-1 : Int32)), .val (.int (0 : Int32))] [(.ref a)])) (fun t₀ k₀ => XS.aloadN X235.here hx rfl (hb hby d9_18) rfl rfl k₀) ?_
  obtain ⟨T236, X236, e236, st236⟩ := getF X235 hx hZ hown (host := "") (Or.inl (hw _ (List.mem_of_getElem? (i := 11) rfl))) Via.refl e235 Fb (g := (mkF m 19 #[.val (.ref a), .val (.int t), .val (.int (0 : Int32)), .val (.int (-1 : Int32)), .val (.int (0 : Int32))] [(.ref a)])) rfl rfl (hb hby d9_19)
  refine own_step (T236.setTop (mkF m 22 #[.val (.ref a), .val (.int t), .val (.int (0 : Int32)), .val (.int (-1 : Int32)), .val (.int (0 : Int32))] [(.ref ba)])) (fun t₀ k₀ => st236 t₀ k₀) ?_
  refine own_step (T236.setTop (mkF m 24 #[.val (.ref a), .val (.int t), .val (.int (0 : Int32)), .val (.int (-1 : Int32)), .val (.int (0 : Int32))] [(.int (0 : Int32)), (.ref ba)])) (fun t₀ k₀ => XS.iload X236.here hx rfl (hb hby d9_22) rfl k₀) ?_
  obtain ⟨clo237, Aro237, qo237, So237, Mo237, Ho237, Go237⟩ := id Vb
  have hino237 : ¬ ((0 : Int32) < 0 ∨ clo237.slots.size ≤ ((0 : Int32)).toNatClampNeg) := inb_of So237 ⟨by decide, own_ltk hN4 (by decide)⟩
  have hato237 : clo237.slots[((0 : Int32)).toNatClampNeg]? = some (.int b0) := Has.at Ho237 hino237 rfl
  refine own_step (T236.setTop (mkF m 25 #[.val (.ref a), .val (.int t), .val (.int (0 : Int32)), .val (.int (-1 : Int32)), .val (.int (0 : Int32))] [(.int b0)])) (fun t₀ k₀ => X236.baloadBytes hx (j := (0 : Int32)) (v := (.int b0)) (by rw [e236]; exact Aro237.1) (State.isArrayOf_alike hZ.alike Aro237.2.1) Aro237.2.2 hino237 hato237 (g := (mkF m 24 #[.val (.ref a), .val (.int t), .val (.int (0 : Int32)), .val (.int (-1 : Int32)), .val (.int (0 : Int32))] [(.int (0 : Int32)), (.ref ba)])) rfl rfl (hb hby d9_24) _ k₀) ?_
  refine own_step (T236.setTop (mkF m 26 #[.val (.ref a), .val (.int t), .val (.int (0 : Int32)), .val (.int (-1 : Int32)), .val (.int (0 : Int32))] [(.int t), (.int b0)])) (fun t₀ k₀ => XS.iloadN X236.here hx rfl (hb hby d9_25) rfl k₀) ?_
  by_cases hc26 : b0 = t
  · skip
    refine own_step (T236.setTop (mkF m 29 #[.val (.ref a), .val (.int t), .val (.int (0 : Int32)), .val (.int (-1 : Int32)), .val (.int (0 : Int32))] [])) (fun t₀ k₀ => XS.icmpNo X236.here hx rfl (hb hby d9_26) rfl (teq hc26).2 k₀) ?_
    refine own_step (T236.setTop (mkF m 31 #[.val (.ref a), .val (.int t), .val (.int (0 : Int32)), .val (.int (-1 : Int32)), .val (.int (0 : Int32))] [(.int (0 : Int32))])) (fun t₀ k₀ => XS.iload X236.here hx rfl (hb hby d9_29) rfl k₀) ?_
    refine own_step (T236.setTop (mkF m 32 #[.val (.ref a), .val (.int t), .val (.int (0 : Int32)), .val (.int (0 : Int32)), .val (.int (0 : Int32))] [])) (fun t₀ k₀ => XS.istoreN X236.here hx rfl (hb hby d9_31) rfl (l' := #[.val (.ref a), .val (.int t), .val (.int (0 : Int32)), .val (.int (0 : Int32)), .val (.int (0 : Int32))]) rfl k₀) ?_
    refine own_step (T236.setTop (mkF m 35 #[.val (.ref a), .val (.int t), .val (.int (0 : Int32)), .val (.int (0 : Int32)), .val (.int (1 : Int32))] [])) (fun t₀ k₀ => XS.iinc X236.here hx rfl (hb hby d9_32) rfl (l' := #[.val (.ref a), .val (.int t), .val (.int (0 : Int32)), .val (.int (0 : Int32)), .val (.int (1 : Int32))]) rfl k₀) ?_
    refine own_step (T236.setTop (mkF m 5 #[.val (.ref a), .val (.int t), .val (.int (0 : Int32)), .val (.int (0 : Int32)), .val (.int (1 : Int32))] [])) (fun t₀ k₀ => XS.goto X236.here hx rfl (pc0 := 35) (pc' := 5) rfl (hb hby d9_35) (by decide) (by decide) k₀) ?_
    refine own_step (T236.setTop (mkF m 6 #[.val (.ref a), .val (.int t), .val (.int (0 : Int32)), .val (.int (0 : Int32)), .val (.int (1 : Int32))] [(.int (0 : Int32))])) (fun t₀ k₀ => XS.iloadN X236.here hx rfl (hb hby d9_5) rfl k₀) ?_
    refine own_step (T236.setTop (mkF m 38 #[.val (.ref a), .val (.int t), .val (.int (0 : Int32)), .val (.int (0 : Int32)), .val (.int (1 : Int32))] [])) (fun t₀ k₀ => XS.ifYes X236.here hx rfl (pc0 := 6) (pc' := 38) rfl (hb hby d9_6) rfl (by decide) (by decide) (by decide) k₀) ?_
    refine own_step (T236.setTop (mkF m 39 #[.val (.ref a), .val (.int t), .val (.int (0 : Int32)), .val (.int (0 : Int32)), .val (.int (1 : Int32))] [(.int (0 : Int32))])) (fun t₀ k₀ => XS.iloadN X236.here hx rfl (hb hby d9_38) rfl k₀) ?_
    obtain ⟨fs, hr, hrun, hended, hW, hsame⟩ := X236.leave (v := some (.int (0 : Int32))) (fun h => by rw [Bd.returns] at h; cases h)
    refine ⟨_, _, ?_, hrun, hended, _, _, rfl, ?_, ⟨_, rfl⟩, hW, hsame.mono (by decide) (by decide)⟩
    · exact retI X236 hx Bd.returns (hb hby d9_39) hr
    · show Q_rm9_0_3 Z a t ba kc N b0 b1 b2 b3 h0 n0 _ T236.heap _
      rw [e236]
      exact ⟨by simp +decide [own_all, own_st, hc26], N0, rfl⟩
  · skip
    refine own_step (T236.setTop (mkF m 32 #[.val (.ref a), .val (.int t), .val (.int (0 : Int32)), .val (.int (-1 : Int32)), .val (.int (0 : Int32))] [])) (fun t₀ k₀ => XS.icmpYes X236.here hx rfl (pc0 := 26) (pc' := 32) rfl (hb hby d9_26) rfl (feq hc26).2 (by decide) (by decide) k₀) ?_
    refine own_step (T236.setTop (mkF m 35 #[.val (.ref a), .val (.int t), .val (.int (0 : Int32)), .val (.int (-1 : Int32)), .val (.int (1 : Int32))] [])) (fun t₀ k₀ => XS.iinc X236.here hx rfl (hb hby d9_32) rfl (l' := #[.val (.ref a), .val (.int t), .val (.int (0 : Int32)), .val (.int (-1 : Int32)), .val (.int (1 : Int32))]) rfl k₀) ?_
    refine own_step (T236.setTop (mkF m 5 #[.val (.ref a), .val (.int t), .val (.int (0 : Int32)), .val (.int (-1 : Int32)), .val (.int (1 : Int32))] [])) (fun t₀ k₀ => XS.goto X236.here hx rfl (pc0 := 35) (pc' := 5) rfl (hb hby d9_35) (by decide) (by decide) k₀) ?_
    refine own_step (T236.setTop (mkF m 6 #[.val (.ref a), .val (.int t), .val (.int (0 : Int32)), .val (.int (-1 : Int32)), .val (.int (1 : Int32))] [(.int (-1 : Int32))])) (fun t₀ k₀ => XS.iloadN X236.here hx rfl (hb hby d9_5) rfl k₀) ?_
    refine own_step (T236.setTop (mkF m 9 #[.val (.ref a), .val (.int t), .val (.int (0 : Int32)), .val (.int (-1 : Int32)), .val (.int (1 : Int32))] [])) (fun t₀ k₀ => XS.ifNo X236.here hx rfl (hb hby d9_6) rfl (by decide) k₀) ?_
    refine own_step (T236.setTop (mkF m 11 #[.val (.ref a), .val (.int t), .val (.int (0 : Int32)), .val (.int (-1 : Int32)), .val (.int (1 : Int32))] [(.int (1 : Int32))])) (fun t₀ k₀ => XS.iload X236.here hx rfl (hb hby d9_9) rfl k₀) ?_
    refine own_step (T236.setTop (mkF m 12 #[.val (.ref a), .val (.int t), .val (.int (0 : Int32)), .val (.int (-1 : Int32)), .val (.int (1 : Int32))] [(.ref a), (.int (1 : Int32))])) (fun t₀ k₀ => XS.aloadN X236.here hx rfl (hb hby d9_11) rfl rfl k₀) ?_
    obtain ⟨T238, X238, e238, st238⟩ := getF X236 hx hZ hown (host := "") (Or.inl (hw _ (List.mem_of_getElem? (i := 22) rfl))) Via.refl e236 Fl (g := (mkF m 12 #[.val (.ref a), .val (.int t), .val (.int (0 : Int32)), .val (.int (-1 : Int32)), .val (.int (1 : Int32))] [(.ref a), (.int (1 : Int32))])) rfl rfl (hb hby d9_12)
    refine own_step (T238.setTop (mkF m 15 #[.val (.ref a), .val (.int t), .val (.int (0 : Int32)), .val (.int (-1 : Int32)), .val (.int (1 : Int32))] [(.int (3 : Int32)), (.int (1 : Int32))])) (fun t₀ k₀ => st238 t₀ k₀) ?_
    refine own_step (T238.setTop (mkF m 18 #[.val (.ref a), .val (.int t), .val (.int (0 : Int32)), .val (.int (-1 : Int32)), .val (.int (1 : Int32))] [])) (fun t₀ k₀ => XS.icmpNo X238.here hx rfl (hb hby d9_15) rfl (by decide) k₀) ?_
    refine own_step (T238.setTop (mkF m 19 #[.val (.ref a), .val (.int t), .val (.int (0 : Int32)), .val (.int (-1 : Int32)), .val (.int (1 : Int32))] [(.ref a)])) (fun t₀ k₀ => XS.aloadN X238.here hx rfl (hb hby d9_18) rfl rfl k₀) ?_
    obtain ⟨T239, X239, e239, st239⟩ := getF X238 hx hZ hown (host := "") (Or.inl (hw _ (List.mem_of_getElem? (i := 11) rfl))) Via.refl e238 Fb (g := (mkF m 19 #[.val (.ref a), .val (.int t), .val (.int (0 : Int32)), .val (.int (-1 : Int32)), .val (.int (1 : Int32))] [(.ref a)])) rfl rfl (hb hby d9_19)
    refine own_step (T239.setTop (mkF m 22 #[.val (.ref a), .val (.int t), .val (.int (0 : Int32)), .val (.int (-1 : Int32)), .val (.int (1 : Int32))] [(.ref ba)])) (fun t₀ k₀ => st239 t₀ k₀) ?_
    refine own_step (T239.setTop (mkF m 24 #[.val (.ref a), .val (.int t), .val (.int (0 : Int32)), .val (.int (-1 : Int32)), .val (.int (1 : Int32))] [(.int (1 : Int32)), (.ref ba)])) (fun t₀ k₀ => XS.iload X239.here hx rfl (hb hby d9_22) rfl k₀) ?_
    obtain ⟨clo240, Aro240, qo240, So240, Mo240, Ho240, Go240⟩ := id Vb
    have hino240 : ¬ ((1 : Int32) < 0 ∨ clo240.slots.size ≤ ((1 : Int32)).toNatClampNeg) := inb_of So240 ⟨by decide, own_ltk hN4 (by decide)⟩
    have hato240 : clo240.slots[((1 : Int32)).toNatClampNeg]? = some (.int b1) := Has.at Ho240 hino240 rfl
    refine own_step (T239.setTop (mkF m 25 #[.val (.ref a), .val (.int t), .val (.int (0 : Int32)), .val (.int (-1 : Int32)), .val (.int (1 : Int32))] [(.int b1)])) (fun t₀ k₀ => X239.baloadBytes hx (j := (1 : Int32)) (v := (.int b1)) (by rw [e239]; exact Aro240.1) (State.isArrayOf_alike hZ.alike Aro240.2.1) Aro240.2.2 hino240 hato240 (g := (mkF m 24 #[.val (.ref a), .val (.int t), .val (.int (0 : Int32)), .val (.int (-1 : Int32)), .val (.int (1 : Int32))] [(.int (1 : Int32)), (.ref ba)])) rfl rfl (hb hby d9_24) _ k₀) ?_
    refine own_step (T239.setTop (mkF m 26 #[.val (.ref a), .val (.int t), .val (.int (0 : Int32)), .val (.int (-1 : Int32)), .val (.int (1 : Int32))] [(.int t), (.int b1)])) (fun t₀ k₀ => XS.iloadN X239.here hx rfl (hb hby d9_25) rfl k₀) ?_
    by_cases hc26_241 : b1 = t
    · skip
      refine own_step (T239.setTop (mkF m 29 #[.val (.ref a), .val (.int t), .val (.int (0 : Int32)), .val (.int (-1 : Int32)), .val (.int (1 : Int32))] [])) (fun t₀ k₀ => XS.icmpNo X239.here hx rfl (hb hby d9_26) rfl (teq hc26_241).2 k₀) ?_
      refine own_step (T239.setTop (mkF m 31 #[.val (.ref a), .val (.int t), .val (.int (0 : Int32)), .val (.int (-1 : Int32)), .val (.int (1 : Int32))] [(.int (1 : Int32))])) (fun t₀ k₀ => XS.iload X239.here hx rfl (hb hby d9_29) rfl k₀) ?_
      refine own_step (T239.setTop (mkF m 32 #[.val (.ref a), .val (.int t), .val (.int (0 : Int32)), .val (.int (1 : Int32)), .val (.int (1 : Int32))] [])) (fun t₀ k₀ => XS.istoreN X239.here hx rfl (hb hby d9_31) rfl (l' := #[.val (.ref a), .val (.int t), .val (.int (0 : Int32)), .val (.int (1 : Int32)), .val (.int (1 : Int32))]) rfl k₀) ?_
      refine own_step (T239.setTop (mkF m 35 #[.val (.ref a), .val (.int t), .val (.int (0 : Int32)), .val (.int (1 : Int32)), .val (.int (2 : Int32))] [])) (fun t₀ k₀ => XS.iinc X239.here hx rfl (hb hby d9_32) rfl (l' := #[.val (.ref a), .val (.int t), .val (.int (0 : Int32)), .val (.int (1 : Int32)), .val (.int (2 : Int32))]) rfl k₀) ?_
      refine own_step (T239.setTop (mkF m 5 #[.val (.ref a), .val (.int t), .val (.int (0 : Int32)), .val (.int (1 : Int32)), .val (.int (2 : Int32))] [])) (fun t₀ k₀ => XS.goto X239.here hx rfl (pc0 := 35) (pc' := 5) rfl (hb hby d9_35) (by decide) (by decide) k₀) ?_
      refine own_step (T239.setTop (mkF m 6 #[.val (.ref a), .val (.int t), .val (.int (0 : Int32)), .val (.int (1 : Int32)), .val (.int (2 : Int32))] [(.int (1 : Int32))])) (fun t₀ k₀ => XS.iloadN X239.here hx rfl (hb hby d9_5) rfl k₀) ?_
      refine own_step (T239.setTop (mkF m 38 #[.val (.ref a), .val (.int t), .val (.int (0 : Int32)), .val (.int (1 : Int32)), .val (.int (2 : Int32))] [])) (fun t₀ k₀ => XS.ifYes X239.here hx rfl (pc0 := 6) (pc' := 38) rfl (hb hby d9_6) rfl (by decide) (by decide) (by decide) k₀) ?_
      refine own_step (T239.setTop (mkF m 39 #[.val (.ref a), .val (.int t), .val (.int (0 : Int32)), .val (.int (1 : Int32)), .val (.int (2 : Int32))] [(.int (1 : Int32))])) (fun t₀ k₀ => XS.iloadN X239.here hx rfl (hb hby d9_38) rfl k₀) ?_
      obtain ⟨fs, hr, hrun, hended, hW, hsame⟩ := X239.leave (v := some (.int (1 : Int32))) (fun h => by rw [Bd.returns] at h; cases h)
      refine ⟨_, _, ?_, hrun, hended, _, _, rfl, ?_, ⟨_, rfl⟩, hW, hsame.mono (by decide) (by decide)⟩
      · exact retI X239 hx Bd.returns (hb hby d9_39) hr
      · show Q_rm9_0_3 Z a t ba kc N b0 b1 b2 b3 h0 n0 _ T239.heap _
        rw [e239]
        exact ⟨by simp +decide [own_all, own_st, hc26, hc26_241], N0, rfl⟩
    · skip
      refine own_step (T239.setTop (mkF m 32 #[.val (.ref a), .val (.int t), .val (.int (0 : Int32)), .val (.int (-1 : Int32)), .val (.int (1 : Int32))] [])) (fun t₀ k₀ => XS.icmpYes X239.here hx rfl (pc0 := 26) (pc' := 32) rfl (hb hby d9_26) rfl (feq hc26_241).2 (by decide) (by decide) k₀) ?_
      refine own_step (T239.setTop (mkF m 35 #[.val (.ref a), .val (.int t), .val (.int (0 : Int32)), .val (.int (-1 : Int32)), .val (.int (2 : Int32))] [])) (fun t₀ k₀ => XS.iinc X239.here hx rfl (hb hby d9_32) rfl (l' := #[.val (.ref a), .val (.int t), .val (.int (0 : Int32)), .val (.int (-1 : Int32)), .val (.int (2 : Int32))]) rfl k₀) ?_
      refine own_step (T239.setTop (mkF m 5 #[.val (.ref a), .val (.int t), .val (.int (0 : Int32)), .val (.int (-1 : Int32)), .val (.int (2 : Int32))] [])) (fun t₀ k₀ => XS.goto X239.here hx rfl (pc0 := 35) (pc' := 5) rfl (hb hby d9_35) (by decide) (by decide) k₀) ?_
      refine own_step (T239.setTop (mkF m 6 #[.val (.ref a), .val (.int t), .val (.int (0 : Int32)), .val (.int (-1 : Int32)), .val (.int (2 : Int32))] [(.int (-1 : Int32))])) (fun t₀ k₀ => XS.iloadN X239.here hx rfl (hb hby d9_5) rfl k₀) ?_
      refine own_step (T239.setTop (mkF m 9 #[.val (.ref a), .val (.int t), .val (.int (0 : Int32)), .val (.int (-1 : Int32)), .val (.int (2 : Int32))] [])) (fun t₀ k₀ => XS.ifNo X239.here hx rfl (hb hby d9_6) rfl (by decide) k₀) ?_
      refine own_step (T239.setTop (mkF m 11 #[.val (.ref a), .val (.int t), .val (.int (0 : Int32)), .val (.int (-1 : Int32)), .val (.int (2 : Int32))] [(.int (2 : Int32))])) (fun t₀ k₀ => XS.iload X239.here hx rfl (hb hby d9_9) rfl k₀) ?_
      refine own_step (T239.setTop (mkF m 12 #[.val (.ref a), .val (.int t), .val (.int (0 : Int32)), .val (.int (-1 : Int32)), .val (.int (2 : Int32))] [(.ref a), (.int (2 : Int32))])) (fun t₀ k₀ => XS.aloadN X239.here hx rfl (hb hby d9_11) rfl rfl k₀) ?_
      obtain ⟨T242, X242, e242, st242⟩ := getF X239 hx hZ hown (host := "") (Or.inl (hw _ (List.mem_of_getElem? (i := 22) rfl))) Via.refl e239 Fl (g := (mkF m 12 #[.val (.ref a), .val (.int t), .val (.int (0 : Int32)), .val (.int (-1 : Int32)), .val (.int (2 : Int32))] [(.ref a), (.int (2 : Int32))])) rfl rfl (hb hby d9_12)
      refine own_step (T242.setTop (mkF m 15 #[.val (.ref a), .val (.int t), .val (.int (0 : Int32)), .val (.int (-1 : Int32)), .val (.int (2 : Int32))] [(.int (3 : Int32)), (.int (2 : Int32))])) (fun t₀ k₀ => st242 t₀ k₀) ?_
      refine own_step (T242.setTop (mkF m 18 #[.val (.ref a), .val (.int t), .val (.int (0 : Int32)), .val (.int (-1 : Int32)), .val (.int (2 : Int32))] [])) (fun t₀ k₀ => XS.icmpNo X242.here hx rfl (hb hby d9_15) rfl (by decide) k₀) ?_
      refine own_step (T242.setTop (mkF m 19 #[.val (.ref a), .val (.int t), .val (.int (0 : Int32)), .val (.int (-1 : Int32)), .val (.int (2 : Int32))] [(.ref a)])) (fun t₀ k₀ => XS.aloadN X242.here hx rfl (hb hby d9_18) rfl rfl k₀) ?_
      obtain ⟨T243, X243, e243, st243⟩ := getF X242 hx hZ hown (host := "") (Or.inl (hw _ (List.mem_of_getElem? (i := 11) rfl))) Via.refl e242 Fb (g := (mkF m 19 #[.val (.ref a), .val (.int t), .val (.int (0 : Int32)), .val (.int (-1 : Int32)), .val (.int (2 : Int32))] [(.ref a)])) rfl rfl (hb hby d9_19)
      refine own_step (T243.setTop (mkF m 22 #[.val (.ref a), .val (.int t), .val (.int (0 : Int32)), .val (.int (-1 : Int32)), .val (.int (2 : Int32))] [(.ref ba)])) (fun t₀ k₀ => st243 t₀ k₀) ?_
      refine own_step (T243.setTop (mkF m 24 #[.val (.ref a), .val (.int t), .val (.int (0 : Int32)), .val (.int (-1 : Int32)), .val (.int (2 : Int32))] [(.int (2 : Int32)), (.ref ba)])) (fun t₀ k₀ => XS.iload X243.here hx rfl (hb hby d9_22) rfl k₀) ?_
      obtain ⟨clo244, Aro244, qo244, So244, Mo244, Ho244, Go244⟩ := id Vb
      have hino244 : ¬ ((2 : Int32) < 0 ∨ clo244.slots.size ≤ ((2 : Int32)).toNatClampNeg) := inb_of So244 ⟨by decide, own_ltk hN4 (by decide)⟩
      have hato244 : clo244.slots[((2 : Int32)).toNatClampNeg]? = some (.int b2) := Has.at Ho244 hino244 rfl
      refine own_step (T243.setTop (mkF m 25 #[.val (.ref a), .val (.int t), .val (.int (0 : Int32)), .val (.int (-1 : Int32)), .val (.int (2 : Int32))] [(.int b2)])) (fun t₀ k₀ => X243.baloadBytes hx (j := (2 : Int32)) (v := (.int b2)) (by rw [e243]; exact Aro244.1) (State.isArrayOf_alike hZ.alike Aro244.2.1) Aro244.2.2 hino244 hato244 (g := (mkF m 24 #[.val (.ref a), .val (.int t), .val (.int (0 : Int32)), .val (.int (-1 : Int32)), .val (.int (2 : Int32))] [(.int (2 : Int32)), (.ref ba)])) rfl rfl (hb hby d9_24) _ k₀) ?_
      refine own_step (T243.setTop (mkF m 26 #[.val (.ref a), .val (.int t), .val (.int (0 : Int32)), .val (.int (-1 : Int32)), .val (.int (2 : Int32))] [(.int t), (.int b2)])) (fun t₀ k₀ => XS.iloadN X243.here hx rfl (hb hby d9_25) rfl k₀) ?_
      by_cases hc26_245 : b2 = t
      · skip
        refine own_step (T243.setTop (mkF m 29 #[.val (.ref a), .val (.int t), .val (.int (0 : Int32)), .val (.int (-1 : Int32)), .val (.int (2 : Int32))] [])) (fun t₀ k₀ => XS.icmpNo X243.here hx rfl (hb hby d9_26) rfl (teq hc26_245).2 k₀) ?_
        refine own_step (T243.setTop (mkF m 31 #[.val (.ref a), .val (.int t), .val (.int (0 : Int32)), .val (.int (-1 : Int32)), .val (.int (2 : Int32))] [(.int (2 : Int32))])) (fun t₀ k₀ => XS.iload X243.here hx rfl (hb hby d9_29) rfl k₀) ?_
        refine own_step (T243.setTop (mkF m 32 #[.val (.ref a), .val (.int t), .val (.int (0 : Int32)), .val (.int (2 : Int32)), .val (.int (2 : Int32))] [])) (fun t₀ k₀ => XS.istoreN X243.here hx rfl (hb hby d9_31) rfl (l' := #[.val (.ref a), .val (.int t), .val (.int (0 : Int32)), .val (.int (2 : Int32)), .val (.int (2 : Int32))]) rfl k₀) ?_
        refine own_step (T243.setTop (mkF m 35 #[.val (.ref a), .val (.int t), .val (.int (0 : Int32)), .val (.int (2 : Int32)), .val (.int (3 : Int32))] [])) (fun t₀ k₀ => XS.iinc X243.here hx rfl (hb hby d9_32) rfl (l' := #[.val (.ref a), .val (.int t), .val (.int (0 : Int32)), .val (.int (2 : Int32)), .val (.int (3 : Int32))]) rfl k₀) ?_
        refine own_step (T243.setTop (mkF m 5 #[.val (.ref a), .val (.int t), .val (.int (0 : Int32)), .val (.int (2 : Int32)), .val (.int (3 : Int32))] [])) (fun t₀ k₀ => XS.goto X243.here hx rfl (pc0 := 35) (pc' := 5) rfl (hb hby d9_35) (by decide) (by decide) k₀) ?_
        refine own_step (T243.setTop (mkF m 6 #[.val (.ref a), .val (.int t), .val (.int (0 : Int32)), .val (.int (2 : Int32)), .val (.int (3 : Int32))] [(.int (2 : Int32))])) (fun t₀ k₀ => XS.iloadN X243.here hx rfl (hb hby d9_5) rfl k₀) ?_
        refine own_step (T243.setTop (mkF m 38 #[.val (.ref a), .val (.int t), .val (.int (0 : Int32)), .val (.int (2 : Int32)), .val (.int (3 : Int32))] [])) (fun t₀ k₀ => XS.ifYes X243.here hx rfl (pc0 := 6) (pc' := 38) rfl (hb hby d9_6) rfl (by decide) (by decide) (by decide) k₀) ?_
        refine own_step (T243.setTop (mkF m 39 #[.val (.ref a), .val (.int t), .val (.int (0 : Int32)), .val (.int (2 : Int32)), .val (.int (3 : Int32))] [(.int (2 : Int32))])) (fun t₀ k₀ => XS.iloadN X243.here hx rfl (hb hby d9_38) rfl k₀) ?_
        obtain ⟨fs, hr, hrun, hended, hW, hsame⟩ := X243.leave (v := some (.int (2 : Int32))) (fun h => by rw [Bd.returns] at h; cases h)
        refine ⟨_, _, ?_, hrun, hended, _, _, rfl, ?_, ⟨_, rfl⟩, hW, hsame.mono (by decide) (by decide)⟩
        · exact retI X243 hx Bd.returns (hb hby d9_39) hr
        · show Q_rm9_0_3 Z a t ba kc N b0 b1 b2 b3 h0 n0 _ T243.heap _
          rw [e243]
          exact ⟨by simp +decide [own_all, own_st, hc26, hc26_241, hc26_245], N0, rfl⟩
      · skip
        refine own_step (T243.setTop (mkF m 32 #[.val (.ref a), .val (.int t), .val (.int (0 : Int32)), .val (.int (-1 : Int32)), .val (.int (2 : Int32))] [])) (fun t₀ k₀ => XS.icmpYes X243.here hx rfl (pc0 := 26) (pc' := 32) rfl (hb hby d9_26) rfl (feq hc26_245).2 (by decide) (by decide) k₀) ?_
        refine own_step (T243.setTop (mkF m 35 #[.val (.ref a), .val (.int t), .val (.int (0 : Int32)), .val (.int (-1 : Int32)), .val (.int (3 : Int32))] [])) (fun t₀ k₀ => XS.iinc X243.here hx rfl (hb hby d9_32) rfl (l' := #[.val (.ref a), .val (.int t), .val (.int (0 : Int32)), .val (.int (-1 : Int32)), .val (.int (3 : Int32))]) rfl k₀) ?_
        refine own_step (T243.setTop (mkF m 5 #[.val (.ref a), .val (.int t), .val (.int (0 : Int32)), .val (.int (-1 : Int32)), .val (.int (3 : Int32))] [])) (fun t₀ k₀ => XS.goto X243.here hx rfl (pc0 := 35) (pc' := 5) rfl (hb hby d9_35) (by decide) (by decide) k₀) ?_
        refine own_step (T243.setTop (mkF m 6 #[.val (.ref a), .val (.int t), .val (.int (0 : Int32)), .val (.int (-1 : Int32)), .val (.int (3 : Int32))] [(.int (-1 : Int32))])) (fun t₀ k₀ => XS.iloadN X243.here hx rfl (hb hby d9_5) rfl k₀) ?_
        refine own_step (T243.setTop (mkF m 9 #[.val (.ref a), .val (.int t), .val (.int (0 : Int32)), .val (.int (-1 : Int32)), .val (.int (3 : Int32))] [])) (fun t₀ k₀ => XS.ifNo X243.here hx rfl (hb hby d9_6) rfl (by decide) k₀) ?_
        refine own_step (T243.setTop (mkF m 11 #[.val (.ref a), .val (.int t), .val (.int (0 : Int32)), .val (.int (-1 : Int32)), .val (.int (3 : Int32))] [(.int (3 : Int32))])) (fun t₀ k₀ => XS.iload X243.here hx rfl (hb hby d9_9) rfl k₀) ?_
        refine own_step (T243.setTop (mkF m 12 #[.val (.ref a), .val (.int t), .val (.int (0 : Int32)), .val (.int (-1 : Int32)), .val (.int (3 : Int32))] [(.ref a), (.int (3 : Int32))])) (fun t₀ k₀ => XS.aloadN X243.here hx rfl (hb hby d9_11) rfl rfl k₀) ?_
        obtain ⟨T246, X246, e246, st246⟩ := getF X243 hx hZ hown (host := "") (Or.inl (hw _ (List.mem_of_getElem? (i := 22) rfl))) Via.refl e243 Fl (g := (mkF m 12 #[.val (.ref a), .val (.int t), .val (.int (0 : Int32)), .val (.int (-1 : Int32)), .val (.int (3 : Int32))] [(.ref a), (.int (3 : Int32))])) rfl rfl (hb hby d9_12)
        refine own_step (T246.setTop (mkF m 15 #[.val (.ref a), .val (.int t), .val (.int (0 : Int32)), .val (.int (-1 : Int32)), .val (.int (3 : Int32))] [(.int (3 : Int32)), (.int (3 : Int32))])) (fun t₀ k₀ => st246 t₀ k₀) ?_
        refine own_step (T246.setTop (mkF m 38 #[.val (.ref a), .val (.int t), .val (.int (0 : Int32)), .val (.int (-1 : Int32)), .val (.int (3 : Int32))] [])) (fun t₀ k₀ => XS.icmpYes X246.here hx rfl (pc0 := 15) (pc' := 38) rfl (hb hby d9_15) rfl (by decide) (by decide) (by decide) k₀) ?_
        refine own_step (T246.setTop (mkF m 39 #[.val (.ref a), .val (.int t), .val (.int (0 : Int32)), .val (.int (-1 : Int32)), .val (.int (3 : Int32))] [(.int (-1 : Int32))])) (fun t₀ k₀ => XS.iloadN X246.here hx rfl (hb hby d9_38) rfl k₀) ?_
        obtain ⟨fs, hr, hrun, hended, hW, hsame⟩ := X246.leave (v := some (.int (-1 : Int32))) (fun h => by rw [Bd.returns] at h; cases h)
        refine ⟨_, _, ?_, hrun, hended, _, _, rfl, ?_, ⟨_, rfl⟩, hW, hsame.mono (by decide) (by decide)⟩
        · exact retI X246 hx Bd.returns (hb hby d9_39) hr
        · show Q_rm9_0_3 Z a t ba kc N b0 b1 b2 b3 h0 n0 _ T246.heap _
          rw [e246]
          exact ⟨by simp +decide [own_all, own_st, hc26, hc26_241, hc26_245], N0, rfl⟩
theorem ef_rm9_0_4 (m : MethodId) (a : Addr) (t : Int32) : entryFrame m #[(.ref a), (.int t), (.int (0 : Int32))] 5 = mkF m 0 #[.val (.ref a), .val (.int t), .val (.int (0 : Int32)), .unset, .unset] [] := by first | (simp [entryFrame, mkF, argsToLocals, Value.category]; done) | rfl
def Q_rm9_0_4 (Z : State) (a : Addr) (t : Int32) (ba : Addr) (kc : ClassId) (N : Int32) (b0 : Int32) (b1 : Int32) (b2 : Int32) (b3 : Int32) (h0 : Heap) (n0 : Nat) (v : Option Value) (h : Heap) (L : List Loc) : Prop := v = some (.int (own_all 0 4 t b0 b1 b2 b3)) ∧ Fr n0 L ∧ h = h0
set_option maxRecDepth 65536 in
set_option maxHeartbeats 40000000 in
theorem rm9_0_4 (l : Launch) (Z : State) (a0 : Array Value) (hw : ∀ d ∈ tables_1, d.before a0 Z = true) (ws : List Jvm.Cond) (a : Addr) (t : Int32) (ba : Addr) (kc : ClassId) (N : Int32) (b0 : Int32) (b1 : Int32) (b2 : Int32) (b3 : Int32) (h0 : Heap) (n0 : Nat) (Z0 : n0 ≤ h0.size) (Fb : Fld Z h0 a "com/example/notesmith/notesmith/report/LineBuffer" "bytes" "[B" (.ref ba)) (Fl : Fld Z h0 a "com/example/notesmith/notesmith/report/LineBuffer" "length" "I" (.int (4 : Int32))) (Vb : Arv Z h0 ba kc .byte N [(.int b0), (.int b1), (.int b2), (.int b3)] (.int (0 : Int32))) (hN4 : ¬ N < 4) :
    MetFree l (⟨"com/example/notesmith/notesmith/report/LineBuffer", "indexOf", "(CI)I"⟩ : MethodName) (head1 (Jvm.Cond.code (⟨"com/example/notesmith/notesmith/report/LineBuffer", "indexOf", "(CI)I"⟩ : MethodName) prog_104_method_6_code 5 (some .int) :: ws) ({ frames := 0, cells := 0, slots := 0, locals := 0 } : Room)) (fun as₉ U => as₉ = #[(.ref a), (.int t), (.int (0 : Int32))] ∧ Z.Warmed39 U.vm ∧ U.heap = h0) (fun _ _ _ _ _ => True) (fun _ U o₉ U' => ∃ v L, o₉ = .returned v ∧ Q_rm9_0_4 Z a t ba kc N b0 b1 b2 b3 h0 n0 v U'.heap L ∧ FrameEnd U o₉ U' L ({ frames := 0, cells := 0, slots := 0, locals := 0 } : Room).cells ({ frames := 0, cells := 0, slots := 0, locals := 0 } : Room).slots) := by
  refine MetFree.of_bodySF (plainFor_of_name pn_1) hisR ?_
  intro p e s m args below meth c s₁ Bd hml0 hP hK
  obtain ⟨rfl, hZ, hh⟩ := hP
  have hx := Bd.exec
  have hby := Bd.bytes
  have hml : c.maxLocals = 5 := hml0
  have hown : s.vm.findClass "com/example/notesmith/notesmith/report/LineBuffer" = some m.cls := findClass_of_methodNamed Bd.named
  have hnm := (name_of_methodNamed Bd.named Bd.method).1
  have X0 : Stand p l e ({ frames := 0, cells := 0, slots := 0, locals := 0 } : Room) s m #[(.ref a), (.int t), (.int (0 : Int32))] below meth c s₁ [] 0 0 := Stand.of_body Bd
  have e0 : s₁.heap = h0 := by rw [← hh, Bd.state]; rfl
  have N0 := Fr.nil n0
  show own_Go p e below (fun s₂ o₉ => s₂.status = .running ∧ Ended s₂ below o₉ ∧ ∃ v L, o₉ = .returned v ∧ Q_rm9_0_4 Z a t ba kc N b0 b1 b2 b3 h0 n0 v s₂.heap L ∧ FrameEnd s o₉ s₂ L ({ frames := 0, cells := 0, slots := 0, locals := 0 } : Room).cells ({ frames := 0, cells := 0, slots := 0, locals := 0 } : Room).slots) (s₁.setTop (entryFrame m #[(.ref a), (.int t), (.int (0 : Int32))] 5))
  rw [ef_rm9_0_4 m a t]
  refine own_step (s₁.setTop (mkF m 1 #[.val (.ref a), .val (.int t), .val (.int (0 : Int32)), .unset, .unset] [(.int (-1 : Int32))])) (fun t₀ k₀ => XS.iconst X0.here hx rfl (hb hby d9_0) k₀) ?_
  refine own_step (s₁.setTop (mkF m 2 #[.val (.ref a), .val (.int t), .val (.int (0 : Int32)), .val (.int (-1 : Int32)), .unset] [])) (fun t₀ k₀ => XS.istoreN X0.here hx rfl (hb hby d9_1) rfl (l' := #[.val (.ref a), .val (.int t), .val (.int (0 : Int32)), .val (.int (-1 : Int32)), .unset]) rfl k₀) ?_
  refine own_step (s₁.setTop (mkF m 3 #[.val (.ref a), .val (.int t), .val (.int (0 : Int32)), .val (.int (-1 : Int32)), .unset] [(.int (0 : Int32))])) (fun t₀ k₀ => XS.iloadN X0.here hx rfl (hb hby d9_2) rfl k₀) ?_
  refine own_step (s₁.setTop (mkF m 5 #[.val (.ref a), .val (.int t), .val (.int (0 : Int32)), .val (.int (-1 : Int32)), .val (.int (0 : Int32))] [])) (fun t₀ k₀ => XS.istore X0.here hx rfl (hb hby d9_3) rfl (l' := #[.val (.ref a), .val (.int t), .val (.int (0 : Int32)), .val (.int (-1 : Int32)), .val (.int (0 : Int32))]) rfl k₀) ?_
  refine own_step (s₁.setTop (mkF m 6 #[.val (.ref a), .val (.int t), .val (.int (0 : Int32)), .val (.int (-1 : Int32)), .val (.int (0 : Int32))] [(.int (-1 : Int32))])) (fun t₀ k₀ => XS.iloadN X0.here hx rfl (hb hby d9_5) rfl k₀) ?_
  refine own_step (s₁.setTop (mkF m 9 #[.val (.ref a), .val (.int t), .val (.int (0 : Int32)), .val (.int (-1 : Int32)), .val (.int (0 : Int32))] [])) (fun t₀ k₀ => XS.ifNo X0.here hx rfl (hb hby d9_6) rfl (by decide) k₀) ?_
  refine own_step (s₁.setTop (mkF m 11 #[.val (.ref a), .val (.int t), .val (.int (0 : Int32)), .val (.int (-1 : Int32)), .val (.int (0 : Int32))] [(.int (0 : Int32))])) (fun t₀ k₀ => XS.iload X0.here hx rfl (hb hby d9_9) rfl k₀) ?_
  refine own_step (s₁.setTop (mkF m 12 #[.val (.ref a), .val (.int t), .val (.int (0 : Int32)), .val (.int (-1 : Int32)), .val (.int (0 : Int32))] [(.ref a), (.int (0 : Int32))])) (fun t₀ k₀ => XS.aloadN X0.here hx rfl (hb hby d9_11) rfl rfl k₀) ?_
  obtain ⟨T247, X247, e247, st247⟩ := getF X0 hx hZ hown (host := "") (Or.inl (hw _ (List.mem_of_getElem? (i := 22) rfl))) Via.refl e0 Fl (g := (mkF m 12 #[.val (.ref a), .val (.int t), .val (.int (0 : Int32)), .val (.int (-1 : Int32)), .val (.int (0 : Int32))] [(.ref a), (.int (0 : Int32))])) rfl rfl (hb hby d9_12)
  refine own_step (T247.setTop (mkF m 15 #[.val (.ref a), .val (.int t), .val (.int (0 : Int32)), .val (.int (-1 : Int32)), .val (.int (0 : Int32))] [(.int (4 : Int32)), (.int (0 : Int32))])) (fun t₀ k₀ => st247 t₀ k₀) ?_
  refine own_step (T247.setTop (mkF m 18 #[.val (.ref a), .val (.int t), .val (.int (0 : Int32)), .val (.int (-1 : Int32)), .val (.int (0 : Int32))] [])) (fun t₀ k₀ => XS.icmpNo X247.here hx rfl (hb hby d9_15) rfl (by decide) k₀) ?_
  refine own_step (T247.setTop (mkF m 19 #[.val (.ref a), .val (.int t), .val (.int (0 : Int32)), .val (.int (-1 : Int32)), .val (.int (0 : Int32))] [(.ref a)])) (fun t₀ k₀ => XS.aloadN X247.here hx rfl (hb hby d9_18) rfl rfl k₀) ?_
  obtain ⟨T248, X248, e248, st248⟩ := getF X247 hx hZ hown (host := "") (Or.inl (hw _ (List.mem_of_getElem? (i := 11) rfl))) Via.refl e247 Fb (g := (mkF m 19 #[.val (.ref a), .val (.int t), .val (.int (0 : Int32)), .val (.int (-1 : Int32)), .val (.int (0 : Int32))] [(.ref a)])) rfl rfl (hb hby d9_19)
  refine own_step (T248.setTop (mkF m 22 #[.val (.ref a), .val (.int t), .val (.int (0 : Int32)), .val (.int (-1 : Int32)), .val (.int (0 : Int32))] [(.ref ba)])) (fun t₀ k₀ => st248 t₀ k₀) ?_
  refine own_step (T248.setTop (mkF m 24 #[.val (.ref a), .val (.int t), .val (.int (0 : Int32)), .val (.int (-1 : Int32)), .val (.int (0 : Int32))] [(.int (0 : Int32)), (.ref ba)])) (fun t₀ k₀ => XS.iload X248.here hx rfl (hb hby d9_22) rfl k₀) ?_
  obtain ⟨clo249, Aro249, qo249, So249, Mo249, Ho249, Go249⟩ := id Vb
  have hino249 : ¬ ((0 : Int32) < 0 ∨ clo249.slots.size ≤ ((0 : Int32)).toNatClampNeg) := inb_of So249 ⟨by decide, own_ltk hN4 (by decide)⟩
  have hato249 : clo249.slots[((0 : Int32)).toNatClampNeg]? = some (.int b0) := Has.at Ho249 hino249 rfl
  refine own_step (T248.setTop (mkF m 25 #[.val (.ref a), .val (.int t), .val (.int (0 : Int32)), .val (.int (-1 : Int32)), .val (.int (0 : Int32))] [(.int b0)])) (fun t₀ k₀ => X248.baloadBytes hx (j := (0 : Int32)) (v := (.int b0)) (by rw [e248]; exact Aro249.1) (State.isArrayOf_alike hZ.alike Aro249.2.1) Aro249.2.2 hino249 hato249 (g := (mkF m 24 #[.val (.ref a), .val (.int t), .val (.int (0 : Int32)), .val (.int (-1 : Int32)), .val (.int (0 : Int32))] [(.int (0 : Int32)), (.ref ba)])) rfl rfl (hb hby d9_24) _ k₀) ?_
  refine own_step (T248.setTop (mkF m 26 #[.val (.ref a), .val (.int t), .val (.int (0 : Int32)), .val (.int (-1 : Int32)), .val (.int (0 : Int32))] [(.int t), (.int b0)])) (fun t₀ k₀ => XS.iloadN X248.here hx rfl (hb hby d9_25) rfl k₀) ?_
  by_cases hc26 : b0 = t
  · skip
    refine own_step (T248.setTop (mkF m 29 #[.val (.ref a), .val (.int t), .val (.int (0 : Int32)), .val (.int (-1 : Int32)), .val (.int (0 : Int32))] [])) (fun t₀ k₀ => XS.icmpNo X248.here hx rfl (hb hby d9_26) rfl (teq hc26).2 k₀) ?_
    refine own_step (T248.setTop (mkF m 31 #[.val (.ref a), .val (.int t), .val (.int (0 : Int32)), .val (.int (-1 : Int32)), .val (.int (0 : Int32))] [(.int (0 : Int32))])) (fun t₀ k₀ => XS.iload X248.here hx rfl (hb hby d9_29) rfl k₀) ?_
    refine own_step (T248.setTop (mkF m 32 #[.val (.ref a), .val (.int t), .val (.int (0 : Int32)), .val (.int (0 : Int32)), .val (.int (0 : Int32))] [])) (fun t₀ k₀ => XS.istoreN X248.here hx rfl (hb hby d9_31) rfl (l' := #[.val (.ref a), .val (.int t), .val (.int (0 : Int32)), .val (.int (0 : Int32)), .val (.int (0 : Int32))]) rfl k₀) ?_
    refine own_step (T248.setTop (mkF m 35 #[.val (.ref a), .val (.int t), .val (.int (0 : Int32)), .val (.int (0 : Int32)), .val (.int (1 : Int32))] [])) (fun t₀ k₀ => XS.iinc X248.here hx rfl (hb hby d9_32) rfl (l' := #[.val (.ref a), .val (.int t), .val (.int (0 : Int32)), .val (.int (0 : Int32)), .val (.int (1 : Int32))]) rfl k₀) ?_
    refine own_step (T248.setTop (mkF m 5 #[.val (.ref a), .val (.int t), .val (.int (0 : Int32)), .val (.int (0 : Int32)), .val (.int (1 : Int32))] [])) (fun t₀ k₀ => XS.goto X248.here hx rfl (pc0 := 35) (pc' := 5) rfl (hb hby d9_35) (by decide) (by decide) k₀) ?_
    refine own_step (T248.setTop (mkF m 6 #[.val (.ref a), .val (.int t), .val (.int (0 : Int32)), .val (.int (0 : Int32)), .val (.int (1 : Int32))] [(.int (0 : Int32))])) (fun t₀ k₀ => XS.iloadN X248.here hx rfl (hb hby d9_5) rfl k₀) ?_
    refine own_step (T248.setTop (mkF m 38 #[.val (.ref a), .val (.int t), .val (.int (0 : Int32)), .val (.int (0 : Int32)), .val (.int (1 : Int32))] [])) (fun t₀ k₀ => XS.ifYes X248.here hx rfl (pc0 := 6) (pc' := 38) rfl (hb hby d9_6) rfl (by decide) (by decide) (by decide) k₀) ?_
    refine own_step (T248.setTop (mkF m 39 #[.val (.ref a), .val (.int t), .val (.int (0 : Int32)), .val (.int (0 : Int32)), .val (.int (1 : Int32))] [(.int (0 : Int32))])) (fun t₀ k₀ => XS.iloadN X248.here hx rfl (hb hby d9_38) rfl k₀) ?_
    obtain ⟨fs, hr, hrun, hended, hW, hsame⟩ := X248.leave (v := some (.int (0 : Int32))) (fun h => by rw [Bd.returns] at h; cases h)
    refine ⟨_, _, ?_, hrun, hended, _, _, rfl, ?_, ⟨_, rfl⟩, hW, hsame.mono (by decide) (by decide)⟩
    · exact retI X248 hx Bd.returns (hb hby d9_39) hr
    · show Q_rm9_0_4 Z a t ba kc N b0 b1 b2 b3 h0 n0 _ T248.heap _
      rw [e248]
      exact ⟨by simp +decide [own_all, own_st, hc26], N0, rfl⟩
  · skip
    refine own_step (T248.setTop (mkF m 32 #[.val (.ref a), .val (.int t), .val (.int (0 : Int32)), .val (.int (-1 : Int32)), .val (.int (0 : Int32))] [])) (fun t₀ k₀ => XS.icmpYes X248.here hx rfl (pc0 := 26) (pc' := 32) rfl (hb hby d9_26) rfl (feq hc26).2 (by decide) (by decide) k₀) ?_
    refine own_step (T248.setTop (mkF m 35 #[.val (.ref a), .val (.int t), .val (.int (0 : Int32)), .val (.int (-1 : Int32)), .val (.int (1 : Int32))] [])) (fun t₀ k₀ => XS.iinc X248.here hx rfl (hb hby d9_32) rfl (l' := #[.val (.ref a), .val (.int t), .val (.int (0 : Int32)), .val (.int (-1 : Int32)), .val (.int (1 : Int32))]) rfl k₀) ?_
    refine own_step (T248.setTop (mkF m 5 #[.val (.ref a), .val (.int t), .val (.int (0 : Int32)), .val (.int (-1 : Int32)), .val (.int (1 : Int32))] [])) (fun t₀ k₀ => XS.goto X248.here hx rfl (pc0 := 35) (pc' := 5) rfl (hb hby d9_35) (by decide) (by decide) k₀) ?_
    refine own_step (T248.setTop (mkF m 6 #[.val (.ref a), .val (.int t), .val (.int (0 : Int32)), .val (.int (-1 : Int32)), .val (.int (1 : Int32))] [(.int (-1 : Int32))])) (fun t₀ k₀ => XS.iloadN X248.here hx rfl (hb hby d9_5) rfl k₀) ?_
    refine own_step (T248.setTop (mkF m 9 #[.val (.ref a), .val (.int t), .val (.int (0 : Int32)), .val (.int (-1 : Int32)), .val (.int (1 : Int32))] [])) (fun t₀ k₀ => XS.ifNo X248.here hx rfl (hb hby d9_6) rfl (by decide) k₀) ?_
    refine own_step (T248.setTop (mkF m 11 #[.val (.ref a), .val (.int t), .val (.int (0 : Int32)), .val (.int (-1 : Int32)), .val (.int (1 : Int32))] [(.int (1 : Int32))])) (fun t₀ k₀ => XS.iload X248.here hx rfl (hb hby d9_9) rfl k₀) ?_
    refine own_step (T248.setTop (mkF m 12 #[.val (.ref a), .val (.int t), .val (.int (0 : Int32)), .val (.int (-1 : Int32)), .val (.int (1 : Int32))] [(.ref a), (.int (1 : Int32))])) (fun t₀ k₀ => XS.aloadN X248.here hx rfl (hb hby d9_11) rfl rfl k₀) ?_
    obtain ⟨T250, X250, e250, st250⟩ := getF X248 hx hZ hown (host := "") (Or.inl (hw _ (List.mem_of_getElem? (i := 22) rfl))) Via.refl e248 Fl (g := (mkF m 12 #[.val (.ref a), .val (.int t), .val (.int (0 : Int32)), .val (.int (-1 : Int32)), .val (.int (1 : Int32))] [(.ref a), (.int (1 : Int32))])) rfl rfl (hb hby d9_12)
    refine own_step (T250.setTop (mkF m 15 #[.val (.ref a), .val (.int t), .val (.int (0 : Int32)), .val (.int (-1 : Int32)), .val (.int (1 : Int32))] [(.int (4 : Int32)), (.int (1 : Int32))])) (fun t₀ k₀ => st250 t₀ k₀) ?_
    refine own_step (T250.setTop (mkF m 18 #[.val (.ref a), .val (.int t), .val (.int (0 : Int32)), .val (.int (-1 : Int32)), .val (.int (1 : Int32))] [])) (fun t₀ k₀ => XS.icmpNo X250.here hx rfl (hb hby d9_15) rfl (by decide) k₀) ?_
    refine own_step (T250.setTop (mkF m 19 #[.val (.ref a), .val (.int t), .val (.int (0 : Int32)), .val (.int (-1 : Int32)), .val (.int (1 : Int32))] [(.ref a)])) (fun t₀ k₀ => XS.aloadN X250.here hx rfl (hb hby d9_18) rfl rfl k₀) ?_
    obtain ⟨T251, X251, e251, st251⟩ := getF X250 hx hZ hown (host := "") (Or.inl (hw _ (List.mem_of_getElem? (i := 11) rfl))) Via.refl e250 Fb (g := (mkF m 19 #[.val (.ref a), .val (.int t), .val (.int (0 : Int32)), .val (.int (-1 : Int32)), .val (.int (1 : Int32))] [(.ref a)])) rfl rfl (hb hby d9_19)
    refine own_step (T251.setTop (mkF m 22 #[.val (.ref a), .val (.int t), .val (.int (0 : Int32)), .val (.int (-1 : Int32)), .val (.int (1 : Int32))] [(.ref ba)])) (fun t₀ k₀ => st251 t₀ k₀) ?_
    refine own_step (T251.setTop (mkF m 24 #[.val (.ref a), .val (.int t), .val (.int (0 : Int32)), .val (.int (-1 : Int32)), .val (.int (1 : Int32))] [(.int (1 : Int32)), (.ref ba)])) (fun t₀ k₀ => XS.iload X251.here hx rfl (hb hby d9_22) rfl k₀) ?_
    obtain ⟨clo252, Aro252, qo252, So252, Mo252, Ho252, Go252⟩ := id Vb
    have hino252 : ¬ ((1 : Int32) < 0 ∨ clo252.slots.size ≤ ((1 : Int32)).toNatClampNeg) := inb_of So252 ⟨by decide, own_ltk hN4 (by decide)⟩
    have hato252 : clo252.slots[((1 : Int32)).toNatClampNeg]? = some (.int b1) := Has.at Ho252 hino252 rfl
    refine own_step (T251.setTop (mkF m 25 #[.val (.ref a), .val (.int t), .val (.int (0 : Int32)), .val (.int (-1 : Int32)), .val (.int (1 : Int32))] [(.int b1)])) (fun t₀ k₀ => X251.baloadBytes hx (j := (1 : Int32)) (v := (.int b1)) (by rw [e251]; exact Aro252.1) (State.isArrayOf_alike hZ.alike Aro252.2.1) Aro252.2.2 hino252 hato252 (g := (mkF m 24 #[.val (.ref a), .val (.int t), .val (.int (0 : Int32)), .val (.int (-1 : Int32)), .val (.int (1 : Int32))] [(.int (1 : Int32)), (.ref ba)])) rfl rfl (hb hby d9_24) _ k₀) ?_
    refine own_step (T251.setTop (mkF m 26 #[.val (.ref a), .val (.int t), .val (.int (0 : Int32)), .val (.int (-1 : Int32)), .val (.int (1 : Int32))] [(.int t), (.int b1)])) (fun t₀ k₀ => XS.iloadN X251.here hx rfl (hb hby d9_25) rfl k₀) ?_
    by_cases hc26_253 : b1 = t
    · skip
      refine own_step (T251.setTop (mkF m 29 #[.val (.ref a), .val (.int t), .val (.int (0 : Int32)), .val (.int (-1 : Int32)), .val (.int (1 : Int32))] [])) (fun t₀ k₀ => XS.icmpNo X251.here hx rfl (hb hby d9_26) rfl (teq hc26_253).2 k₀) ?_
      refine own_step (T251.setTop (mkF m 31 #[.val (.ref a), .val (.int t), .val (.int (0 : Int32)), .val (.int (-1 : Int32)), .val (.int (1 : Int32))] [(.int (1 : Int32))])) (fun t₀ k₀ => XS.iload X251.here hx rfl (hb hby d9_29) rfl k₀) ?_
      refine own_step (T251.setTop (mkF m 32 #[.val (.ref a), .val (.int t), .val (.int (0 : Int32)), .val (.int (1 : Int32)), .val (.int (1 : Int32))] [])) (fun t₀ k₀ => XS.istoreN X251.here hx rfl (hb hby d9_31) rfl (l' := #[.val (.ref a), .val (.int t), .val (.int (0 : Int32)), .val (.int (1 : Int32)), .val (.int (1 : Int32))]) rfl k₀) ?_
      refine own_step (T251.setTop (mkF m 35 #[.val (.ref a), .val (.int t), .val (.int (0 : Int32)), .val (.int (1 : Int32)), .val (.int (2 : Int32))] [])) (fun t₀ k₀ => XS.iinc X251.here hx rfl (hb hby d9_32) rfl (l' := #[.val (.ref a), .val (.int t), .val (.int (0 : Int32)), .val (.int (1 : Int32)), .val (.int (2 : Int32))]) rfl k₀) ?_
      refine own_step (T251.setTop (mkF m 5 #[.val (.ref a), .val (.int t), .val (.int (0 : Int32)), .val (.int (1 : Int32)), .val (.int (2 : Int32))] [])) (fun t₀ k₀ => XS.goto X251.here hx rfl (pc0 := 35) (pc' := 5) rfl (hb hby d9_35) (by decide) (by decide) k₀) ?_
      refine own_step (T251.setTop (mkF m 6 #[.val (.ref a), .val (.int t), .val (.int (0 : Int32)), .val (.int (1 : Int32)), .val (.int (2 : Int32))] [(.int (1 : Int32))])) (fun t₀ k₀ => XS.iloadN X251.here hx rfl (hb hby d9_5) rfl k₀) ?_
      refine own_step (T251.setTop (mkF m 38 #[.val (.ref a), .val (.int t), .val (.int (0 : Int32)), .val (.int (1 : Int32)), .val (.int (2 : Int32))] [])) (fun t₀ k₀ => XS.ifYes X251.here hx rfl (pc0 := 6) (pc' := 38) rfl (hb hby d9_6) rfl (by decide) (by decide) (by decide) k₀) ?_
      refine own_step (T251.setTop (mkF m 39 #[.val (.ref a), .val (.int t), .val (.int (0 : Int32)), .val (.int (1 : Int32)), .val (.int (2 : Int32))] [(.int (1 : Int32))])) (fun t₀ k₀ => XS.iloadN X251.here hx rfl (hb hby d9_38) rfl k₀) ?_
      obtain ⟨fs, hr, hrun, hended, hW, hsame⟩ := X251.leave (v := some (.int (1 : Int32))) (fun h => by rw [Bd.returns] at h; cases h)
      refine ⟨_, _, ?_, hrun, hended, _, _, rfl, ?_, ⟨_, rfl⟩, hW, hsame.mono (by decide) (by decide)⟩
      · exact retI X251 hx Bd.returns (hb hby d9_39) hr
      · show Q_rm9_0_4 Z a t ba kc N b0 b1 b2 b3 h0 n0 _ T251.heap _
        rw [e251]
        exact ⟨by simp +decide [own_all, own_st, hc26, hc26_253], N0, rfl⟩
    · skip
      refine own_step (T251.setTop (mkF m 32 #[.val (.ref a), .val (.int t), .val (.int (0 : Int32)), .val (.int (-1 : Int32)), .val (.int (1 : Int32))] [])) (fun t₀ k₀ => XS.icmpYes X251.here hx rfl (pc0 := 26) (pc' := 32) rfl (hb hby d9_26) rfl (feq hc26_253).2 (by decide) (by decide) k₀) ?_
      refine own_step (T251.setTop (mkF m 35 #[.val (.ref a), .val (.int t), .val (.int (0 : Int32)), .val (.int (-1 : Int32)), .val (.int (2 : Int32))] [])) (fun t₀ k₀ => XS.iinc X251.here hx rfl (hb hby d9_32) rfl (l' := #[.val (.ref a), .val (.int t), .val (.int (0 : Int32)), .val (.int (-1 : Int32)), .val (.int (2 : Int32))]) rfl k₀) ?_
      refine own_step (T251.setTop (mkF m 5 #[.val (.ref a), .val (.int t), .val (.int (0 : Int32)), .val (.int (-1 : Int32)), .val (.int (2 : Int32))] [])) (fun t₀ k₀ => XS.goto X251.here hx rfl (pc0 := 35) (pc' := 5) rfl (hb hby d9_35) (by decide) (by decide) k₀) ?_
      refine own_step (T251.setTop (mkF m 6 #[.val (.ref a), .val (.int t), .val (.int (0 : Int32)), .val (.int (-1 : Int32)), .val (.int (2 : Int32))] [(.int (-1 : Int32))])) (fun t₀ k₀ => XS.iloadN X251.here hx rfl (hb hby d9_5) rfl k₀) ?_
      refine own_step (T251.setTop (mkF m 9 #[.val (.ref a), .val (.int t), .val (.int (0 : Int32)), .val (.int (-1 : Int32)), .val (.int (2 : Int32))] [])) (fun t₀ k₀ => XS.ifNo X251.here hx rfl (hb hby d9_6) rfl (by decide) k₀) ?_
      refine own_step (T251.setTop (mkF m 11 #[.val (.ref a), .val (.int t), .val (.int (0 : Int32)), .val (.int (-1 : Int32)), .val (.int (2 : Int32))] [(.int (2 : Int32))])) (fun t₀ k₀ => XS.iload X251.here hx rfl (hb hby d9_9) rfl k₀) ?_
      refine own_step (T251.setTop (mkF m 12 #[.val (.ref a), .val (.int t), .val (.int (0 : Int32)), .val (.int (-1 : Int32)), .val (.int (2 : Int32))] [(.ref a), (.int (2 : Int32))])) (fun t₀ k₀ => XS.aloadN X251.here hx rfl (hb hby d9_11) rfl rfl k₀) ?_
      obtain ⟨T254, X254, e254, st254⟩ := getF X251 hx hZ hown (host := "") (Or.inl (hw _ (List.mem_of_getElem? (i := 22) rfl))) Via.refl e251 Fl (g := (mkF m 12 #[.val (.ref a), .val (.int t), .val (.int (0 : Int32)), .val (.int (-1 : Int32)), .val (.int (2 : Int32))] [(.ref a), (.int (2 : Int32))])) rfl rfl (hb hby d9_12)
      refine own_step (T254.setTop (mkF m 15 #[.val (.ref a), .val (.int t), .val (.int (0 : Int32)), .val (.int (-1 : Int32)), .val (.int (2 : Int32))] [(.int (4 : Int32)), (.int (2 : Int32))])) (fun t₀ k₀ => st254 t₀ k₀) ?_
      refine own_step (T254.setTop (mkF m 18 #[.val (.ref a), .val (.int t), .val (.int (0 : Int32)), .val (.int (-1 : Int32)), .val (.int (2 : Int32))] [])) (fun t₀ k₀ => XS.icmpNo X254.here hx rfl (hb hby d9_15) rfl (by decide) k₀) ?_
      refine own_step (T254.setTop (mkF m 19 #[.val (.ref a), .val (.int t), .val (.int (0 : Int32)), .val (.int (-1 : Int32)), .val (.int (2 : Int32))] [(.ref a)])) (fun t₀ k₀ => XS.aloadN X254.here hx rfl (hb hby d9_18) rfl rfl k₀) ?_
      obtain ⟨T255, X255, e255, st255⟩ := getF X254 hx hZ hown (host := "") (Or.inl (hw _ (List.mem_of_getElem? (i := 11) rfl))) Via.refl e254 Fb (g := (mkF m 19 #[.val (.ref a), .val (.int t), .val (.int (0 : Int32)), .val (.int (-1 : Int32)), .val (.int (2 : Int32))] [(.ref a)])) rfl rfl (hb hby d9_19)
      refine own_step (T255.setTop (mkF m 22 #[.val (.ref a), .val (.int t), .val (.int (0 : Int32)), .val (.int (-1 : Int32)), .val (.int (2 : Int32))] [(.ref ba)])) (fun t₀ k₀ => st255 t₀ k₀) ?_
      refine own_step (T255.setTop (mkF m 24 #[.val (.ref a), .val (.int t), .val (.int (0 : Int32)), .val (.int (-1 : Int32)), .val (.int (2 : Int32))] [(.int (2 : Int32)), (.ref ba)])) (fun t₀ k₀ => XS.iload X255.here hx rfl (hb hby d9_22) rfl k₀) ?_
      obtain ⟨clo256, Aro256, qo256, So256, Mo256, Ho256, Go256⟩ := id Vb
      have hino256 : ¬ ((2 : Int32) < 0 ∨ clo256.slots.size ≤ ((2 : Int32)).toNatClampNeg) := inb_of So256 ⟨by decide, own_ltk hN4 (by decide)⟩
      have hato256 : clo256.slots[((2 : Int32)).toNatClampNeg]? = some (.int b2) := Has.at Ho256 hino256 rfl
      refine own_step (T255.setTop (mkF m 25 #[.val (.ref a), .val (.int t), .val (.int (0 : Int32)), .val (.int (-1 : Int32)), .val (.int (2 : Int32))] [(.int b2)])) (fun t₀ k₀ => X255.baloadBytes hx (j := (2 : Int32)) (v := (.int b2)) (by rw [e255]; exact Aro256.1) (State.isArrayOf_alike hZ.alike Aro256.2.1) Aro256.2.2 hino256 hato256 (g := (mkF m 24 #[.val (.ref a), .val (.int t), .val (.int (0 : Int32)), .val (.int (-1 : Int32)), .val (.int (2 : Int32))] [(.int (2 : Int32)), (.ref ba)])) rfl rfl (hb hby d9_24) _ k₀) ?_
      refine own_step (T255.setTop (mkF m 26 #[.val (.ref a), .val (.int t), .val (.int (0 : Int32)), .val (.int (-1 : Int32)), .val (.int (2 : Int32))] [(.int t), (.int b2)])) (fun t₀ k₀ => XS.iloadN X255.here hx rfl (hb hby d9_25) rfl k₀) ?_
      by_cases hc26_257 : b2 = t
      · skip
        refine own_step (T255.setTop (mkF m 29 #[.val (.ref a), .val (.int t), .val (.int (0 : Int32)), .val (.int (-1 : Int32)), .val (.int (2 : Int32))] [])) (fun t₀ k₀ => XS.icmpNo X255.here hx rfl (hb hby d9_26) rfl (teq hc26_257).2 k₀) ?_
        refine own_step (T255.setTop (mkF m 31 #[.val (.ref a), .val (.int t), .val (.int (0 : Int32)), .val (.int (-1 : Int32)), .val (.int (2 : Int32))] [(.int (2 : Int32))])) (fun t₀ k₀ => XS.iload X255.here hx rfl (hb hby d9_29) rfl k₀) ?_
        refine own_step (T255.setTop (mkF m 32 #[.val (.ref a), .val (.int t), .val (.int (0 : Int32)), .val (.int (2 : Int32)), .val (.int (2 : Int32))] [])) (fun t₀ k₀ => XS.istoreN X255.here hx rfl (hb hby d9_31) rfl (l' := #[.val (.ref a), .val (.int t), .val (.int (0 : Int32)), .val (.int (2 : Int32)), .val (.int (2 : Int32))]) rfl k₀) ?_
        refine own_step (T255.setTop (mkF m 35 #[.val (.ref a), .val (.int t), .val (.int (0 : Int32)), .val (.int (2 : Int32)), .val (.int (3 : Int32))] [])) (fun t₀ k₀ => XS.iinc X255.here hx rfl (hb hby d9_32) rfl (l' := #[.val (.ref a), .val (.int t), .val (.int (0 : Int32)), .val (.int (2 : Int32)), .val (.int (3 : Int32))]) rfl k₀) ?_
        refine own_step (T255.setTop (mkF m 5 #[.val (.ref a), .val (.int t), .val (.int (0 : Int32)), .val (.int (2 : Int32)), .val (.int (3 : Int32))] [])) (fun t₀ k₀ => XS.goto X255.here hx rfl (pc0 := 35) (pc' := 5) rfl (hb hby d9_35) (by decide) (by decide) k₀) ?_
        refine own_step (T255.setTop (mkF m 6 #[.val (.ref a), .val (.int t), .val (.int (0 : Int32)), .val (.int (2 : Int32)), .val (.int (3 : Int32))] [(.int (2 : Int32))])) (fun t₀ k₀ => XS.iloadN X255.here hx rfl (hb hby d9_5) rfl k₀) ?_
        refine own_step (T255.setTop (mkF m 38 #[.val (.ref a), .val (.int t), .val (.int (0 : Int32)), .val (.int (2 : Int32)), .val (.int (3 : Int32))] [])) (fun t₀ k₀ => XS.ifYes X255.here hx rfl (pc0 := 6) (pc' := 38) rfl (hb hby d9_6) rfl (by decide) (by decide) (by decide) k₀) ?_
        refine own_step (T255.setTop (mkF m 39 #[.val (.ref a), .val (.int t), .val (.int (0 : Int32)), .val (.int (2 : Int32)), .val (.int (3 : Int32))] [(.int (2 : Int32))])) (fun t₀ k₀ => XS.iloadN X255.here hx rfl (hb hby d9_38) rfl k₀) ?_
        obtain ⟨fs, hr, hrun, hended, hW, hsame⟩ := X255.leave (v := some (.int (2 : Int32))) (fun h => by rw [Bd.returns] at h; cases h)
        refine ⟨_, _, ?_, hrun, hended, _, _, rfl, ?_, ⟨_, rfl⟩, hW, hsame.mono (by decide) (by decide)⟩
        · exact retI X255 hx Bd.returns (hb hby d9_39) hr
        · show Q_rm9_0_4 Z a t ba kc N b0 b1 b2 b3 h0 n0 _ T255.heap _
          rw [e255]
          exact ⟨by simp +decide [own_all, own_st, hc26, hc26_253, hc26_257], N0, rfl⟩
      · skip
        refine own_step (T255.setTop (mkF m 32 #[.val (.ref a), .val (.int t), .val (.int (0 : Int32)), .val (.int (-1 : Int32)), .val (.int (2 : Int32))] [])) (fun t₀ k₀ => XS.icmpYes X255.here hx rfl (pc0 := 26) (pc' := 32) rfl (hb hby d9_26) rfl (feq hc26_257).2 (by decide) (by decide) k₀) ?_
        refine own_step (T255.setTop (mkF m 35 #[.val (.ref a), .val (.int t), .val (.int (0 : Int32)), .val (.int (-1 : Int32)), .val (.int (3 : Int32))] [])) (fun t₀ k₀ => XS.iinc X255.here hx rfl (hb hby d9_32) rfl (l' := #[.val (.ref a), .val (.int t), .val (.int (0 : Int32)), .val (.int (-1 : Int32)), .val (.int (3 : Int32))]) rfl k₀) ?_
        refine own_step (T255.setTop (mkF m 5 #[.val (.ref a), .val (.int t), .val (.int (0 : Int32)), .val (.int (-1 : Int32)), .val (.int (3 : Int32))] [])) (fun t₀ k₀ => XS.goto X255.here hx rfl (pc0 := 35) (pc' := 5) rfl (hb hby d9_35) (by decide) (by decide) k₀) ?_
        refine own_step (T255.setTop (mkF m 6 #[.val (.ref a), .val (.int t), .val (.int (0 : Int32)), .val (.int (-1 : Int32)), .val (.int (3 : Int32))] [(.int (-1 : Int32))])) (fun t₀ k₀ => XS.iloadN X255.here hx rfl (hb hby d9_5) rfl k₀) ?_
        refine own_step (T255.setTop (mkF m 9 #[.val (.ref a), .val (.int t), .val (.int (0 : Int32)), .val (.int (-1 : Int32)), .val (.int (3 : Int32))] [])) (fun t₀ k₀ => XS.ifNo X255.here hx rfl (hb hby d9_6) rfl (by decide) k₀) ?_
        refine own_step (T255.setTop (mkF m 11 #[.val (.ref a), .val (.int t), .val (.int (0 : Int32)), .val (.int (-1 : Int32)), .val (.int (3 : Int32))] [(.int (3 : Int32))])) (fun t₀ k₀ => XS.iload X255.here hx rfl (hb hby d9_9) rfl k₀) ?_
        refine own_step (T255.setTop (mkF m 12 #[.val (.ref a), .val (.int t), .val (.int (0 : Int32)), .val (.int (-1 : Int32)), .val (.int (3 : Int32))] [(.ref a), (.int (3 : Int32))])) (fun t₀ k₀ => XS.aloadN X255.here hx rfl (hb hby d9_11) rfl rfl k₀) ?_
        obtain ⟨T258, X258, e258, st258⟩ := getF X255 hx hZ hown (host := "") (Or.inl (hw _ (List.mem_of_getElem? (i := 22) rfl))) Via.refl e255 Fl (g := (mkF m 12 #[.val (.ref a), .val (.int t), .val (.int (0 : Int32)), .val (.int (-1 : Int32)), .val (.int (3 : Int32))] [(.ref a), (.int (3 : Int32))])) rfl rfl (hb hby d9_12)
        refine own_step (T258.setTop (mkF m 15 #[.val (.ref a), .val (.int t), .val (.int (0 : Int32)), .val (.int (-1 : Int32)), .val (.int (3 : Int32))] [(.int (4 : Int32)), (.int (3 : Int32))])) (fun t₀ k₀ => st258 t₀ k₀) ?_
        refine own_step (T258.setTop (mkF m 18 #[.val (.ref a), .val (.int t), .val (.int (0 : Int32)), .val (.int (-1 : Int32)), .val (.int (3 : Int32))] [])) (fun t₀ k₀ => XS.icmpNo X258.here hx rfl (hb hby d9_15) rfl (by decide) k₀) ?_
        refine own_step (T258.setTop (mkF m 19 #[.val (.ref a), .val (.int t), .val (.int (0 : Int32)), .val (.int (-1 : Int32)), .val (.int (3 : Int32))] [(.ref a)])) (fun t₀ k₀ => XS.aloadN X258.here hx rfl (hb hby d9_18) rfl rfl k₀) ?_
        obtain ⟨T259, X259, e259, st259⟩ := getF X258 hx hZ hown (host := "") (Or.inl (hw _ (List.mem_of_getElem? (i := 11) rfl))) Via.refl e258 Fb (g := (mkF m 19 #[.val (.ref a), .val (.int t), .val (.int (0 : Int32)), .val (.int (-1 : Int32)), .val (.int (3 : Int32))] [(.ref a)])) rfl rfl (hb hby d9_19)
        refine own_step (T259.setTop (mkF m 22 #[.val (.ref a), .val (.int t), .val (.int (0 : Int32)), .val (.int (-1 : Int32)), .val (.int (3 : Int32))] [(.ref ba)])) (fun t₀ k₀ => st259 t₀ k₀) ?_
        refine own_step (T259.setTop (mkF m 24 #[.val (.ref a), .val (.int t), .val (.int (0 : Int32)), .val (.int (-1 : Int32)), .val (.int (3 : Int32))] [(.int (3 : Int32)), (.ref ba)])) (fun t₀ k₀ => XS.iload X259.here hx rfl (hb hby d9_22) rfl k₀) ?_
        obtain ⟨clo260, Aro260, qo260, So260, Mo260, Ho260, Go260⟩ := id Vb
        have hino260 : ¬ ((3 : Int32) < 0 ∨ clo260.slots.size ≤ ((3 : Int32)).toNatClampNeg) := inb_of So260 ⟨by decide, own_ltk hN4 (by decide)⟩
        have hato260 : clo260.slots[((3 : Int32)).toNatClampNeg]? = some (.int b3) := Has.at Ho260 hino260 rfl
        refine own_step (T259.setTop (mkF m 25 #[.val (.ref a), .val (.int t), .val (.int (0 : Int32)), .val (.int (-1 : Int32)), .val (.int (3 : Int32))] [(.int b3)])) (fun t₀ k₀ => X259.baloadBytes hx (j := (3 : Int32)) (v := (.int b3)) (by rw [e259]; exact Aro260.1) (State.isArrayOf_alike hZ.alike Aro260.2.1) Aro260.2.2 hino260 hato260 (g := (mkF m 24 #[.val (.ref a), .val (.int t), .val (.int (0 : Int32)), .val (.int (-1 : Int32)), .val (.int (3 : Int32))] [(.int (3 : Int32)), (.ref ba)])) rfl rfl (hb hby d9_24) _ k₀) ?_
        refine own_step (T259.setTop (mkF m 26 #[.val (.ref a), .val (.int t), .val (.int (0 : Int32)), .val (.int (-1 : Int32)), .val (.int (3 : Int32))] [(.int t), (.int b3)])) (fun t₀ k₀ => XS.iloadN X259.here hx rfl (hb hby d9_25) rfl k₀) ?_
        by_cases hc26_261 : b3 = t
        · skip
          refine own_step (T259.setTop (mkF m 29 #[.val (.ref a), .val (.int t), .val (.int (0 : Int32)), .val (.int (-1 : Int32)), .val (.int (3 : Int32))] [])) (fun t₀ k₀ => XS.icmpNo X259.here hx rfl (hb hby d9_26) rfl (teq hc26_261).2 k₀) ?_
          refine own_step (T259.setTop (mkF m 31 #[.val (.ref a), .val (.int t), .val (.int (0 : Int32)), .val (.int (-1 : Int32)), .val (.int (3 : Int32))] [(.int (3 : Int32))])) (fun t₀ k₀ => XS.iload X259.here hx rfl (hb hby d9_29) rfl k₀) ?_
          refine own_step (T259.setTop (mkF m 32 #[.val (.ref a), .val (.int t), .val (.int (0 : Int32)), .val (.int (3 : Int32)), .val (.int (3 : Int32))] [])) (fun t₀ k₀ => XS.istoreN X259.here hx rfl (hb hby d9_31) rfl (l' := #[.val (.ref a), .val (.int t), .val (.int (0 : Int32)), .val (.int (3 : Int32)), .val (.int (3 : Int32))]) rfl k₀) ?_
          refine own_step (T259.setTop (mkF m 35 #[.val (.ref a), .val (.int t), .val (.int (0 : Int32)), .val (.int (3 : Int32)), .val (.int (4 : Int32))] [])) (fun t₀ k₀ => XS.iinc X259.here hx rfl (hb hby d9_32) rfl (l' := #[.val (.ref a), .val (.int t), .val (.int (0 : Int32)), .val (.int (3 : Int32)), .val (.int (4 : Int32))]) rfl k₀) ?_
          refine own_step (T259.setTop (mkF m 5 #[.val (.ref a), .val (.int t), .val (.int (0 : Int32)), .val (.int (3 : Int32)), .val (.int (4 : Int32))] [])) (fun t₀ k₀ => XS.goto X259.here hx rfl (pc0 := 35) (pc' := 5) rfl (hb hby d9_35) (by decide) (by decide) k₀) ?_
          refine own_step (T259.setTop (mkF m 6 #[.val (.ref a), .val (.int t), .val (.int (0 : Int32)), .val (.int (3 : Int32)), .val (.int (4 : Int32))] [(.int (3 : Int32))])) (fun t₀ k₀ => XS.iloadN X259.here hx rfl (hb hby d9_5) rfl k₀) ?_
          refine own_step (T259.setTop (mkF m 38 #[.val (.ref a), .val (.int t), .val (.int (0 : Int32)), .val (.int (3 : Int32)), .val (.int (4 : Int32))] [])) (fun t₀ k₀ => XS.ifYes X259.here hx rfl (pc0 := 6) (pc' := 38) rfl (hb hby d9_6) rfl (by decide) (by decide) (by decide) k₀) ?_
          refine own_step (T259.setTop (mkF m 39 #[.val (.ref a), .val (.int t), .val (.int (0 : Int32)), .val (.int (3 : Int32)), .val (.int (4 : Int32))] [(.int (3 : Int32))])) (fun t₀ k₀ => XS.iloadN X259.here hx rfl (hb hby d9_38) rfl k₀) ?_
          obtain ⟨fs, hr, hrun, hended, hW, hsame⟩ := X259.leave (v := some (.int (3 : Int32))) (fun h => by rw [Bd.returns] at h; cases h)
          refine ⟨_, _, ?_, hrun, hended, _, _, rfl, ?_, ⟨_, rfl⟩, hW, hsame.mono (by decide) (by decide)⟩
          · exact retI X259 hx Bd.returns (hb hby d9_39) hr
          · show Q_rm9_0_4 Z a t ba kc N b0 b1 b2 b3 h0 n0 _ T259.heap _
            rw [e259]
            exact ⟨by simp +decide [own_all, own_st, hc26, hc26_253, hc26_257, hc26_261], N0, rfl⟩
        · skip
          refine own_step (T259.setTop (mkF m 32 #[.val (.ref a), .val (.int t), .val (.int (0 : Int32)), .val (.int (-1 : Int32)), .val (.int (3 : Int32))] [])) (fun t₀ k₀ => XS.icmpYes X259.here hx rfl (pc0 := 26) (pc' := 32) rfl (hb hby d9_26) rfl (feq hc26_261).2 (by decide) (by decide) k₀) ?_
          refine own_step (T259.setTop (mkF m 35 #[.val (.ref a), .val (.int t), .val (.int (0 : Int32)), .val (.int (-1 : Int32)), .val (.int (4 : Int32))] [])) (fun t₀ k₀ => XS.iinc X259.here hx rfl (hb hby d9_32) rfl (l' := #[.val (.ref a), .val (.int t), .val (.int (0 : Int32)), .val (.int (-1 : Int32)), .val (.int (4 : Int32))]) rfl k₀) ?_
          refine own_step (T259.setTop (mkF m 5 #[.val (.ref a), .val (.int t), .val (.int (0 : Int32)), .val (.int (-1 : Int32)), .val (.int (4 : Int32))] [])) (fun t₀ k₀ => XS.goto X259.here hx rfl (pc0 := 35) (pc' := 5) rfl (hb hby d9_35) (by decide) (by decide) k₀) ?_
          refine own_step (T259.setTop (mkF m 6 #[.val (.ref a), .val (.int t), .val (.int (0 : Int32)), .val (.int (-1 : Int32)), .val (.int (4 : Int32))] [(.int (-1 : Int32))])) (fun t₀ k₀ => XS.iloadN X259.here hx rfl (hb hby d9_5) rfl k₀) ?_
          refine own_step (T259.setTop (mkF m 9 #[.val (.ref a), .val (.int t), .val (.int (0 : Int32)), .val (.int (-1 : Int32)), .val (.int (4 : Int32))] [])) (fun t₀ k₀ => XS.ifNo X259.here hx rfl (hb hby d9_6) rfl (by decide) k₀) ?_
          refine own_step (T259.setTop (mkF m 11 #[.val (.ref a), .val (.int t), .val (.int (0 : Int32)), .val (.int (-1 : Int32)), .val (.int (4 : Int32))] [(.int (4 : Int32))])) (fun t₀ k₀ => XS.iload X259.here hx rfl (hb hby d9_9) rfl k₀) ?_
          refine own_step (T259.setTop (mkF m 12 #[.val (.ref a), .val (.int t), .val (.int (0 : Int32)), .val (.int (-1 : Int32)), .val (.int (4 : Int32))] [(.ref a), (.int (4 : Int32))])) (fun t₀ k₀ => XS.aloadN X259.here hx rfl (hb hby d9_11) rfl rfl k₀) ?_
          obtain ⟨T262, X262, e262, st262⟩ := getF X259 hx hZ hown (host := "") (Or.inl (hw _ (List.mem_of_getElem? (i := 22) rfl))) Via.refl e259 Fl (g := (mkF m 12 #[.val (.ref a), .val (.int t), .val (.int (0 : Int32)), .val (.int (-1 : Int32)), .val (.int (4 : Int32))] [(.ref a), (.int (4 : Int32))])) rfl rfl (hb hby d9_12)
          refine own_step (T262.setTop (mkF m 15 #[.val (.ref a), .val (.int t), .val (.int (0 : Int32)), .val (.int (-1 : Int32)), .val (.int (4 : Int32))] [(.int (4 : Int32)), (.int (4 : Int32))])) (fun t₀ k₀ => st262 t₀ k₀) ?_
          refine own_step (T262.setTop (mkF m 38 #[.val (.ref a), .val (.int t), .val (.int (0 : Int32)), .val (.int (-1 : Int32)), .val (.int (4 : Int32))] [])) (fun t₀ k₀ => XS.icmpYes X262.here hx rfl (pc0 := 15) (pc' := 38) rfl (hb hby d9_15) rfl (by decide) (by decide) (by decide) k₀) ?_
          refine own_step (T262.setTop (mkF m 39 #[.val (.ref a), .val (.int t), .val (.int (0 : Int32)), .val (.int (-1 : Int32)), .val (.int (4 : Int32))] [(.int (-1 : Int32))])) (fun t₀ k₀ => XS.iloadN X262.here hx rfl (hb hby d9_38) rfl k₀) ?_
          obtain ⟨fs, hr, hrun, hended, hW, hsame⟩ := X262.leave (v := some (.int (-1 : Int32))) (fun h => by rw [Bd.returns] at h; cases h)
          refine ⟨_, _, ?_, hrun, hended, _, _, rfl, ?_, ⟨_, rfl⟩, hW, hsame.mono (by decide) (by decide)⟩
          · exact retI X262 hx Bd.returns (hb hby d9_39) hr
          · show Q_rm9_0_4 Z a t ba kc N b0 b1 b2 b3 h0 n0 _ T262.heap _
            rw [e262]
            exact ⟨by simp +decide [own_all, own_st, hc26, hc26_253, hc26_257, hc26_261], N0, rfl⟩
theorem ef_rm9_1_0 (m : MethodId) (a : Addr) (t : Int32) : entryFrame m #[(.ref a), (.int t), (.int (1 : Int32))] 5 = mkF m 0 #[.val (.ref a), .val (.int t), .val (.int (1 : Int32)), .unset, .unset] [] := by first | (simp [entryFrame, mkF, argsToLocals, Value.category]; done) | rfl
def Q_rm9_1_0 (Z : State) (a : Addr) (t : Int32) (ba : Addr) (kc : ClassId) (N : Int32) (b0 : Int32) (b1 : Int32) (b2 : Int32) (b3 : Int32) (h0 : Heap) (n0 : Nat) (v : Option Value) (h : Heap) (L : List Loc) : Prop := v = some (.int (own_all 1 0 t b0 b1 b2 b3)) ∧ Fr n0 L ∧ h = h0
set_option maxRecDepth 65536 in
set_option maxHeartbeats 40000000 in
theorem rm9_1_0 (l : Launch) (Z : State) (a0 : Array Value) (hw : ∀ d ∈ tables_1, d.before a0 Z = true) (ws : List Jvm.Cond) (a : Addr) (t : Int32) (ba : Addr) (kc : ClassId) (N : Int32) (b0 : Int32) (b1 : Int32) (b2 : Int32) (b3 : Int32) (h0 : Heap) (n0 : Nat) (Z0 : n0 ≤ h0.size) (Fb : Fld Z h0 a "com/example/notesmith/notesmith/report/LineBuffer" "bytes" "[B" (.ref ba)) (Fl : Fld Z h0 a "com/example/notesmith/notesmith/report/LineBuffer" "length" "I" (.int (0 : Int32))) (Vb : Arv Z h0 ba kc .byte N [(.int b0), (.int b1), (.int b2), (.int b3)] (.int (0 : Int32))) (hN4 : ¬ N < 4) :
    MetFree l (⟨"com/example/notesmith/notesmith/report/LineBuffer", "indexOf", "(CI)I"⟩ : MethodName) (head1 (Jvm.Cond.code (⟨"com/example/notesmith/notesmith/report/LineBuffer", "indexOf", "(CI)I"⟩ : MethodName) prog_104_method_6_code 5 (some .int) :: ws) ({ frames := 0, cells := 0, slots := 0, locals := 0 } : Room)) (fun as₉ U => as₉ = #[(.ref a), (.int t), (.int (1 : Int32))] ∧ Z.Warmed39 U.vm ∧ U.heap = h0) (fun _ _ _ _ _ => True) (fun _ U o₉ U' => ∃ v L, o₉ = .returned v ∧ Q_rm9_1_0 Z a t ba kc N b0 b1 b2 b3 h0 n0 v U'.heap L ∧ FrameEnd U o₉ U' L ({ frames := 0, cells := 0, slots := 0, locals := 0 } : Room).cells ({ frames := 0, cells := 0, slots := 0, locals := 0 } : Room).slots) := by
  refine MetFree.of_bodySF (plainFor_of_name pn_1) hisR ?_
  intro p e s m args below meth c s₁ Bd hml0 hP hK
  obtain ⟨rfl, hZ, hh⟩ := hP
  have hx := Bd.exec
  have hby := Bd.bytes
  have hml : c.maxLocals = 5 := hml0
  have hown : s.vm.findClass "com/example/notesmith/notesmith/report/LineBuffer" = some m.cls := findClass_of_methodNamed Bd.named
  have hnm := (name_of_methodNamed Bd.named Bd.method).1
  have X0 : Stand p l e ({ frames := 0, cells := 0, slots := 0, locals := 0 } : Room) s m #[(.ref a), (.int t), (.int (1 : Int32))] below meth c s₁ [] 0 0 := Stand.of_body Bd
  have e0 : s₁.heap = h0 := by rw [← hh, Bd.state]; rfl
  have N0 := Fr.nil n0
  show own_Go p e below (fun s₂ o₉ => s₂.status = .running ∧ Ended s₂ below o₉ ∧ ∃ v L, o₉ = .returned v ∧ Q_rm9_1_0 Z a t ba kc N b0 b1 b2 b3 h0 n0 v s₂.heap L ∧ FrameEnd s o₉ s₂ L ({ frames := 0, cells := 0, slots := 0, locals := 0 } : Room).cells ({ frames := 0, cells := 0, slots := 0, locals := 0 } : Room).slots) (s₁.setTop (entryFrame m #[(.ref a), (.int t), (.int (1 : Int32))] 5))
  rw [ef_rm9_1_0 m a t]
  refine own_step (s₁.setTop (mkF m 1 #[.val (.ref a), .val (.int t), .val (.int (1 : Int32)), .unset, .unset] [(.int (-1 : Int32))])) (fun t₀ k₀ => XS.iconst X0.here hx rfl (hb hby d9_0) k₀) ?_
  refine own_step (s₁.setTop (mkF m 2 #[.val (.ref a), .val (.int t), .val (.int (1 : Int32)), .val (.int (-1 : Int32)), .unset] [])) (fun t₀ k₀ => XS.istoreN X0.here hx rfl (hb hby d9_1) rfl (l' := #[.val (.ref a), .val (.int t), .val (.int (1 : Int32)), .val (.int (-1 : Int32)), .unset]) rfl k₀) ?_
  refine own_step (s₁.setTop (mkF m 3 #[.val (.ref a), .val (.int t), .val (.int (1 : Int32)), .val (.int (-1 : Int32)), .unset] [(.int (1 : Int32))])) (fun t₀ k₀ => XS.iloadN X0.here hx rfl (hb hby d9_2) rfl k₀) ?_
  refine own_step (s₁.setTop (mkF m 5 #[.val (.ref a), .val (.int t), .val (.int (1 : Int32)), .val (.int (-1 : Int32)), .val (.int (1 : Int32))] [])) (fun t₀ k₀ => XS.istore X0.here hx rfl (hb hby d9_3) rfl (l' := #[.val (.ref a), .val (.int t), .val (.int (1 : Int32)), .val (.int (-1 : Int32)), .val (.int (1 : Int32))]) rfl k₀) ?_
  refine own_step (s₁.setTop (mkF m 6 #[.val (.ref a), .val (.int t), .val (.int (1 : Int32)), .val (.int (-1 : Int32)), .val (.int (1 : Int32))] [(.int (-1 : Int32))])) (fun t₀ k₀ => XS.iloadN X0.here hx rfl (hb hby d9_5) rfl k₀) ?_
  refine own_step (s₁.setTop (mkF m 9 #[.val (.ref a), .val (.int t), .val (.int (1 : Int32)), .val (.int (-1 : Int32)), .val (.int (1 : Int32))] [])) (fun t₀ k₀ => XS.ifNo X0.here hx rfl (hb hby d9_6) rfl (by decide) k₀) ?_
  refine own_step (s₁.setTop (mkF m 11 #[.val (.ref a), .val (.int t), .val (.int (1 : Int32)), .val (.int (-1 : Int32)), .val (.int (1 : Int32))] [(.int (1 : Int32))])) (fun t₀ k₀ => XS.iload X0.here hx rfl (hb hby d9_9) rfl k₀) ?_
  refine own_step (s₁.setTop (mkF m 12 #[.val (.ref a), .val (.int t), .val (.int (1 : Int32)), .val (.int (-1 : Int32)), .val (.int (1 : Int32))] [(.ref a), (.int (1 : Int32))])) (fun t₀ k₀ => XS.aloadN X0.here hx rfl (hb hby d9_11) rfl rfl k₀) ?_
  obtain ⟨T263, X263, e263, st263⟩ := getF X0 hx hZ hown (host := "") (Or.inl (hw _ (List.mem_of_getElem? (i := 22) rfl))) Via.refl e0 Fl (g := (mkF m 12 #[.val (.ref a), .val (.int t), .val (.int (1 : Int32)), .val (.int (-1 : Int32)), .val (.int (1 : Int32))] [(.ref a), (.int (1 : Int32))])) rfl rfl (hb hby d9_12)
  refine own_step (T263.setTop (mkF m 15 #[.val (.ref a), .val (.int t), .val (.int (1 : Int32)), .val (.int (-1 : Int32)), .val (.int (1 : Int32))] [(.int (0 : Int32)), (.int (1 : Int32))])) (fun t₀ k₀ => st263 t₀ k₀) ?_
  refine own_step (T263.setTop (mkF m 38 #[.val (.ref a), .val (.int t), .val (.int (1 : Int32)), .val (.int (-1 : Int32)), .val (.int (1 : Int32))] [])) (fun t₀ k₀ => XS.icmpYes X263.here hx rfl (pc0 := 15) (pc' := 38) rfl (hb hby d9_15) rfl (by decide) (by decide) (by decide) k₀) ?_
  refine own_step (T263.setTop (mkF m 39 #[.val (.ref a), .val (.int t), .val (.int (1 : Int32)), .val (.int (-1 : Int32)), .val (.int (1 : Int32))] [(.int (-1 : Int32))])) (fun t₀ k₀ => XS.iloadN X263.here hx rfl (hb hby d9_38) rfl k₀) ?_
  obtain ⟨fs, hr, hrun, hended, hW, hsame⟩ := X263.leave (v := some (.int (-1 : Int32))) (fun h => by rw [Bd.returns] at h; cases h)
  refine ⟨_, _, ?_, hrun, hended, _, _, rfl, ?_, ⟨_, rfl⟩, hW, hsame.mono (by decide) (by decide)⟩
  · exact retI X263 hx Bd.returns (hb hby d9_39) hr
  · show Q_rm9_1_0 Z a t ba kc N b0 b1 b2 b3 h0 n0 _ T263.heap _
    rw [e263]
    exact ⟨by simp +decide [own_all, own_st], N0, rfl⟩
theorem ef_rm9_1_1 (m : MethodId) (a : Addr) (t : Int32) : entryFrame m #[(.ref a), (.int t), (.int (1 : Int32))] 5 = mkF m 0 #[.val (.ref a), .val (.int t), .val (.int (1 : Int32)), .unset, .unset] [] := by first | (simp [entryFrame, mkF, argsToLocals, Value.category]; done) | rfl
def Q_rm9_1_1 (Z : State) (a : Addr) (t : Int32) (ba : Addr) (kc : ClassId) (N : Int32) (b0 : Int32) (b1 : Int32) (b2 : Int32) (b3 : Int32) (h0 : Heap) (n0 : Nat) (v : Option Value) (h : Heap) (L : List Loc) : Prop := v = some (.int (own_all 1 1 t b0 b1 b2 b3)) ∧ Fr n0 L ∧ h = h0
set_option maxRecDepth 65536 in
set_option maxHeartbeats 40000000 in
theorem rm9_1_1 (l : Launch) (Z : State) (a0 : Array Value) (hw : ∀ d ∈ tables_1, d.before a0 Z = true) (ws : List Jvm.Cond) (a : Addr) (t : Int32) (ba : Addr) (kc : ClassId) (N : Int32) (b0 : Int32) (b1 : Int32) (b2 : Int32) (b3 : Int32) (h0 : Heap) (n0 : Nat) (Z0 : n0 ≤ h0.size) (Fb : Fld Z h0 a "com/example/notesmith/notesmith/report/LineBuffer" "bytes" "[B" (.ref ba)) (Fl : Fld Z h0 a "com/example/notesmith/notesmith/report/LineBuffer" "length" "I" (.int (1 : Int32))) (Vb : Arv Z h0 ba kc .byte N [(.int b0), (.int b1), (.int b2), (.int b3)] (.int (0 : Int32))) (hN4 : ¬ N < 4) :
    MetFree l (⟨"com/example/notesmith/notesmith/report/LineBuffer", "indexOf", "(CI)I"⟩ : MethodName) (head1 (Jvm.Cond.code (⟨"com/example/notesmith/notesmith/report/LineBuffer", "indexOf", "(CI)I"⟩ : MethodName) prog_104_method_6_code 5 (some .int) :: ws) ({ frames := 0, cells := 0, slots := 0, locals := 0 } : Room)) (fun as₉ U => as₉ = #[(.ref a), (.int t), (.int (1 : Int32))] ∧ Z.Warmed39 U.vm ∧ U.heap = h0) (fun _ _ _ _ _ => True) (fun _ U o₉ U' => ∃ v L, o₉ = .returned v ∧ Q_rm9_1_1 Z a t ba kc N b0 b1 b2 b3 h0 n0 v U'.heap L ∧ FrameEnd U o₉ U' L ({ frames := 0, cells := 0, slots := 0, locals := 0 } : Room).cells ({ frames := 0, cells := 0, slots := 0, locals := 0 } : Room).slots) := by
  refine MetFree.of_bodySF (plainFor_of_name pn_1) hisR ?_
  intro p e s m args below meth c s₁ Bd hml0 hP hK
  obtain ⟨rfl, hZ, hh⟩ := hP
  have hx := Bd.exec
  have hby := Bd.bytes
  have hml : c.maxLocals = 5 := hml0
  have hown : s.vm.findClass "com/example/notesmith/notesmith/report/LineBuffer" = some m.cls := findClass_of_methodNamed Bd.named
  have hnm := (name_of_methodNamed Bd.named Bd.method).1
  have X0 : Stand p l e ({ frames := 0, cells := 0, slots := 0, locals := 0 } : Room) s m #[(.ref a), (.int t), (.int (1 : Int32))] below meth c s₁ [] 0 0 := Stand.of_body Bd
  have e0 : s₁.heap = h0 := by rw [← hh, Bd.state]; rfl
  have N0 := Fr.nil n0
  show own_Go p e below (fun s₂ o₉ => s₂.status = .running ∧ Ended s₂ below o₉ ∧ ∃ v L, o₉ = .returned v ∧ Q_rm9_1_1 Z a t ba kc N b0 b1 b2 b3 h0 n0 v s₂.heap L ∧ FrameEnd s o₉ s₂ L ({ frames := 0, cells := 0, slots := 0, locals := 0 } : Room).cells ({ frames := 0, cells := 0, slots := 0, locals := 0 } : Room).slots) (s₁.setTop (entryFrame m #[(.ref a), (.int t), (.int (1 : Int32))] 5))
  rw [ef_rm9_1_1 m a t]
  refine own_step (s₁.setTop (mkF m 1 #[.val (.ref a), .val (.int t), .val (.int (1 : Int32)), .unset, .unset] [(.int (-1 : Int32))])) (fun t₀ k₀ => XS.iconst X0.here hx rfl (hb hby d9_0) k₀) ?_
  refine own_step (s₁.setTop (mkF m 2 #[.val (.ref a), .val (.int t), .val (.int (1 : Int32)), .val (.int (-1 : Int32)), .unset] [])) (fun t₀ k₀ => XS.istoreN X0.here hx rfl (hb hby d9_1) rfl (l' := #[.val (.ref a), .val (.int t), .val (.int (1 : Int32)), .val (.int (-1 : Int32)), .unset]) rfl k₀) ?_
  refine own_step (s₁.setTop (mkF m 3 #[.val (.ref a), .val (.int t), .val (.int (1 : Int32)), .val (.int (-1 : Int32)), .unset] [(.int (1 : Int32))])) (fun t₀ k₀ => XS.iloadN X0.here hx rfl (hb hby d9_2) rfl k₀) ?_
  refine own_step (s₁.setTop (mkF m 5 #[.val (.ref a), .val (.int t), .val (.int (1 : Int32)), .val (.int (-1 : Int32)), .val (.int (1 : Int32))] [])) (fun t₀ k₀ => XS.istore X0.here hx rfl (hb hby d9_3) rfl (l' := #[.val (.ref a), .val (.int t), .val (.int (1 : Int32)), .val (.int (-1 : Int32)), .val (.int (1 : Int32))]) rfl k₀) ?_
  refine own_step (s₁.setTop (mkF m 6 #[.val (.ref a), .val (.int t), .val (.int (1 : Int32)), .val (.int (-1 : Int32)), .val (.int (1 : Int32))] [(.int (-1 : Int32))])) (fun t₀ k₀ => XS.iloadN X0.here hx rfl (hb hby d9_5) rfl k₀) ?_
  refine own_step (s₁.setTop (mkF m 9 #[.val (.ref a), .val (.int t), .val (.int (1 : Int32)), .val (.int (-1 : Int32)), .val (.int (1 : Int32))] [])) (fun t₀ k₀ => XS.ifNo X0.here hx rfl (hb hby d9_6) rfl (by decide) k₀) ?_
  refine own_step (s₁.setTop (mkF m 11 #[.val (.ref a), .val (.int t), .val (.int (1 : Int32)), .val (.int (-1 : Int32)), .val (.int (1 : Int32))] [(.int (1 : Int32))])) (fun t₀ k₀ => XS.iload X0.here hx rfl (hb hby d9_9) rfl k₀) ?_
  refine own_step (s₁.setTop (mkF m 12 #[.val (.ref a), .val (.int t), .val (.int (1 : Int32)), .val (.int (-1 : Int32)), .val (.int (1 : Int32))] [(.ref a), (.int (1 : Int32))])) (fun t₀ k₀ => XS.aloadN X0.here hx rfl (hb hby d9_11) rfl rfl k₀) ?_
  obtain ⟨T264, X264, e264, st264⟩ := getF X0 hx hZ hown (host := "") (Or.inl (hw _ (List.mem_of_getElem? (i := 22) rfl))) Via.refl e0 Fl (g := (mkF m 12 #[.val (.ref a), .val (.int t), .val (.int (1 : Int32)), .val (.int (-1 : Int32)), .val (.int (1 : Int32))] [(.ref a), (.int (1 : Int32))])) rfl rfl (hb hby d9_12)
  refine own_step (T264.setTop (mkF m 15 #[.val (.ref a), .val (.int t), .val (.int (1 : Int32)), .val (.int (-1 : Int32)), .val (.int (1 : Int32))] [(.int (1 : Int32)), (.int (1 : Int32))])) (fun t₀ k₀ => st264 t₀ k₀) ?_
  refine own_step (T264.setTop (mkF m 38 #[.val (.ref a), .val (.int t), .val (.int (1 : Int32)), .val (.int (-1 : Int32)), .val (.int (1 : Int32))] [])) (fun t₀ k₀ => XS.icmpYes X264.here hx rfl (pc0 := 15) (pc' := 38) rfl (hb hby d9_15) rfl (by decide) (by decide) (by decide) k₀) ?_
  refine own_step (T264.setTop (mkF m 39 #[.val (.ref a), .val (.int t), .val (.int (1 : Int32)), .val (.int (-1 : Int32)), .val (.int (1 : Int32))] [(.int (-1 : Int32))])) (fun t₀ k₀ => XS.iloadN X264.here hx rfl (hb hby d9_38) rfl k₀) ?_
  obtain ⟨fs, hr, hrun, hended, hW, hsame⟩ := X264.leave (v := some (.int (-1 : Int32))) (fun h => by rw [Bd.returns] at h; cases h)
  refine ⟨_, _, ?_, hrun, hended, _, _, rfl, ?_, ⟨_, rfl⟩, hW, hsame.mono (by decide) (by decide)⟩
  · exact retI X264 hx Bd.returns (hb hby d9_39) hr
  · show Q_rm9_1_1 Z a t ba kc N b0 b1 b2 b3 h0 n0 _ T264.heap _
    rw [e264]
    exact ⟨by simp +decide [own_all, own_st], N0, rfl⟩
theorem ef_rm9_1_2 (m : MethodId) (a : Addr) (t : Int32) : entryFrame m #[(.ref a), (.int t), (.int (1 : Int32))] 5 = mkF m 0 #[.val (.ref a), .val (.int t), .val (.int (1 : Int32)), .unset, .unset] [] := by first | (simp [entryFrame, mkF, argsToLocals, Value.category]; done) | rfl
def Q_rm9_1_2 (Z : State) (a : Addr) (t : Int32) (ba : Addr) (kc : ClassId) (N : Int32) (b0 : Int32) (b1 : Int32) (b2 : Int32) (b3 : Int32) (h0 : Heap) (n0 : Nat) (v : Option Value) (h : Heap) (L : List Loc) : Prop := v = some (.int (own_all 1 2 t b0 b1 b2 b3)) ∧ Fr n0 L ∧ h = h0
set_option maxRecDepth 65536 in
set_option maxHeartbeats 40000000 in
theorem rm9_1_2 (l : Launch) (Z : State) (a0 : Array Value) (hw : ∀ d ∈ tables_1, d.before a0 Z = true) (ws : List Jvm.Cond) (a : Addr) (t : Int32) (ba : Addr) (kc : ClassId) (N : Int32) (b0 : Int32) (b1 : Int32) (b2 : Int32) (b3 : Int32) (h0 : Heap) (n0 : Nat) (Z0 : n0 ≤ h0.size) (Fb : Fld Z h0 a "com/example/notesmith/notesmith/report/LineBuffer" "bytes" "[B" (.ref ba)) (Fl : Fld Z h0 a "com/example/notesmith/notesmith/report/LineBuffer" "length" "I" (.int (2 : Int32))) (Vb : Arv Z h0 ba kc .byte N [(.int b0), (.int b1), (.int b2), (.int b3)] (.int (0 : Int32))) (hN4 : ¬ N < 4) :
    MetFree l (⟨"com/example/notesmith/notesmith/report/LineBuffer", "indexOf", "(CI)I"⟩ : MethodName) (head1 (Jvm.Cond.code (⟨"com/example/notesmith/notesmith/report/LineBuffer", "indexOf", "(CI)I"⟩ : MethodName) prog_104_method_6_code 5 (some .int) :: ws) ({ frames := 0, cells := 0, slots := 0, locals := 0 } : Room)) (fun as₉ U => as₉ = #[(.ref a), (.int t), (.int (1 : Int32))] ∧ Z.Warmed39 U.vm ∧ U.heap = h0) (fun _ _ _ _ _ => True) (fun _ U o₉ U' => ∃ v L, o₉ = .returned v ∧ Q_rm9_1_2 Z a t ba kc N b0 b1 b2 b3 h0 n0 v U'.heap L ∧ FrameEnd U o₉ U' L ({ frames := 0, cells := 0, slots := 0, locals := 0 } : Room).cells ({ frames := 0, cells := 0, slots := 0, locals := 0 } : Room).slots) := by
  refine MetFree.of_bodySF (plainFor_of_name pn_1) hisR ?_
  intro p e s m args below meth c s₁ Bd hml0 hP hK
  obtain ⟨rfl, hZ, hh⟩ := hP
  have hx := Bd.exec
  have hby := Bd.bytes
  have hml : c.maxLocals = 5 := hml0
  have hown : s.vm.findClass "com/example/notesmith/notesmith/report/LineBuffer" = some m.cls := findClass_of_methodNamed Bd.named
  have hnm := (name_of_methodNamed Bd.named Bd.method).1
  have X0 : Stand p l e ({ frames := 0, cells := 0, slots := 0, locals := 0 } : Room) s m #[(.ref a), (.int t), (.int (1 : Int32))] below meth c s₁ [] 0 0 := Stand.of_body Bd
  have e0 : s₁.heap = h0 := by rw [← hh, Bd.state]; rfl
  have N0 := Fr.nil n0
  show own_Go p e below (fun s₂ o₉ => s₂.status = .running ∧ Ended s₂ below o₉ ∧ ∃ v L, o₉ = .returned v ∧ Q_rm9_1_2 Z a t ba kc N b0 b1 b2 b3 h0 n0 v s₂.heap L ∧ FrameEnd s o₉ s₂ L ({ frames := 0, cells := 0, slots := 0, locals := 0 } : Room).cells ({ frames := 0, cells := 0, slots := 0, locals := 0 } : Room).slots) (s₁.setTop (entryFrame m #[(.ref a), (.int t), (.int (1 : Int32))] 5))
  rw [ef_rm9_1_2 m a t]
  refine own_step (s₁.setTop (mkF m 1 #[.val (.ref a), .val (.int t), .val (.int (1 : Int32)), .unset, .unset] [(.int (-1 : Int32))])) (fun t₀ k₀ => XS.iconst X0.here hx rfl (hb hby d9_0) k₀) ?_
  refine own_step (s₁.setTop (mkF m 2 #[.val (.ref a), .val (.int t), .val (.int (1 : Int32)), .val (.int (-1 : Int32)), .unset] [])) (fun t₀ k₀ => XS.istoreN X0.here hx rfl (hb hby d9_1) rfl (l' := #[.val (.ref a), .val (.int t), .val (.int (1 : Int32)), .val (.int (-1 : Int32)), .unset]) rfl k₀) ?_
  refine own_step (s₁.setTop (mkF m 3 #[.val (.ref a), .val (.int t), .val (.int (1 : Int32)), .val (.int (-1 : Int32)), .unset] [(.int (1 : Int32))])) (fun t₀ k₀ => XS.iloadN X0.here hx rfl (hb hby d9_2) rfl k₀) ?_
  refine own_step (s₁.setTop (mkF m 5 #[.val (.ref a), .val (.int t), .val (.int (1 : Int32)), .val (.int (-1 : Int32)), .val (.int (1 : Int32))] [])) (fun t₀ k₀ => XS.istore X0.here hx rfl (hb hby d9_3) rfl (l' := #[.val (.ref a), .val (.int t), .val (.int (1 : Int32)), .val (.int (-1 : Int32)), .val (.int (1 : Int32))]) rfl k₀) ?_
  refine own_step (s₁.setTop (mkF m 6 #[.val (.ref a), .val (.int t), .val (.int (1 : Int32)), .val (.int (-1 : Int32)), .val (.int (1 : Int32))] [(.int (-1 : Int32))])) (fun t₀ k₀ => XS.iloadN X0.here hx rfl (hb hby d9_5) rfl k₀) ?_
  refine own_step (s₁.setTop (mkF m 9 #[.val (.ref a), .val (.int t), .val (.int (1 : Int32)), .val (.int (-1 : Int32)), .val (.int (1 : Int32))] [])) (fun t₀ k₀ => XS.ifNo X0.here hx rfl (hb hby d9_6) rfl (by decide) k₀) ?_
  refine own_step (s₁.setTop (mkF m 11 #[.val (.ref a), .val (.int t), .val (.int (1 : Int32)), .val (.int (-1 : Int32)), .val (.int (1 : Int32))] [(.int (1 : Int32))])) (fun t₀ k₀ => XS.iload X0.here hx rfl (hb hby d9_9) rfl k₀) ?_
  refine own_step (s₁.setTop (mkF m 12 #[.val (.ref a), .val (.int t), .val (.int (1 : Int32)), .val (.int (-1 : Int32)), .val (.int (1 : Int32))] [(.ref a), (.int (1 : Int32))])) (fun t₀ k₀ => XS.aloadN X0.here hx rfl (hb hby d9_11) rfl rfl k₀) ?_
  obtain ⟨T265, X265, e265, st265⟩ := getF X0 hx hZ hown (host := "") (Or.inl (hw _ (List.mem_of_getElem? (i := 22) rfl))) Via.refl e0 Fl (g := (mkF m 12 #[.val (.ref a), .val (.int t), .val (.int (1 : Int32)), .val (.int (-1 : Int32)), .val (.int (1 : Int32))] [(.ref a), (.int (1 : Int32))])) rfl rfl (hb hby d9_12)
  refine own_step (T265.setTop (mkF m 15 #[.val (.ref a), .val (.int t), .val (.int (1 : Int32)), .val (.int (-1 : Int32)), .val (.int (1 : Int32))] [(.int (2 : Int32)), (.int (1 : Int32))])) (fun t₀ k₀ => st265 t₀ k₀) ?_
  refine own_step (T265.setTop (mkF m 18 #[.val (.ref a), .val (.int t), .val (.int (1 : Int32)), .val (.int (-1 : Int32)), .val (.int (1 : Int32))] [])) (fun t₀ k₀ => XS.icmpNo X265.here hx rfl (hb hby d9_15) rfl (by decide) k₀) ?_
  refine own_step (T265.setTop (mkF m 19 #[.val (.ref a), .val (.int t), .val (.int (1 : Int32)), .val (.int (-1 : Int32)), .val (.int (1 : Int32))] [(.ref a)])) (fun t₀ k₀ => XS.aloadN X265.here hx rfl (hb hby d9_18) rfl rfl k₀) ?_
  obtain ⟨T266, X266, e266, st266⟩ := getF X265 hx hZ hown (host := "") (Or.inl (hw _ (List.mem_of_getElem? (i := 11) rfl))) Via.refl e265 Fb (g := (mkF m 19 #[.val (.ref a), .val (.int t), .val (.int (1 : Int32)), .val (.int (-1 : Int32)), .val (.int (1 : Int32))] [(.ref a)])) rfl rfl (hb hby d9_19)
  refine own_step (T266.setTop (mkF m 22 #[.val (.ref a), .val (.int t), .val (.int (1 : Int32)), .val (.int (-1 : Int32)), .val (.int (1 : Int32))] [(.ref ba)])) (fun t₀ k₀ => st266 t₀ k₀) ?_
  refine own_step (T266.setTop (mkF m 24 #[.val (.ref a), .val (.int t), .val (.int (1 : Int32)), .val (.int (-1 : Int32)), .val (.int (1 : Int32))] [(.int (1 : Int32)), (.ref ba)])) (fun t₀ k₀ => XS.iload X266.here hx rfl (hb hby d9_22) rfl k₀) ?_
  obtain ⟨clo267, Aro267, qo267, So267, Mo267, Ho267, Go267⟩ := id Vb
  have hino267 : ¬ ((1 : Int32) < 0 ∨ clo267.slots.size ≤ ((1 : Int32)).toNatClampNeg) := inb_of So267 ⟨by decide, own_ltk hN4 (by decide)⟩
  have hato267 : clo267.slots[((1 : Int32)).toNatClampNeg]? = some (.int b1) := Has.at Ho267 hino267 rfl
  refine own_step (T266.setTop (mkF m 25 #[.val (.ref a), .val (.int t), .val (.int (1 : Int32)), .val (.int (-1 : Int32)), .val (.int (1 : Int32))] [(.int b1)])) (fun t₀ k₀ => X266.baloadBytes hx (j := (1 : Int32)) (v := (.int b1)) (by rw [e266]; exact Aro267.1) (State.isArrayOf_alike hZ.alike Aro267.2.1) Aro267.2.2 hino267 hato267 (g := (mkF m 24 #[.val (.ref a), .val (.int t), .val (.int (1 : Int32)), .val (.int (-1 : Int32)), .val (.int (1 : Int32))] [(.int (1 : Int32)), (.ref ba)])) rfl rfl (hb hby d9_24) _ k₀) ?_
  refine own_step (T266.setTop (mkF m 26 #[.val (.ref a), .val (.int t), .val (.int (1 : Int32)), .val (.int (-1 : Int32)), .val (.int (1 : Int32))] [(.int t), (.int b1)])) (fun t₀ k₀ => XS.iloadN X266.here hx rfl (hb hby d9_25) rfl k₀) ?_
  by_cases hc26 : b1 = t
  · skip
    refine own_step (T266.setTop (mkF m 29 #[.val (.ref a), .val (.int t), .val (.int (1 : Int32)), .val (.int (-1 : Int32)), .val (.int (1 : Int32))] [])) (fun t₀ k₀ => XS.icmpNo X266.here hx rfl (hb hby d9_26) rfl (teq hc26).2 k₀) ?_
    refine own_step (T266.setTop (mkF m 31 #[.val (.ref a), .val (.int t), .val (.int (1 : Int32)), .val (.int (-1 : Int32)), .val (.int (1 : Int32))] [(.int (1 : Int32))])) (fun t₀ k₀ => XS.iload X266.here hx rfl (hb hby d9_29) rfl k₀) ?_
    refine own_step (T266.setTop (mkF m 32 #[.val (.ref a), .val (.int t), .val (.int (1 : Int32)), .val (.int (1 : Int32)), .val (.int (1 : Int32))] [])) (fun t₀ k₀ => XS.istoreN X266.here hx rfl (hb hby d9_31) rfl (l' := #[.val (.ref a), .val (.int t), .val (.int (1 : Int32)), .val (.int (1 : Int32)), .val (.int (1 : Int32))]) rfl k₀) ?_
    refine own_step (T266.setTop (mkF m 35 #[.val (.ref a), .val (.int t), .val (.int (1 : Int32)), .val (.int (1 : Int32)), .val (.int (2 : Int32))] [])) (fun t₀ k₀ => XS.iinc X266.here hx rfl (hb hby d9_32) rfl (l' := #[.val (.ref a), .val (.int t), .val (.int (1 : Int32)), .val (.int (1 : Int32)), .val (.int (2 : Int32))]) rfl k₀) ?_
    refine own_step (T266.setTop (mkF m 5 #[.val (.ref a), .val (.int t), .val (.int (1 : Int32)), .val (.int (1 : Int32)), .val (.int (2 : Int32))] [])) (fun t₀ k₀ => XS.goto X266.here hx rfl (pc0 := 35) (pc' := 5) rfl (hb hby d9_35) (by decide) (by decide) k₀) ?_
    refine own_step (T266.setTop (mkF m 6 #[.val (.ref a), .val (.int t), .val (.int (1 : Int32)), .val (.int (1 : Int32)), .val (.int (2 : Int32))] [(.int (1 : Int32))])) (fun t₀ k₀ => XS.iloadN X266.here hx rfl (hb hby d9_5) rfl k₀) ?_
    refine own_step (T266.setTop (mkF m 38 #[.val (.ref a), .val (.int t), .val (.int (1 : Int32)), .val (.int (1 : Int32)), .val (.int (2 : Int32))] [])) (fun t₀ k₀ => XS.ifYes X266.here hx rfl (pc0 := 6) (pc' := 38) rfl (hb hby d9_6) rfl (by decide) (by decide) (by decide) k₀) ?_
    refine own_step (T266.setTop (mkF m 39 #[.val (.ref a), .val (.int t), .val (.int (1 : Int32)), .val (.int (1 : Int32)), .val (.int (2 : Int32))] [(.int (1 : Int32))])) (fun t₀ k₀ => XS.iloadN X266.here hx rfl (hb hby d9_38) rfl k₀) ?_
    obtain ⟨fs, hr, hrun, hended, hW, hsame⟩ := X266.leave (v := some (.int (1 : Int32))) (fun h => by rw [Bd.returns] at h; cases h)
    refine ⟨_, _, ?_, hrun, hended, _, _, rfl, ?_, ⟨_, rfl⟩, hW, hsame.mono (by decide) (by decide)⟩
    · exact retI X266 hx Bd.returns (hb hby d9_39) hr
    · show Q_rm9_1_2 Z a t ba kc N b0 b1 b2 b3 h0 n0 _ T266.heap _
      rw [e266]
      exact ⟨by simp +decide [own_all, own_st, hc26], N0, rfl⟩
  · skip
    refine own_step (T266.setTop (mkF m 32 #[.val (.ref a), .val (.int t), .val (.int (1 : Int32)), .val (.int (-1 : Int32)), .val (.int (1 : Int32))] [])) (fun t₀ k₀ => XS.icmpYes X266.here hx rfl (pc0 := 26) (pc' := 32) rfl (hb hby d9_26) rfl (feq hc26).2 (by decide) (by decide) k₀) ?_
    refine own_step (T266.setTop (mkF m 35 #[.val (.ref a), .val (.int t), .val (.int (1 : Int32)), .val (.int (-1 : Int32)), .val (.int (2 : Int32))] [])) (fun t₀ k₀ => XS.iinc X266.here hx rfl (hb hby d9_32) rfl (l' := #[.val (.ref a), .val (.int t), .val (.int (1 : Int32)), .val (.int (-1 : Int32)), .val (.int (2 : Int32))]) rfl k₀) ?_
    refine own_step (T266.setTop (mkF m 5 #[.val (.ref a), .val (.int t), .val (.int (1 : Int32)), .val (.int (-1 : Int32)), .val (.int (2 : Int32))] [])) (fun t₀ k₀ => XS.goto X266.here hx rfl (pc0 := 35) (pc' := 5) rfl (hb hby d9_35) (by decide) (by decide) k₀) ?_
    refine own_step (T266.setTop (mkF m 6 #[.val (.ref a), .val (.int t), .val (.int (1 : Int32)), .val (.int (-1 : Int32)), .val (.int (2 : Int32))] [(.int (-1 : Int32))])) (fun t₀ k₀ => XS.iloadN X266.here hx rfl (hb hby d9_5) rfl k₀) ?_
    refine own_step (T266.setTop (mkF m 9 #[.val (.ref a), .val (.int t), .val (.int (1 : Int32)), .val (.int (-1 : Int32)), .val (.int (2 : Int32))] [])) (fun t₀ k₀ => XS.ifNo X266.here hx rfl (hb hby d9_6) rfl (by decide) k₀) ?_
    refine own_step (T266.setTop (mkF m 11 #[.val (.ref a), .val (.int t), .val (.int (1 : Int32)), .val (.int (-1 : Int32)), .val (.int (2 : Int32))] [(.int (2 : Int32))])) (fun t₀ k₀ => XS.iload X266.here hx rfl (hb hby d9_9) rfl k₀) ?_
    refine own_step (T266.setTop (mkF m 12 #[.val (.ref a), .val (.int t), .val (.int (1 : Int32)), .val (.int (-1 : Int32)), .val (.int (2 : Int32))] [(.ref a), (.int (2 : Int32))])) (fun t₀ k₀ => XS.aloadN X266.here hx rfl (hb hby d9_11) rfl rfl k₀) ?_
    obtain ⟨T268, X268, e268, st268⟩ := getF X266 hx hZ hown (host := "") (Or.inl (hw _ (List.mem_of_getElem? (i := 22) rfl))) Via.refl e266 Fl (g := (mkF m 12 #[.val (.ref a), .val (.int t), .val (.int (1 : Int32)), .val (.int (-1 : Int32)), .val (.int (2 : Int32))] [(.ref a), (.int (2 : Int32))])) rfl rfl (hb hby d9_12)
    refine own_step (T268.setTop (mkF m 15 #[.val (.ref a), .val (.int t), .val (.int (1 : Int32)), .val (.int (-1 : Int32)), .val (.int (2 : Int32))] [(.int (2 : Int32)), (.int (2 : Int32))])) (fun t₀ k₀ => st268 t₀ k₀) ?_
    refine own_step (T268.setTop (mkF m 38 #[.val (.ref a), .val (.int t), .val (.int (1 : Int32)), .val (.int (-1 : Int32)), .val (.int (2 : Int32))] [])) (fun t₀ k₀ => XS.icmpYes X268.here hx rfl (pc0 := 15) (pc' := 38) rfl (hb hby d9_15) rfl (by decide) (by decide) (by decide) k₀) ?_
    refine own_step (T268.setTop (mkF m 39 #[.val (.ref a), .val (.int t), .val (.int (1 : Int32)), .val (.int (-1 : Int32)), .val (.int (2 : Int32))] [(.int (-1 : Int32))])) (fun t₀ k₀ => XS.iloadN X268.here hx rfl (hb hby d9_38) rfl k₀) ?_
    obtain ⟨fs, hr, hrun, hended, hW, hsame⟩ := X268.leave (v := some (.int (-1 : Int32))) (fun h => by rw [Bd.returns] at h; cases h)
    refine ⟨_, _, ?_, hrun, hended, _, _, rfl, ?_, ⟨_, rfl⟩, hW, hsame.mono (by decide) (by decide)⟩
    · exact retI X268 hx Bd.returns (hb hby d9_39) hr
    · show Q_rm9_1_2 Z a t ba kc N b0 b1 b2 b3 h0 n0 _ T268.heap _
      rw [e268]
      exact ⟨by simp +decide [own_all, own_st, hc26], N0, rfl⟩
theorem ef_rm9_1_3 (m : MethodId) (a : Addr) (t : Int32) : entryFrame m #[(.ref a), (.int t), (.int (1 : Int32))] 5 = mkF m 0 #[.val (.ref a), .val (.int t), .val (.int (1 : Int32)), .unset, .unset] [] := by first | (simp [entryFrame, mkF, argsToLocals, Value.category]; done) | rfl
def Q_rm9_1_3 (Z : State) (a : Addr) (t : Int32) (ba : Addr) (kc : ClassId) (N : Int32) (b0 : Int32) (b1 : Int32) (b2 : Int32) (b3 : Int32) (h0 : Heap) (n0 : Nat) (v : Option Value) (h : Heap) (L : List Loc) : Prop := v = some (.int (own_all 1 3 t b0 b1 b2 b3)) ∧ Fr n0 L ∧ h = h0
set_option maxRecDepth 65536 in
set_option maxHeartbeats 40000000 in
theorem rm9_1_3 (l : Launch) (Z : State) (a0 : Array Value) (hw : ∀ d ∈ tables_1, d.before a0 Z = true) (ws : List Jvm.Cond) (a : Addr) (t : Int32) (ba : Addr) (kc : ClassId) (N : Int32) (b0 : Int32) (b1 : Int32) (b2 : Int32) (b3 : Int32) (h0 : Heap) (n0 : Nat) (Z0 : n0 ≤ h0.size) (Fb : Fld Z h0 a "com/example/notesmith/notesmith/report/LineBuffer" "bytes" "[B" (.ref ba)) (Fl : Fld Z h0 a "com/example/notesmith/notesmith/report/LineBuffer" "length" "I" (.int (3 : Int32))) (Vb : Arv Z h0 ba kc .byte N [(.int b0), (.int b1), (.int b2), (.int b3)] (.int (0 : Int32))) (hN4 : ¬ N < 4) :
    MetFree l (⟨"com/example/notesmith/notesmith/report/LineBuffer", "indexOf", "(CI)I"⟩ : MethodName) (head1 (Jvm.Cond.code (⟨"com/example/notesmith/notesmith/report/LineBuffer", "indexOf", "(CI)I"⟩ : MethodName) prog_104_method_6_code 5 (some .int) :: ws) ({ frames := 0, cells := 0, slots := 0, locals := 0 } : Room)) (fun as₉ U => as₉ = #[(.ref a), (.int t), (.int (1 : Int32))] ∧ Z.Warmed39 U.vm ∧ U.heap = h0) (fun _ _ _ _ _ => True) (fun _ U o₉ U' => ∃ v L, o₉ = .returned v ∧ Q_rm9_1_3 Z a t ba kc N b0 b1 b2 b3 h0 n0 v U'.heap L ∧ FrameEnd U o₉ U' L ({ frames := 0, cells := 0, slots := 0, locals := 0 } : Room).cells ({ frames := 0, cells := 0, slots := 0, locals := 0 } : Room).slots) := by
  refine MetFree.of_bodySF (plainFor_of_name pn_1) hisR ?_
  intro p e s m args below meth c s₁ Bd hml0 hP hK
  obtain ⟨rfl, hZ, hh⟩ := hP
  have hx := Bd.exec
  have hby := Bd.bytes
  have hml : c.maxLocals = 5 := hml0
  have hown : s.vm.findClass "com/example/notesmith/notesmith/report/LineBuffer" = some m.cls := findClass_of_methodNamed Bd.named
  have hnm := (name_of_methodNamed Bd.named Bd.method).1
  have X0 : Stand p l e ({ frames := 0, cells := 0, slots := 0, locals := 0 } : Room) s m #[(.ref a), (.int t), (.int (1 : Int32))] below meth c s₁ [] 0 0 := Stand.of_body Bd
  have e0 : s₁.heap = h0 := by rw [← hh, Bd.state]; rfl
  have N0 := Fr.nil n0
  show own_Go p e below (fun s₂ o₉ => s₂.status = .running ∧ Ended s₂ below o₉ ∧ ∃ v L, o₉ = .returned v ∧ Q_rm9_1_3 Z a t ba kc N b0 b1 b2 b3 h0 n0 v s₂.heap L ∧ FrameEnd s o₉ s₂ L ({ frames := 0, cells := 0, slots := 0, locals := 0 } : Room).cells ({ frames := 0, cells := 0, slots := 0, locals := 0 } : Room).slots) (s₁.setTop (entryFrame m #[(.ref a), (.int t), (.int (1 : Int32))] 5))
  rw [ef_rm9_1_3 m a t]
  refine own_step (s₁.setTop (mkF m 1 #[.val (.ref a), .val (.int t), .val (.int (1 : Int32)), .unset, .unset] [(.int (-1 : Int32))])) (fun t₀ k₀ => XS.iconst X0.here hx rfl (hb hby d9_0) k₀) ?_
  refine own_step (s₁.setTop (mkF m 2 #[.val (.ref a), .val (.int t), .val (.int (1 : Int32)), .val (.int (-1 : Int32)), .unset] [])) (fun t₀ k₀ => XS.istoreN X0.here hx rfl (hb hby d9_1) rfl (l' := #[.val (.ref a), .val (.int t), .val (.int (1 : Int32)), .val (.int (-1 : Int32)), .unset]) rfl k₀) ?_
  refine own_step (s₁.setTop (mkF m 3 #[.val (.ref a), .val (.int t), .val (.int (1 : Int32)), .val (.int (-1 : Int32)), .unset] [(.int (1 : Int32))])) (fun t₀ k₀ => XS.iloadN X0.here hx rfl (hb hby d9_2) rfl k₀) ?_
  refine own_step (s₁.setTop (mkF m 5 #[.val (.ref a), .val (.int t), .val (.int (1 : Int32)), .val (.int (-1 : Int32)), .val (.int (1 : Int32))] [])) (fun t₀ k₀ => XS.istore X0.here hx rfl (hb hby d9_3) rfl (l' := #[.val (.ref a), .val (.int t), .val (.int (1 : Int32)), .val (.int (-1 : Int32)), .val (.int (1 : Int32))]) rfl k₀) ?_
  refine own_step (s₁.setTop (mkF m 6 #[.val (.ref a), .val (.int t), .val (.int (1 : Int32)), .val (.int (-1 : Int32)), .val (.int (1 : Int32))] [(.int (-1 : Int32))])) (fun t₀ k₀ => XS.iloadN X0.here hx rfl (hb hby d9_5) rfl k₀) ?_
  refine own_step (s₁.setTop (mkF m 9 #[.val (.ref a), .val (.int t), .val (.int (1 : Int32)), .val (.int (-1 : Int32)), .val (.int (1 : Int32))] [])) (fun t₀ k₀ => XS.ifNo X0.here hx rfl (hb hby d9_6) rfl (by decide) k₀) ?_
  refine own_step (s₁.setTop (mkF m 11 #[.val (.ref a), .val (.int t), .val (.int (1 : Int32)), .val (.int (-1 : Int32)), .val (.int (1 : Int32))] [(.int (1 : Int32))])) (fun t₀ k₀ => XS.iload X0.here hx rfl (hb hby d9_9) rfl k₀) ?_
  refine own_step (s₁.setTop (mkF m 12 #[.val (.ref a), .val (.int t), .val (.int (1 : Int32)), .val (.int (-1 : Int32)), .val (.int (1 : Int32))] [(.ref a), (.int (1 : Int32))])) (fun t₀ k₀ => XS.aloadN X0.here hx rfl (hb hby d9_11) rfl rfl k₀) ?_
  obtain ⟨T269, X269, e269, st269⟩ := getF X0 hx hZ hown (host := "") (Or.inl (hw _ (List.mem_of_getElem? (i := 22) rfl))) Via.refl e0 Fl (g := (mkF m 12 #[.val (.ref a), .val (.int t), .val (.int (1 : Int32)), .val (.int (-1 : Int32)), .val (.int (1 : Int32))] [(.ref a), (.int (1 : Int32))])) rfl rfl (hb hby d9_12)
  refine own_step (T269.setTop (mkF m 15 #[.val (.ref a), .val (.int t), .val (.int (1 : Int32)), .val (.int (-1 : Int32)), .val (.int (1 : Int32))] [(.int (3 : Int32)), (.int (1 : Int32))])) (fun t₀ k₀ => st269 t₀ k₀) ?_
  refine own_step (T269.setTop (mkF m 18 #[.val (.ref a), .val (.int t), .val (.int (1 : Int32)), .val (.int (-1 : Int32)), .val (.int (1 : Int32))] [])) (fun t₀ k₀ => XS.icmpNo X269.here hx rfl (hb hby d9_15) rfl (by decide) k₀) ?_
  refine own_step (T269.setTop (mkF m 19 #[.val (.ref a), .val (.int t), .val (.int (1 : Int32)), .val (.int (-1 : Int32)), .val (.int (1 : Int32))] [(.ref a)])) (fun t₀ k₀ => XS.aloadN X269.here hx rfl (hb hby d9_18) rfl rfl k₀) ?_
  obtain ⟨T270, X270, e270, st270⟩ := getF X269 hx hZ hown (host := "") (Or.inl (hw _ (List.mem_of_getElem? (i := 11) rfl))) Via.refl e269 Fb (g := (mkF m 19 #[.val (.ref a), .val (.int t), .val (.int (1 : Int32)), .val (.int (-1 : Int32)), .val (.int (1 : Int32))] [(.ref a)])) rfl rfl (hb hby d9_19)
  refine own_step (T270.setTop (mkF m 22 #[.val (.ref a), .val (.int t), .val (.int (1 : Int32)), .val (.int (-1 : Int32)), .val (.int (1 : Int32))] [(.ref ba)])) (fun t₀ k₀ => st270 t₀ k₀) ?_
  refine own_step (T270.setTop (mkF m 24 #[.val (.ref a), .val (.int t), .val (.int (1 : Int32)), .val (.int (-1 : Int32)), .val (.int (1 : Int32))] [(.int (1 : Int32)), (.ref ba)])) (fun t₀ k₀ => XS.iload X270.here hx rfl (hb hby d9_22) rfl k₀) ?_
  obtain ⟨clo271, Aro271, qo271, So271, Mo271, Ho271, Go271⟩ := id Vb
  have hino271 : ¬ ((1 : Int32) < 0 ∨ clo271.slots.size ≤ ((1 : Int32)).toNatClampNeg) := inb_of So271 ⟨by decide, own_ltk hN4 (by decide)⟩
  have hato271 : clo271.slots[((1 : Int32)).toNatClampNeg]? = some (.int b1) := Has.at Ho271 hino271 rfl
  refine own_step (T270.setTop (mkF m 25 #[.val (.ref a), .val (.int t), .val (.int (1 : Int32)), .val (.int (-1 : Int32)), .val (.int (1 : Int32))] [(.int b1)])) (fun t₀ k₀ => X270.baloadBytes hx (j := (1 : Int32)) (v := (.int b1)) (by rw [e270]; exact Aro271.1) (State.isArrayOf_alike hZ.alike Aro271.2.1) Aro271.2.2 hino271 hato271 (g := (mkF m 24 #[.val (.ref a), .val (.int t), .val (.int (1 : Int32)), .val (.int (-1 : Int32)), .val (.int (1 : Int32))] [(.int (1 : Int32)), (.ref ba)])) rfl rfl (hb hby d9_24) _ k₀) ?_
  refine own_step (T270.setTop (mkF m 26 #[.val (.ref a), .val (.int t), .val (.int (1 : Int32)), .val (.int (-1 : Int32)), .val (.int (1 : Int32))] [(.int t), (.int b1)])) (fun t₀ k₀ => XS.iloadN X270.here hx rfl (hb hby d9_25) rfl k₀) ?_
  by_cases hc26 : b1 = t
  · skip
    refine own_step (T270.setTop (mkF m 29 #[.val (.ref a), .val (.int t), .val (.int (1 : Int32)), .val (.int (-1 : Int32)), .val (.int (1 : Int32))] [])) (fun t₀ k₀ => XS.icmpNo X270.here hx rfl (hb hby d9_26) rfl (teq hc26).2 k₀) ?_
    refine own_step (T270.setTop (mkF m 31 #[.val (.ref a), .val (.int t), .val (.int (1 : Int32)), .val (.int (-1 : Int32)), .val (.int (1 : Int32))] [(.int (1 : Int32))])) (fun t₀ k₀ => XS.iload X270.here hx rfl (hb hby d9_29) rfl k₀) ?_
    refine own_step (T270.setTop (mkF m 32 #[.val (.ref a), .val (.int t), .val (.int (1 : Int32)), .val (.int (1 : Int32)), .val (.int (1 : Int32))] [])) (fun t₀ k₀ => XS.istoreN X270.here hx rfl (hb hby d9_31) rfl (l' := #[.val (.ref a), .val (.int t), .val (.int (1 : Int32)), .val (.int (1 : Int32)), .val (.int (1 : Int32))]) rfl k₀) ?_
    refine own_step (T270.setTop (mkF m 35 #[.val (.ref a), .val (.int t), .val (.int (1 : Int32)), .val (.int (1 : Int32)), .val (.int (2 : Int32))] [])) (fun t₀ k₀ => XS.iinc X270.here hx rfl (hb hby d9_32) rfl (l' := #[.val (.ref a), .val (.int t), .val (.int (1 : Int32)), .val (.int (1 : Int32)), .val (.int (2 : Int32))]) rfl k₀) ?_
    refine own_step (T270.setTop (mkF m 5 #[.val (.ref a), .val (.int t), .val (.int (1 : Int32)), .val (.int (1 : Int32)), .val (.int (2 : Int32))] [])) (fun t₀ k₀ => XS.goto X270.here hx rfl (pc0 := 35) (pc' := 5) rfl (hb hby d9_35) (by decide) (by decide) k₀) ?_
    refine own_step (T270.setTop (mkF m 6 #[.val (.ref a), .val (.int t), .val (.int (1 : Int32)), .val (.int (1 : Int32)), .val (.int (2 : Int32))] [(.int (1 : Int32))])) (fun t₀ k₀ => XS.iloadN X270.here hx rfl (hb hby d9_5) rfl k₀) ?_
    refine own_step (T270.setTop (mkF m 38 #[.val (.ref a), .val (.int t), .val (.int (1 : Int32)), .val (.int (1 : Int32)), .val (.int (2 : Int32))] [])) (fun t₀ k₀ => XS.ifYes X270.here hx rfl (pc0 := 6) (pc' := 38) rfl (hb hby d9_6) rfl (by decide) (by decide) (by decide) k₀) ?_
    refine own_step (T270.setTop (mkF m 39 #[.val (.ref a), .val (.int t), .val (.int (1 : Int32)), .val (.int (1 : Int32)), .val (.int (2 : Int32))] [(.int (1 : Int32))])) (fun t₀ k₀ => XS.iloadN X270.here hx rfl (hb hby d9_38) rfl k₀) ?_
    obtain ⟨fs, hr, hrun, hended, hW, hsame⟩ := X270.leave (v := some (.int (1 : Int32))) (fun h => by rw [Bd.returns] at h; cases h)
    refine ⟨_, _, ?_, hrun, hended, _, _, rfl, ?_, ⟨_, rfl⟩, hW, hsame.mono (by decide) (by decide)⟩
    · exact retI X270 hx Bd.returns (hb hby d9_39) hr
    · show Q_rm9_1_3 Z a t ba kc N b0 b1 b2 b3 h0 n0 _ T270.heap _
      rw [e270]
      exact ⟨by simp +decide [own_all, own_st, hc26], N0, rfl⟩
  · skip
    refine own_step (T270.setTop (mkF m 32 #[.val (.ref a), .val (.int t), .val (.int (1 : Int32)), .val (.int (-1 : Int32)), .val (.int (1 : Int32))] [])) (fun t₀ k₀ => XS.icmpYes X270.here hx rfl (pc0 := 26) (pc' := 32) rfl (hb hby d9_26) rfl (feq hc26).2 (by decide) (by decide) k₀) ?_
    refine own_step (T270.setTop (mkF m 35 #[.val (.ref a), .val (.int t), .val (.int (1 : Int32)), .val (.int (-1 : Int32)), .val (.int (2 : Int32))] [])) (fun t₀ k₀ => XS.iinc X270.here hx rfl (hb hby d9_32) rfl (l' := #[.val (.ref a), .val (.int t), .val (.int (1 : Int32)), .val (.int (-1 : Int32)), .val (.int (2 : Int32))]) rfl k₀) ?_
    refine own_step (T270.setTop (mkF m 5 #[.val (.ref a), .val (.int t), .val (.int (1 : Int32)), .val (.int (-1 : Int32)), .val (.int (2 : Int32))] [])) (fun t₀ k₀ => XS.goto X270.here hx rfl (pc0 := 35) (pc' := 5) rfl (hb hby d9_35) (by decide) (by decide) k₀) ?_
    refine own_step (T270.setTop (mkF m 6 #[.val (.ref a), .val (.int t), .val (.int (1 : Int32)), .val (.int (-1 : Int32)), .val (.int (2 : Int32))] [(.int (-1 : Int32))])) (fun t₀ k₀ => XS.iloadN X270.here hx rfl (hb hby d9_5) rfl k₀) ?_
    refine own_step (T270.setTop (mkF m 9 #[.val (.ref a), .val (.int t), .val (.int (1 : Int32)), .val (.int (-1 : Int32)), .val (.int (2 : Int32))] [])) (fun t₀ k₀ => XS.ifNo X270.here hx rfl (hb hby d9_6) rfl (by decide) k₀) ?_
    refine own_step (T270.setTop (mkF m 11 #[.val (.ref a), .val (.int t), .val (.int (1 : Int32)), .val (.int (-1 : Int32)), .val (.int (2 : Int32))] [(.int (2 : Int32))])) (fun t₀ k₀ => XS.iload X270.here hx rfl (hb hby d9_9) rfl k₀) ?_
    refine own_step (T270.setTop (mkF m 12 #[.val (.ref a), .val (.int t), .val (.int (1 : Int32)), .val (.int (-1 : Int32)), .val (.int (2 : Int32))] [(.ref a), (.int (2 : Int32))])) (fun t₀ k₀ => XS.aloadN X270.here hx rfl (hb hby d9_11) rfl rfl k₀) ?_
    obtain ⟨T272, X272, e272, st272⟩ := getF X270 hx hZ hown (host := "") (Or.inl (hw _ (List.mem_of_getElem? (i := 22) rfl))) Via.refl e270 Fl (g := (mkF m 12 #[.val (.ref a), .val (.int t), .val (.int (1 : Int32)), .val (.int (-1 : Int32)), .val (.int (2 : Int32))] [(.ref a), (.int (2 : Int32))])) rfl rfl (hb hby d9_12)
    refine own_step (T272.setTop (mkF m 15 #[.val (.ref a), .val (.int t), .val (.int (1 : Int32)), .val (.int (-1 : Int32)), .val (.int (2 : Int32))] [(.int (3 : Int32)), (.int (2 : Int32))])) (fun t₀ k₀ => st272 t₀ k₀) ?_
    refine own_step (T272.setTop (mkF m 18 #[.val (.ref a), .val (.int t), .val (.int (1 : Int32)), .val (.int (-1 : Int32)), .val (.int (2 : Int32))] [])) (fun t₀ k₀ => XS.icmpNo X272.here hx rfl (hb hby d9_15) rfl (by decide) k₀) ?_
    refine own_step (T272.setTop (mkF m 19 #[.val (.ref a), .val (.int t), .val (.int (1 : Int32)), .val (.int (-1 : Int32)), .val (.int (2 : Int32))] [(.ref a)])) (fun t₀ k₀ => XS.aloadN X272.here hx rfl (hb hby d9_18) rfl rfl k₀) ?_
    obtain ⟨T273, X273, e273, st273⟩ := getF X272 hx hZ hown (host := "") (Or.inl (hw _ (List.mem_of_getElem? (i := 11) rfl))) Via.refl e272 Fb (g := (mkF m 19 #[.val (.ref a), .val (.int t), .val (.int (1 : Int32)), .val (.int (-1 : Int32)), .val (.int (2 : Int32))] [(.ref a)])) rfl rfl (hb hby d9_19)
    refine own_step (T273.setTop (mkF m 22 #[.val (.ref a), .val (.int t), .val (.int (1 : Int32)), .val (.int (-1 : Int32)), .val (.int (2 : Int32))] [(.ref ba)])) (fun t₀ k₀ => st273 t₀ k₀) ?_
    refine own_step (T273.setTop (mkF m 24 #[.val (.ref a), .val (.int t), .val (.int (1 : Int32)), .val (.int (-1 : Int32)), .val (.int (2 : Int32))] [(.int (2 : Int32)), (.ref ba)])) (fun t₀ k₀ => XS.iload X273.here hx rfl (hb hby d9_22) rfl k₀) ?_
    obtain ⟨clo274, Aro274, qo274, So274, Mo274, Ho274, Go274⟩ := id Vb
    have hino274 : ¬ ((2 : Int32) < 0 ∨ clo274.slots.size ≤ ((2 : Int32)).toNatClampNeg) := inb_of So274 ⟨by decide, own_ltk hN4 (by decide)⟩
    have hato274 : clo274.slots[((2 : Int32)).toNatClampNeg]? = some (.int b2) := Has.at Ho274 hino274 rfl
    refine own_step (T273.setTop (mkF m 25 #[.val (.ref a), .val (.int t), .val (.int (1 : Int32)), .val (.int (-1 : Int32)), .val (.int (2 : Int32))] [(.int b2)])) (fun t₀ k₀ => X273.baloadBytes hx (j := (2 : Int32)) (v := (.int b2)) (by rw [e273]; exact Aro274.1) (State.isArrayOf_alike hZ.alike Aro274.2.1) Aro274.2.2 hino274 hato274 (g := (mkF m 24 #[.val (.ref a), .val (.int t), .val (.int (1 : Int32)), .val (.int (-1 : Int32)), .val (.int (2 : Int32))] [(.int (2 : Int32)), (.ref ba)])) rfl rfl (hb hby d9_24) _ k₀) ?_
    refine own_step (T273.setTop (mkF m 26 #[.val (.ref a), .val (.int t), .val (.int (1 : Int32)), .val (.int (-1 : Int32)), .val (.int (2 : Int32))] [(.int t), (.int b2)])) (fun t₀ k₀ => XS.iloadN X273.here hx rfl (hb hby d9_25) rfl k₀) ?_
    by_cases hc26_275 : b2 = t
    · skip
      refine own_step (T273.setTop (mkF m 29 #[.val (.ref a), .val (.int t), .val (.int (1 : Int32)), .val (.int (-1 : Int32)), .val (.int (2 : Int32))] [])) (fun t₀ k₀ => XS.icmpNo X273.here hx rfl (hb hby d9_26) rfl (teq hc26_275).2 k₀) ?_
      refine own_step (T273.setTop (mkF m 31 #[.val (.ref a), .val (.int t), .val (.int (1 : Int32)), .val (.int (-1 : Int32)), .val (.int (2 : Int32))] [(.int (2 : Int32))])) (fun t₀ k₀ => XS.iload X273.here hx rfl (hb hby d9_29) rfl k₀) ?_
      refine own_step (T273.setTop (mkF m 32 #[.val (.ref a), .val (.int t), .val (.int (1 : Int32)), .val (.int (2 : Int32)), .val (.int (2 : Int32))] [])) (fun t₀ k₀ => XS.istoreN X273.here hx rfl (hb hby d9_31) rfl (l' := #[.val (.ref a), .val (.int t), .val (.int (1 : Int32)), .val (.int (2 : Int32)), .val (.int (2 : Int32))]) rfl k₀) ?_
      refine own_step (T273.setTop (mkF m 35 #[.val (.ref a), .val (.int t), .val (.int (1 : Int32)), .val (.int (2 : Int32)), .val (.int (3 : Int32))] [])) (fun t₀ k₀ => XS.iinc X273.here hx rfl (hb hby d9_32) rfl (l' := #[.val (.ref a), .val (.int t), .val (.int (1 : Int32)), .val (.int (2 : Int32)), .val (.int (3 : Int32))]) rfl k₀) ?_
      refine own_step (T273.setTop (mkF m 5 #[.val (.ref a), .val (.int t), .val (.int (1 : Int32)), .val (.int (2 : Int32)), .val (.int (3 : Int32))] [])) (fun t₀ k₀ => XS.goto X273.here hx rfl (pc0 := 35) (pc' := 5) rfl (hb hby d9_35) (by decide) (by decide) k₀) ?_
      refine own_step (T273.setTop (mkF m 6 #[.val (.ref a), .val (.int t), .val (.int (1 : Int32)), .val (.int (2 : Int32)), .val (.int (3 : Int32))] [(.int (2 : Int32))])) (fun t₀ k₀ => XS.iloadN X273.here hx rfl (hb hby d9_5) rfl k₀) ?_
      refine own_step (T273.setTop (mkF m 38 #[.val (.ref a), .val (.int t), .val (.int (1 : Int32)), .val (.int (2 : Int32)), .val (.int (3 : Int32))] [])) (fun t₀ k₀ => XS.ifYes X273.here hx rfl (pc0 := 6) (pc' := 38) rfl (hb hby d9_6) rfl (by decide) (by decide) (by decide) k₀) ?_
      refine own_step (T273.setTop (mkF m 39 #[.val (.ref a), .val (.int t), .val (.int (1 : Int32)), .val (.int (2 : Int32)), .val (.int (3 : Int32))] [(.int (2 : Int32))])) (fun t₀ k₀ => XS.iloadN X273.here hx rfl (hb hby d9_38) rfl k₀) ?_
      obtain ⟨fs, hr, hrun, hended, hW, hsame⟩ := X273.leave (v := some (.int (2 : Int32))) (fun h => by rw [Bd.returns] at h; cases h)
      refine ⟨_, _, ?_, hrun, hended, _, _, rfl, ?_, ⟨_, rfl⟩, hW, hsame.mono (by decide) (by decide)⟩
      · exact retI X273 hx Bd.returns (hb hby d9_39) hr
      · show Q_rm9_1_3 Z a t ba kc N b0 b1 b2 b3 h0 n0 _ T273.heap _
        rw [e273]
        exact ⟨by simp +decide [own_all, own_st, hc26, hc26_275], N0, rfl⟩
    · skip
      refine own_step (T273.setTop (mkF m 32 #[.val (.ref a), .val (.int t), .val (.int (1 : Int32)), .val (.int (-1 : Int32)), .val (.int (2 : Int32))] [])) (fun t₀ k₀ => XS.icmpYes X273.here hx rfl (pc0 := 26) (pc' := 32) rfl (hb hby d9_26) rfl (feq hc26_275).2 (by decide) (by decide) k₀) ?_
      refine own_step (T273.setTop (mkF m 35 #[.val (.ref a), .val (.int t), .val (.int (1 : Int32)), .val (.int (-1 : Int32)), .val (.int (3 : Int32))] [])) (fun t₀ k₀ => XS.iinc X273.here hx rfl (hb hby d9_32) rfl (l' := #[.val (.ref a), .val (.int t), .val (.int (1 : Int32)), .val (.int (-1 : Int32)), .val (.int (3 : Int32))]) rfl k₀) ?_
      refine own_step (T273.setTop (mkF m 5 #[.val (.ref a), .val (.int t), .val (.int (1 : Int32)), .val (.int (-1 : Int32)), .val (.int (3 : Int32))] [])) (fun t₀ k₀ => XS.goto X273.here hx rfl (pc0 := 35) (pc' := 5) rfl (hb hby d9_35) (by decide) (by decide) k₀) ?_
      refine own_step (T273.setTop (mkF m 6 #[.val (.ref a), .val (.int t), .val (.int (1 : Int32)), .val (.int (-1 : Int32)), .val (.int (3 : Int32))] [(.int (-1 : Int32))])) (fun t₀ k₀ => XS.iloadN X273.here hx rfl (hb hby d9_5) rfl k₀) ?_
      refine own_step (T273.setTop (mkF m 9 #[.val (.ref a), .val (.int t), .val (.int (1 : Int32)), .val (.int (-1 : Int32)), .val (.int (3 : Int32))] [])) (fun t₀ k₀ => XS.ifNo X273.here hx rfl (hb hby d9_6) rfl (by decide) k₀) ?_
      refine own_step (T273.setTop (mkF m 11 #[.val (.ref a), .val (.int t), .val (.int (1 : Int32)), .val (.int (-1 : Int32)), .val (.int (3 : Int32))] [(.int (3 : Int32))])) (fun t₀ k₀ => XS.iload X273.here hx rfl (hb hby d9_9) rfl k₀) ?_
      refine own_step (T273.setTop (mkF m 12 #[.val (.ref a), .val (.int t), .val (.int (1 : Int32)), .val (.int (-1 : Int32)), .val (.int (3 : Int32))] [(.ref a), (.int (3 : Int32))])) (fun t₀ k₀ => XS.aloadN X273.here hx rfl (hb hby d9_11) rfl rfl k₀) ?_
      obtain ⟨T276, X276, e276, st276⟩ := getF X273 hx hZ hown (host := "") (Or.inl (hw _ (List.mem_of_getElem? (i := 22) rfl))) Via.refl e273 Fl (g := (mkF m 12 #[.val (.ref a), .val (.int t), .val (.int (1 : Int32)), .val (.int (-1 : Int32)), .val (.int (3 : Int32))] [(.ref a), (.int (3 : Int32))])) rfl rfl (hb hby d9_12)
      refine own_step (T276.setTop (mkF m 15 #[.val (.ref a), .val (.int t), .val (.int (1 : Int32)), .val (.int (-1 : Int32)), .val (.int (3 : Int32))] [(.int (3 : Int32)), (.int (3 : Int32))])) (fun t₀ k₀ => st276 t₀ k₀) ?_
      refine own_step (T276.setTop (mkF m 38 #[.val (.ref a), .val (.int t), .val (.int (1 : Int32)), .val (.int (-1 : Int32)), .val (.int (3 : Int32))] [])) (fun t₀ k₀ => XS.icmpYes X276.here hx rfl (pc0 := 15) (pc' := 38) rfl (hb hby d9_15) rfl (by decide) (by decide) (by decide) k₀) ?_
      refine own_step (T276.setTop (mkF m 39 #[.val (.ref a), .val (.int t), .val (.int (1 : Int32)), .val (.int (-1 : Int32)), .val (.int (3 : Int32))] [(.int (-1 : Int32))])) (fun t₀ k₀ => XS.iloadN X276.here hx rfl (hb hby d9_38) rfl k₀) ?_
      obtain ⟨fs, hr, hrun, hended, hW, hsame⟩ := X276.leave (v := some (.int (-1 : Int32))) (fun h => by rw [Bd.returns] at h; cases h)
      refine ⟨_, _, ?_, hrun, hended, _, _, rfl, ?_, ⟨_, rfl⟩, hW, hsame.mono (by decide) (by decide)⟩
      · exact retI X276 hx Bd.returns (hb hby d9_39) hr
      · show Q_rm9_1_3 Z a t ba kc N b0 b1 b2 b3 h0 n0 _ T276.heap _
        rw [e276]
        exact ⟨by simp +decide [own_all, own_st, hc26, hc26_275], N0, rfl⟩
theorem ef_rm9_1_4 (m : MethodId) (a : Addr) (t : Int32) : entryFrame m #[(.ref a), (.int t), (.int (1 : Int32))] 5 = mkF m 0 #[.val (.ref a), .val (.int t), .val (.int (1 : Int32)), .unset, .unset] [] := by first | (simp [entryFrame, mkF, argsToLocals, Value.category]; done) | rfl
def Q_rm9_1_4 (Z : State) (a : Addr) (t : Int32) (ba : Addr) (kc : ClassId) (N : Int32) (b0 : Int32) (b1 : Int32) (b2 : Int32) (b3 : Int32) (h0 : Heap) (n0 : Nat) (v : Option Value) (h : Heap) (L : List Loc) : Prop := v = some (.int (own_all 1 4 t b0 b1 b2 b3)) ∧ Fr n0 L ∧ h = h0
set_option maxRecDepth 65536 in
set_option maxHeartbeats 40000000 in
theorem rm9_1_4 (l : Launch) (Z : State) (a0 : Array Value) (hw : ∀ d ∈ tables_1, d.before a0 Z = true) (ws : List Jvm.Cond) (a : Addr) (t : Int32) (ba : Addr) (kc : ClassId) (N : Int32) (b0 : Int32) (b1 : Int32) (b2 : Int32) (b3 : Int32) (h0 : Heap) (n0 : Nat) (Z0 : n0 ≤ h0.size) (Fb : Fld Z h0 a "com/example/notesmith/notesmith/report/LineBuffer" "bytes" "[B" (.ref ba)) (Fl : Fld Z h0 a "com/example/notesmith/notesmith/report/LineBuffer" "length" "I" (.int (4 : Int32))) (Vb : Arv Z h0 ba kc .byte N [(.int b0), (.int b1), (.int b2), (.int b3)] (.int (0 : Int32))) (hN4 : ¬ N < 4) :
    MetFree l (⟨"com/example/notesmith/notesmith/report/LineBuffer", "indexOf", "(CI)I"⟩ : MethodName) (head1 (Jvm.Cond.code (⟨"com/example/notesmith/notesmith/report/LineBuffer", "indexOf", "(CI)I"⟩ : MethodName) prog_104_method_6_code 5 (some .int) :: ws) ({ frames := 0, cells := 0, slots := 0, locals := 0 } : Room)) (fun as₉ U => as₉ = #[(.ref a), (.int t), (.int (1 : Int32))] ∧ Z.Warmed39 U.vm ∧ U.heap = h0) (fun _ _ _ _ _ => True) (fun _ U o₉ U' => ∃ v L, o₉ = .returned v ∧ Q_rm9_1_4 Z a t ba kc N b0 b1 b2 b3 h0 n0 v U'.heap L ∧ FrameEnd U o₉ U' L ({ frames := 0, cells := 0, slots := 0, locals := 0 } : Room).cells ({ frames := 0, cells := 0, slots := 0, locals := 0 } : Room).slots) := by
  refine MetFree.of_bodySF (plainFor_of_name pn_1) hisR ?_
  intro p e s m args below meth c s₁ Bd hml0 hP hK
  obtain ⟨rfl, hZ, hh⟩ := hP
  have hx := Bd.exec
  have hby := Bd.bytes
  have hml : c.maxLocals = 5 := hml0
  have hown : s.vm.findClass "com/example/notesmith/notesmith/report/LineBuffer" = some m.cls := findClass_of_methodNamed Bd.named
  have hnm := (name_of_methodNamed Bd.named Bd.method).1
  have X0 : Stand p l e ({ frames := 0, cells := 0, slots := 0, locals := 0 } : Room) s m #[(.ref a), (.int t), (.int (1 : Int32))] below meth c s₁ [] 0 0 := Stand.of_body Bd
  have e0 : s₁.heap = h0 := by rw [← hh, Bd.state]; rfl
  have N0 := Fr.nil n0
  show own_Go p e below (fun s₂ o₉ => s₂.status = .running ∧ Ended s₂ below o₉ ∧ ∃ v L, o₉ = .returned v ∧ Q_rm9_1_4 Z a t ba kc N b0 b1 b2 b3 h0 n0 v s₂.heap L ∧ FrameEnd s o₉ s₂ L ({ frames := 0, cells := 0, slots := 0, locals := 0 } : Room).cells ({ frames := 0, cells := 0, slots := 0, locals := 0 } : Room).slots) (s₁.setTop (entryFrame m #[(.ref a), (.int t), (.int (1 : Int32))] 5))
  rw [ef_rm9_1_4 m a t]
  refine own_step (s₁.setTop (mkF m 1 #[.val (.ref a), .val (.int t), .val (.int (1 : Int32)), .unset, .unset] [(.int (-1 : Int32))])) (fun t₀ k₀ => XS.iconst X0.here hx rfl (hb hby d9_0) k₀) ?_
  refine own_step (s₁.setTop (mkF m 2 #[.val (.ref a), .val (.int t), .val (.int (1 : Int32)), .val (.int (-1 : Int32)), .unset] [])) (fun t₀ k₀ => XS.istoreN X0.here hx rfl (hb hby d9_1) rfl (l' := #[.val (.ref a), .val (.int t), .val (.int (1 : Int32)), .val (.int (-1 : Int32)), .unset]) rfl k₀) ?_
  refine own_step (s₁.setTop (mkF m 3 #[.val (.ref a), .val (.int t), .val (.int (1 : Int32)), .val (.int (-1 : Int32)), .unset] [(.int (1 : Int32))])) (fun t₀ k₀ => XS.iloadN X0.here hx rfl (hb hby d9_2) rfl k₀) ?_
  refine own_step (s₁.setTop (mkF m 5 #[.val (.ref a), .val (.int t), .val (.int (1 : Int32)), .val (.int (-1 : Int32)), .val (.int (1 : Int32))] [])) (fun t₀ k₀ => XS.istore X0.here hx rfl (hb hby d9_3) rfl (l' := #[.val (.ref a), .val (.int t), .val (.int (1 : Int32)), .val (.int (-1 : Int32)), .val (.int (1 : Int32))]) rfl k₀) ?_
  refine own_step (s₁.setTop (mkF m 6 #[.val (.ref a), .val (.int t), .val (.int (1 : Int32)), .val (.int (-1 : Int32)), .val (.int (1 : Int32))] [(.int (-1 : Int32))])) (fun t₀ k₀ => XS.iloadN X0.here hx rfl (hb hby d9_5) rfl k₀) ?_
  refine own_step (s₁.setTop (mkF m 9 #[.val (.ref a), .val (.int t), .val (.int (1 : Int32)), .val (.int (-1 : Int32)), .val (.int (1 : Int32))] [])) (fun t₀ k₀ => XS.ifNo X0.here hx rfl (hb hby d9_6) rfl (by decide) k₀) ?_
  refine own_step (s₁.setTop (mkF m 11 #[.val (.ref a), .val (.int t), .val (.int (1 : Int32)), .val (.int (-1 : Int32)), .val (.int (1 : Int32))] [(.int (1 : Int32))])) (fun t₀ k₀ => XS.iload X0.here hx rfl (hb hby d9_9) rfl k₀) ?_
  refine own_step (s₁.setTop (mkF m 12 #[.val (.ref a), .val (.int t), .val (.int (1 : Int32)), .val (.int (-1 : Int32)), .val (.int (1 : Int32))] [(.ref a), (.int (1 : Int32))])) (fun t₀ k₀ => XS.aloadN X0.here hx rfl (hb hby d9_11) rfl rfl k₀) ?_
  obtain ⟨T277, X277, e277, st277⟩ := getF X0 hx hZ hown (host := "") (Or.inl (hw _ (List.mem_of_getElem? (i := 22) rfl))) Via.refl e0 Fl (g := (mkF m 12 #[.val (.ref a), .val (.int t), .val (.int (1 : Int32)), .val (.int (-1 : Int32)), .val (.int (1 : Int32))] [(.ref a), (.int (1 : Int32))])) rfl rfl (hb hby d9_12)
  refine own_step (T277.setTop (mkF m 15 #[.val (.ref a), .val (.int t), .val (.int (1 : Int32)), .val (.int (-1 : Int32)), .val (.int (1 : Int32))] [(.int (4 : Int32)), (.int (1 : Int32))])) (fun t₀ k₀ => st277 t₀ k₀) ?_
  refine own_step (T277.setTop (mkF m 18 #[.val (.ref a), .val (.int t), .val (.int (1 : Int32)), .val (.int (-1 : Int32)), .val (.int (1 : Int32))] [])) (fun t₀ k₀ => XS.icmpNo X277.here hx rfl (hb hby d9_15) rfl (by decide) k₀) ?_
  refine own_step (T277.setTop (mkF m 19 #[.val (.ref a), .val (.int t), .val (.int (1 : Int32)), .val (.int (-1 : Int32)), .val (.int (1 : Int32))] [(.ref a)])) (fun t₀ k₀ => XS.aloadN X277.here hx rfl (hb hby d9_18) rfl rfl k₀) ?_
  obtain ⟨T278, X278, e278, st278⟩ := getF X277 hx hZ hown (host := "") (Or.inl (hw _ (List.mem_of_getElem? (i := 11) rfl))) Via.refl e277 Fb (g := (mkF m 19 #[.val (.ref a), .val (.int t), .val (.int (1 : Int32)), .val (.int (-1 : Int32)), .val (.int (1 : Int32))] [(.ref a)])) rfl rfl (hb hby d9_19)
  refine own_step (T278.setTop (mkF m 22 #[.val (.ref a), .val (.int t), .val (.int (1 : Int32)), .val (.int (-1 : Int32)), .val (.int (1 : Int32))] [(.ref ba)])) (fun t₀ k₀ => st278 t₀ k₀) ?_
  refine own_step (T278.setTop (mkF m 24 #[.val (.ref a), .val (.int t), .val (.int (1 : Int32)), .val (.int (-1 : Int32)), .val (.int (1 : Int32))] [(.int (1 : Int32)), (.ref ba)])) (fun t₀ k₀ => XS.iload X278.here hx rfl (hb hby d9_22) rfl k₀) ?_
  obtain ⟨clo279, Aro279, qo279, So279, Mo279, Ho279, Go279⟩ := id Vb
  have hino279 : ¬ ((1 : Int32) < 0 ∨ clo279.slots.size ≤ ((1 : Int32)).toNatClampNeg) := inb_of So279 ⟨by decide, own_ltk hN4 (by decide)⟩
  have hato279 : clo279.slots[((1 : Int32)).toNatClampNeg]? = some (.int b1) := Has.at Ho279 hino279 rfl
  refine own_step (T278.setTop (mkF m 25 #[.val (.ref a), .val (.int t), .val (.int (1 : Int32)), .val (.int (-1 : Int32)), .val (.int (1 : Int32))] [(.int b1)])) (fun t₀ k₀ => X278.baloadBytes hx (j := (1 : Int32)) (v := (.int b1)) (by rw [e278]; exact Aro279.1) (State.isArrayOf_alike hZ.alike Aro279.2.1) Aro279.2.2 hino279 hato279 (g := (mkF m 24 #[.val (.ref a), .val (.int t), .val (.int (1 : Int32)), .val (.int (-1 : Int32)), .val (.int (1 : Int32))] [(.int (1 : Int32)), (.ref ba)])) rfl rfl (hb hby d9_24) _ k₀) ?_
  refine own_step (T278.setTop (mkF m 26 #[.val (.ref a), .val (.int t), .val (.int (1 : Int32)), .val (.int (-1 : Int32)), .val (.int (1 : Int32))] [(.int t), (.int b1)])) (fun t₀ k₀ => XS.iloadN X278.here hx rfl (hb hby d9_25) rfl k₀) ?_
  by_cases hc26 : b1 = t
  · skip
    refine own_step (T278.setTop (mkF m 29 #[.val (.ref a), .val (.int t), .val (.int (1 : Int32)), .val (.int (-1 : Int32)), .val (.int (1 : Int32))] [])) (fun t₀ k₀ => XS.icmpNo X278.here hx rfl (hb hby d9_26) rfl (teq hc26).2 k₀) ?_
    refine own_step (T278.setTop (mkF m 31 #[.val (.ref a), .val (.int t), .val (.int (1 : Int32)), .val (.int (-1 : Int32)), .val (.int (1 : Int32))] [(.int (1 : Int32))])) (fun t₀ k₀ => XS.iload X278.here hx rfl (hb hby d9_29) rfl k₀) ?_
    refine own_step (T278.setTop (mkF m 32 #[.val (.ref a), .val (.int t), .val (.int (1 : Int32)), .val (.int (1 : Int32)), .val (.int (1 : Int32))] [])) (fun t₀ k₀ => XS.istoreN X278.here hx rfl (hb hby d9_31) rfl (l' := #[.val (.ref a), .val (.int t), .val (.int (1 : Int32)), .val (.int (1 : Int32)), .val (.int (1 : Int32))]) rfl k₀) ?_
    refine own_step (T278.setTop (mkF m 35 #[.val (.ref a), .val (.int t), .val (.int (1 : Int32)), .val (.int (1 : Int32)), .val (.int (2 : Int32))] [])) (fun t₀ k₀ => XS.iinc X278.here hx rfl (hb hby d9_32) rfl (l' := #[.val (.ref a), .val (.int t), .val (.int (1 : Int32)), .val (.int (1 : Int32)), .val (.int (2 : Int32))]) rfl k₀) ?_
    refine own_step (T278.setTop (mkF m 5 #[.val (.ref a), .val (.int t), .val (.int (1 : Int32)), .val (.int (1 : Int32)), .val (.int (2 : Int32))] [])) (fun t₀ k₀ => XS.goto X278.here hx rfl (pc0 := 35) (pc' := 5) rfl (hb hby d9_35) (by decide) (by decide) k₀) ?_
    refine own_step (T278.setTop (mkF m 6 #[.val (.ref a), .val (.int t), .val (.int (1 : Int32)), .val (.int (1 : Int32)), .val (.int (2 : Int32))] [(.int (1 : Int32))])) (fun t₀ k₀ => XS.iloadN X278.here hx rfl (hb hby d9_5) rfl k₀) ?_
    refine own_step (T278.setTop (mkF m 38 #[.val (.ref a), .val (.int t), .val (.int (1 : Int32)), .val (.int (1 : Int32)), .val (.int (2 : Int32))] [])) (fun t₀ k₀ => XS.ifYes X278.here hx rfl (pc0 := 6) (pc' := 38) rfl (hb hby d9_6) rfl (by decide) (by decide) (by decide) k₀) ?_
    refine own_step (T278.setTop (mkF m 39 #[.val (.ref a), .val (.int t), .val (.int (1 : Int32)), .val (.int (1 : Int32)), .val (.int (2 : Int32))] [(.int (1 : Int32))])) (fun t₀ k₀ => XS.iloadN X278.here hx rfl (hb hby d9_38) rfl k₀) ?_
    obtain ⟨fs, hr, hrun, hended, hW, hsame⟩ := X278.leave (v := some (.int (1 : Int32))) (fun h => by rw [Bd.returns] at h; cases h)
    refine ⟨_, _, ?_, hrun, hended, _, _, rfl, ?_, ⟨_, rfl⟩, hW, hsame.mono (by decide) (by decide)⟩
    · exact retI X278 hx Bd.returns (hb hby d9_39) hr
    · show Q_rm9_1_4 Z a t ba kc N b0 b1 b2 b3 h0 n0 _ T278.heap _
      rw [e278]
      exact ⟨by simp +decide [own_all, own_st, hc26], N0, rfl⟩
  · skip
    refine own_step (T278.setTop (mkF m 32 #[.val (.ref a), .val (.int t), .val (.int (1 : Int32)), .val (.int (-1 : Int32)), .val (.int (1 : Int32))] [])) (fun t₀ k₀ => XS.icmpYes X278.here hx rfl (pc0 := 26) (pc' := 32) rfl (hb hby d9_26) rfl (feq hc26).2 (by decide) (by decide) k₀) ?_
    refine own_step (T278.setTop (mkF m 35 #[.val (.ref a), .val (.int t), .val (.int (1 : Int32)), .val (.int (-1 : Int32)), .val (.int (2 : Int32))] [])) (fun t₀ k₀ => XS.iinc X278.here hx rfl (hb hby d9_32) rfl (l' := #[.val (.ref a), .val (.int t), .val (.int (1 : Int32)), .val (.int (-1 : Int32)), .val (.int (2 : Int32))]) rfl k₀) ?_
    refine own_step (T278.setTop (mkF m 5 #[.val (.ref a), .val (.int t), .val (.int (1 : Int32)), .val (.int (-1 : Int32)), .val (.int (2 : Int32))] [])) (fun t₀ k₀ => XS.goto X278.here hx rfl (pc0 := 35) (pc' := 5) rfl (hb hby d9_35) (by decide) (by decide) k₀) ?_
    refine own_step (T278.setTop (mkF m 6 #[.val (.ref a), .val (.int t), .val (.int (1 : Int32)), .val (.int (-1 : Int32)), .val (.int (2 : Int32))] [(.int (-1 : Int32))])) (fun t₀ k₀ => XS.iloadN X278.here hx rfl (hb hby d9_5) rfl k₀) ?_
    refine own_step (T278.setTop (mkF m 9 #[.val (.ref a), .val (.int t), .val (.int (1 : Int32)), .val (.int (-1 : Int32)), .val (.int (2 : Int32))] [])) (fun t₀ k₀ => XS.ifNo X278.here hx rfl (hb hby d9_6) rfl (by decide) k₀) ?_
    refine own_step (T278.setTop (mkF m 11 #[.val (.ref a), .val (.int t), .val (.int (1 : Int32)), .val (.int (-1 : Int32)), .val (.int (2 : Int32))] [(.int (2 : Int32))])) (fun t₀ k₀ => XS.iload X278.here hx rfl (hb hby d9_9) rfl k₀) ?_
    refine own_step (T278.setTop (mkF m 12 #[.val (.ref a), .val (.int t), .val (.int (1 : Int32)), .val (.int (-1 : Int32)), .val (.int (2 : Int32))] [(.ref a), (.int (2 : Int32))])) (fun t₀ k₀ => XS.aloadN X278.here hx rfl (hb hby d9_11) rfl rfl k₀) ?_
    obtain ⟨T280, X280, e280, st280⟩ := getF X278 hx hZ hown (host := "") (Or.inl (hw _ (List.mem_of_getElem? (i := 22) rfl))) Via.refl e278 Fl (g := (mkF m 12 #[.val (.ref a), .val (.int t), .val (.int (1 : Int32)), .val (.int (-1 : Int32)), .val (.int (2 : Int32))] [(.ref a), (.int (2 : Int32))])) rfl rfl (hb hby d9_12)
    refine own_step (T280.setTop (mkF m 15 #[.val (.ref a), .val (.int t), .val (.int (1 : Int32)), .val (.int (-1 : Int32)), .val (.int (2 : Int32))] [(.int (4 : Int32)), (.int (2 : Int32))])) (fun t₀ k₀ => st280 t₀ k₀) ?_
    refine own_step (T280.setTop (mkF m 18 #[.val (.ref a), .val (.int t), .val (.int (1 : Int32)), .val (.int (-1 : Int32)), .val (.int (2 : Int32))] [])) (fun t₀ k₀ => XS.icmpNo X280.here hx rfl (hb hby d9_15) rfl (by decide) k₀) ?_
    refine own_step (T280.setTop (mkF m 19 #[.val (.ref a), .val (.int t), .val (.int (1 : Int32)), .val (.int (-1 : Int32)), .val (.int (2 : Int32))] [(.ref a)])) (fun t₀ k₀ => XS.aloadN X280.here hx rfl (hb hby d9_18) rfl rfl k₀) ?_
    obtain ⟨T281, X281, e281, st281⟩ := getF X280 hx hZ hown (host := "") (Or.inl (hw _ (List.mem_of_getElem? (i := 11) rfl))) Via.refl e280 Fb (g := (mkF m 19 #[.val (.ref a), .val (.int t), .val (.int (1 : Int32)), .val (.int (-1 : Int32)), .val (.int (2 : Int32))] [(.ref a)])) rfl rfl (hb hby d9_19)
    refine own_step (T281.setTop (mkF m 22 #[.val (.ref a), .val (.int t), .val (.int (1 : Int32)), .val (.int (-1 : Int32)), .val (.int (2 : Int32))] [(.ref ba)])) (fun t₀ k₀ => st281 t₀ k₀) ?_
    refine own_step (T281.setTop (mkF m 24 #[.val (.ref a), .val (.int t), .val (.int (1 : Int32)), .val (.int (-1 : Int32)), .val (.int (2 : Int32))] [(.int (2 : Int32)), (.ref ba)])) (fun t₀ k₀ => XS.iload X281.here hx rfl (hb hby d9_22) rfl k₀) ?_
    obtain ⟨clo282, Aro282, qo282, So282, Mo282, Ho282, Go282⟩ := id Vb
    have hino282 : ¬ ((2 : Int32) < 0 ∨ clo282.slots.size ≤ ((2 : Int32)).toNatClampNeg) := inb_of So282 ⟨by decide, own_ltk hN4 (by decide)⟩
    have hato282 : clo282.slots[((2 : Int32)).toNatClampNeg]? = some (.int b2) := Has.at Ho282 hino282 rfl
    refine own_step (T281.setTop (mkF m 25 #[.val (.ref a), .val (.int t), .val (.int (1 : Int32)), .val (.int (-1 : Int32)), .val (.int (2 : Int32))] [(.int b2)])) (fun t₀ k₀ => X281.baloadBytes hx (j := (2 : Int32)) (v := (.int b2)) (by rw [e281]; exact Aro282.1) (State.isArrayOf_alike hZ.alike Aro282.2.1) Aro282.2.2 hino282 hato282 (g := (mkF m 24 #[.val (.ref a), .val (.int t), .val (.int (1 : Int32)), .val (.int (-1 : Int32)), .val (.int (2 : Int32))] [(.int (2 : Int32)), (.ref ba)])) rfl rfl (hb hby d9_24) _ k₀) ?_
    refine own_step (T281.setTop (mkF m 26 #[.val (.ref a), .val (.int t), .val (.int (1 : Int32)), .val (.int (-1 : Int32)), .val (.int (2 : Int32))] [(.int t), (.int b2)])) (fun t₀ k₀ => XS.iloadN X281.here hx rfl (hb hby d9_25) rfl k₀) ?_
    by_cases hc26_283 : b2 = t
    · skip
      refine own_step (T281.setTop (mkF m 29 #[.val (.ref a), .val (.int t), .val (.int (1 : Int32)), .val (.int (-1 : Int32)), .val (.int (2 : Int32))] [])) (fun t₀ k₀ => XS.icmpNo X281.here hx rfl (hb hby d9_26) rfl (teq hc26_283).2 k₀) ?_
      refine own_step (T281.setTop (mkF m 31 #[.val (.ref a), .val (.int t), .val (.int (1 : Int32)), .val (.int (-1 : Int32)), .val (.int (2 : Int32))] [(.int (2 : Int32))])) (fun t₀ k₀ => XS.iload X281.here hx rfl (hb hby d9_29) rfl k₀) ?_
      refine own_step (T281.setTop (mkF m 32 #[.val (.ref a), .val (.int t), .val (.int (1 : Int32)), .val (.int (2 : Int32)), .val (.int (2 : Int32))] [])) (fun t₀ k₀ => XS.istoreN X281.here hx rfl (hb hby d9_31) rfl (l' := #[.val (.ref a), .val (.int t), .val (.int (1 : Int32)), .val (.int (2 : Int32)), .val (.int (2 : Int32))]) rfl k₀) ?_
      refine own_step (T281.setTop (mkF m 35 #[.val (.ref a), .val (.int t), .val (.int (1 : Int32)), .val (.int (2 : Int32)), .val (.int (3 : Int32))] [])) (fun t₀ k₀ => XS.iinc X281.here hx rfl (hb hby d9_32) rfl (l' := #[.val (.ref a), .val (.int t), .val (.int (1 : Int32)), .val (.int (2 : Int32)), .val (.int (3 : Int32))]) rfl k₀) ?_
      refine own_step (T281.setTop (mkF m 5 #[.val (.ref a), .val (.int t), .val (.int (1 : Int32)), .val (.int (2 : Int32)), .val (.int (3 : Int32))] [])) (fun t₀ k₀ => XS.goto X281.here hx rfl (pc0 := 35) (pc' := 5) rfl (hb hby d9_35) (by decide) (by decide) k₀) ?_
      refine own_step (T281.setTop (mkF m 6 #[.val (.ref a), .val (.int t), .val (.int (1 : Int32)), .val (.int (2 : Int32)), .val (.int (3 : Int32))] [(.int (2 : Int32))])) (fun t₀ k₀ => XS.iloadN X281.here hx rfl (hb hby d9_5) rfl k₀) ?_
      refine own_step (T281.setTop (mkF m 38 #[.val (.ref a), .val (.int t), .val (.int (1 : Int32)), .val (.int (2 : Int32)), .val (.int (3 : Int32))] [])) (fun t₀ k₀ => XS.ifYes X281.here hx rfl (pc0 := 6) (pc' := 38) rfl (hb hby d9_6) rfl (by decide) (by decide) (by decide) k₀) ?_
      refine own_step (T281.setTop (mkF m 39 #[.val (.ref a), .val (.int t), .val (.int (1 : Int32)), .val (.int (2 : Int32)), .val (.int (3 : Int32))] [(.int (2 : Int32))])) (fun t₀ k₀ => XS.iloadN X281.here hx rfl (hb hby d9_38) rfl k₀) ?_
      obtain ⟨fs, hr, hrun, hended, hW, hsame⟩ := X281.leave (v := some (.int (2 : Int32))) (fun h => by rw [Bd.returns] at h; cases h)
      refine ⟨_, _, ?_, hrun, hended, _, _, rfl, ?_, ⟨_, rfl⟩, hW, hsame.mono (by decide) (by decide)⟩
      · exact retI X281 hx Bd.returns (hb hby d9_39) hr
      · show Q_rm9_1_4 Z a t ba kc N b0 b1 b2 b3 h0 n0 _ T281.heap _
        rw [e281]
        exact ⟨by simp +decide [own_all, own_st, hc26, hc26_283], N0, rfl⟩
    · skip
      refine own_step (T281.setTop (mkF m 32 #[.val (.ref a), .val (.int t), .val (.int (1 : Int32)), .val (.int (-1 : Int32)), .val (.int (2 : Int32))] [])) (fun t₀ k₀ => XS.icmpYes X281.here hx rfl (pc0 := 26) (pc' := 32) rfl (hb hby d9_26) rfl (feq hc26_283).2 (by decide) (by decide) k₀) ?_
      refine own_step (T281.setTop (mkF m 35 #[.val (.ref a), .val (.int t), .val (.int (1 : Int32)), .val (.int (-1 : Int32)), .val (.int (3 : Int32))] [])) (fun t₀ k₀ => XS.iinc X281.here hx rfl (hb hby d9_32) rfl (l' := #[.val (.ref a), .val (.int t), .val (.int (1 : Int32)), .val (.int (-1 : Int32)), .val (.int (3 : Int32))]) rfl k₀) ?_
      refine own_step (T281.setTop (mkF m 5 #[.val (.ref a), .val (.int t), .val (.int (1 : Int32)), .val (.int (-1 : Int32)), .val (.int (3 : Int32))] [])) (fun t₀ k₀ => XS.goto X281.here hx rfl (pc0 := 35) (pc' := 5) rfl (hb hby d9_35) (by decide) (by decide) k₀) ?_
      refine own_step (T281.setTop (mkF m 6 #[.val (.ref a), .val (.int t), .val (.int (1 : Int32)), .val (.int (-1 : Int32)), .val (.int (3 : Int32))] [(.int (-1 : Int32))])) (fun t₀ k₀ => XS.iloadN X281.here hx rfl (hb hby d9_5) rfl k₀) ?_
      refine own_step (T281.setTop (mkF m 9 #[.val (.ref a), .val (.int t), .val (.int (1 : Int32)), .val (.int (-1 : Int32)), .val (.int (3 : Int32))] [])) (fun t₀ k₀ => XS.ifNo X281.here hx rfl (hb hby d9_6) rfl (by decide) k₀) ?_
      refine own_step (T281.setTop (mkF m 11 #[.val (.ref a), .val (.int t), .val (.int (1 : Int32)), .val (.int (-1 : Int32)), .val (.int (3 : Int32))] [(.int (3 : Int32))])) (fun t₀ k₀ => XS.iload X281.here hx rfl (hb hby d9_9) rfl k₀) ?_
      refine own_step (T281.setTop (mkF m 12 #[.val (.ref a), .val (.int t), .val (.int (1 : Int32)), .val (.int (-1 : Int32)), .val (.int (3 : Int32))] [(.ref a), (.int (3 : Int32))])) (fun t₀ k₀ => XS.aloadN X281.here hx rfl (hb hby d9_11) rfl rfl k₀) ?_
      obtain ⟨T284, X284, e284, st284⟩ := getF X281 hx hZ hown (host := "") (Or.inl (hw _ (List.mem_of_getElem? (i := 22) rfl))) Via.refl e281 Fl (g := (mkF m 12 #[.val (.ref a), .val (.int t), .val (.int (1 : Int32)), .val (.int (-1 : Int32)), .val (.int (3 : Int32))] [(.ref a), (.int (3 : Int32))])) rfl rfl (hb hby d9_12)
      refine own_step (T284.setTop (mkF m 15 #[.val (.ref a), .val (.int t), .val (.int (1 : Int32)), .val (.int (-1 : Int32)), .val (.int (3 : Int32))] [(.int (4 : Int32)), (.int (3 : Int32))])) (fun t₀ k₀ => st284 t₀ k₀) ?_
      refine own_step (T284.setTop (mkF m 18 #[.val (.ref a), .val (.int t), .val (.int (1 : Int32)), .val (.int (-1 : Int32)), .val (.int (3 : Int32))] [])) (fun t₀ k₀ => XS.icmpNo X284.here hx rfl (hb hby d9_15) rfl (by decide) k₀) ?_
      refine own_step (T284.setTop (mkF m 19 #[.val (.ref a), .val (.int t), .val (.int (1 : Int32)), .val (.int (-1 : Int32)), .val (.int (3 : Int32))] [(.ref a)])) (fun t₀ k₀ => XS.aloadN X284.here hx rfl (hb hby d9_18) rfl rfl k₀) ?_
      obtain ⟨T285, X285, e285, st285⟩ := getF X284 hx hZ hown (host := "") (Or.inl (hw _ (List.mem_of_getElem? (i := 11) rfl))) Via.refl e284 Fb (g := (mkF m 19 #[.val (.ref a), .val (.int t), .val (.int (1 : Int32)), .val (.int (-1 : Int32)), .val (.int (3 : Int32))] [(.ref a)])) rfl rfl (hb hby d9_19)
      refine own_step (T285.setTop (mkF m 22 #[.val (.ref a), .val (.int t), .val (.int (1 : Int32)), .val (.int (-1 : Int32)), .val (.int (3 : Int32))] [(.ref ba)])) (fun t₀ k₀ => st285 t₀ k₀) ?_
      refine own_step (T285.setTop (mkF m 24 #[.val (.ref a), .val (.int t), .val (.int (1 : Int32)), .val (.int (-1 : Int32)), .val (.int (3 : Int32))] [(.int (3 : Int32)), (.ref ba)])) (fun t₀ k₀ => XS.iload X285.here hx rfl (hb hby d9_22) rfl k₀) ?_
      obtain ⟨clo286, Aro286, qo286, So286, Mo286, Ho286, Go286⟩ := id Vb
      have hino286 : ¬ ((3 : Int32) < 0 ∨ clo286.slots.size ≤ ((3 : Int32)).toNatClampNeg) := inb_of So286 ⟨by decide, own_ltk hN4 (by decide)⟩
      have hato286 : clo286.slots[((3 : Int32)).toNatClampNeg]? = some (.int b3) := Has.at Ho286 hino286 rfl
      refine own_step (T285.setTop (mkF m 25 #[.val (.ref a), .val (.int t), .val (.int (1 : Int32)), .val (.int (-1 : Int32)), .val (.int (3 : Int32))] [(.int b3)])) (fun t₀ k₀ => X285.baloadBytes hx (j := (3 : Int32)) (v := (.int b3)) (by rw [e285]; exact Aro286.1) (State.isArrayOf_alike hZ.alike Aro286.2.1) Aro286.2.2 hino286 hato286 (g := (mkF m 24 #[.val (.ref a), .val (.int t), .val (.int (1 : Int32)), .val (.int (-1 : Int32)), .val (.int (3 : Int32))] [(.int (3 : Int32)), (.ref ba)])) rfl rfl (hb hby d9_24) _ k₀) ?_
      refine own_step (T285.setTop (mkF m 26 #[.val (.ref a), .val (.int t), .val (.int (1 : Int32)), .val (.int (-1 : Int32)), .val (.int (3 : Int32))] [(.int t), (.int b3)])) (fun t₀ k₀ => XS.iloadN X285.here hx rfl (hb hby d9_25) rfl k₀) ?_
      by_cases hc26_287 : b3 = t
      · skip
        refine own_step (T285.setTop (mkF m 29 #[.val (.ref a), .val (.int t), .val (.int (1 : Int32)), .val (.int (-1 : Int32)), .val (.int (3 : Int32))] [])) (fun t₀ k₀ => XS.icmpNo X285.here hx rfl (hb hby d9_26) rfl (teq hc26_287).2 k₀) ?_
        refine own_step (T285.setTop (mkF m 31 #[.val (.ref a), .val (.int t), .val (.int (1 : Int32)), .val (.int (-1 : Int32)), .val (.int (3 : Int32))] [(.int (3 : Int32))])) (fun t₀ k₀ => XS.iload X285.here hx rfl (hb hby d9_29) rfl k₀) ?_
        refine own_step (T285.setTop (mkF m 32 #[.val (.ref a), .val (.int t), .val (.int (1 : Int32)), .val (.int (3 : Int32)), .val (.int (3 : Int32))] [])) (fun t₀ k₀ => XS.istoreN X285.here hx rfl (hb hby d9_31) rfl (l' := #[.val (.ref a), .val (.int t), .val (.int (1 : Int32)), .val (.int (3 : Int32)), .val (.int (3 : Int32))]) rfl k₀) ?_
        refine own_step (T285.setTop (mkF m 35 #[.val (.ref a), .val (.int t), .val (.int (1 : Int32)), .val (.int (3 : Int32)), .val (.int (4 : Int32))] [])) (fun t₀ k₀ => XS.iinc X285.here hx rfl (hb hby d9_32) rfl (l' := #[.val (.ref a), .val (.int t), .val (.int (1 : Int32)), .val (.int (3 : Int32)), .val (.int (4 : Int32))]) rfl k₀) ?_
        refine own_step (T285.setTop (mkF m 5 #[.val (.ref a), .val (.int t), .val (.int (1 : Int32)), .val (.int (3 : Int32)), .val (.int (4 : Int32))] [])) (fun t₀ k₀ => XS.goto X285.here hx rfl (pc0 := 35) (pc' := 5) rfl (hb hby d9_35) (by decide) (by decide) k₀) ?_
        refine own_step (T285.setTop (mkF m 6 #[.val (.ref a), .val (.int t), .val (.int (1 : Int32)), .val (.int (3 : Int32)), .val (.int (4 : Int32))] [(.int (3 : Int32))])) (fun t₀ k₀ => XS.iloadN X285.here hx rfl (hb hby d9_5) rfl k₀) ?_
        refine own_step (T285.setTop (mkF m 38 #[.val (.ref a), .val (.int t), .val (.int (1 : Int32)), .val (.int (3 : Int32)), .val (.int (4 : Int32))] [])) (fun t₀ k₀ => XS.ifYes X285.here hx rfl (pc0 := 6) (pc' := 38) rfl (hb hby d9_6) rfl (by decide) (by decide) (by decide) k₀) ?_
        refine own_step (T285.setTop (mkF m 39 #[.val (.ref a), .val (.int t), .val (.int (1 : Int32)), .val (.int (3 : Int32)), .val (.int (4 : Int32))] [(.int (3 : Int32))])) (fun t₀ k₀ => XS.iloadN X285.here hx rfl (hb hby d9_38) rfl k₀) ?_
        obtain ⟨fs, hr, hrun, hended, hW, hsame⟩ := X285.leave (v := some (.int (3 : Int32))) (fun h => by rw [Bd.returns] at h; cases h)
        refine ⟨_, _, ?_, hrun, hended, _, _, rfl, ?_, ⟨_, rfl⟩, hW, hsame.mono (by decide) (by decide)⟩
        · exact retI X285 hx Bd.returns (hb hby d9_39) hr
        · show Q_rm9_1_4 Z a t ba kc N b0 b1 b2 b3 h0 n0 _ T285.heap _
          rw [e285]
          exact ⟨by simp +decide [own_all, own_st, hc26, hc26_283, hc26_287], N0, rfl⟩
      · skip
        refine own_step (T285.setTop (mkF m 32 #[.val (.ref a), .val (.int t), .val (.int (1 : Int32)), .val (.int (-1 : Int32)), .val (.int (3 : Int32))] [])) (fun t₀ k₀ => XS.icmpYes X285.here hx rfl (pc0 := 26) (pc' := 32) rfl (hb hby d9_26) rfl (feq hc26_287).2 (by decide) (by decide) k₀) ?_
        refine own_step (T285.setTop (mkF m 35 #[.val (.ref a), .val (.int t), .val (.int (1 : Int32)), .val (.int (-1 : Int32)), .val (.int (4 : Int32))] [])) (fun t₀ k₀ => XS.iinc X285.here hx rfl (hb hby d9_32) rfl (l' := #[.val (.ref a), .val (.int t), .val (.int (1 : Int32)), .val (.int (-1 : Int32)), .val (.int (4 : Int32))]) rfl k₀) ?_
        refine own_step (T285.setTop (mkF m 5 #[.val (.ref a), .val (.int t), .val (.int (1 : Int32)), .val (.int (-1 : Int32)), .val (.int (4 : Int32))] [])) (fun t₀ k₀ => XS.goto X285.here hx rfl (pc0 := 35) (pc' := 5) rfl (hb hby d9_35) (by decide) (by decide) k₀) ?_
        refine own_step (T285.setTop (mkF m 6 #[.val (.ref a), .val (.int t), .val (.int (1 : Int32)), .val (.int (-1 : Int32)), .val (.int (4 : Int32))] [(.int (-1 : Int32))])) (fun t₀ k₀ => XS.iloadN X285.here hx rfl (hb hby d9_5) rfl k₀) ?_
        refine own_step (T285.setTop (mkF m 9 #[.val (.ref a), .val (.int t), .val (.int (1 : Int32)), .val (.int (-1 : Int32)), .val (.int (4 : Int32))] [])) (fun t₀ k₀ => XS.ifNo X285.here hx rfl (hb hby d9_6) rfl (by decide) k₀) ?_
        refine own_step (T285.setTop (mkF m 11 #[.val (.ref a), .val (.int t), .val (.int (1 : Int32)), .val (.int (-1 : Int32)), .val (.int (4 : Int32))] [(.int (4 : Int32))])) (fun t₀ k₀ => XS.iload X285.here hx rfl (hb hby d9_9) rfl k₀) ?_
        refine own_step (T285.setTop (mkF m 12 #[.val (.ref a), .val (.int t), .val (.int (1 : Int32)), .val (.int (-1 : Int32)), .val (.int (4 : Int32))] [(.ref a), (.int (4 : Int32))])) (fun t₀ k₀ => XS.aloadN X285.here hx rfl (hb hby d9_11) rfl rfl k₀) ?_
        obtain ⟨T288, X288, e288, st288⟩ := getF X285 hx hZ hown (host := "") (Or.inl (hw _ (List.mem_of_getElem? (i := 22) rfl))) Via.refl e285 Fl (g := (mkF m 12 #[.val (.ref a), .val (.int t), .val (.int (1 : Int32)), .val (.int (-1 : Int32)), .val (.int (4 : Int32))] [(.ref a), (.int (4 : Int32))])) rfl rfl (hb hby d9_12)
        refine own_step (T288.setTop (mkF m 15 #[.val (.ref a), .val (.int t), .val (.int (1 : Int32)), .val (.int (-1 : Int32)), .val (.int (4 : Int32))] [(.int (4 : Int32)), (.int (4 : Int32))])) (fun t₀ k₀ => st288 t₀ k₀) ?_
        refine own_step (T288.setTop (mkF m 38 #[.val (.ref a), .val (.int t), .val (.int (1 : Int32)), .val (.int (-1 : Int32)), .val (.int (4 : Int32))] [])) (fun t₀ k₀ => XS.icmpYes X288.here hx rfl (pc0 := 15) (pc' := 38) rfl (hb hby d9_15) rfl (by decide) (by decide) (by decide) k₀) ?_
        refine own_step (T288.setTop (mkF m 39 #[.val (.ref a), .val (.int t), .val (.int (1 : Int32)), .val (.int (-1 : Int32)), .val (.int (4 : Int32))] [(.int (-1 : Int32))])) (fun t₀ k₀ => XS.iloadN X288.here hx rfl (hb hby d9_38) rfl k₀) ?_
        obtain ⟨fs, hr, hrun, hended, hW, hsame⟩ := X288.leave (v := some (.int (-1 : Int32))) (fun h => by rw [Bd.returns] at h; cases h)
        refine ⟨_, _, ?_, hrun, hended, _, _, rfl, ?_, ⟨_, rfl⟩, hW, hsame.mono (by decide) (by decide)⟩
        · exact retI X288 hx Bd.returns (hb hby d9_39) hr
        · show Q_rm9_1_4 Z a t ba kc N b0 b1 b2 b3 h0 n0 _ T288.heap _
          rw [e288]
          exact ⟨by simp +decide [own_all, own_st, hc26, hc26_283, hc26_287], N0, rfl⟩
theorem ef_rm9_2_0 (m : MethodId) (a : Addr) (t : Int32) : entryFrame m #[(.ref a), (.int t), (.int (2 : Int32))] 5 = mkF m 0 #[.val (.ref a), .val (.int t), .val (.int (2 : Int32)), .unset, .unset] [] := by first | (simp [entryFrame, mkF, argsToLocals, Value.category]; done) | rfl
def Q_rm9_2_0 (Z : State) (a : Addr) (t : Int32) (ba : Addr) (kc : ClassId) (N : Int32) (b0 : Int32) (b1 : Int32) (b2 : Int32) (b3 : Int32) (h0 : Heap) (n0 : Nat) (v : Option Value) (h : Heap) (L : List Loc) : Prop := v = some (.int (own_all 2 0 t b0 b1 b2 b3)) ∧ Fr n0 L ∧ h = h0
set_option maxRecDepth 65536 in
set_option maxHeartbeats 40000000 in
theorem rm9_2_0 (l : Launch) (Z : State) (a0 : Array Value) (hw : ∀ d ∈ tables_1, d.before a0 Z = true) (ws : List Jvm.Cond) (a : Addr) (t : Int32) (ba : Addr) (kc : ClassId) (N : Int32) (b0 : Int32) (b1 : Int32) (b2 : Int32) (b3 : Int32) (h0 : Heap) (n0 : Nat) (Z0 : n0 ≤ h0.size) (Fb : Fld Z h0 a "com/example/notesmith/notesmith/report/LineBuffer" "bytes" "[B" (.ref ba)) (Fl : Fld Z h0 a "com/example/notesmith/notesmith/report/LineBuffer" "length" "I" (.int (0 : Int32))) (Vb : Arv Z h0 ba kc .byte N [(.int b0), (.int b1), (.int b2), (.int b3)] (.int (0 : Int32))) (hN4 : ¬ N < 4) :
    MetFree l (⟨"com/example/notesmith/notesmith/report/LineBuffer", "indexOf", "(CI)I"⟩ : MethodName) (head1 (Jvm.Cond.code (⟨"com/example/notesmith/notesmith/report/LineBuffer", "indexOf", "(CI)I"⟩ : MethodName) prog_104_method_6_code 5 (some .int) :: ws) ({ frames := 0, cells := 0, slots := 0, locals := 0 } : Room)) (fun as₉ U => as₉ = #[(.ref a), (.int t), (.int (2 : Int32))] ∧ Z.Warmed39 U.vm ∧ U.heap = h0) (fun _ _ _ _ _ => True) (fun _ U o₉ U' => ∃ v L, o₉ = .returned v ∧ Q_rm9_2_0 Z a t ba kc N b0 b1 b2 b3 h0 n0 v U'.heap L ∧ FrameEnd U o₉ U' L ({ frames := 0, cells := 0, slots := 0, locals := 0 } : Room).cells ({ frames := 0, cells := 0, slots := 0, locals := 0 } : Room).slots) := by
  refine MetFree.of_bodySF (plainFor_of_name pn_1) hisR ?_
  intro p e s m args below meth c s₁ Bd hml0 hP hK
  obtain ⟨rfl, hZ, hh⟩ := hP
  have hx := Bd.exec
  have hby := Bd.bytes
  have hml : c.maxLocals = 5 := hml0
  have hown : s.vm.findClass "com/example/notesmith/notesmith/report/LineBuffer" = some m.cls := findClass_of_methodNamed Bd.named
  have hnm := (name_of_methodNamed Bd.named Bd.method).1
  have X0 : Stand p l e ({ frames := 0, cells := 0, slots := 0, locals := 0 } : Room) s m #[(.ref a), (.int t), (.int (2 : Int32))] below meth c s₁ [] 0 0 := Stand.of_body Bd
  have e0 : s₁.heap = h0 := by rw [← hh, Bd.state]; rfl
  have N0 := Fr.nil n0
  show own_Go p e below (fun s₂ o₉ => s₂.status = .running ∧ Ended s₂ below o₉ ∧ ∃ v L, o₉ = .returned v ∧ Q_rm9_2_0 Z a t ba kc N b0 b1 b2 b3 h0 n0 v s₂.heap L ∧ FrameEnd s o₉ s₂ L ({ frames := 0, cells := 0, slots := 0, locals := 0 } : Room).cells ({ frames := 0, cells := 0, slots := 0, locals := 0 } : Room).slots) (s₁.setTop (entryFrame m #[(.ref a), (.int t), (.int (2 : Int32))] 5))
  rw [ef_rm9_2_0 m a t]
  refine own_step (s₁.setTop (mkF m 1 #[.val (.ref a), .val (.int t), .val (.int (2 : Int32)), .unset, .unset] [(.int (-1 : Int32))])) (fun t₀ k₀ => XS.iconst X0.here hx rfl (hb hby d9_0) k₀) ?_
  refine own_step (s₁.setTop (mkF m 2 #[.val (.ref a), .val (.int t), .val (.int (2 : Int32)), .val (.int (-1 : Int32)), .unset] [])) (fun t₀ k₀ => XS.istoreN X0.here hx rfl (hb hby d9_1) rfl (l' := #[.val (.ref a), .val (.int t), .val (.int (2 : Int32)), .val (.int (-1 : Int32)), .unset]) rfl k₀) ?_
  refine own_step (s₁.setTop (mkF m 3 #[.val (.ref a), .val (.int t), .val (.int (2 : Int32)), .val (.int (-1 : Int32)), .unset] [(.int (2 : Int32))])) (fun t₀ k₀ => XS.iloadN X0.here hx rfl (hb hby d9_2) rfl k₀) ?_
  refine own_step (s₁.setTop (mkF m 5 #[.val (.ref a), .val (.int t), .val (.int (2 : Int32)), .val (.int (-1 : Int32)), .val (.int (2 : Int32))] [])) (fun t₀ k₀ => XS.istore X0.here hx rfl (hb hby d9_3) rfl (l' := #[.val (.ref a), .val (.int t), .val (.int (2 : Int32)), .val (.int (-1 : Int32)), .val (.int (2 : Int32))]) rfl k₀) ?_
  refine own_step (s₁.setTop (mkF m 6 #[.val (.ref a), .val (.int t), .val (.int (2 : Int32)), .val (.int (-1 : Int32)), .val (.int (2 : Int32))] [(.int (-1 : Int32))])) (fun t₀ k₀ => XS.iloadN X0.here hx rfl (hb hby d9_5) rfl k₀) ?_
  refine own_step (s₁.setTop (mkF m 9 #[.val (.ref a), .val (.int t), .val (.int (2 : Int32)), .val (.int (-1 : Int32)), .val (.int (2 : Int32))] [])) (fun t₀ k₀ => XS.ifNo X0.here hx rfl (hb hby d9_6) rfl (by decide) k₀) ?_
  refine own_step (s₁.setTop (mkF m 11 #[.val (.ref a), .val (.int t), .val (.int (2 : Int32)), .val (.int (-1 : Int32)), .val (.int (2 : Int32))] [(.int (2 : Int32))])) (fun t₀ k₀ => XS.iload X0.here hx rfl (hb hby d9_9) rfl k₀) ?_
  refine own_step (s₁.setTop (mkF m 12 #[.val (.ref a), .val (.int t), .val (.int (2 : Int32)), .val (.int (-1 : Int32)), .val (.int (2 : Int32))] [(.ref a), (.int (2 : Int32))])) (fun t₀ k₀ => XS.aloadN X0.here hx rfl (hb hby d9_11) rfl rfl k₀) ?_
  obtain ⟨T289, X289, e289, st289⟩ := getF X0 hx hZ hown (host := "") (Or.inl (hw _ (List.mem_of_getElem? (i := 22) rfl))) Via.refl e0 Fl (g := (mkF m 12 #[.val (.ref a), .val (.int t), .val (.int (2 : Int32)), .val (.int (-1 : Int32)), .val (.int (2 : Int32))] [(.ref a), (.int (2 : Int32))])) rfl rfl (hb hby d9_12)
  refine own_step (T289.setTop (mkF m 15 #[.val (.ref a), .val (.int t), .val (.int (2 : Int32)), .val (.int (-1 : Int32)), .val (.int (2 : Int32))] [(.int (0 : Int32)), (.int (2 : Int32))])) (fun t₀ k₀ => st289 t₀ k₀) ?_
  refine own_step (T289.setTop (mkF m 38 #[.val (.ref a), .val (.int t), .val (.int (2 : Int32)), .val (.int (-1 : Int32)), .val (.int (2 : Int32))] [])) (fun t₀ k₀ => XS.icmpYes X289.here hx rfl (pc0 := 15) (pc' := 38) rfl (hb hby d9_15) rfl (by decide) (by decide) (by decide) k₀) ?_
  refine own_step (T289.setTop (mkF m 39 #[.val (.ref a), .val (.int t), .val (.int (2 : Int32)), .val (.int (-1 : Int32)), .val (.int (2 : Int32))] [(.int (-1 : Int32))])) (fun t₀ k₀ => XS.iloadN X289.here hx rfl (hb hby d9_38) rfl k₀) ?_
  obtain ⟨fs, hr, hrun, hended, hW, hsame⟩ := X289.leave (v := some (.int (-1 : Int32))) (fun h => by rw [Bd.returns] at h; cases h)
  refine ⟨_, _, ?_, hrun, hended, _, _, rfl, ?_, ⟨_, rfl⟩, hW, hsame.mono (by decide) (by decide)⟩
  · exact retI X289 hx Bd.returns (hb hby d9_39) hr
  · show Q_rm9_2_0 Z a t ba kc N b0 b1 b2 b3 h0 n0 _ T289.heap _
    rw [e289]
    exact ⟨by simp +decide [own_all, own_st], N0, rfl⟩
theorem ef_rm9_2_1 (m : MethodId) (a : Addr) (t : Int32) : entryFrame m #[(.ref a), (.int t), (.int (2 : Int32))] 5 = mkF m 0 #[.val (.ref a), .val (.int t), .val (.int (2 : Int32)), .unset, .unset] [] := by first | (simp [entryFrame, mkF, argsToLocals, Value.category]; done) | rfl
def Q_rm9_2_1 (Z : State) (a : Addr) (t : Int32) (ba : Addr) (kc : ClassId) (N : Int32) (b0 : Int32) (b1 : Int32) (b2 : Int32) (b3 : Int32) (h0 : Heap) (n0 : Nat) (v : Option Value) (h : Heap) (L : List Loc) : Prop := v = some (.int (own_all 2 1 t b0 b1 b2 b3)) ∧ Fr n0 L ∧ h = h0
set_option maxRecDepth 65536 in
set_option maxHeartbeats 40000000 in
theorem rm9_2_1 (l : Launch) (Z : State) (a0 : Array Value) (hw : ∀ d ∈ tables_1, d.before a0 Z = true) (ws : List Jvm.Cond) (a : Addr) (t : Int32) (ba : Addr) (kc : ClassId) (N : Int32) (b0 : Int32) (b1 : Int32) (b2 : Int32) (b3 : Int32) (h0 : Heap) (n0 : Nat) (Z0 : n0 ≤ h0.size) (Fb : Fld Z h0 a "com/example/notesmith/notesmith/report/LineBuffer" "bytes" "[B" (.ref ba)) (Fl : Fld Z h0 a "com/example/notesmith/notesmith/report/LineBuffer" "length" "I" (.int (1 : Int32))) (Vb : Arv Z h0 ba kc .byte N [(.int b0), (.int b1), (.int b2), (.int b3)] (.int (0 : Int32))) (hN4 : ¬ N < 4) :
    MetFree l (⟨"com/example/notesmith/notesmith/report/LineBuffer", "indexOf", "(CI)I"⟩ : MethodName) (head1 (Jvm.Cond.code (⟨"com/example/notesmith/notesmith/report/LineBuffer", "indexOf", "(CI)I"⟩ : MethodName) prog_104_method_6_code 5 (some .int) :: ws) ({ frames := 0, cells := 0, slots := 0, locals := 0 } : Room)) (fun as₉ U => as₉ = #[(.ref a), (.int t), (.int (2 : Int32))] ∧ Z.Warmed39 U.vm ∧ U.heap = h0) (fun _ _ _ _ _ => True) (fun _ U o₉ U' => ∃ v L, o₉ = .returned v ∧ Q_rm9_2_1 Z a t ba kc N b0 b1 b2 b3 h0 n0 v U'.heap L ∧ FrameEnd U o₉ U' L ({ frames := 0, cells := 0, slots := 0, locals := 0 } : Room).cells ({ frames := 0, cells := 0, slots := 0, locals := 0 } : Room).slots) := by
  refine MetFree.of_bodySF (plainFor_of_name pn_1) hisR ?_
  intro p e s m args below meth c s₁ Bd hml0 hP hK
  obtain ⟨rfl, hZ, hh⟩ := hP
  have hx := Bd.exec
  have hby := Bd.bytes
  have hml : c.maxLocals = 5 := hml0
  have hown : s.vm.findClass "com/example/notesmith/notesmith/report/LineBuffer" = some m.cls := findClass_of_methodNamed Bd.named
  have hnm := (name_of_methodNamed Bd.named Bd.method).1
  have X0 : Stand p l e ({ frames := 0, cells := 0, slots := 0, locals := 0 } : Room) s m #[(.ref a), (.int t), (.int (2 : Int32))] below meth c s₁ [] 0 0 := Stand.of_body Bd
  have e0 : s₁.heap = h0 := by rw [← hh, Bd.state]; rfl
  have N0 := Fr.nil n0
  show own_Go p e below (fun s₂ o₉ => s₂.status = .running ∧ Ended s₂ below o₉ ∧ ∃ v L, o₉ = .returned v ∧ Q_rm9_2_1 Z a t ba kc N b0 b1 b2 b3 h0 n0 v s₂.heap L ∧ FrameEnd s o₉ s₂ L ({ frames := 0, cells := 0, slots := 0, locals := 0 } : Room).cells ({ frames := 0, cells := 0, slots := 0, locals := 0 } : Room).slots) (s₁.setTop (entryFrame m #[(.ref a), (.int t), (.int (2 : Int32))] 5))
  rw [ef_rm9_2_1 m a t]
  refine own_step (s₁.setTop (mkF m 1 #[.val (.ref a), .val (.int t), .val (.int (2 : Int32)), .unset, .unset] [(.int (-1 : Int32))])) (fun t₀ k₀ => XS.iconst X0.here hx rfl (hb hby d9_0) k₀) ?_
  refine own_step (s₁.setTop (mkF m 2 #[.val (.ref a), .val (.int t), .val (.int (2 : Int32)), .val (.int (-1 : Int32)), .unset] [])) (fun t₀ k₀ => XS.istoreN X0.here hx rfl (hb hby d9_1) rfl (l' := #[.val (.ref a), .val (.int t), .val (.int (2 : Int32)), .val (.int (-1 : Int32)), .unset]) rfl k₀) ?_
  refine own_step (s₁.setTop (mkF m 3 #[.val (.ref a), .val (.int t), .val (.int (2 : Int32)), .val (.int (-1 : Int32)), .unset] [(.int (2 : Int32))])) (fun t₀ k₀ => XS.iloadN X0.here hx rfl (hb hby d9_2) rfl k₀) ?_
  refine own_step (s₁.setTop (mkF m 5 #[.val (.ref a), .val (.int t), .val (.int (2 : Int32)), .val (.int (-1 : Int32)), .val (.int (2 : Int32))] [])) (fun t₀ k₀ => XS.istore X0.here hx rfl (hb hby d9_3) rfl (l' := #[.val (.ref a), .val (.int t), .val (.int (2 : Int32)), .val (.int (-1 : Int32)), .val (.int (2 : Int32))]) rfl k₀) ?_
  refine own_step (s₁.setTop (mkF m 6 #[.val (.ref a), .val (.int t), .val (.int (2 : Int32)), .val (.int (-1 : Int32)), .val (.int (2 : Int32))] [(.int (-1 : Int32))])) (fun t₀ k₀ => XS.iloadN X0.here hx rfl (hb hby d9_5) rfl k₀) ?_
  refine own_step (s₁.setTop (mkF m 9 #[.val (.ref a), .val (.int t), .val (.int (2 : Int32)), .val (.int (-1 : Int32)), .val (.int (2 : Int32))] [])) (fun t₀ k₀ => XS.ifNo X0.here hx rfl (hb hby d9_6) rfl (by decide) k₀) ?_
  refine own_step (s₁.setTop (mkF m 11 #[.val (.ref a), .val (.int t), .val (.int (2 : Int32)), .val (.int (-1 : Int32)), .val (.int (2 : Int32))] [(.int (2 : Int32))])) (fun t₀ k₀ => XS.iload X0.here hx rfl (hb hby d9_9) rfl k₀) ?_
  refine own_step (s₁.setTop (mkF m 12 #[.val (.ref a), .val (.int t), .val (.int (2 : Int32)), .val (.int (-1 : Int32)), .val (.int (2 : Int32))] [(.ref a), (.int (2 : Int32))])) (fun t₀ k₀ => XS.aloadN X0.here hx rfl (hb hby d9_11) rfl rfl k₀) ?_
  obtain ⟨T290, X290, e290, st290⟩ := getF X0 hx hZ hown (host := "") (Or.inl (hw _ (List.mem_of_getElem? (i := 22) rfl))) Via.refl e0 Fl (g := (mkF m 12 #[.val (.ref a), .val (.int t), .val (.int (2 : Int32)), .val (.int (-1 : Int32)), .val (.int (2 : Int32))] [(.ref a), (.int (2 : Int32))])) rfl rfl (hb hby d9_12)
  refine own_step (T290.setTop (mkF m 15 #[.val (.ref a), .val (.int t), .val (.int (2 : Int32)), .val (.int (-1 : Int32)), .val (.int (2 : Int32))] [(.int (1 : Int32)), (.int (2 : Int32))])) (fun t₀ k₀ => st290 t₀ k₀) ?_
  refine own_step (T290.setTop (mkF m 38 #[.val (.ref a), .val (.int t), .val (.int (2 : Int32)), .val (.int (-1 : Int32)), .val (.int (2 : Int32))] [])) (fun t₀ k₀ => XS.icmpYes X290.here hx rfl (pc0 := 15) (pc' := 38) rfl (hb hby d9_15) rfl (by decide) (by decide) (by decide) k₀) ?_
  refine own_step (T290.setTop (mkF m 39 #[.val (.ref a), .val (.int t), .val (.int (2 : Int32)), .val (.int (-1 : Int32)), .val (.int (2 : Int32))] [(.int (-1 : Int32))])) (fun t₀ k₀ => XS.iloadN X290.here hx rfl (hb hby d9_38) rfl k₀) ?_
  obtain ⟨fs, hr, hrun, hended, hW, hsame⟩ := X290.leave (v := some (.int (-1 : Int32))) (fun h => by rw [Bd.returns] at h; cases h)
  refine ⟨_, _, ?_, hrun, hended, _, _, rfl, ?_, ⟨_, rfl⟩, hW, hsame.mono (by decide) (by decide)⟩
  · exact retI X290 hx Bd.returns (hb hby d9_39) hr
  · show Q_rm9_2_1 Z a t ba kc N b0 b1 b2 b3 h0 n0 _ T290.heap _
    rw [e290]
    exact ⟨by simp +decide [own_all, own_st], N0, rfl⟩
theorem ef_rm9_2_2 (m : MethodId) (a : Addr) (t : Int32) : entryFrame m #[(.ref a), (.int t), (.int (2 : Int32))] 5 = mkF m 0 #[.val (.ref a), .val (.int t), .val (.int (2 : Int32)), .unset, .unset] [] := by first | (simp [entryFrame, mkF, argsToLocals, Value.category]; done) | rfl
def Q_rm9_2_2 (Z : State) (a : Addr) (t : Int32) (ba : Addr) (kc : ClassId) (N : Int32) (b0 : Int32) (b1 : Int32) (b2 : Int32) (b3 : Int32) (h0 : Heap) (n0 : Nat) (v : Option Value) (h : Heap) (L : List Loc) : Prop := v = some (.int (own_all 2 2 t b0 b1 b2 b3)) ∧ Fr n0 L ∧ h = h0
set_option maxRecDepth 65536 in
set_option maxHeartbeats 40000000 in
theorem rm9_2_2 (l : Launch) (Z : State) (a0 : Array Value) (hw : ∀ d ∈ tables_1, d.before a0 Z = true) (ws : List Jvm.Cond) (a : Addr) (t : Int32) (ba : Addr) (kc : ClassId) (N : Int32) (b0 : Int32) (b1 : Int32) (b2 : Int32) (b3 : Int32) (h0 : Heap) (n0 : Nat) (Z0 : n0 ≤ h0.size) (Fb : Fld Z h0 a "com/example/notesmith/notesmith/report/LineBuffer" "bytes" "[B" (.ref ba)) (Fl : Fld Z h0 a "com/example/notesmith/notesmith/report/LineBuffer" "length" "I" (.int (2 : Int32))) (Vb : Arv Z h0 ba kc .byte N [(.int b0), (.int b1), (.int b2), (.int b3)] (.int (0 : Int32))) (hN4 : ¬ N < 4) :
    MetFree l (⟨"com/example/notesmith/notesmith/report/LineBuffer", "indexOf", "(CI)I"⟩ : MethodName) (head1 (Jvm.Cond.code (⟨"com/example/notesmith/notesmith/report/LineBuffer", "indexOf", "(CI)I"⟩ : MethodName) prog_104_method_6_code 5 (some .int) :: ws) ({ frames := 0, cells := 0, slots := 0, locals := 0 } : Room)) (fun as₉ U => as₉ = #[(.ref a), (.int t), (.int (2 : Int32))] ∧ Z.Warmed39 U.vm ∧ U.heap = h0) (fun _ _ _ _ _ => True) (fun _ U o₉ U' => ∃ v L, o₉ = .returned v ∧ Q_rm9_2_2 Z a t ba kc N b0 b1 b2 b3 h0 n0 v U'.heap L ∧ FrameEnd U o₉ U' L ({ frames := 0, cells := 0, slots := 0, locals := 0 } : Room).cells ({ frames := 0, cells := 0, slots := 0, locals := 0 } : Room).slots) := by
  refine MetFree.of_bodySF (plainFor_of_name pn_1) hisR ?_
  intro p e s m args below meth c s₁ Bd hml0 hP hK
  obtain ⟨rfl, hZ, hh⟩ := hP
  have hx := Bd.exec
  have hby := Bd.bytes
  have hml : c.maxLocals = 5 := hml0
  have hown : s.vm.findClass "com/example/notesmith/notesmith/report/LineBuffer" = some m.cls := findClass_of_methodNamed Bd.named
  have hnm := (name_of_methodNamed Bd.named Bd.method).1
  have X0 : Stand p l e ({ frames := 0, cells := 0, slots := 0, locals := 0 } : Room) s m #[(.ref a), (.int t), (.int (2 : Int32))] below meth c s₁ [] 0 0 := Stand.of_body Bd
  have e0 : s₁.heap = h0 := by rw [← hh, Bd.state]; rfl
  have N0 := Fr.nil n0
  show own_Go p e below (fun s₂ o₉ => s₂.status = .running ∧ Ended s₂ below o₉ ∧ ∃ v L, o₉ = .returned v ∧ Q_rm9_2_2 Z a t ba kc N b0 b1 b2 b3 h0 n0 v s₂.heap L ∧ FrameEnd s o₉ s₂ L ({ frames := 0, cells := 0, slots := 0, locals := 0 } : Room).cells ({ frames := 0, cells := 0, slots := 0, locals := 0 } : Room).slots) (s₁.setTop (entryFrame m #[(.ref a), (.int t), (.int (2 : Int32))] 5))
  rw [ef_rm9_2_2 m a t]
  refine own_step (s₁.setTop (mkF m 1 #[.val (.ref a), .val (.int t), .val (.int (2 : Int32)), .unset, .unset] [(.int (-1 : Int32))])) (fun t₀ k₀ => XS.iconst X0.here hx rfl (hb hby d9_0) k₀) ?_
  refine own_step (s₁.setTop (mkF m 2 #[.val (.ref a), .val (.int t), .val (.int (2 : Int32)), .val (.int (-1 : Int32)), .unset] [])) (fun t₀ k₀ => XS.istoreN X0.here hx rfl (hb hby d9_1) rfl (l' := #[.val (.ref a), .val (.int t), .val (.int (2 : Int32)), .val (.int (-1 : Int32)), .unset]) rfl k₀) ?_
  refine own_step (s₁.setTop (mkF m 3 #[.val (.ref a), .val (.int t), .val (.int (2 : Int32)), .val (.int (-1 : Int32)), .unset] [(.int (2 : Int32))])) (fun t₀ k₀ => XS.iloadN X0.here hx rfl (hb hby d9_2) rfl k₀) ?_
  refine own_step (s₁.setTop (mkF m 5 #[.val (.ref a), .val (.int t), .val (.int (2 : Int32)), .val (.int (-1 : Int32)), .val (.int (2 : Int32))] [])) (fun t₀ k₀ => XS.istore X0.here hx rfl (hb hby d9_3) rfl (l' := #[.val (.ref a), .val (.int t), .val (.int (2 : Int32)), .val (.int (-1 : Int32)), .val (.int (2 : Int32))]) rfl k₀) ?_
  refine own_step (s₁.setTop (mkF m 6 #[.val (.ref a), .val (.int t), .val (.int (2 : Int32)), .val (.int (-1 : Int32)), .val (.int (2 : Int32))] [(.int (-1 : Int32))])) (fun t₀ k₀ => XS.iloadN X0.here hx rfl (hb hby d9_5) rfl k₀) ?_
  refine own_step (s₁.setTop (mkF m 9 #[.val (.ref a), .val (.int t), .val (.int (2 : Int32)), .val (.int (-1 : Int32)), .val (.int (2 : Int32))] [])) (fun t₀ k₀ => XS.ifNo X0.here hx rfl (hb hby d9_6) rfl (by decide) k₀) ?_
  refine own_step (s₁.setTop (mkF m 11 #[.val (.ref a), .val (.int t), .val (.int (2 : Int32)), .val (.int (-1 : Int32)), .val (.int (2 : Int32))] [(.int (2 : Int32))])) (fun t₀ k₀ => XS.iload X0.here hx rfl (hb hby d9_9) rfl k₀) ?_
  refine own_step (s₁.setTop (mkF m 12 #[.val (.ref a), .val (.int t), .val (.int (2 : Int32)), .val (.int (-1 : Int32)), .val (.int (2 : Int32))] [(.ref a), (.int (2 : Int32))])) (fun t₀ k₀ => XS.aloadN X0.here hx rfl (hb hby d9_11) rfl rfl k₀) ?_
  obtain ⟨T291, X291, e291, st291⟩ := getF X0 hx hZ hown (host := "") (Or.inl (hw _ (List.mem_of_getElem? (i := 22) rfl))) Via.refl e0 Fl (g := (mkF m 12 #[.val (.ref a), .val (.int t), .val (.int (2 : Int32)), .val (.int (-1 : Int32)), .val (.int (2 : Int32))] [(.ref a), (.int (2 : Int32))])) rfl rfl (hb hby d9_12)
  refine own_step (T291.setTop (mkF m 15 #[.val (.ref a), .val (.int t), .val (.int (2 : Int32)), .val (.int (-1 : Int32)), .val (.int (2 : Int32))] [(.int (2 : Int32)), (.int (2 : Int32))])) (fun t₀ k₀ => st291 t₀ k₀) ?_
  refine own_step (T291.setTop (mkF m 38 #[.val (.ref a), .val (.int t), .val (.int (2 : Int32)), .val (.int (-1 : Int32)), .val (.int (2 : Int32))] [])) (fun t₀ k₀ => XS.icmpYes X291.here hx rfl (pc0 := 15) (pc' := 38) rfl (hb hby d9_15) rfl (by decide) (by decide) (by decide) k₀) ?_
  refine own_step (T291.setTop (mkF m 39 #[.val (.ref a), .val (.int t), .val (.int (2 : Int32)), .val (.int (-1 : Int32)), .val (.int (2 : Int32))] [(.int (-1 : Int32))])) (fun t₀ k₀ => XS.iloadN X291.here hx rfl (hb hby d9_38) rfl k₀) ?_
  obtain ⟨fs, hr, hrun, hended, hW, hsame⟩ := X291.leave (v := some (.int (-1 : Int32))) (fun h => by rw [Bd.returns] at h; cases h)
  refine ⟨_, _, ?_, hrun, hended, _, _, rfl, ?_, ⟨_, rfl⟩, hW, hsame.mono (by decide) (by decide)⟩
  · exact retI X291 hx Bd.returns (hb hby d9_39) hr
  · show Q_rm9_2_2 Z a t ba kc N b0 b1 b2 b3 h0 n0 _ T291.heap _
    rw [e291]
    exact ⟨by simp +decide [own_all, own_st], N0, rfl⟩
theorem ef_rm9_2_3 (m : MethodId) (a : Addr) (t : Int32) : entryFrame m #[(.ref a), (.int t), (.int (2 : Int32))] 5 = mkF m 0 #[.val (.ref a), .val (.int t), .val (.int (2 : Int32)), .unset, .unset] [] := by first | (simp [entryFrame, mkF, argsToLocals, Value.category]; done) | rfl
def Q_rm9_2_3 (Z : State) (a : Addr) (t : Int32) (ba : Addr) (kc : ClassId) (N : Int32) (b0 : Int32) (b1 : Int32) (b2 : Int32) (b3 : Int32) (h0 : Heap) (n0 : Nat) (v : Option Value) (h : Heap) (L : List Loc) : Prop := v = some (.int (own_all 2 3 t b0 b1 b2 b3)) ∧ Fr n0 L ∧ h = h0
set_option maxRecDepth 65536 in
set_option maxHeartbeats 40000000 in
theorem rm9_2_3 (l : Launch) (Z : State) (a0 : Array Value) (hw : ∀ d ∈ tables_1, d.before a0 Z = true) (ws : List Jvm.Cond) (a : Addr) (t : Int32) (ba : Addr) (kc : ClassId) (N : Int32) (b0 : Int32) (b1 : Int32) (b2 : Int32) (b3 : Int32) (h0 : Heap) (n0 : Nat) (Z0 : n0 ≤ h0.size) (Fb : Fld Z h0 a "com/example/notesmith/notesmith/report/LineBuffer" "bytes" "[B" (.ref ba)) (Fl : Fld Z h0 a "com/example/notesmith/notesmith/report/LineBuffer" "length" "I" (.int (3 : Int32))) (Vb : Arv Z h0 ba kc .byte N [(.int b0), (.int b1), (.int b2), (.int b3)] (.int (0 : Int32))) (hN4 : ¬ N < 4) :
    MetFree l (⟨"com/example/notesmith/notesmith/report/LineBuffer", "indexOf", "(CI)I"⟩ : MethodName) (head1 (Jvm.Cond.code (⟨"com/example/notesmith/notesmith/report/LineBuffer", "indexOf", "(CI)I"⟩ : MethodName) prog_104_method_6_code 5 (some .int) :: ws) ({ frames := 0, cells := 0, slots := 0, locals := 0 } : Room)) (fun as₉ U => as₉ = #[(.ref a), (.int t), (.int (2 : Int32))] ∧ Z.Warmed39 U.vm ∧ U.heap = h0) (fun _ _ _ _ _ => True) (fun _ U o₉ U' => ∃ v L, o₉ = .returned v ∧ Q_rm9_2_3 Z a t ba kc N b0 b1 b2 b3 h0 n0 v U'.heap L ∧ FrameEnd U o₉ U' L ({ frames := 0, cells := 0, slots := 0, locals := 0 } : Room).cells ({ frames := 0, cells := 0, slots := 0, locals := 0 } : Room).slots) := by
  refine MetFree.of_bodySF (plainFor_of_name pn_1) hisR ?_
  intro p e s m args below meth c s₁ Bd hml0 hP hK
  obtain ⟨rfl, hZ, hh⟩ := hP
  have hx := Bd.exec
  have hby := Bd.bytes
  have hml : c.maxLocals = 5 := hml0
  have hown : s.vm.findClass "com/example/notesmith/notesmith/report/LineBuffer" = some m.cls := findClass_of_methodNamed Bd.named
  have hnm := (name_of_methodNamed Bd.named Bd.method).1
  have X0 : Stand p l e ({ frames := 0, cells := 0, slots := 0, locals := 0 } : Room) s m #[(.ref a), (.int t), (.int (2 : Int32))] below meth c s₁ [] 0 0 := Stand.of_body Bd
  have e0 : s₁.heap = h0 := by rw [← hh, Bd.state]; rfl
  have N0 := Fr.nil n0
  show own_Go p e below (fun s₂ o₉ => s₂.status = .running ∧ Ended s₂ below o₉ ∧ ∃ v L, o₉ = .returned v ∧ Q_rm9_2_3 Z a t ba kc N b0 b1 b2 b3 h0 n0 v s₂.heap L ∧ FrameEnd s o₉ s₂ L ({ frames := 0, cells := 0, slots := 0, locals := 0 } : Room).cells ({ frames := 0, cells := 0, slots := 0, locals := 0 } : Room).slots) (s₁.setTop (entryFrame m #[(.ref a), (.int t), (.int (2 : Int32))] 5))
  rw [ef_rm9_2_3 m a t]
  refine own_step (s₁.setTop (mkF m 1 #[.val (.ref a), .val (.int t), .val (.int (2 : Int32)), .unset, .unset] [(.int (-1 : Int32))])) (fun t₀ k₀ => XS.iconst X0.here hx rfl (hb hby d9_0) k₀) ?_
  refine own_step (s₁.setTop (mkF m 2 #[.val (.ref a), .val (.int t), .val (.int (2 : Int32)), .val (.int (-1 : Int32)), .unset] [])) (fun t₀ k₀ => XS.istoreN X0.here hx rfl (hb hby d9_1) rfl (l' := #[.val (.ref a), .val (.int t), .val (.int (2 : Int32)), .val (.int (-1 : Int32)), .unset]) rfl k₀) ?_
  refine own_step (s₁.setTop (mkF m 3 #[.val (.ref a), .val (.int t), .val (.int (2 : Int32)), .val (.int (-1 : Int32)), .unset] [(.int (2 : Int32))])) (fun t₀ k₀ => XS.iloadN X0.here hx rfl (hb hby d9_2) rfl k₀) ?_
  refine own_step (s₁.setTop (mkF m 5 #[.val (.ref a), .val (.int t), .val (.int (2 : Int32)), .val (.int (-1 : Int32)), .val (.int (2 : Int32))] [])) (fun t₀ k₀ => XS.istore X0.here hx rfl (hb hby d9_3) rfl (l' := #[.val (.ref a), .val (.int t), .val (.int (2 : Int32)), .val (.int (-1 : Int32)), .val (.int (2 : Int32))]) rfl k₀) ?_
  refine own_step (s₁.setTop (mkF m 6 #[.val (.ref a), .val (.int t), .val (.int (2 : Int32)), .val (.int (-1 : Int32)), .val (.int (2 : Int32))] [(.int (-1 : Int32))])) (fun t₀ k₀ => XS.iloadN X0.here hx rfl (hb hby d9_5) rfl k₀) ?_
  refine own_step (s₁.setTop (mkF m 9 #[.val (.ref a), .val (.int t), .val (.int (2 : Int32)), .val (.int (-1 : Int32)), .val (.int (2 : Int32))] [])) (fun t₀ k₀ => XS.ifNo X0.here hx rfl (hb hby d9_6) rfl (by decide) k₀) ?_
  refine own_step (s₁.setTop (mkF m 11 #[.val (.ref a), .val (.int t), .val (.int (2 : Int32)), .val (.int (-1 : Int32)), .val (.int (2 : Int32))] [(.int (2 : Int32))])) (fun t₀ k₀ => XS.iload X0.here hx rfl (hb hby d9_9) rfl k₀) ?_
  refine own_step (s₁.setTop (mkF m 12 #[.val (.ref a), .val (.int t), .val (.int (2 : Int32)), .val (.int (-1 : Int32)), .val (.int (2 : Int32))] [(.ref a), (.int (2 : Int32))])) (fun t₀ k₀ => XS.aloadN X0.here hx rfl (hb hby d9_11) rfl rfl k₀) ?_
  obtain ⟨T292, X292, e292, st292⟩ := getF X0 hx hZ hown (host := "") (Or.inl (hw _ (List.mem_of_getElem? (i := 22) rfl))) Via.refl e0 Fl (g := (mkF m 12 #[.val (.ref a), .val (.int t), .val (.int (2 : Int32)), .val (.int (-1 : Int32)), .val (.int (2 : Int32))] [(.ref a), (.int (2 : Int32))])) rfl rfl (hb hby d9_12)
  refine own_step (T292.setTop (mkF m 15 #[.val (.ref a), .val (.int t), .val (.int (2 : Int32)), .val (.int (-1 : Int32)), .val (.int (2 : Int32))] [(.int (3 : Int32)), (.int (2 : Int32))])) (fun t₀ k₀ => st292 t₀ k₀) ?_
  refine own_step (T292.setTop (mkF m 18 #[.val (.ref a), .val (.int t), .val (.int (2 : Int32)), .val (.int (-1 : Int32)), .val (.int (2 : Int32))] [])) (fun t₀ k₀ => XS.icmpNo X292.here hx rfl (hb hby d9_15) rfl (by decide) k₀) ?_
  refine own_step (T292.setTop (mkF m 19 #[.val (.ref a), .val (.int t), .val (.int (2 : Int32)), .val (.int (-1 : Int32)), .val (.int (2 : Int32))] [(.ref a)])) (fun t₀ k₀ => XS.aloadN X292.here hx rfl (hb hby d9_18) rfl rfl k₀) ?_
  obtain ⟨T293, X293, e293, st293⟩ := getF X292 hx hZ hown (host := "") (Or.inl (hw _ (List.mem_of_getElem? (i := 11) rfl))) Via.refl e292 Fb (g := (mkF m 19 #[.val (.ref a), .val (.int t), .val (.int (2 : Int32)), .val (.int (-1 : Int32)), .val (.int (2 : Int32))] [(.ref a)])) rfl rfl (hb hby d9_19)
  refine own_step (T293.setTop (mkF m 22 #[.val (.ref a), .val (.int t), .val (.int (2 : Int32)), .val (.int (-1 : Int32)), .val (.int (2 : Int32))] [(.ref ba)])) (fun t₀ k₀ => st293 t₀ k₀) ?_
  refine own_step (T293.setTop (mkF m 24 #[.val (.ref a), .val (.int t), .val (.int (2 : Int32)), .val (.int (-1 : Int32)), .val (.int (2 : Int32))] [(.int (2 : Int32)), (.ref ba)])) (fun t₀ k₀ => XS.iload X293.here hx rfl (hb hby d9_22) rfl k₀) ?_
  obtain ⟨clo294, Aro294, qo294, So294, Mo294, Ho294, Go294⟩ := id Vb
  have hino294 : ¬ ((2 : Int32) < 0 ∨ clo294.slots.size ≤ ((2 : Int32)).toNatClampNeg) := inb_of So294 ⟨by decide, own_ltk hN4 (by decide)⟩
  have hato294 : clo294.slots[((2 : Int32)).toNatClampNeg]? = some (.int b2) := Has.at Ho294 hino294 rfl
  refine own_step (T293.setTop (mkF m 25 #[.val (.ref a), .val (.int t), .val (.int (2 : Int32)), .val (.int (-1 : Int32)), .val (.int (2 : Int32))] [(.int b2)])) (fun t₀ k₀ => X293.baloadBytes hx (j := (2 : Int32)) (v := (.int b2)) (by rw [e293]; exact Aro294.1) (State.isArrayOf_alike hZ.alike Aro294.2.1) Aro294.2.2 hino294 hato294 (g := (mkF m 24 #[.val (.ref a), .val (.int t), .val (.int (2 : Int32)), .val (.int (-1 : Int32)), .val (.int (2 : Int32))] [(.int (2 : Int32)), (.ref ba)])) rfl rfl (hb hby d9_24) _ k₀) ?_
  refine own_step (T293.setTop (mkF m 26 #[.val (.ref a), .val (.int t), .val (.int (2 : Int32)), .val (.int (-1 : Int32)), .val (.int (2 : Int32))] [(.int t), (.int b2)])) (fun t₀ k₀ => XS.iloadN X293.here hx rfl (hb hby d9_25) rfl k₀) ?_
  by_cases hc26 : b2 = t
  · skip
    refine own_step (T293.setTop (mkF m 29 #[.val (.ref a), .val (.int t), .val (.int (2 : Int32)), .val (.int (-1 : Int32)), .val (.int (2 : Int32))] [])) (fun t₀ k₀ => XS.icmpNo X293.here hx rfl (hb hby d9_26) rfl (teq hc26).2 k₀) ?_
    refine own_step (T293.setTop (mkF m 31 #[.val (.ref a), .val (.int t), .val (.int (2 : Int32)), .val (.int (-1 : Int32)), .val (.int (2 : Int32))] [(.int (2 : Int32))])) (fun t₀ k₀ => XS.iload X293.here hx rfl (hb hby d9_29) rfl k₀) ?_
    refine own_step (T293.setTop (mkF m 32 #[.val (.ref a), .val (.int t), .val (.int (2 : Int32)), .val (.int (2 : Int32)), .val (.int (2 : Int32))] [])) (fun t₀ k₀ => XS.istoreN X293.here hx rfl (hb hby d9_31) rfl (l' := #[.val (.ref a), .val (.int t), .val (.int (2 : Int32)), .val (.int (2 : Int32)), .val (.int (2 : Int32))]) rfl k₀) ?_
    refine own_step (T293.setTop (mkF m 35 #[.val (.ref a), .val (.int t), .val (.int (2 : Int32)), .val (.int (2 : Int32)), .val (.int (3 : Int32))] [])) (fun t₀ k₀ => XS.iinc X293.here hx rfl (hb hby d9_32) rfl (l' := #[.val (.ref a), .val (.int t), .val (.int (2 : Int32)), .val (.int (2 : Int32)), .val (.int (3 : Int32))]) rfl k₀) ?_
    refine own_step (T293.setTop (mkF m 5 #[.val (.ref a), .val (.int t), .val (.int (2 : Int32)), .val (.int (2 : Int32)), .val (.int (3 : Int32))] [])) (fun t₀ k₀ => XS.goto X293.here hx rfl (pc0 := 35) (pc' := 5) rfl (hb hby d9_35) (by decide) (by decide) k₀) ?_
    refine own_step (T293.setTop (mkF m 6 #[.val (.ref a), .val (.int t), .val (.int (2 : Int32)), .val (.int (2 : Int32)), .val (.int (3 : Int32))] [(.int (2 : Int32))])) (fun t₀ k₀ => XS.iloadN X293.here hx rfl (hb hby d9_5) rfl k₀) ?_
    refine own_step (T293.setTop (mkF m 38 #[.val (.ref a), .val (.int t), .val (.int (2 : Int32)), .val (.int (2 : Int32)), .val (.int (3 : Int32))] [])) (fun t₀ k₀ => XS.ifYes X293.here hx rfl (pc0 := 6) (pc' := 38) rfl (hb hby d9_6) rfl (by decide) (by decide) (by decide) k₀) ?_
    refine own_step (T293.setTop (mkF m 39 #[.val (.ref a), .val (.int t), .val (.int (2 : Int32)), .val (.int (2 : Int32)), .val (.int (3 : Int32))] [(.int (2 : Int32))])) (fun t₀ k₀ => XS.iloadN X293.here hx rfl (hb hby d9_38) rfl k₀) ?_
    obtain ⟨fs, hr, hrun, hended, hW, hsame⟩ := X293.leave (v := some (.int (2 : Int32))) (fun h => by rw [Bd.returns] at h; cases h)
    refine ⟨_, _, ?_, hrun, hended, _, _, rfl, ?_, ⟨_, rfl⟩, hW, hsame.mono (by decide) (by decide)⟩
    · exact retI X293 hx Bd.returns (hb hby d9_39) hr
    · show Q_rm9_2_3 Z a t ba kc N b0 b1 b2 b3 h0 n0 _ T293.heap _
      rw [e293]
      exact ⟨by simp +decide [own_all, own_st, hc26], N0, rfl⟩
  · skip
    refine own_step (T293.setTop (mkF m 32 #[.val (.ref a), .val (.int t), .val (.int (2 : Int32)), .val (.int (-1 : Int32)), .val (.int (2 : Int32))] [])) (fun t₀ k₀ => XS.icmpYes X293.here hx rfl (pc0 := 26) (pc' := 32) rfl (hb hby d9_26) rfl (feq hc26).2 (by decide) (by decide) k₀) ?_
    refine own_step (T293.setTop (mkF m 35 #[.val (.ref a), .val (.int t), .val (.int (2 : Int32)), .val (.int (-1 : Int32)), .val (.int (3 : Int32))] [])) (fun t₀ k₀ => XS.iinc X293.here hx rfl (hb hby d9_32) rfl (l' := #[.val (.ref a), .val (.int t), .val (.int (2 : Int32)), .val (.int (-1 : Int32)), .val (.int (3 : Int32))]) rfl k₀) ?_
    refine own_step (T293.setTop (mkF m 5 #[.val (.ref a), .val (.int t), .val (.int (2 : Int32)), .val (.int (-1 : Int32)), .val (.int (3 : Int32))] [])) (fun t₀ k₀ => XS.goto X293.here hx rfl (pc0 := 35) (pc' := 5) rfl (hb hby d9_35) (by decide) (by decide) k₀) ?_
    refine own_step (T293.setTop (mkF m 6 #[.val (.ref a), .val (.int t), .val (.int (2 : Int32)), .val (.int (-1 : Int32)), .val (.int (3 : Int32))] [(.int (-1 : Int32))])) (fun t₀ k₀ => XS.iloadN X293.here hx rfl (hb hby d9_5) rfl k₀) ?_
    refine own_step (T293.setTop (mkF m 9 #[.val (.ref a), .val (.int t), .val (.int (2 : Int32)), .val (.int (-1 : Int32)), .val (.int (3 : Int32))] [])) (fun t₀ k₀ => XS.ifNo X293.here hx rfl (hb hby d9_6) rfl (by decide) k₀) ?_
    refine own_step (T293.setTop (mkF m 11 #[.val (.ref a), .val (.int t), .val (.int (2 : Int32)), .val (.int (-1 : Int32)), .val (.int (3 : Int32))] [(.int (3 : Int32))])) (fun t₀ k₀ => XS.iload X293.here hx rfl (hb hby d9_9) rfl k₀) ?_
    refine own_step (T293.setTop (mkF m 12 #[.val (.ref a), .val (.int t), .val (.int (2 : Int32)), .val (.int (-1 : Int32)), .val (.int (3 : Int32))] [(.ref a), (.int (3 : Int32))])) (fun t₀ k₀ => XS.aloadN X293.here hx rfl (hb hby d9_11) rfl rfl k₀) ?_
    obtain ⟨T295, X295, e295, st295⟩ := getF X293 hx hZ hown (host := "") (Or.inl (hw _ (List.mem_of_getElem? (i := 22) rfl))) Via.refl e293 Fl (g := (mkF m 12 #[.val (.ref a), .val (.int t), .val (.int (2 : Int32)), .val (.int (-1 : Int32)), .val (.int (3 : Int32))] [(.ref a), (.int (3 : Int32))])) rfl rfl (hb hby d9_12)
    refine own_step (T295.setTop (mkF m 15 #[.val (.ref a), .val (.int t), .val (.int (2 : Int32)), .val (.int (-1 : Int32)), .val (.int (3 : Int32))] [(.int (3 : Int32)), (.int (3 : Int32))])) (fun t₀ k₀ => st295 t₀ k₀) ?_
    refine own_step (T295.setTop (mkF m 38 #[.val (.ref a), .val (.int t), .val (.int (2 : Int32)), .val (.int (-1 : Int32)), .val (.int (3 : Int32))] [])) (fun t₀ k₀ => XS.icmpYes X295.here hx rfl (pc0 := 15) (pc' := 38) rfl (hb hby d9_15) rfl (by decide) (by decide) (by decide) k₀) ?_
    refine own_step (T295.setTop (mkF m 39 #[.val (.ref a), .val (.int t), .val (.int (2 : Int32)), .val (.int (-1 : Int32)), .val (.int (3 : Int32))] [(.int (-1 : Int32))])) (fun t₀ k₀ => XS.iloadN X295.here hx rfl (hb hby d9_38) rfl k₀) ?_
    obtain ⟨fs, hr, hrun, hended, hW, hsame⟩ := X295.leave (v := some (.int (-1 : Int32))) (fun h => by rw [Bd.returns] at h; cases h)
    refine ⟨_, _, ?_, hrun, hended, _, _, rfl, ?_, ⟨_, rfl⟩, hW, hsame.mono (by decide) (by decide)⟩
    · exact retI X295 hx Bd.returns (hb hby d9_39) hr
    · show Q_rm9_2_3 Z a t ba kc N b0 b1 b2 b3 h0 n0 _ T295.heap _
      rw [e295]
      exact ⟨by simp +decide [own_all, own_st, hc26], N0, rfl⟩
theorem ef_rm9_2_4 (m : MethodId) (a : Addr) (t : Int32) : entryFrame m #[(.ref a), (.int t), (.int (2 : Int32))] 5 = mkF m 0 #[.val (.ref a), .val (.int t), .val (.int (2 : Int32)), .unset, .unset] [] := by first | (simp [entryFrame, mkF, argsToLocals, Value.category]; done) | rfl
def Q_rm9_2_4 (Z : State) (a : Addr) (t : Int32) (ba : Addr) (kc : ClassId) (N : Int32) (b0 : Int32) (b1 : Int32) (b2 : Int32) (b3 : Int32) (h0 : Heap) (n0 : Nat) (v : Option Value) (h : Heap) (L : List Loc) : Prop := v = some (.int (own_all 2 4 t b0 b1 b2 b3)) ∧ Fr n0 L ∧ h = h0
set_option maxRecDepth 65536 in
set_option maxHeartbeats 40000000 in
theorem rm9_2_4 (l : Launch) (Z : State) (a0 : Array Value) (hw : ∀ d ∈ tables_1, d.before a0 Z = true) (ws : List Jvm.Cond) (a : Addr) (t : Int32) (ba : Addr) (kc : ClassId) (N : Int32) (b0 : Int32) (b1 : Int32) (b2 : Int32) (b3 : Int32) (h0 : Heap) (n0 : Nat) (Z0 : n0 ≤ h0.size) (Fb : Fld Z h0 a "com/example/notesmith/notesmith/report/LineBuffer" "bytes" "[B" (.ref ba)) (Fl : Fld Z h0 a "com/example/notesmith/notesmith/report/LineBuffer" "length" "I" (.int (4 : Int32))) (Vb : Arv Z h0 ba kc .byte N [(.int b0), (.int b1), (.int b2), (.int b3)] (.int (0 : Int32))) (hN4 : ¬ N < 4) :
    MetFree l (⟨"com/example/notesmith/notesmith/report/LineBuffer", "indexOf", "(CI)I"⟩ : MethodName) (head1 (Jvm.Cond.code (⟨"com/example/notesmith/notesmith/report/LineBuffer", "indexOf", "(CI)I"⟩ : MethodName) prog_104_method_6_code 5 (some .int) :: ws) ({ frames := 0, cells := 0, slots := 0, locals := 0 } : Room)) (fun as₉ U => as₉ = #[(.ref a), (.int t), (.int (2 : Int32))] ∧ Z.Warmed39 U.vm ∧ U.heap = h0) (fun _ _ _ _ _ => True) (fun _ U o₉ U' => ∃ v L, o₉ = .returned v ∧ Q_rm9_2_4 Z a t ba kc N b0 b1 b2 b3 h0 n0 v U'.heap L ∧ FrameEnd U o₉ U' L ({ frames := 0, cells := 0, slots := 0, locals := 0 } : Room).cells ({ frames := 0, cells := 0, slots := 0, locals := 0 } : Room).slots) := by
  refine MetFree.of_bodySF (plainFor_of_name pn_1) hisR ?_
  intro p e s m args below meth c s₁ Bd hml0 hP hK
  obtain ⟨rfl, hZ, hh⟩ := hP
  have hx := Bd.exec
  have hby := Bd.bytes
  have hml : c.maxLocals = 5 := hml0
  have hown : s.vm.findClass "com/example/notesmith/notesmith/report/LineBuffer" = some m.cls := findClass_of_methodNamed Bd.named
  have hnm := (name_of_methodNamed Bd.named Bd.method).1
  have X0 : Stand p l e ({ frames := 0, cells := 0, slots := 0, locals := 0 } : Room) s m #[(.ref a), (.int t), (.int (2 : Int32))] below meth c s₁ [] 0 0 := Stand.of_body Bd
  have e0 : s₁.heap = h0 := by rw [← hh, Bd.state]; rfl
  have N0 := Fr.nil n0
  show own_Go p e below (fun s₂ o₉ => s₂.status = .running ∧ Ended s₂ below o₉ ∧ ∃ v L, o₉ = .returned v ∧ Q_rm9_2_4 Z a t ba kc N b0 b1 b2 b3 h0 n0 v s₂.heap L ∧ FrameEnd s o₉ s₂ L ({ frames := 0, cells := 0, slots := 0, locals := 0 } : Room).cells ({ frames := 0, cells := 0, slots := 0, locals := 0 } : Room).slots) (s₁.setTop (entryFrame m #[(.ref a), (.int t), (.int (2 : Int32))] 5))
  rw [ef_rm9_2_4 m a t]
  refine own_step (s₁.setTop (mkF m 1 #[.val (.ref a), .val (.int t), .val (.int (2 : Int32)), .unset, .unset] [(.int (-1 : Int32))])) (fun t₀ k₀ => XS.iconst X0.here hx rfl (hb hby d9_0) k₀) ?_
  refine own_step (s₁.setTop (mkF m 2 #[.val (.ref a), .val (.int t), .val (.int (2 : Int32)), .val (.int (-1 : Int32)), .unset] [])) (fun t₀ k₀ => XS.istoreN X0.here hx rfl (hb hby d9_1) rfl (l' := #[.val (.ref a), .val (.int t), .val (.int (2 : Int32)), .val (.int (-1 : Int32)), .unset]) rfl k₀) ?_
  refine own_step (s₁.setTop (mkF m 3 #[.val (.ref a), .val (.int t), .val (.int (2 : Int32)), .val (.int (-1 : Int32)), .unset] [(.int (2 : Int32))])) (fun t₀ k₀ => XS.iloadN X0.here hx rfl (hb hby d9_2) rfl k₀) ?_
  refine own_step (s₁.setTop (mkF m 5 #[.val (.ref a), .val (.int t), .val (.int (2 : Int32)), .val (.int (-1 : Int32)), .val (.int (2 : Int32))] [])) (fun t₀ k₀ => XS.istore X0.here hx rfl (hb hby d9_3) rfl (l' := #[.val (.ref a), .val (.int t), .val (.int (2 : Int32)), .val (.int (-1 : Int32)), .val (.int (2 : Int32))]) rfl k₀) ?_
  refine own_step (s₁.setTop (mkF m 6 #[.val (.ref a), .val (.int t), .val (.int (2 : Int32)), .val (.int (-1 : Int32)), .val (.int (2 : Int32))] [(.int (-1 : Int32))])) (fun t₀ k₀ => XS.iloadN X0.here hx rfl (hb hby d9_5) rfl k₀) ?_
  refine own_step (s₁.setTop (mkF m 9 #[.val (.ref a), .val (.int t), .val (.int (2 : Int32)), .val (.int (-1 : Int32)), .val (.int (2 : Int32))] [])) (fun t₀ k₀ => XS.ifNo X0.here hx rfl (hb hby d9_6) rfl (by decide) k₀) ?_
  refine own_step (s₁.setTop (mkF m 11 #[.val (.ref a), .val (.int t), .val (.int (2 : Int32)), .val (.int (-1 : Int32)), .val (.int (2 : Int32))] [(.int (2 : Int32))])) (fun t₀ k₀ => XS.iload X0.here hx rfl (hb hby d9_9) rfl k₀) ?_
  refine own_step (s₁.setTop (mkF m 12 #[.val (.ref a), .val (.int t), .val (.int (2 : Int32)), .val (.int (-1 : Int32)), .val (.int (2 : Int32))] [(.ref a), (.int (2 : Int32))])) (fun t₀ k₀ => XS.aloadN X0.here hx rfl (hb hby d9_11) rfl rfl k₀) ?_
  obtain ⟨T296, X296, e296, st296⟩ := getF X0 hx hZ hown (host := "") (Or.inl (hw _ (List.mem_of_getElem? (i := 22) rfl))) Via.refl e0 Fl (g := (mkF m 12 #[.val (.ref a), .val (.int t), .val (.int (2 : Int32)), .val (.int (-1 : Int32)), .val (.int (2 : Int32))] [(.ref a), (.int (2 : Int32))])) rfl rfl (hb hby d9_12)
  refine own_step (T296.setTop (mkF m 15 #[.val (.ref a), .val (.int t), .val (.int (2 : Int32)), .val (.int (-1 : Int32)), .val (.int (2 : Int32))] [(.int (4 : Int32)), (.int (2 : Int32))])) (fun t₀ k₀ => st296 t₀ k₀) ?_
  refine own_step (T296.setTop (mkF m 18 #[.val (.ref a), .val (.int t), .val (.int (2 : Int32)), .val (.int (-1 : Int32)), .val (.int (2 : Int32))] [])) (fun t₀ k₀ => XS.icmpNo X296.here hx rfl (hb hby d9_15) rfl (by decide) k₀) ?_
  refine own_step (T296.setTop (mkF m 19 #[.val (.ref a), .val (.int t), .val (.int (2 : Int32)), .val (.int (-1 : Int32)), .val (.int (2 : Int32))] [(.ref a)])) (fun t₀ k₀ => XS.aloadN X296.here hx rfl (hb hby d9_18) rfl rfl k₀) ?_
  obtain ⟨T297, X297, e297, st297⟩ := getF X296 hx hZ hown (host := "") (Or.inl (hw _ (List.mem_of_getElem? (i := 11) rfl))) Via.refl e296 Fb (g := (mkF m 19 #[.val (.ref a), .val (.int t), .val (.int (2 : Int32)), .val (.int (-1 : Int32)), .val (.int (2 : Int32))] [(.ref a)])) rfl rfl (hb hby d9_19)
  refine own_step (T297.setTop (mkF m 22 #[.val (.ref a), .val (.int t), .val (.int (2 : Int32)), .val (.int (-1 : Int32)), .val (.int (2 : Int32))] [(.ref ba)])) (fun t₀ k₀ => st297 t₀ k₀) ?_
  refine own_step (T297.setTop (mkF m 24 #[.val (.ref a), .val (.int t), .val (.int (2 : Int32)), .val (.int (-1 : Int32)), .val (.int (2 : Int32))] [(.int (2 : Int32)), (.ref ba)])) (fun t₀ k₀ => XS.iload X297.here hx rfl (hb hby d9_22) rfl k₀) ?_
  obtain ⟨clo298, Aro298, qo298, So298, Mo298, Ho298, Go298⟩ := id Vb
  have hino298 : ¬ ((2 : Int32) < 0 ∨ clo298.slots.size ≤ ((2 : Int32)).toNatClampNeg) := inb_of So298 ⟨by decide, own_ltk hN4 (by decide)⟩
  have hato298 : clo298.slots[((2 : Int32)).toNatClampNeg]? = some (.int b2) := Has.at Ho298 hino298 rfl
  refine own_step (T297.setTop (mkF m 25 #[.val (.ref a), .val (.int t), .val (.int (2 : Int32)), .val (.int (-1 : Int32)), .val (.int (2 : Int32))] [(.int b2)])) (fun t₀ k₀ => X297.baloadBytes hx (j := (2 : Int32)) (v := (.int b2)) (by rw [e297]; exact Aro298.1) (State.isArrayOf_alike hZ.alike Aro298.2.1) Aro298.2.2 hino298 hato298 (g := (mkF m 24 #[.val (.ref a), .val (.int t), .val (.int (2 : Int32)), .val (.int (-1 : Int32)), .val (.int (2 : Int32))] [(.int (2 : Int32)), (.ref ba)])) rfl rfl (hb hby d9_24) _ k₀) ?_
  refine own_step (T297.setTop (mkF m 26 #[.val (.ref a), .val (.int t), .val (.int (2 : Int32)), .val (.int (-1 : Int32)), .val (.int (2 : Int32))] [(.int t), (.int b2)])) (fun t₀ k₀ => XS.iloadN X297.here hx rfl (hb hby d9_25) rfl k₀) ?_
  by_cases hc26 : b2 = t
  · skip
    refine own_step (T297.setTop (mkF m 29 #[.val (.ref a), .val (.int t), .val (.int (2 : Int32)), .val (.int (-1 : Int32)), .val (.int (2 : Int32))] [])) (fun t₀ k₀ => XS.icmpNo X297.here hx rfl (hb hby d9_26) rfl (teq hc26).2 k₀) ?_
    refine own_step (T297.setTop (mkF m 31 #[.val (.ref a), .val (.int t), .val (.int (2 : Int32)), .val (.int (-1 : Int32)), .val (.int (2 : Int32))] [(.int (2 : Int32))])) (fun t₀ k₀ => XS.iload X297.here hx rfl (hb hby d9_29) rfl k₀) ?_
    refine own_step (T297.setTop (mkF m 32 #[.val (.ref a), .val (.int t), .val (.int (2 : Int32)), .val (.int (2 : Int32)), .val (.int (2 : Int32))] [])) (fun t₀ k₀ => XS.istoreN X297.here hx rfl (hb hby d9_31) rfl (l' := #[.val (.ref a), .val (.int t), .val (.int (2 : Int32)), .val (.int (2 : Int32)), .val (.int (2 : Int32))]) rfl k₀) ?_
    refine own_step (T297.setTop (mkF m 35 #[.val (.ref a), .val (.int t), .val (.int (2 : Int32)), .val (.int (2 : Int32)), .val (.int (3 : Int32))] [])) (fun t₀ k₀ => XS.iinc X297.here hx rfl (hb hby d9_32) rfl (l' := #[.val (.ref a), .val (.int t), .val (.int (2 : Int32)), .val (.int (2 : Int32)), .val (.int (3 : Int32))]) rfl k₀) ?_
    refine own_step (T297.setTop (mkF m 5 #[.val (.ref a), .val (.int t), .val (.int (2 : Int32)), .val (.int (2 : Int32)), .val (.int (3 : Int32))] [])) (fun t₀ k₀ => XS.goto X297.here hx rfl (pc0 := 35) (pc' := 5) rfl (hb hby d9_35) (by decide) (by decide) k₀) ?_
    refine own_step (T297.setTop (mkF m 6 #[.val (.ref a), .val (.int t), .val (.int (2 : Int32)), .val (.int (2 : Int32)), .val (.int (3 : Int32))] [(.int (2 : Int32))])) (fun t₀ k₀ => XS.iloadN X297.here hx rfl (hb hby d9_5) rfl k₀) ?_
    refine own_step (T297.setTop (mkF m 38 #[.val (.ref a), .val (.int t), .val (.int (2 : Int32)), .val (.int (2 : Int32)), .val (.int (3 : Int32))] [])) (fun t₀ k₀ => XS.ifYes X297.here hx rfl (pc0 := 6) (pc' := 38) rfl (hb hby d9_6) rfl (by decide) (by decide) (by decide) k₀) ?_
    refine own_step (T297.setTop (mkF m 39 #[.val (.ref a), .val (.int t), .val (.int (2 : Int32)), .val (.int (2 : Int32)), .val (.int (3 : Int32))] [(.int (2 : Int32))])) (fun t₀ k₀ => XS.iloadN X297.here hx rfl (hb hby d9_38) rfl k₀) ?_
    obtain ⟨fs, hr, hrun, hended, hW, hsame⟩ := X297.leave (v := some (.int (2 : Int32))) (fun h => by rw [Bd.returns] at h; cases h)
    refine ⟨_, _, ?_, hrun, hended, _, _, rfl, ?_, ⟨_, rfl⟩, hW, hsame.mono (by decide) (by decide)⟩
    · exact retI X297 hx Bd.returns (hb hby d9_39) hr
    · show Q_rm9_2_4 Z a t ba kc N b0 b1 b2 b3 h0 n0 _ T297.heap _
      rw [e297]
      exact ⟨by simp +decide [own_all, own_st, hc26], N0, rfl⟩
  · skip
    refine own_step (T297.setTop (mkF m 32 #[.val (.ref a), .val (.int t), .val (.int (2 : Int32)), .val (.int (-1 : Int32)), .val (.int (2 : Int32))] [])) (fun t₀ k₀ => XS.icmpYes X297.here hx rfl (pc0 := 26) (pc' := 32) rfl (hb hby d9_26) rfl (feq hc26).2 (by decide) (by decide) k₀) ?_
    refine own_step (T297.setTop (mkF m 35 #[.val (.ref a), .val (.int t), .val (.int (2 : Int32)), .val (.int (-1 : Int32)), .val (.int (3 : Int32))] [])) (fun t₀ k₀ => XS.iinc X297.here hx rfl (hb hby d9_32) rfl (l' := #[.val (.ref a), .val (.int t), .val (.int (2 : Int32)), .val (.int (-1 : Int32)), .val (.int (3 : Int32))]) rfl k₀) ?_
    refine own_step (T297.setTop (mkF m 5 #[.val (.ref a), .val (.int t), .val (.int (2 : Int32)), .val (.int (-1 : Int32)), .val (.int (3 : Int32))] [])) (fun t₀ k₀ => XS.goto X297.here hx rfl (pc0 := 35) (pc' := 5) rfl (hb hby d9_35) (by decide) (by decide) k₀) ?_
    refine own_step (T297.setTop (mkF m 6 #[.val (.ref a), .val (.int t), .val (.int (2 : Int32)), .val (.int (-1 : Int32)), .val (.int (3 : Int32))] [(.int (-1 : Int32))])) (fun t₀ k₀ => XS.iloadN X297.here hx rfl (hb hby d9_5) rfl k₀) ?_
    refine own_step (T297.setTop (mkF m 9 #[.val (.ref a), .val (.int t), .val (.int (2 : Int32)), .val (.int (-1 : Int32)), .val (.int (3 : Int32))] [])) (fun t₀ k₀ => XS.ifNo X297.here hx rfl (hb hby d9_6) rfl (by decide) k₀) ?_
    refine own_step (T297.setTop (mkF m 11 #[.val (.ref a), .val (.int t), .val (.int (2 : Int32)), .val (.int (-1 : Int32)), .val (.int (3 : Int32))] [(.int (3 : Int32))])) (fun t₀ k₀ => XS.iload X297.here hx rfl (hb hby d9_9) rfl k₀) ?_
    refine own_step (T297.setTop (mkF m 12 #[.val (.ref a), .val (.int t), .val (.int (2 : Int32)), .val (.int (-1 : Int32)), .val (.int (3 : Int32))] [(.ref a), (.int (3 : Int32))])) (fun t₀ k₀ => XS.aloadN X297.here hx rfl (hb hby d9_11) rfl rfl k₀) ?_
    obtain ⟨T299, X299, e299, st299⟩ := getF X297 hx hZ hown (host := "") (Or.inl (hw _ (List.mem_of_getElem? (i := 22) rfl))) Via.refl e297 Fl (g := (mkF m 12 #[.val (.ref a), .val (.int t), .val (.int (2 : Int32)), .val (.int (-1 : Int32)), .val (.int (3 : Int32))] [(.ref a), (.int (3 : Int32))])) rfl rfl (hb hby d9_12)
    refine own_step (T299.setTop (mkF m 15 #[.val (.ref a), .val (.int t), .val (.int (2 : Int32)), .val (.int (-1 : Int32)), .val (.int (3 : Int32))] [(.int (4 : Int32)), (.int (3 : Int32))])) (fun t₀ k₀ => st299 t₀ k₀) ?_
    refine own_step (T299.setTop (mkF m 18 #[.val (.ref a), .val (.int t), .val (.int (2 : Int32)), .val (.int (-1 : Int32)), .val (.int (3 : Int32))] [])) (fun t₀ k₀ => XS.icmpNo X299.here hx rfl (hb hby d9_15) rfl (by decide) k₀) ?_
    refine own_step (T299.setTop (mkF m 19 #[.val (.ref a), .val (.int t), .val (.int (2 : Int32)), .val (.int (-1 : Int32)), .val (.int (3 : Int32))] [(.ref a)])) (fun t₀ k₀ => XS.aloadN X299.here hx rfl (hb hby d9_18) rfl rfl k₀) ?_
    obtain ⟨T300, X300, e300, st300⟩ := getF X299 hx hZ hown (host := "") (Or.inl (hw _ (List.mem_of_getElem? (i := 11) rfl))) Via.refl e299 Fb (g := (mkF m 19 #[.val (.ref a), .val (.int t), .val (.int (2 : Int32)), .val (.int (-1 : Int32)), .val (.int (3 : Int32))] [(.ref a)])) rfl rfl (hb hby d9_19)
    refine own_step (T300.setTop (mkF m 22 #[.val (.ref a), .val (.int t), .val (.int (2 : Int32)), .val (.int (-1 : Int32)), .val (.int (3 : Int32))] [(.ref ba)])) (fun t₀ k₀ => st300 t₀ k₀) ?_
    refine own_step (T300.setTop (mkF m 24 #[.val (.ref a), .val (.int t), .val (.int (2 : Int32)), .val (.int (-1 : Int32)), .val (.int (3 : Int32))] [(.int (3 : Int32)), (.ref ba)])) (fun t₀ k₀ => XS.iload X300.here hx rfl (hb hby d9_22) rfl k₀) ?_
    obtain ⟨clo301, Aro301, qo301, So301, Mo301, Ho301, Go301⟩ := id Vb
    have hino301 : ¬ ((3 : Int32) < 0 ∨ clo301.slots.size ≤ ((3 : Int32)).toNatClampNeg) := inb_of So301 ⟨by decide, own_ltk hN4 (by decide)⟩
    have hato301 : clo301.slots[((3 : Int32)).toNatClampNeg]? = some (.int b3) := Has.at Ho301 hino301 rfl
    refine own_step (T300.setTop (mkF m 25 #[.val (.ref a), .val (.int t), .val (.int (2 : Int32)), .val (.int (-1 : Int32)), .val (.int (3 : Int32))] [(.int b3)])) (fun t₀ k₀ => X300.baloadBytes hx (j := (3 : Int32)) (v := (.int b3)) (by rw [e300]; exact Aro301.1) (State.isArrayOf_alike hZ.alike Aro301.2.1) Aro301.2.2 hino301 hato301 (g := (mkF m 24 #[.val (.ref a), .val (.int t), .val (.int (2 : Int32)), .val (.int (-1 : Int32)), .val (.int (3 : Int32))] [(.int (3 : Int32)), (.ref ba)])) rfl rfl (hb hby d9_24) _ k₀) ?_
    refine own_step (T300.setTop (mkF m 26 #[.val (.ref a), .val (.int t), .val (.int (2 : Int32)), .val (.int (-1 : Int32)), .val (.int (3 : Int32))] [(.int t), (.int b3)])) (fun t₀ k₀ => XS.iloadN X300.here hx rfl (hb hby d9_25) rfl k₀) ?_
    by_cases hc26_302 : b3 = t
    · skip
      refine own_step (T300.setTop (mkF m 29 #[.val (.ref a), .val (.int t), .val (.int (2 : Int32)), .val (.int (-1 : Int32)), .val (.int (3 : Int32))] [])) (fun t₀ k₀ => XS.icmpNo X300.here hx rfl (hb hby d9_26) rfl (teq hc26_302).2 k₀) ?_
      refine own_step (T300.setTop (mkF m 31 #[.val (.ref a), .val (.int t), .val (.int (2 : Int32)), .val (.int (-1 : Int32)), .val (.int (3 : Int32))] [(.int (3 : Int32))])) (fun t₀ k₀ => XS.iload X300.here hx rfl (hb hby d9_29) rfl k₀) ?_
      refine own_step (T300.setTop (mkF m 32 #[.val (.ref a), .val (.int t), .val (.int (2 : Int32)), .val (.int (3 : Int32)), .val (.int (3 : Int32))] [])) (fun t₀ k₀ => XS.istoreN X300.here hx rfl (hb hby d9_31) rfl (l' := #[.val (.ref a), .val (.int t), .val (.int (2 : Int32)), .val (.int (3 : Int32)), .val (.int (3 : Int32))]) rfl k₀) ?_
      refine own_step (T300.setTop (mkF m 35 #[.val (.ref a), .val (.int t), .val (.int (2 : Int32)), .val (.int (3 : Int32)), .val (.int (4 : Int32))] [])) (fun t₀ k₀ => XS.iinc X300.here hx rfl (hb hby d9_32) rfl (l' := #[.val (.ref a), .val (.int t), .val (.int (2 : Int32)), .val (.int (3 : Int32)), .val (.int (4 : Int32))]) rfl k₀) ?_
      refine own_step (T300.setTop (mkF m 5 #[.val (.ref a), .val (.int t), .val (.int (2 : Int32)), .val (.int (3 : Int32)), .val (.int (4 : Int32))] [])) (fun t₀ k₀ => XS.goto X300.here hx rfl (pc0 := 35) (pc' := 5) rfl (hb hby d9_35) (by decide) (by decide) k₀) ?_
      refine own_step (T300.setTop (mkF m 6 #[.val (.ref a), .val (.int t), .val (.int (2 : Int32)), .val (.int (3 : Int32)), .val (.int (4 : Int32))] [(.int (3 : Int32))])) (fun t₀ k₀ => XS.iloadN X300.here hx rfl (hb hby d9_5) rfl k₀) ?_
      refine own_step (T300.setTop (mkF m 38 #[.val (.ref a), .val (.int t), .val (.int (2 : Int32)), .val (.int (3 : Int32)), .val (.int (4 : Int32))] [])) (fun t₀ k₀ => XS.ifYes X300.here hx rfl (pc0 := 6) (pc' := 38) rfl (hb hby d9_6) rfl (by decide) (by decide) (by decide) k₀) ?_
      refine own_step (T300.setTop (mkF m 39 #[.val (.ref a), .val (.int t), .val (.int (2 : Int32)), .val (.int (3 : Int32)), .val (.int (4 : Int32))] [(.int (3 : Int32))])) (fun t₀ k₀ => XS.iloadN X300.here hx rfl (hb hby d9_38) rfl k₀) ?_
      obtain ⟨fs, hr, hrun, hended, hW, hsame⟩ := X300.leave (v := some (.int (3 : Int32))) (fun h => by rw [Bd.returns] at h; cases h)
      refine ⟨_, _, ?_, hrun, hended, _, _, rfl, ?_, ⟨_, rfl⟩, hW, hsame.mono (by decide) (by decide)⟩
      · exact retI X300 hx Bd.returns (hb hby d9_39) hr
      · show Q_rm9_2_4 Z a t ba kc N b0 b1 b2 b3 h0 n0 _ T300.heap _
        rw [e300]
        exact ⟨by simp +decide [own_all, own_st, hc26, hc26_302], N0, rfl⟩
    · skip
      refine own_step (T300.setTop (mkF m 32 #[.val (.ref a), .val (.int t), .val (.int (2 : Int32)), .val (.int (-1 : Int32)), .val (.int (3 : Int32))] [])) (fun t₀ k₀ => XS.icmpYes X300.here hx rfl (pc0 := 26) (pc' := 32) rfl (hb hby d9_26) rfl (feq hc26_302).2 (by decide) (by decide) k₀) ?_
      refine own_step (T300.setTop (mkF m 35 #[.val (.ref a), .val (.int t), .val (.int (2 : Int32)), .val (.int (-1 : Int32)), .val (.int (4 : Int32))] [])) (fun t₀ k₀ => XS.iinc X300.here hx rfl (hb hby d9_32) rfl (l' := #[.val (.ref a), .val (.int t), .val (.int (2 : Int32)), .val (.int (-1 : Int32)), .val (.int (4 : Int32))]) rfl k₀) ?_
      refine own_step (T300.setTop (mkF m 5 #[.val (.ref a), .val (.int t), .val (.int (2 : Int32)), .val (.int (-1 : Int32)), .val (.int (4 : Int32))] [])) (fun t₀ k₀ => XS.goto X300.here hx rfl (pc0 := 35) (pc' := 5) rfl (hb hby d9_35) (by decide) (by decide) k₀) ?_
      refine own_step (T300.setTop (mkF m 6 #[.val (.ref a), .val (.int t), .val (.int (2 : Int32)), .val (.int (-1 : Int32)), .val (.int (4 : Int32))] [(.int (-1 : Int32))])) (fun t₀ k₀ => XS.iloadN X300.here hx rfl (hb hby d9_5) rfl k₀) ?_
      refine own_step (T300.setTop (mkF m 9 #[.val (.ref a), .val (.int t), .val (.int (2 : Int32)), .val (.int (-1 : Int32)), .val (.int (4 : Int32))] [])) (fun t₀ k₀ => XS.ifNo X300.here hx rfl (hb hby d9_6) rfl (by decide) k₀) ?_
      refine own_step (T300.setTop (mkF m 11 #[.val (.ref a), .val (.int t), .val (.int (2 : Int32)), .val (.int (-1 : Int32)), .val (.int (4 : Int32))] [(.int (4 : Int32))])) (fun t₀ k₀ => XS.iload X300.here hx rfl (hb hby d9_9) rfl k₀) ?_
      refine own_step (T300.setTop (mkF m 12 #[.val (.ref a), .val (.int t), .val (.int (2 : Int32)), .val (.int (-1 : Int32)), .val (.int (4 : Int32))] [(.ref a), (.int (4 : Int32))])) (fun t₀ k₀ => XS.aloadN X300.here hx rfl (hb hby d9_11) rfl rfl k₀) ?_
      obtain ⟨T303, X303, e303, st303⟩ := getF X300 hx hZ hown (host := "") (Or.inl (hw _ (List.mem_of_getElem? (i := 22) rfl))) Via.refl e300 Fl (g := (mkF m 12 #[.val (.ref a), .val (.int t), .val (.int (2 : Int32)), .val (.int (-1 : Int32)), .val (.int (4 : Int32))] [(.ref a), (.int (4 : Int32))])) rfl rfl (hb hby d9_12)
      refine own_step (T303.setTop (mkF m 15 #[.val (.ref a), .val (.int t), .val (.int (2 : Int32)), .val (.int (-1 : Int32)), .val (.int (4 : Int32))] [(.int (4 : Int32)), (.int (4 : Int32))])) (fun t₀ k₀ => st303 t₀ k₀) ?_
      refine own_step (T303.setTop (mkF m 38 #[.val (.ref a), .val (.int t), .val (.int (2 : Int32)), .val (.int (-1 : Int32)), .val (.int (4 : Int32))] [])) (fun t₀ k₀ => XS.icmpYes X303.here hx rfl (pc0 := 15) (pc' := 38) rfl (hb hby d9_15) rfl (by decide) (by decide) (by decide) k₀) ?_
      refine own_step (T303.setTop (mkF m 39 #[.val (.ref a), .val (.int t), .val (.int (2 : Int32)), .val (.int (-1 : Int32)), .val (.int (4 : Int32))] [(.int (-1 : Int32))])) (fun t₀ k₀ => XS.iloadN X303.here hx rfl (hb hby d9_38) rfl k₀) ?_
      obtain ⟨fs, hr, hrun, hended, hW, hsame⟩ := X303.leave (v := some (.int (-1 : Int32))) (fun h => by rw [Bd.returns] at h; cases h)
      refine ⟨_, _, ?_, hrun, hended, _, _, rfl, ?_, ⟨_, rfl⟩, hW, hsame.mono (by decide) (by decide)⟩
      · exact retI X303 hx Bd.returns (hb hby d9_39) hr
      · show Q_rm9_2_4 Z a t ba kc N b0 b1 b2 b3 h0 n0 _ T303.heap _
        rw [e303]
        exact ⟨by simp +decide [own_all, own_st, hc26, hc26_302], N0, rfl⟩
theorem ef_rm9_3_0 (m : MethodId) (a : Addr) (t : Int32) : entryFrame m #[(.ref a), (.int t), (.int (3 : Int32))] 5 = mkF m 0 #[.val (.ref a), .val (.int t), .val (.int (3 : Int32)), .unset, .unset] [] := by first | (simp [entryFrame, mkF, argsToLocals, Value.category]; done) | rfl
def Q_rm9_3_0 (Z : State) (a : Addr) (t : Int32) (ba : Addr) (kc : ClassId) (N : Int32) (b0 : Int32) (b1 : Int32) (b2 : Int32) (b3 : Int32) (h0 : Heap) (n0 : Nat) (v : Option Value) (h : Heap) (L : List Loc) : Prop := v = some (.int (own_all 3 0 t b0 b1 b2 b3)) ∧ Fr n0 L ∧ h = h0
set_option maxRecDepth 65536 in
set_option maxHeartbeats 40000000 in
theorem rm9_3_0 (l : Launch) (Z : State) (a0 : Array Value) (hw : ∀ d ∈ tables_1, d.before a0 Z = true) (ws : List Jvm.Cond) (a : Addr) (t : Int32) (ba : Addr) (kc : ClassId) (N : Int32) (b0 : Int32) (b1 : Int32) (b2 : Int32) (b3 : Int32) (h0 : Heap) (n0 : Nat) (Z0 : n0 ≤ h0.size) (Fb : Fld Z h0 a "com/example/notesmith/notesmith/report/LineBuffer" "bytes" "[B" (.ref ba)) (Fl : Fld Z h0 a "com/example/notesmith/notesmith/report/LineBuffer" "length" "I" (.int (0 : Int32))) (Vb : Arv Z h0 ba kc .byte N [(.int b0), (.int b1), (.int b2), (.int b3)] (.int (0 : Int32))) (hN4 : ¬ N < 4) :
    MetFree l (⟨"com/example/notesmith/notesmith/report/LineBuffer", "indexOf", "(CI)I"⟩ : MethodName) (head1 (Jvm.Cond.code (⟨"com/example/notesmith/notesmith/report/LineBuffer", "indexOf", "(CI)I"⟩ : MethodName) prog_104_method_6_code 5 (some .int) :: ws) ({ frames := 0, cells := 0, slots := 0, locals := 0 } : Room)) (fun as₉ U => as₉ = #[(.ref a), (.int t), (.int (3 : Int32))] ∧ Z.Warmed39 U.vm ∧ U.heap = h0) (fun _ _ _ _ _ => True) (fun _ U o₉ U' => ∃ v L, o₉ = .returned v ∧ Q_rm9_3_0 Z a t ba kc N b0 b1 b2 b3 h0 n0 v U'.heap L ∧ FrameEnd U o₉ U' L ({ frames := 0, cells := 0, slots := 0, locals := 0 } : Room).cells ({ frames := 0, cells := 0, slots := 0, locals := 0 } : Room).slots) := by
  refine MetFree.of_bodySF (plainFor_of_name pn_1) hisR ?_
  intro p e s m args below meth c s₁ Bd hml0 hP hK
  obtain ⟨rfl, hZ, hh⟩ := hP
  have hx := Bd.exec
  have hby := Bd.bytes
  have hml : c.maxLocals = 5 := hml0
  have hown : s.vm.findClass "com/example/notesmith/notesmith/report/LineBuffer" = some m.cls := findClass_of_methodNamed Bd.named
  have hnm := (name_of_methodNamed Bd.named Bd.method).1
  have X0 : Stand p l e ({ frames := 0, cells := 0, slots := 0, locals := 0 } : Room) s m #[(.ref a), (.int t), (.int (3 : Int32))] below meth c s₁ [] 0 0 := Stand.of_body Bd
  have e0 : s₁.heap = h0 := by rw [← hh, Bd.state]; rfl
  have N0 := Fr.nil n0
  show own_Go p e below (fun s₂ o₉ => s₂.status = .running ∧ Ended s₂ below o₉ ∧ ∃ v L, o₉ = .returned v ∧ Q_rm9_3_0 Z a t ba kc N b0 b1 b2 b3 h0 n0 v s₂.heap L ∧ FrameEnd s o₉ s₂ L ({ frames := 0, cells := 0, slots := 0, locals := 0 } : Room).cells ({ frames := 0, cells := 0, slots := 0, locals := 0 } : Room).slots) (s₁.setTop (entryFrame m #[(.ref a), (.int t), (.int (3 : Int32))] 5))
  rw [ef_rm9_3_0 m a t]
  refine own_step (s₁.setTop (mkF m 1 #[.val (.ref a), .val (.int t), .val (.int (3 : Int32)), .unset, .unset] [(.int (-1 : Int32))])) (fun t₀ k₀ => XS.iconst X0.here hx rfl (hb hby d9_0) k₀) ?_
  refine own_step (s₁.setTop (mkF m 2 #[.val (.ref a), .val (.int t), .val (.int (3 : Int32)), .val (.int (-1 : Int32)), .unset] [])) (fun t₀ k₀ => XS.istoreN X0.here hx rfl (hb hby d9_1) rfl (l' := #[.val (.ref a), .val (.int t), .val (.int (3 : Int32)), .val (.int (-1 : Int32)), .unset]) rfl k₀) ?_
  refine own_step (s₁.setTop (mkF m 3 #[.val (.ref a), .val (.int t), .val (.int (3 : Int32)), .val (.int (-1 : Int32)), .unset] [(.int (3 : Int32))])) (fun t₀ k₀ => XS.iloadN X0.here hx rfl (hb hby d9_2) rfl k₀) ?_
  refine own_step (s₁.setTop (mkF m 5 #[.val (.ref a), .val (.int t), .val (.int (3 : Int32)), .val (.int (-1 : Int32)), .val (.int (3 : Int32))] [])) (fun t₀ k₀ => XS.istore X0.here hx rfl (hb hby d9_3) rfl (l' := #[.val (.ref a), .val (.int t), .val (.int (3 : Int32)), .val (.int (-1 : Int32)), .val (.int (3 : Int32))]) rfl k₀) ?_
  refine own_step (s₁.setTop (mkF m 6 #[.val (.ref a), .val (.int t), .val (.int (3 : Int32)), .val (.int (-1 : Int32)), .val (.int (3 : Int32))] [(.int (-1 : Int32))])) (fun t₀ k₀ => XS.iloadN X0.here hx rfl (hb hby d9_5) rfl k₀) ?_
  refine own_step (s₁.setTop (mkF m 9 #[.val (.ref a), .val (.int t), .val (.int (3 : Int32)), .val (.int (-1 : Int32)), .val (.int (3 : Int32))] [])) (fun t₀ k₀ => XS.ifNo X0.here hx rfl (hb hby d9_6) rfl (by decide) k₀) ?_
  refine own_step (s₁.setTop (mkF m 11 #[.val (.ref a), .val (.int t), .val (.int (3 : Int32)), .val (.int (-1 : Int32)), .val (.int (3 : Int32))] [(.int (3 : Int32))])) (fun t₀ k₀ => XS.iload X0.here hx rfl (hb hby d9_9) rfl k₀) ?_
  refine own_step (s₁.setTop (mkF m 12 #[.val (.ref a), .val (.int t), .val (.int (3 : Int32)), .val (.int (-1 : Int32)), .val (.int (3 : Int32))] [(.ref a), (.int (3 : Int32))])) (fun t₀ k₀ => XS.aloadN X0.here hx rfl (hb hby d9_11) rfl rfl k₀) ?_
  obtain ⟨T304, X304, e304, st304⟩ := getF X0 hx hZ hown (host := "") (Or.inl (hw _ (List.mem_of_getElem? (i := 22) rfl))) Via.refl e0 Fl (g := (mkF m 12 #[.val (.ref a), .val (.int t), .val (.int (3 : Int32)), .val (.int (-1 : Int32)), .val (.int (3 : Int32))] [(.ref a), (.int (3 : Int32))])) rfl rfl (hb hby d9_12)
  refine own_step (T304.setTop (mkF m 15 #[.val (.ref a), .val (.int t), .val (.int (3 : Int32)), .val (.int (-1 : Int32)), .val (.int (3 : Int32))] [(.int (0 : Int32)), (.int (3 : Int32))])) (fun t₀ k₀ => st304 t₀ k₀) ?_
  refine own_step (T304.setTop (mkF m 38 #[.val (.ref a), .val (.int t), .val (.int (3 : Int32)), .val (.int (-1 : Int32)), .val (.int (3 : Int32))] [])) (fun t₀ k₀ => XS.icmpYes X304.here hx rfl (pc0 := 15) (pc' := 38) rfl (hb hby d9_15) rfl (by decide) (by decide) (by decide) k₀) ?_
  refine own_step (T304.setTop (mkF m 39 #[.val (.ref a), .val (.int t), .val (.int (3 : Int32)), .val (.int (-1 : Int32)), .val (.int (3 : Int32))] [(.int (-1 : Int32))])) (fun t₀ k₀ => XS.iloadN X304.here hx rfl (hb hby d9_38) rfl k₀) ?_
  obtain ⟨fs, hr, hrun, hended, hW, hsame⟩ := X304.leave (v := some (.int (-1 : Int32))) (fun h => by rw [Bd.returns] at h; cases h)
  refine ⟨_, _, ?_, hrun, hended, _, _, rfl, ?_, ⟨_, rfl⟩, hW, hsame.mono (by decide) (by decide)⟩
  · exact retI X304 hx Bd.returns (hb hby d9_39) hr
  · show Q_rm9_3_0 Z a t ba kc N b0 b1 b2 b3 h0 n0 _ T304.heap _
    rw [e304]
    exact ⟨by simp +decide [own_all, own_st], N0, rfl⟩
theorem ef_rm9_3_1 (m : MethodId) (a : Addr) (t : Int32) : entryFrame m #[(.ref a), (.int t), (.int (3 : Int32))] 5 = mkF m 0 #[.val (.ref a), .val (.int t), .val (.int (3 : Int32)), .unset, .unset] [] := by first | (simp [entryFrame, mkF, argsToLocals, Value.category]; done) | rfl
def Q_rm9_3_1 (Z : State) (a : Addr) (t : Int32) (ba : Addr) (kc : ClassId) (N : Int32) (b0 : Int32) (b1 : Int32) (b2 : Int32) (b3 : Int32) (h0 : Heap) (n0 : Nat) (v : Option Value) (h : Heap) (L : List Loc) : Prop := v = some (.int (own_all 3 1 t b0 b1 b2 b3)) ∧ Fr n0 L ∧ h = h0
set_option maxRecDepth 65536 in
set_option maxHeartbeats 40000000 in
theorem rm9_3_1 (l : Launch) (Z : State) (a0 : Array Value) (hw : ∀ d ∈ tables_1, d.before a0 Z = true) (ws : List Jvm.Cond) (a : Addr) (t : Int32) (ba : Addr) (kc : ClassId) (N : Int32) (b0 : Int32) (b1 : Int32) (b2 : Int32) (b3 : Int32) (h0 : Heap) (n0 : Nat) (Z0 : n0 ≤ h0.size) (Fb : Fld Z h0 a "com/example/notesmith/notesmith/report/LineBuffer" "bytes" "[B" (.ref ba)) (Fl : Fld Z h0 a "com/example/notesmith/notesmith/report/LineBuffer" "length" "I" (.int (1 : Int32))) (Vb : Arv Z h0 ba kc .byte N [(.int b0), (.int b1), (.int b2), (.int b3)] (.int (0 : Int32))) (hN4 : ¬ N < 4) :
    MetFree l (⟨"com/example/notesmith/notesmith/report/LineBuffer", "indexOf", "(CI)I"⟩ : MethodName) (head1 (Jvm.Cond.code (⟨"com/example/notesmith/notesmith/report/LineBuffer", "indexOf", "(CI)I"⟩ : MethodName) prog_104_method_6_code 5 (some .int) :: ws) ({ frames := 0, cells := 0, slots := 0, locals := 0 } : Room)) (fun as₉ U => as₉ = #[(.ref a), (.int t), (.int (3 : Int32))] ∧ Z.Warmed39 U.vm ∧ U.heap = h0) (fun _ _ _ _ _ => True) (fun _ U o₉ U' => ∃ v L, o₉ = .returned v ∧ Q_rm9_3_1 Z a t ba kc N b0 b1 b2 b3 h0 n0 v U'.heap L ∧ FrameEnd U o₉ U' L ({ frames := 0, cells := 0, slots := 0, locals := 0 } : Room).cells ({ frames := 0, cells := 0, slots := 0, locals := 0 } : Room).slots) := by
  refine MetFree.of_bodySF (plainFor_of_name pn_1) hisR ?_
  intro p e s m args below meth c s₁ Bd hml0 hP hK
  obtain ⟨rfl, hZ, hh⟩ := hP
  have hx := Bd.exec
  have hby := Bd.bytes
  have hml : c.maxLocals = 5 := hml0
  have hown : s.vm.findClass "com/example/notesmith/notesmith/report/LineBuffer" = some m.cls := findClass_of_methodNamed Bd.named
  have hnm := (name_of_methodNamed Bd.named Bd.method).1
  have X0 : Stand p l e ({ frames := 0, cells := 0, slots := 0, locals := 0 } : Room) s m #[(.ref a), (.int t), (.int (3 : Int32))] below meth c s₁ [] 0 0 := Stand.of_body Bd
  have e0 : s₁.heap = h0 := by rw [← hh, Bd.state]; rfl
  have N0 := Fr.nil n0
  show own_Go p e below (fun s₂ o₉ => s₂.status = .running ∧ Ended s₂ below o₉ ∧ ∃ v L, o₉ = .returned v ∧ Q_rm9_3_1 Z a t ba kc N b0 b1 b2 b3 h0 n0 v s₂.heap L ∧ FrameEnd s o₉ s₂ L ({ frames := 0, cells := 0, slots := 0, locals := 0 } : Room).cells ({ frames := 0, cells := 0, slots := 0, locals := 0 } : Room).slots) (s₁.setTop (entryFrame m #[(.ref a), (.int t), (.int (3 : Int32))] 5))
  rw [ef_rm9_3_1 m a t]
  refine own_step (s₁.setTop (mkF m 1 #[.val (.ref a), .val (.int t), .val (.int (3 : Int32)), .unset, .unset] [(.int (-1 : Int32))])) (fun t₀ k₀ => XS.iconst X0.here hx rfl (hb hby d9_0) k₀) ?_
  refine own_step (s₁.setTop (mkF m 2 #[.val (.ref a), .val (.int t), .val (.int (3 : Int32)), .val (.int (-1 : Int32)), .unset] [])) (fun t₀ k₀ => XS.istoreN X0.here hx rfl (hb hby d9_1) rfl (l' := #[.val (.ref a), .val (.int t), .val (.int (3 : Int32)), .val (.int (-1 : Int32)), .unset]) rfl k₀) ?_
  refine own_step (s₁.setTop (mkF m 3 #[.val (.ref a), .val (.int t), .val (.int (3 : Int32)), .val (.int (-1 : Int32)), .unset] [(.int (3 : Int32))])) (fun t₀ k₀ => XS.iloadN X0.here hx rfl (hb hby d9_2) rfl k₀) ?_
  refine own_step (s₁.setTop (mkF m 5 #[.val (.ref a), .val (.int t), .val (.int (3 : Int32)), .val (.int (-1 : Int32)), .val (.int (3 : Int32))] [])) (fun t₀ k₀ => XS.istore X0.here hx rfl (hb hby d9_3) rfl (l' := #[.val (.ref a), .val (.int t), .val (.int (3 : Int32)), .val (.int (-1 : Int32)), .val (.int (3 : Int32))]) rfl k₀) ?_
  refine own_step (s₁.setTop (mkF m 6 #[.val (.ref a), .val (.int t), .val (.int (3 : Int32)), .val (.int (-1 : Int32)), .val (.int (3 : Int32))] [(.int (-1 : Int32))])) (fun t₀ k₀ => XS.iloadN X0.here hx rfl (hb hby d9_5) rfl k₀) ?_
  refine own_step (s₁.setTop (mkF m 9 #[.val (.ref a), .val (.int t), .val (.int (3 : Int32)), .val (.int (-1 : Int32)), .val (.int (3 : Int32))] [])) (fun t₀ k₀ => XS.ifNo X0.here hx rfl (hb hby d9_6) rfl (by decide) k₀) ?_
  refine own_step (s₁.setTop (mkF m 11 #[.val (.ref a), .val (.int t), .val (.int (3 : Int32)), .val (.int (-1 : Int32)), .val (.int (3 : Int32))] [(.int (3 : Int32))])) (fun t₀ k₀ => XS.iload X0.here hx rfl (hb hby d9_9) rfl k₀) ?_
  refine own_step (s₁.setTop (mkF m 12 #[.val (.ref a), .val (.int t), .val (.int (3 : Int32)), .val (.int (-1 : Int32)), .val (.int (3 : Int32))] [(.ref a), (.int (3 : Int32))])) (fun t₀ k₀ => XS.aloadN X0.here hx rfl (hb hby d9_11) rfl rfl k₀) ?_
  obtain ⟨T305, X305, e305, st305⟩ := getF X0 hx hZ hown (host := "") (Or.inl (hw _ (List.mem_of_getElem? (i := 22) rfl))) Via.refl e0 Fl (g := (mkF m 12 #[.val (.ref a), .val (.int t), .val (.int (3 : Int32)), .val (.int (-1 : Int32)), .val (.int (3 : Int32))] [(.ref a), (.int (3 : Int32))])) rfl rfl (hb hby d9_12)
  refine own_step (T305.setTop (mkF m 15 #[.val (.ref a), .val (.int t), .val (.int (3 : Int32)), .val (.int (-1 : Int32)), .val (.int (3 : Int32))] [(.int (1 : Int32)), (.int (3 : Int32))])) (fun t₀ k₀ => st305 t₀ k₀) ?_
  refine own_step (T305.setTop (mkF m 38 #[.val (.ref a), .val (.int t), .val (.int (3 : Int32)), .val (.int (-1 : Int32)), .val (.int (3 : Int32))] [])) (fun t₀ k₀ => XS.icmpYes X305.here hx rfl (pc0 := 15) (pc' := 38) rfl (hb hby d9_15) rfl (by decide) (by decide) (by decide) k₀) ?_
  refine own_step (T305.setTop (mkF m 39 #[.val (.ref a), .val (.int t), .val (.int (3 : Int32)), .val (.int (-1 : Int32)), .val (.int (3 : Int32))] [(.int (-1 : Int32))])) (fun t₀ k₀ => XS.iloadN X305.here hx rfl (hb hby d9_38) rfl k₀) ?_
  obtain ⟨fs, hr, hrun, hended, hW, hsame⟩ := X305.leave (v := some (.int (-1 : Int32))) (fun h => by rw [Bd.returns] at h; cases h)
  refine ⟨_, _, ?_, hrun, hended, _, _, rfl, ?_, ⟨_, rfl⟩, hW, hsame.mono (by decide) (by decide)⟩
  · exact retI X305 hx Bd.returns (hb hby d9_39) hr
  · show Q_rm9_3_1 Z a t ba kc N b0 b1 b2 b3 h0 n0 _ T305.heap _
    rw [e305]
    exact ⟨by simp +decide [own_all, own_st], N0, rfl⟩
theorem ef_rm9_3_2 (m : MethodId) (a : Addr) (t : Int32) : entryFrame m #[(.ref a), (.int t), (.int (3 : Int32))] 5 = mkF m 0 #[.val (.ref a), .val (.int t), .val (.int (3 : Int32)), .unset, .unset] [] := by first | (simp [entryFrame, mkF, argsToLocals, Value.category]; done) | rfl
def Q_rm9_3_2 (Z : State) (a : Addr) (t : Int32) (ba : Addr) (kc : ClassId) (N : Int32) (b0 : Int32) (b1 : Int32) (b2 : Int32) (b3 : Int32) (h0 : Heap) (n0 : Nat) (v : Option Value) (h : Heap) (L : List Loc) : Prop := v = some (.int (own_all 3 2 t b0 b1 b2 b3)) ∧ Fr n0 L ∧ h = h0
set_option maxRecDepth 65536 in
set_option maxHeartbeats 40000000 in
theorem rm9_3_2 (l : Launch) (Z : State) (a0 : Array Value) (hw : ∀ d ∈ tables_1, d.before a0 Z = true) (ws : List Jvm.Cond) (a : Addr) (t : Int32) (ba : Addr) (kc : ClassId) (N : Int32) (b0 : Int32) (b1 : Int32) (b2 : Int32) (b3 : Int32) (h0 : Heap) (n0 : Nat) (Z0 : n0 ≤ h0.size) (Fb : Fld Z h0 a "com/example/notesmith/notesmith/report/LineBuffer" "bytes" "[B" (.ref ba)) (Fl : Fld Z h0 a "com/example/notesmith/notesmith/report/LineBuffer" "length" "I" (.int (2 : Int32))) (Vb : Arv Z h0 ba kc .byte N [(.int b0), (.int b1), (.int b2), (.int b3)] (.int (0 : Int32))) (hN4 : ¬ N < 4) :
    MetFree l (⟨"com/example/notesmith/notesmith/report/LineBuffer", "indexOf", "(CI)I"⟩ : MethodName) (head1 (Jvm.Cond.code (⟨"com/example/notesmith/notesmith/report/LineBuffer", "indexOf", "(CI)I"⟩ : MethodName) prog_104_method_6_code 5 (some .int) :: ws) ({ frames := 0, cells := 0, slots := 0, locals := 0 } : Room)) (fun as₉ U => as₉ = #[(.ref a), (.int t), (.int (3 : Int32))] ∧ Z.Warmed39 U.vm ∧ U.heap = h0) (fun _ _ _ _ _ => True) (fun _ U o₉ U' => ∃ v L, o₉ = .returned v ∧ Q_rm9_3_2 Z a t ba kc N b0 b1 b2 b3 h0 n0 v U'.heap L ∧ FrameEnd U o₉ U' L ({ frames := 0, cells := 0, slots := 0, locals := 0 } : Room).cells ({ frames := 0, cells := 0, slots := 0, locals := 0 } : Room).slots) := by
  refine MetFree.of_bodySF (plainFor_of_name pn_1) hisR ?_
  intro p e s m args below meth c s₁ Bd hml0 hP hK
  obtain ⟨rfl, hZ, hh⟩ := hP
  have hx := Bd.exec
  have hby := Bd.bytes
  have hml : c.maxLocals = 5 := hml0
  have hown : s.vm.findClass "com/example/notesmith/notesmith/report/LineBuffer" = some m.cls := findClass_of_methodNamed Bd.named
  have hnm := (name_of_methodNamed Bd.named Bd.method).1
  have X0 : Stand p l e ({ frames := 0, cells := 0, slots := 0, locals := 0 } : Room) s m #[(.ref a), (.int t), (.int (3 : Int32))] below meth c s₁ [] 0 0 := Stand.of_body Bd
  have e0 : s₁.heap = h0 := by rw [← hh, Bd.state]; rfl
  have N0 := Fr.nil n0
  show own_Go p e below (fun s₂ o₉ => s₂.status = .running ∧ Ended s₂ below o₉ ∧ ∃ v L, o₉ = .returned v ∧ Q_rm9_3_2 Z a t ba kc N b0 b1 b2 b3 h0 n0 v s₂.heap L ∧ FrameEnd s o₉ s₂ L ({ frames := 0, cells := 0, slots := 0, locals := 0 } : Room).cells ({ frames := 0, cells := 0, slots := 0, locals := 0 } : Room).slots) (s₁.setTop (entryFrame m #[(.ref a), (.int t), (.int (3 : Int32))] 5))
  rw [ef_rm9_3_2 m a t]
  refine own_step (s₁.setTop (mkF m 1 #[.val (.ref a), .val (.int t), .val (.int (3 : Int32)), .unset, .unset] [(.int (-1 : Int32))])) (fun t₀ k₀ => XS.iconst X0.here hx rfl (hb hby d9_0) k₀) ?_
  refine own_step (s₁.setTop (mkF m 2 #[.val (.ref a), .val (.int t), .val (.int (3 : Int32)), .val (.int (-1 : Int32)), .unset] [])) (fun t₀ k₀ => XS.istoreN X0.here hx rfl (hb hby d9_1) rfl (l' := #[.val (.ref a), .val (.int t), .val (.int (3 : Int32)), .val (.int (-1 : Int32)), .unset]) rfl k₀) ?_
  refine own_step (s₁.setTop (mkF m 3 #[.val (.ref a), .val (.int t), .val (.int (3 : Int32)), .val (.int (-1 : Int32)), .unset] [(.int (3 : Int32))])) (fun t₀ k₀ => XS.iloadN X0.here hx rfl (hb hby d9_2) rfl k₀) ?_
  refine own_step (s₁.setTop (mkF m 5 #[.val (.ref a), .val (.int t), .val (.int (3 : Int32)), .val (.int (-1 : Int32)), .val (.int (3 : Int32))] [])) (fun t₀ k₀ => XS.istore X0.here hx rfl (hb hby d9_3) rfl (l' := #[.val (.ref a), .val (.int t), .val (.int (3 : Int32)), .val (.int (-1 : Int32)), .val (.int (3 : Int32))]) rfl k₀) ?_
  refine own_step (s₁.setTop (mkF m 6 #[.val (.ref a), .val (.int t), .val (.int (3 : Int32)), .val (.int (-1 : Int32)), .val (.int (3 : Int32))] [(.int (-1 : Int32))])) (fun t₀ k₀ => XS.iloadN X0.here hx rfl (hb hby d9_5) rfl k₀) ?_
  refine own_step (s₁.setTop (mkF m 9 #[.val (.ref a), .val (.int t), .val (.int (3 : Int32)), .val (.int (-1 : Int32)), .val (.int (3 : Int32))] [])) (fun t₀ k₀ => XS.ifNo X0.here hx rfl (hb hby d9_6) rfl (by decide) k₀) ?_
  refine own_step (s₁.setTop (mkF m 11 #[.val (.ref a), .val (.int t), .val (.int (3 : Int32)), .val (.int (-1 : Int32)), .val (.int (3 : Int32))] [(.int (3 : Int32))])) (fun t₀ k₀ => XS.iload X0.here hx rfl (hb hby d9_9) rfl k₀) ?_
  refine own_step (s₁.setTop (mkF m 12 #[.val (.ref a), .val (.int t), .val (.int (3 : Int32)), .val (.int (-1 : Int32)), .val (.int (3 : Int32))] [(.ref a), (.int (3 : Int32))])) (fun t₀ k₀ => XS.aloadN X0.here hx rfl (hb hby d9_11) rfl rfl k₀) ?_
  obtain ⟨T306, X306, e306, st306⟩ := getF X0 hx hZ hown (host := "") (Or.inl (hw _ (List.mem_of_getElem? (i := 22) rfl))) Via.refl e0 Fl (g := (mkF m 12 #[.val (.ref a), .val (.int t), .val (.int (3 : Int32)), .val (.int (-1 : Int32)), .val (.int (3 : Int32))] [(.ref a), (.int (3 : Int32))])) rfl rfl (hb hby d9_12)
  refine own_step (T306.setTop (mkF m 15 #[.val (.ref a), .val (.int t), .val (.int (3 : Int32)), .val (.int (-1 : Int32)), .val (.int (3 : Int32))] [(.int (2 : Int32)), (.int (3 : Int32))])) (fun t₀ k₀ => st306 t₀ k₀) ?_
  refine own_step (T306.setTop (mkF m 38 #[.val (.ref a), .val (.int t), .val (.int (3 : Int32)), .val (.int (-1 : Int32)), .val (.int (3 : Int32))] [])) (fun t₀ k₀ => XS.icmpYes X306.here hx rfl (pc0 := 15) (pc' := 38) rfl (hb hby d9_15) rfl (by decide) (by decide) (by decide) k₀) ?_
  refine own_step (T306.setTop (mkF m 39 #[.val (.ref a), .val (.int t), .val (.int (3 : Int32)), .val (.int (-1 : Int32)), .val (.int (3 : Int32))] [(.int (-1 : Int32))])) (fun t₀ k₀ => XS.iloadN X306.here hx rfl (hb hby d9_38) rfl k₀) ?_
  obtain ⟨fs, hr, hrun, hended, hW, hsame⟩ := X306.leave (v := some (.int (-1 : Int32))) (fun h => by rw [Bd.returns] at h; cases h)
  refine ⟨_, _, ?_, hrun, hended, _, _, rfl, ?_, ⟨_, rfl⟩, hW, hsame.mono (by decide) (by decide)⟩
  · exact retI X306 hx Bd.returns (hb hby d9_39) hr
  · show Q_rm9_3_2 Z a t ba kc N b0 b1 b2 b3 h0 n0 _ T306.heap _
    rw [e306]
    exact ⟨by simp +decide [own_all, own_st], N0, rfl⟩
theorem ef_rm9_3_3 (m : MethodId) (a : Addr) (t : Int32) : entryFrame m #[(.ref a), (.int t), (.int (3 : Int32))] 5 = mkF m 0 #[.val (.ref a), .val (.int t), .val (.int (3 : Int32)), .unset, .unset] [] := by first | (simp [entryFrame, mkF, argsToLocals, Value.category]; done) | rfl
def Q_rm9_3_3 (Z : State) (a : Addr) (t : Int32) (ba : Addr) (kc : ClassId) (N : Int32) (b0 : Int32) (b1 : Int32) (b2 : Int32) (b3 : Int32) (h0 : Heap) (n0 : Nat) (v : Option Value) (h : Heap) (L : List Loc) : Prop := v = some (.int (own_all 3 3 t b0 b1 b2 b3)) ∧ Fr n0 L ∧ h = h0
set_option maxRecDepth 65536 in
set_option maxHeartbeats 40000000 in
theorem rm9_3_3 (l : Launch) (Z : State) (a0 : Array Value) (hw : ∀ d ∈ tables_1, d.before a0 Z = true) (ws : List Jvm.Cond) (a : Addr) (t : Int32) (ba : Addr) (kc : ClassId) (N : Int32) (b0 : Int32) (b1 : Int32) (b2 : Int32) (b3 : Int32) (h0 : Heap) (n0 : Nat) (Z0 : n0 ≤ h0.size) (Fb : Fld Z h0 a "com/example/notesmith/notesmith/report/LineBuffer" "bytes" "[B" (.ref ba)) (Fl : Fld Z h0 a "com/example/notesmith/notesmith/report/LineBuffer" "length" "I" (.int (3 : Int32))) (Vb : Arv Z h0 ba kc .byte N [(.int b0), (.int b1), (.int b2), (.int b3)] (.int (0 : Int32))) (hN4 : ¬ N < 4) :
    MetFree l (⟨"com/example/notesmith/notesmith/report/LineBuffer", "indexOf", "(CI)I"⟩ : MethodName) (head1 (Jvm.Cond.code (⟨"com/example/notesmith/notesmith/report/LineBuffer", "indexOf", "(CI)I"⟩ : MethodName) prog_104_method_6_code 5 (some .int) :: ws) ({ frames := 0, cells := 0, slots := 0, locals := 0 } : Room)) (fun as₉ U => as₉ = #[(.ref a), (.int t), (.int (3 : Int32))] ∧ Z.Warmed39 U.vm ∧ U.heap = h0) (fun _ _ _ _ _ => True) (fun _ U o₉ U' => ∃ v L, o₉ = .returned v ∧ Q_rm9_3_3 Z a t ba kc N b0 b1 b2 b3 h0 n0 v U'.heap L ∧ FrameEnd U o₉ U' L ({ frames := 0, cells := 0, slots := 0, locals := 0 } : Room).cells ({ frames := 0, cells := 0, slots := 0, locals := 0 } : Room).slots) := by
  refine MetFree.of_bodySF (plainFor_of_name pn_1) hisR ?_
  intro p e s m args below meth c s₁ Bd hml0 hP hK
  obtain ⟨rfl, hZ, hh⟩ := hP
  have hx := Bd.exec
  have hby := Bd.bytes
  have hml : c.maxLocals = 5 := hml0
  have hown : s.vm.findClass "com/example/notesmith/notesmith/report/LineBuffer" = some m.cls := findClass_of_methodNamed Bd.named
  have hnm := (name_of_methodNamed Bd.named Bd.method).1
  have X0 : Stand p l e ({ frames := 0, cells := 0, slots := 0, locals := 0 } : Room) s m #[(.ref a), (.int t), (.int (3 : Int32))] below meth c s₁ [] 0 0 := Stand.of_body Bd
  have e0 : s₁.heap = h0 := by rw [← hh, Bd.state]; rfl
  have N0 := Fr.nil n0
  show own_Go p e below (fun s₂ o₉ => s₂.status = .running ∧ Ended s₂ below o₉ ∧ ∃ v L, o₉ = .returned v ∧ Q_rm9_3_3 Z a t ba kc N b0 b1 b2 b3 h0 n0 v s₂.heap L ∧ FrameEnd s o₉ s₂ L ({ frames := 0, cells := 0, slots := 0, locals := 0 } : Room).cells ({ frames := 0, cells := 0, slots := 0, locals := 0 } : Room).slots) (s₁.setTop (entryFrame m #[(.ref a), (.int t), (.int (3 : Int32))] 5))
  rw [ef_rm9_3_3 m a t]
  refine own_step (s₁.setTop (mkF m 1 #[.val (.ref a), .val (.int t), .val (.int (3 : Int32)), .unset, .unset] [(.int (-1 : Int32))])) (fun t₀ k₀ => XS.iconst X0.here hx rfl (hb hby d9_0) k₀) ?_
  refine own_step (s₁.setTop (mkF m 2 #[.val (.ref a), .val (.int t), .val (.int (3 : Int32)), .val (.int (-1 : Int32)), .unset] [])) (fun t₀ k₀ => XS.istoreN X0.here hx rfl (hb hby d9_1) rfl (l' := #[.val (.ref a), .val (.int t), .val (.int (3 : Int32)), .val (.int (-1 : Int32)), .unset]) rfl k₀) ?_
  refine own_step (s₁.setTop (mkF m 3 #[.val (.ref a), .val (.int t), .val (.int (3 : Int32)), .val (.int (-1 : Int32)), .unset] [(.int (3 : Int32))])) (fun t₀ k₀ => XS.iloadN X0.here hx rfl (hb hby d9_2) rfl k₀) ?_
  refine own_step (s₁.setTop (mkF m 5 #[.val (.ref a), .val (.int t), .val (.int (3 : Int32)), .val (.int (-1 : Int32)), .val (.int (3 : Int32))] [])) (fun t₀ k₀ => XS.istore X0.here hx rfl (hb hby d9_3) rfl (l' := #[.val (.ref a), .val (.int t), .val (.int (3 : Int32)), .val (.int (-1 : Int32)), .val (.int (3 : Int32))]) rfl k₀) ?_
  refine own_step (s₁.setTop (mkF m 6 #[.val (.ref a), .val (.int t), .val (.int (3 : Int32)), .val (.int (-1 : Int32)), .val (.int (3 : Int32))] [(.int (-1 : Int32))])) (fun t₀ k₀ => XS.iloadN X0.here hx rfl (hb hby d9_5) rfl k₀) ?_
  refine own_step (s₁.setTop (mkF m 9 #[.val (.ref a), .val (.int t), .val (.int (3 : Int32)), .val (.int (-1 : Int32)), .val (.int (3 : Int32))] [])) (fun t₀ k₀ => XS.ifNo X0.here hx rfl (hb hby d9_6) rfl (by decide) k₀) ?_
  refine own_step (s₁.setTop (mkF m 11 #[.val (.ref a), .val (.int t), .val (.int (3 : Int32)), .val (.int (-1 : Int32)), .val (.int (3 : Int32))] [(.int (3 : Int32))])) (fun t₀ k₀ => XS.iload X0.here hx rfl (hb hby d9_9) rfl k₀) ?_
  refine own_step (s₁.setTop (mkF m 12 #[.val (.ref a), .val (.int t), .val (.int (3 : Int32)), .val (.int (-1 : Int32)), .val (.int (3 : Int32))] [(.ref a), (.int (3 : Int32))])) (fun t₀ k₀ => XS.aloadN X0.here hx rfl (hb hby d9_11) rfl rfl k₀) ?_
  obtain ⟨T307, X307, e307, st307⟩ := getF X0 hx hZ hown (host := "") (Or.inl (hw _ (List.mem_of_getElem? (i := 22) rfl))) Via.refl e0 Fl (g := (mkF m 12 #[.val (.ref a), .val (.int t), .val (.int (3 : Int32)), .val (.int (-1 : Int32)), .val (.int (3 : Int32))] [(.ref a), (.int (3 : Int32))])) rfl rfl (hb hby d9_12)
  refine own_step (T307.setTop (mkF m 15 #[.val (.ref a), .val (.int t), .val (.int (3 : Int32)), .val (.int (-1 : Int32)), .val (.int (3 : Int32))] [(.int (3 : Int32)), (.int (3 : Int32))])) (fun t₀ k₀ => st307 t₀ k₀) ?_
  refine own_step (T307.setTop (mkF m 38 #[.val (.ref a), .val (.int t), .val (.int (3 : Int32)), .val (.int (-1 : Int32)), .val (.int (3 : Int32))] [])) (fun t₀ k₀ => XS.icmpYes X307.here hx rfl (pc0 := 15) (pc' := 38) rfl (hb hby d9_15) rfl (by decide) (by decide) (by decide) k₀) ?_
  refine own_step (T307.setTop (mkF m 39 #[.val (.ref a), .val (.int t), .val (.int (3 : Int32)), .val (.int (-1 : Int32)), .val (.int (3 : Int32))] [(.int (-1 : Int32))])) (fun t₀ k₀ => XS.iloadN X307.here hx rfl (hb hby d9_38) rfl k₀) ?_
  obtain ⟨fs, hr, hrun, hended, hW, hsame⟩ := X307.leave (v := some (.int (-1 : Int32))) (fun h => by rw [Bd.returns] at h; cases h)
  refine ⟨_, _, ?_, hrun, hended, _, _, rfl, ?_, ⟨_, rfl⟩, hW, hsame.mono (by decide) (by decide)⟩
  · exact retI X307 hx Bd.returns (hb hby d9_39) hr
  · show Q_rm9_3_3 Z a t ba kc N b0 b1 b2 b3 h0 n0 _ T307.heap _
    rw [e307]
    exact ⟨by simp +decide [own_all, own_st], N0, rfl⟩
theorem ef_rm9_3_4 (m : MethodId) (a : Addr) (t : Int32) : entryFrame m #[(.ref a), (.int t), (.int (3 : Int32))] 5 = mkF m 0 #[.val (.ref a), .val (.int t), .val (.int (3 : Int32)), .unset, .unset] [] := by first | (simp [entryFrame, mkF, argsToLocals, Value.category]; done) | rfl
def Q_rm9_3_4 (Z : State) (a : Addr) (t : Int32) (ba : Addr) (kc : ClassId) (N : Int32) (b0 : Int32) (b1 : Int32) (b2 : Int32) (b3 : Int32) (h0 : Heap) (n0 : Nat) (v : Option Value) (h : Heap) (L : List Loc) : Prop := v = some (.int (own_all 3 4 t b0 b1 b2 b3)) ∧ Fr n0 L ∧ h = h0
set_option maxRecDepth 65536 in
set_option maxHeartbeats 40000000 in
theorem rm9_3_4 (l : Launch) (Z : State) (a0 : Array Value) (hw : ∀ d ∈ tables_1, d.before a0 Z = true) (ws : List Jvm.Cond) (a : Addr) (t : Int32) (ba : Addr) (kc : ClassId) (N : Int32) (b0 : Int32) (b1 : Int32) (b2 : Int32) (b3 : Int32) (h0 : Heap) (n0 : Nat) (Z0 : n0 ≤ h0.size) (Fb : Fld Z h0 a "com/example/notesmith/notesmith/report/LineBuffer" "bytes" "[B" (.ref ba)) (Fl : Fld Z h0 a "com/example/notesmith/notesmith/report/LineBuffer" "length" "I" (.int (4 : Int32))) (Vb : Arv Z h0 ba kc .byte N [(.int b0), (.int b1), (.int b2), (.int b3)] (.int (0 : Int32))) (hN4 : ¬ N < 4) :
    MetFree l (⟨"com/example/notesmith/notesmith/report/LineBuffer", "indexOf", "(CI)I"⟩ : MethodName) (head1 (Jvm.Cond.code (⟨"com/example/notesmith/notesmith/report/LineBuffer", "indexOf", "(CI)I"⟩ : MethodName) prog_104_method_6_code 5 (some .int) :: ws) ({ frames := 0, cells := 0, slots := 0, locals := 0 } : Room)) (fun as₉ U => as₉ = #[(.ref a), (.int t), (.int (3 : Int32))] ∧ Z.Warmed39 U.vm ∧ U.heap = h0) (fun _ _ _ _ _ => True) (fun _ U o₉ U' => ∃ v L, o₉ = .returned v ∧ Q_rm9_3_4 Z a t ba kc N b0 b1 b2 b3 h0 n0 v U'.heap L ∧ FrameEnd U o₉ U' L ({ frames := 0, cells := 0, slots := 0, locals := 0 } : Room).cells ({ frames := 0, cells := 0, slots := 0, locals := 0 } : Room).slots) := by
  refine MetFree.of_bodySF (plainFor_of_name pn_1) hisR ?_
  intro p e s m args below meth c s₁ Bd hml0 hP hK
  obtain ⟨rfl, hZ, hh⟩ := hP
  have hx := Bd.exec
  have hby := Bd.bytes
  have hml : c.maxLocals = 5 := hml0
  have hown : s.vm.findClass "com/example/notesmith/notesmith/report/LineBuffer" = some m.cls := findClass_of_methodNamed Bd.named
  have hnm := (name_of_methodNamed Bd.named Bd.method).1
  have X0 : Stand p l e ({ frames := 0, cells := 0, slots := 0, locals := 0 } : Room) s m #[(.ref a), (.int t), (.int (3 : Int32))] below meth c s₁ [] 0 0 := Stand.of_body Bd
  have e0 : s₁.heap = h0 := by rw [← hh, Bd.state]; rfl
  have N0 := Fr.nil n0
  show own_Go p e below (fun s₂ o₉ => s₂.status = .running ∧ Ended s₂ below o₉ ∧ ∃ v L, o₉ = .returned v ∧ Q_rm9_3_4 Z a t ba kc N b0 b1 b2 b3 h0 n0 v s₂.heap L ∧ FrameEnd s o₉ s₂ L ({ frames := 0, cells := 0, slots := 0, locals := 0 } : Room).cells ({ frames := 0, cells := 0, slots := 0, locals := 0 } : Room).slots) (s₁.setTop (entryFrame m #[(.ref a), (.int t), (.int (3 : Int32))] 5))
  rw [ef_rm9_3_4 m a t]
  refine own_step (s₁.setTop (mkF m 1 #[.val (.ref a), .val (.int t), .val (.int (3 : Int32)), .unset, .unset] [(.int (-1 : Int32))])) (fun t₀ k₀ => XS.iconst X0.here hx rfl (hb hby d9_0) k₀) ?_
  refine own_step (s₁.setTop (mkF m 2 #[.val (.ref a), .val (.int t), .val (.int (3 : Int32)), .val (.int (-1 : Int32)), .unset] [])) (fun t₀ k₀ => XS.istoreN X0.here hx rfl (hb hby d9_1) rfl (l' := #[.val (.ref a), .val (.int t), .val (.int (3 : Int32)), .val (.int (-1 : Int32)), .unset]) rfl k₀) ?_
  refine own_step (s₁.setTop (mkF m 3 #[.val (.ref a), .val (.int t), .val (.int (3 : Int32)), .val (.int (-1 : Int32)), .unset] [(.int (3 : Int32))])) (fun t₀ k₀ => XS.iloadN X0.here hx rfl (hb hby d9_2) rfl k₀) ?_
  refine own_step (s₁.setTop (mkF m 5 #[.val (.ref a), .val (.int t), .val (.int (3 : Int32)), .val (.int (-1 : Int32)), .val (.int (3 : Int32))] [])) (fun t₀ k₀ => XS.istore X0.here hx rfl (hb hby d9_3) rfl (l' := #[.val (.ref a), .val (.int t), .val (.int (3 : Int32)), .val (.int (-1 : Int32)), .val (.int (3 : Int32))]) rfl k₀) ?_
  refine own_step (s₁.setTop (mkF m 6 #[.val (.ref a), .val (.int t), .val (.int (3 : Int32)), .val (.int (-1 : Int32)), .val (.int (3 : Int32))] [(.int (-1 : Int32))])) (fun t₀ k₀ => XS.iloadN X0.here hx rfl (hb hby d9_5) rfl k₀) ?_
  refine own_step (s₁.setTop (mkF m 9 #[.val (.ref a), .val (.int t), .val (.int (3 : Int32)), .val (.int (-1 : Int32)), .val (.int (3 : Int32))] [])) (fun t₀ k₀ => XS.ifNo X0.here hx rfl (hb hby d9_6) rfl (by decide) k₀) ?_
  refine own_step (s₁.setTop (mkF m 11 #[.val (.ref a), .val (.int t), .val (.int (3 : Int32)), .val (.int (-1 : Int32)), .val (.int (3 : Int32))] [(.int (3 : Int32))])) (fun t₀ k₀ => XS.iload X0.here hx rfl (hb hby d9_9) rfl k₀) ?_
  refine own_step (s₁.setTop (mkF m 12 #[.val (.ref a), .val (.int t), .val (.int (3 : Int32)), .val (.int (-1 : Int32)), .val (.int (3 : Int32))] [(.ref a), (.int (3 : Int32))])) (fun t₀ k₀ => XS.aloadN X0.here hx rfl (hb hby d9_11) rfl rfl k₀) ?_
  obtain ⟨T308, X308, e308, st308⟩ := getF X0 hx hZ hown (host := "") (Or.inl (hw _ (List.mem_of_getElem? (i := 22) rfl))) Via.refl e0 Fl (g := (mkF m 12 #[.val (.ref a), .val (.int t), .val (.int (3 : Int32)), .val (.int (-1 : Int32)), .val (.int (3 : Int32))] [(.ref a), (.int (3 : Int32))])) rfl rfl (hb hby d9_12)
  refine own_step (T308.setTop (mkF m 15 #[.val (.ref a), .val (.int t), .val (.int (3 : Int32)), .val (.int (-1 : Int32)), .val (.int (3 : Int32))] [(.int (4 : Int32)), (.int (3 : Int32))])) (fun t₀ k₀ => st308 t₀ k₀) ?_
  refine own_step (T308.setTop (mkF m 18 #[.val (.ref a), .val (.int t), .val (.int (3 : Int32)), .val (.int (-1 : Int32)), .val (.int (3 : Int32))] [])) (fun t₀ k₀ => XS.icmpNo X308.here hx rfl (hb hby d9_15) rfl (by decide) k₀) ?_
  refine own_step (T308.setTop (mkF m 19 #[.val (.ref a), .val (.int t), .val (.int (3 : Int32)), .val (.int (-1 : Int32)), .val (.int (3 : Int32))] [(.ref a)])) (fun t₀ k₀ => XS.aloadN X308.here hx rfl (hb hby d9_18) rfl rfl k₀) ?_
  obtain ⟨T309, X309, e309, st309⟩ := getF X308 hx hZ hown (host := "") (Or.inl (hw _ (List.mem_of_getElem? (i := 11) rfl))) Via.refl e308 Fb (g := (mkF m 19 #[.val (.ref a), .val (.int t), .val (.int (3 : Int32)), .val (.int (-1 : Int32)), .val (.int (3 : Int32))] [(.ref a)])) rfl rfl (hb hby d9_19)
  refine own_step (T309.setTop (mkF m 22 #[.val (.ref a), .val (.int t), .val (.int (3 : Int32)), .val (.int (-1 : Int32)), .val (.int (3 : Int32))] [(.ref ba)])) (fun t₀ k₀ => st309 t₀ k₀) ?_
  refine own_step (T309.setTop (mkF m 24 #[.val (.ref a), .val (.int t), .val (.int (3 : Int32)), .val (.int (-1 : Int32)), .val (.int (3 : Int32))] [(.int (3 : Int32)), (.ref ba)])) (fun t₀ k₀ => XS.iload X309.here hx rfl (hb hby d9_22) rfl k₀) ?_
  obtain ⟨clo310, Aro310, qo310, So310, Mo310, Ho310, Go310⟩ := id Vb
  have hino310 : ¬ ((3 : Int32) < 0 ∨ clo310.slots.size ≤ ((3 : Int32)).toNatClampNeg) := inb_of So310 ⟨by decide, own_ltk hN4 (by decide)⟩
  have hato310 : clo310.slots[((3 : Int32)).toNatClampNeg]? = some (.int b3) := Has.at Ho310 hino310 rfl
  refine own_step (T309.setTop (mkF m 25 #[.val (.ref a), .val (.int t), .val (.int (3 : Int32)), .val (.int (-1 : Int32)), .val (.int (3 : Int32))] [(.int b3)])) (fun t₀ k₀ => X309.baloadBytes hx (j := (3 : Int32)) (v := (.int b3)) (by rw [e309]; exact Aro310.1) (State.isArrayOf_alike hZ.alike Aro310.2.1) Aro310.2.2 hino310 hato310 (g := (mkF m 24 #[.val (.ref a), .val (.int t), .val (.int (3 : Int32)), .val (.int (-1 : Int32)), .val (.int (3 : Int32))] [(.int (3 : Int32)), (.ref ba)])) rfl rfl (hb hby d9_24) _ k₀) ?_
  refine own_step (T309.setTop (mkF m 26 #[.val (.ref a), .val (.int t), .val (.int (3 : Int32)), .val (.int (-1 : Int32)), .val (.int (3 : Int32))] [(.int t), (.int b3)])) (fun t₀ k₀ => XS.iloadN X309.here hx rfl (hb hby d9_25) rfl k₀) ?_
  by_cases hc26 : b3 = t
  · skip
    refine own_step (T309.setTop (mkF m 29 #[.val (.ref a), .val (.int t), .val (.int (3 : Int32)), .val (.int (-1 : Int32)), .val (.int (3 : Int32))] [])) (fun t₀ k₀ => XS.icmpNo X309.here hx rfl (hb hby d9_26) rfl (teq hc26).2 k₀) ?_
    refine own_step (T309.setTop (mkF m 31 #[.val (.ref a), .val (.int t), .val (.int (3 : Int32)), .val (.int (-1 : Int32)), .val (.int (3 : Int32))] [(.int (3 : Int32))])) (fun t₀ k₀ => XS.iload X309.here hx rfl (hb hby d9_29) rfl k₀) ?_
    refine own_step (T309.setTop (mkF m 32 #[.val (.ref a), .val (.int t), .val (.int (3 : Int32)), .val (.int (3 : Int32)), .val (.int (3 : Int32))] [])) (fun t₀ k₀ => XS.istoreN X309.here hx rfl (hb hby d9_31) rfl (l' := #[.val (.ref a), .val (.int t), .val (.int (3 : Int32)), .val (.int (3 : Int32)), .val (.int (3 : Int32))]) rfl k₀) ?_
    refine own_step (T309.setTop (mkF m 35 #[.val (.ref a), .val (.int t), .val (.int (3 : Int32)), .val (.int (3 : Int32)), .val (.int (4 : Int32))] [])) (fun t₀ k₀ => XS.iinc X309.here hx rfl (hb hby d9_32) rfl (l' := #[.val (.ref a), .val (.int t), .val (.int (3 : Int32)), .val (.int (3 : Int32)), .val (.int (4 : Int32))]) rfl k₀) ?_
    refine own_step (T309.setTop (mkF m 5 #[.val (.ref a), .val (.int t), .val (.int (3 : Int32)), .val (.int (3 : Int32)), .val (.int (4 : Int32))] [])) (fun t₀ k₀ => XS.goto X309.here hx rfl (pc0 := 35) (pc' := 5) rfl (hb hby d9_35) (by decide) (by decide) k₀) ?_
    refine own_step (T309.setTop (mkF m 6 #[.val (.ref a), .val (.int t), .val (.int (3 : Int32)), .val (.int (3 : Int32)), .val (.int (4 : Int32))] [(.int (3 : Int32))])) (fun t₀ k₀ => XS.iloadN X309.here hx rfl (hb hby d9_5) rfl k₀) ?_
    refine own_step (T309.setTop (mkF m 38 #[.val (.ref a), .val (.int t), .val (.int (3 : Int32)), .val (.int (3 : Int32)), .val (.int (4 : Int32))] [])) (fun t₀ k₀ => XS.ifYes X309.here hx rfl (pc0 := 6) (pc' := 38) rfl (hb hby d9_6) rfl (by decide) (by decide) (by decide) k₀) ?_
    refine own_step (T309.setTop (mkF m 39 #[.val (.ref a), .val (.int t), .val (.int (3 : Int32)), .val (.int (3 : Int32)), .val (.int (4 : Int32))] [(.int (3 : Int32))])) (fun t₀ k₀ => XS.iloadN X309.here hx rfl (hb hby d9_38) rfl k₀) ?_
    obtain ⟨fs, hr, hrun, hended, hW, hsame⟩ := X309.leave (v := some (.int (3 : Int32))) (fun h => by rw [Bd.returns] at h; cases h)
    refine ⟨_, _, ?_, hrun, hended, _, _, rfl, ?_, ⟨_, rfl⟩, hW, hsame.mono (by decide) (by decide)⟩
    · exact retI X309 hx Bd.returns (hb hby d9_39) hr
    · show Q_rm9_3_4 Z a t ba kc N b0 b1 b2 b3 h0 n0 _ T309.heap _
      rw [e309]
      exact ⟨by simp +decide [own_all, own_st, hc26], N0, rfl⟩
  · skip
    refine own_step (T309.setTop (mkF m 32 #[.val (.ref a), .val (.int t), .val (.int (3 : Int32)), .val (.int (-1 : Int32)), .val (.int (3 : Int32))] [])) (fun t₀ k₀ => XS.icmpYes X309.here hx rfl (pc0 := 26) (pc' := 32) rfl (hb hby d9_26) rfl (feq hc26).2 (by decide) (by decide) k₀) ?_
    refine own_step (T309.setTop (mkF m 35 #[.val (.ref a), .val (.int t), .val (.int (3 : Int32)), .val (.int (-1 : Int32)), .val (.int (4 : Int32))] [])) (fun t₀ k₀ => XS.iinc X309.here hx rfl (hb hby d9_32) rfl (l' := #[.val (.ref a), .val (.int t), .val (.int (3 : Int32)), .val (.int (-1 : Int32)), .val (.int (4 : Int32))]) rfl k₀) ?_
    refine own_step (T309.setTop (mkF m 5 #[.val (.ref a), .val (.int t), .val (.int (3 : Int32)), .val (.int (-1 : Int32)), .val (.int (4 : Int32))] [])) (fun t₀ k₀ => XS.goto X309.here hx rfl (pc0 := 35) (pc' := 5) rfl (hb hby d9_35) (by decide) (by decide) k₀) ?_
    refine own_step (T309.setTop (mkF m 6 #[.val (.ref a), .val (.int t), .val (.int (3 : Int32)), .val (.int (-1 : Int32)), .val (.int (4 : Int32))] [(.int (-1 : Int32))])) (fun t₀ k₀ => XS.iloadN X309.here hx rfl (hb hby d9_5) rfl k₀) ?_
    refine own_step (T309.setTop (mkF m 9 #[.val (.ref a), .val (.int t), .val (.int (3 : Int32)), .val (.int (-1 : Int32)), .val (.int (4 : Int32))] [])) (fun t₀ k₀ => XS.ifNo X309.here hx rfl (hb hby d9_6) rfl (by decide) k₀) ?_
    refine own_step (T309.setTop (mkF m 11 #[.val (.ref a), .val (.int t), .val (.int (3 : Int32)), .val (.int (-1 : Int32)), .val (.int (4 : Int32))] [(.int (4 : Int32))])) (fun t₀ k₀ => XS.iload X309.here hx rfl (hb hby d9_9) rfl k₀) ?_
    refine own_step (T309.setTop (mkF m 12 #[.val (.ref a), .val (.int t), .val (.int (3 : Int32)), .val (.int (-1 : Int32)), .val (.int (4 : Int32))] [(.ref a), (.int (4 : Int32))])) (fun t₀ k₀ => XS.aloadN X309.here hx rfl (hb hby d9_11) rfl rfl k₀) ?_
    obtain ⟨T311, X311, e311, st311⟩ := getF X309 hx hZ hown (host := "") (Or.inl (hw _ (List.mem_of_getElem? (i := 22) rfl))) Via.refl e309 Fl (g := (mkF m 12 #[.val (.ref a), .val (.int t), .val (.int (3 : Int32)), .val (.int (-1 : Int32)), .val (.int (4 : Int32))] [(.ref a), (.int (4 : Int32))])) rfl rfl (hb hby d9_12)
    refine own_step (T311.setTop (mkF m 15 #[.val (.ref a), .val (.int t), .val (.int (3 : Int32)), .val (.int (-1 : Int32)), .val (.int (4 : Int32))] [(.int (4 : Int32)), (.int (4 : Int32))])) (fun t₀ k₀ => st311 t₀ k₀) ?_
    refine own_step (T311.setTop (mkF m 38 #[.val (.ref a), .val (.int t), .val (.int (3 : Int32)), .val (.int (-1 : Int32)), .val (.int (4 : Int32))] [])) (fun t₀ k₀ => XS.icmpYes X311.here hx rfl (pc0 := 15) (pc' := 38) rfl (hb hby d9_15) rfl (by decide) (by decide) (by decide) k₀) ?_
    refine own_step (T311.setTop (mkF m 39 #[.val (.ref a), .val (.int t), .val (.int (3 : Int32)), .val (.int (-1 : Int32)), .val (.int (4 : Int32))] [(.int (-1 : Int32))])) (fun t₀ k₀ => XS.iloadN X311.here hx rfl (hb hby d9_38) rfl k₀) ?_
    obtain ⟨fs, hr, hrun, hended, hW, hsame⟩ := X311.leave (v := some (.int (-1 : Int32))) (fun h => by rw [Bd.returns] at h; cases h)
    refine ⟨_, _, ?_, hrun, hended, _, _, rfl, ?_, ⟨_, rfl⟩, hW, hsame.mono (by decide) (by decide)⟩
    · exact retI X311 hx Bd.returns (hb hby d9_39) hr
    · show Q_rm9_3_4 Z a t ba kc N b0 b1 b2 b3 h0 n0 _ T311.heap _
      rw [e311]
      exact ⟨by simp +decide [own_all, own_st, hc26], N0, rfl⟩
theorem ef_rm9_4_0 (m : MethodId) (a : Addr) (t : Int32) : entryFrame m #[(.ref a), (.int t), (.int (4 : Int32))] 5 = mkF m 0 #[.val (.ref a), .val (.int t), .val (.int (4 : Int32)), .unset, .unset] [] := by first | (simp [entryFrame, mkF, argsToLocals, Value.category]; done) | rfl
def Q_rm9_4_0 (Z : State) (a : Addr) (t : Int32) (ba : Addr) (kc : ClassId) (N : Int32) (b0 : Int32) (b1 : Int32) (b2 : Int32) (b3 : Int32) (h0 : Heap) (n0 : Nat) (v : Option Value) (h : Heap) (L : List Loc) : Prop := v = some (.int (own_all 4 0 t b0 b1 b2 b3)) ∧ Fr n0 L ∧ h = h0
set_option maxRecDepth 65536 in
set_option maxHeartbeats 40000000 in
theorem rm9_4_0 (l : Launch) (Z : State) (a0 : Array Value) (hw : ∀ d ∈ tables_1, d.before a0 Z = true) (ws : List Jvm.Cond) (a : Addr) (t : Int32) (ba : Addr) (kc : ClassId) (N : Int32) (b0 : Int32) (b1 : Int32) (b2 : Int32) (b3 : Int32) (h0 : Heap) (n0 : Nat) (Z0 : n0 ≤ h0.size) (Fb : Fld Z h0 a "com/example/notesmith/notesmith/report/LineBuffer" "bytes" "[B" (.ref ba)) (Fl : Fld Z h0 a "com/example/notesmith/notesmith/report/LineBuffer" "length" "I" (.int (0 : Int32))) (Vb : Arv Z h0 ba kc .byte N [(.int b0), (.int b1), (.int b2), (.int b3)] (.int (0 : Int32))) (hN4 : ¬ N < 4) :
    MetFree l (⟨"com/example/notesmith/notesmith/report/LineBuffer", "indexOf", "(CI)I"⟩ : MethodName) (head1 (Jvm.Cond.code (⟨"com/example/notesmith/notesmith/report/LineBuffer", "indexOf", "(CI)I"⟩ : MethodName) prog_104_method_6_code 5 (some .int) :: ws) ({ frames := 0, cells := 0, slots := 0, locals := 0 } : Room)) (fun as₉ U => as₉ = #[(.ref a), (.int t), (.int (4 : Int32))] ∧ Z.Warmed39 U.vm ∧ U.heap = h0) (fun _ _ _ _ _ => True) (fun _ U o₉ U' => ∃ v L, o₉ = .returned v ∧ Q_rm9_4_0 Z a t ba kc N b0 b1 b2 b3 h0 n0 v U'.heap L ∧ FrameEnd U o₉ U' L ({ frames := 0, cells := 0, slots := 0, locals := 0 } : Room).cells ({ frames := 0, cells := 0, slots := 0, locals := 0 } : Room).slots) := by
  refine MetFree.of_bodySF (plainFor_of_name pn_1) hisR ?_
  intro p e s m args below meth c s₁ Bd hml0 hP hK
  obtain ⟨rfl, hZ, hh⟩ := hP
  have hx := Bd.exec
  have hby := Bd.bytes
  have hml : c.maxLocals = 5 := hml0
  have hown : s.vm.findClass "com/example/notesmith/notesmith/report/LineBuffer" = some m.cls := findClass_of_methodNamed Bd.named
  have hnm := (name_of_methodNamed Bd.named Bd.method).1
  have X0 : Stand p l e ({ frames := 0, cells := 0, slots := 0, locals := 0 } : Room) s m #[(.ref a), (.int t), (.int (4 : Int32))] below meth c s₁ [] 0 0 := Stand.of_body Bd
  have e0 : s₁.heap = h0 := by rw [← hh, Bd.state]; rfl
  have N0 := Fr.nil n0
  show own_Go p e below (fun s₂ o₉ => s₂.status = .running ∧ Ended s₂ below o₉ ∧ ∃ v L, o₉ = .returned v ∧ Q_rm9_4_0 Z a t ba kc N b0 b1 b2 b3 h0 n0 v s₂.heap L ∧ FrameEnd s o₉ s₂ L ({ frames := 0, cells := 0, slots := 0, locals := 0 } : Room).cells ({ frames := 0, cells := 0, slots := 0, locals := 0 } : Room).slots) (s₁.setTop (entryFrame m #[(.ref a), (.int t), (.int (4 : Int32))] 5))
  rw [ef_rm9_4_0 m a t]
  refine own_step (s₁.setTop (mkF m 1 #[.val (.ref a), .val (.int t), .val (.int (4 : Int32)), .unset, .unset] [(.int (-1 : Int32))])) (fun t₀ k₀ => XS.iconst X0.here hx rfl (hb hby d9_0) k₀) ?_
  refine own_step (s₁.setTop (mkF m 2 #[.val (.ref a), .val (.int t), .val (.int (4 : Int32)), .val (.int (-1 : Int32)), .unset] [])) (fun t₀ k₀ => XS.istoreN X0.here hx rfl (hb hby d9_1) rfl (l' := #[.val (.ref a), .val (.int t), .val (.int (4 : Int32)), .val (.int (-1 : Int32)), .unset]) rfl k₀) ?_
  refine own_step (s₁.setTop (mkF m 3 #[.val (.ref a), .val (.int t), .val (.int (4 : Int32)), .val (.int (-1 : Int32)), .unset] [(.int (4 : Int32))])) (fun t₀ k₀ => XS.iloadN X0.here hx rfl (hb hby d9_2) rfl k₀) ?_
  refine own_step (s₁.setTop (mkF m 5 #[.val (.ref a), .val (.int t), .val (.int (4 : Int32)), .val (.int (-1 : Int32)), .val (.int (4 : Int32))] [])) (fun t₀ k₀ => XS.istore X0.here hx rfl (hb hby d9_3) rfl (l' := #[.val (.ref a), .val (.int t), .val (.int (4 : Int32)), .val (.int (-1 : Int32)), .val (.int (4 : Int32))]) rfl k₀) ?_
  refine own_step (s₁.setTop (mkF m 6 #[.val (.ref a), .val (.int t), .val (.int (4 : Int32)), .val (.int (-1 : Int32)), .val (.int (4 : Int32))] [(.int (-1 : Int32))])) (fun t₀ k₀ => XS.iloadN X0.here hx rfl (hb hby d9_5) rfl k₀) ?_
  refine own_step (s₁.setTop (mkF m 9 #[.val (.ref a), .val (.int t), .val (.int (4 : Int32)), .val (.int (-1 : Int32)), .val (.int (4 : Int32))] [])) (fun t₀ k₀ => XS.ifNo X0.here hx rfl (hb hby d9_6) rfl (by decide) k₀) ?_
  refine own_step (s₁.setTop (mkF m 11 #[.val (.ref a), .val (.int t), .val (.int (4 : Int32)), .val (.int (-1 : Int32)), .val (.int (4 : Int32))] [(.int (4 : Int32))])) (fun t₀ k₀ => XS.iload X0.here hx rfl (hb hby d9_9) rfl k₀) ?_
  refine own_step (s₁.setTop (mkF m 12 #[.val (.ref a), .val (.int t), .val (.int (4 : Int32)), .val (.int (-1 : Int32)), .val (.int (4 : Int32))] [(.ref a), (.int (4 : Int32))])) (fun t₀ k₀ => XS.aloadN X0.here hx rfl (hb hby d9_11) rfl rfl k₀) ?_
  obtain ⟨T312, X312, e312, st312⟩ := getF X0 hx hZ hown (host := "") (Or.inl (hw _ (List.mem_of_getElem? (i := 22) rfl))) Via.refl e0 Fl (g := (mkF m 12 #[.val (.ref a), .val (.int t), .val (.int (4 : Int32)), .val (.int (-1 : Int32)), .val (.int (4 : Int32))] [(.ref a), (.int (4 : Int32))])) rfl rfl (hb hby d9_12)
  refine own_step (T312.setTop (mkF m 15 #[.val (.ref a), .val (.int t), .val (.int (4 : Int32)), .val (.int (-1 : Int32)), .val (.int (4 : Int32))] [(.int (0 : Int32)), (.int (4 : Int32))])) (fun t₀ k₀ => st312 t₀ k₀) ?_
  refine own_step (T312.setTop (mkF m 38 #[.val (.ref a), .val (.int t), .val (.int (4 : Int32)), .val (.int (-1 : Int32)), .val (.int (4 : Int32))] [])) (fun t₀ k₀ => XS.icmpYes X312.here hx rfl (pc0 := 15) (pc' := 38) rfl (hb hby d9_15) rfl (by decide) (by decide) (by decide) k₀) ?_
  refine own_step (T312.setTop (mkF m 39 #[.val (.ref a), .val (.int t), .val (.int (4 : Int32)), .val (.int (-1 : Int32)), .val (.int (4 : Int32))] [(.int (-1 : Int32))])) (fun t₀ k₀ => XS.iloadN X312.here hx rfl (hb hby d9_38) rfl k₀) ?_
  obtain ⟨fs, hr, hrun, hended, hW, hsame⟩ := X312.leave (v := some (.int (-1 : Int32))) (fun h => by rw [Bd.returns] at h; cases h)
  refine ⟨_, _, ?_, hrun, hended, _, _, rfl, ?_, ⟨_, rfl⟩, hW, hsame.mono (by decide) (by decide)⟩
  · exact retI X312 hx Bd.returns (hb hby d9_39) hr
  · show Q_rm9_4_0 Z a t ba kc N b0 b1 b2 b3 h0 n0 _ T312.heap _
    rw [e312]
    exact ⟨by simp +decide [own_all, own_st], N0, rfl⟩
theorem ef_rm9_4_1 (m : MethodId) (a : Addr) (t : Int32) : entryFrame m #[(.ref a), (.int t), (.int (4 : Int32))] 5 = mkF m 0 #[.val (.ref a), .val (.int t), .val (.int (4 : Int32)), .unset, .unset] [] := by first | (simp [entryFrame, mkF, argsToLocals, Value.category]; done) | rfl
def Q_rm9_4_1 (Z : State) (a : Addr) (t : Int32) (ba : Addr) (kc : ClassId) (N : Int32) (b0 : Int32) (b1 : Int32) (b2 : Int32) (b3 : Int32) (h0 : Heap) (n0 : Nat) (v : Option Value) (h : Heap) (L : List Loc) : Prop := v = some (.int (own_all 4 1 t b0 b1 b2 b3)) ∧ Fr n0 L ∧ h = h0
set_option maxRecDepth 65536 in
set_option maxHeartbeats 40000000 in
theorem rm9_4_1 (l : Launch) (Z : State) (a0 : Array Value) (hw : ∀ d ∈ tables_1, d.before a0 Z = true) (ws : List Jvm.Cond) (a : Addr) (t : Int32) (ba : Addr) (kc : ClassId) (N : Int32) (b0 : Int32) (b1 : Int32) (b2 : Int32) (b3 : Int32) (h0 : Heap) (n0 : Nat) (Z0 : n0 ≤ h0.size) (Fb : Fld Z h0 a "com/example/notesmith/notesmith/report/LineBuffer" "bytes" "[B" (.ref ba)) (Fl : Fld Z h0 a "com/example/notesmith/notesmith/report/LineBuffer" "length" "I" (.int (1 : Int32))) (Vb : Arv Z h0 ba kc .byte N [(.int b0), (.int b1), (.int b2), (.int b3)] (.int (0 : Int32))) (hN4 : ¬ N < 4) :
    MetFree l (⟨"com/example/notesmith/notesmith/report/LineBuffer", "indexOf", "(CI)I"⟩ : MethodName) (head1 (Jvm.Cond.code (⟨"com/example/notesmith/notesmith/report/LineBuffer", "indexOf", "(CI)I"⟩ : MethodName) prog_104_method_6_code 5 (some .int) :: ws) ({ frames := 0, cells := 0, slots := 0, locals := 0 } : Room)) (fun as₉ U => as₉ = #[(.ref a), (.int t), (.int (4 : Int32))] ∧ Z.Warmed39 U.vm ∧ U.heap = h0) (fun _ _ _ _ _ => True) (fun _ U o₉ U' => ∃ v L, o₉ = .returned v ∧ Q_rm9_4_1 Z a t ba kc N b0 b1 b2 b3 h0 n0 v U'.heap L ∧ FrameEnd U o₉ U' L ({ frames := 0, cells := 0, slots := 0, locals := 0 } : Room).cells ({ frames := 0, cells := 0, slots := 0, locals := 0 } : Room).slots) := by
  refine MetFree.of_bodySF (plainFor_of_name pn_1) hisR ?_
  intro p e s m args below meth c s₁ Bd hml0 hP hK
  obtain ⟨rfl, hZ, hh⟩ := hP
  have hx := Bd.exec
  have hby := Bd.bytes
  have hml : c.maxLocals = 5 := hml0
  have hown : s.vm.findClass "com/example/notesmith/notesmith/report/LineBuffer" = some m.cls := findClass_of_methodNamed Bd.named
  have hnm := (name_of_methodNamed Bd.named Bd.method).1
  have X0 : Stand p l e ({ frames := 0, cells := 0, slots := 0, locals := 0 } : Room) s m #[(.ref a), (.int t), (.int (4 : Int32))] below meth c s₁ [] 0 0 := Stand.of_body Bd
  have e0 : s₁.heap = h0 := by rw [← hh, Bd.state]; rfl
  have N0 := Fr.nil n0
  show own_Go p e below (fun s₂ o₉ => s₂.status = .running ∧ Ended s₂ below o₉ ∧ ∃ v L, o₉ = .returned v ∧ Q_rm9_4_1 Z a t ba kc N b0 b1 b2 b3 h0 n0 v s₂.heap L ∧ FrameEnd s o₉ s₂ L ({ frames := 0, cells := 0, slots := 0, locals := 0 } : Room).cells ({ frames := 0, cells := 0, slots := 0, locals := 0 } : Room).slots) (s₁.setTop (entryFrame m #[(.ref a), (.int t), (.int (4 : Int32))] 5))
  rw [ef_rm9_4_1 m a t]
  refine own_step (s₁.setTop (mkF m 1 #[.val (.ref a), .val (.int t), .val (.int (4 : Int32)), .unset, .unset] [(.int (-1 : Int32))])) (fun t₀ k₀ => XS.iconst X0.here hx rfl (hb hby d9_0) k₀) ?_
  refine own_step (s₁.setTop (mkF m 2 #[.val (.ref a), .val (.int t), .val (.int (4 : Int32)), .val (.int (-1 : Int32)), .unset] [])) (fun t₀ k₀ => XS.istoreN X0.here hx rfl (hb hby d9_1) rfl (l' := #[.val (.ref a), .val (.int t), .val (.int (4 : Int32)), .val (.int (-1 : Int32)), .unset]) rfl k₀) ?_
  refine own_step (s₁.setTop (mkF m 3 #[.val (.ref a), .val (.int t), .val (.int (4 : Int32)), .val (.int (-1 : Int32)), .unset] [(.int (4 : Int32))])) (fun t₀ k₀ => XS.iloadN X0.here hx rfl (hb hby d9_2) rfl k₀) ?_
  refine own_step (s₁.setTop (mkF m 5 #[.val (.ref a), .val (.int t), .val (.int (4 : Int32)), .val (.int (-1 : Int32)), .val (.int (4 : Int32))] [])) (fun t₀ k₀ => XS.istore X0.here hx rfl (hb hby d9_3) rfl (l' := #[.val (.ref a), .val (.int t), .val (.int (4 : Int32)), .val (.int (-1 : Int32)), .val (.int (4 : Int32))]) rfl k₀) ?_
  refine own_step (s₁.setTop (mkF m 6 #[.val (.ref a), .val (.int t), .val (.int (4 : Int32)), .val (.int (-1 : Int32)), .val (.int (4 : Int32))] [(.int (-1 : Int32))])) (fun t₀ k₀ => XS.iloadN X0.here hx rfl (hb hby d9_5) rfl k₀) ?_
  refine own_step (s₁.setTop (mkF m 9 #[.val (.ref a), .val (.int t), .val (.int (4 : Int32)), .val (.int (-1 : Int32)), .val (.int (4 : Int32))] [])) (fun t₀ k₀ => XS.ifNo X0.here hx rfl (hb hby d9_6) rfl (by decide) k₀) ?_
  refine own_step (s₁.setTop (mkF m 11 #[.val (.ref a), .val (.int t), .val (.int (4 : Int32)), .val (.int (-1 : Int32)), .val (.int (4 : Int32))] [(.int (4 : Int32))])) (fun t₀ k₀ => XS.iload X0.here hx rfl (hb hby d9_9) rfl k₀) ?_
  refine own_step (s₁.setTop (mkF m 12 #[.val (.ref a), .val (.int t), .val (.int (4 : Int32)), .val (.int (-1 : Int32)), .val (.int (4 : Int32))] [(.ref a), (.int (4 : Int32))])) (fun t₀ k₀ => XS.aloadN X0.here hx rfl (hb hby d9_11) rfl rfl k₀) ?_
  obtain ⟨T313, X313, e313, st313⟩ := getF X0 hx hZ hown (host := "") (Or.inl (hw _ (List.mem_of_getElem? (i := 22) rfl))) Via.refl e0 Fl (g := (mkF m 12 #[.val (.ref a), .val (.int t), .val (.int (4 : Int32)), .val (.int (-1 : Int32)), .val (.int (4 : Int32))] [(.ref a), (.int (4 : Int32))])) rfl rfl (hb hby d9_12)
  refine own_step (T313.setTop (mkF m 15 #[.val (.ref a), .val (.int t), .val (.int (4 : Int32)), .val (.int (-1 : Int32)), .val (.int (4 : Int32))] [(.int (1 : Int32)), (.int (4 : Int32))])) (fun t₀ k₀ => st313 t₀ k₀) ?_
  refine own_step (T313.setTop (mkF m 38 #[.val (.ref a), .val (.int t), .val (.int (4 : Int32)), .val (.int (-1 : Int32)), .val (.int (4 : Int32))] [])) (fun t₀ k₀ => XS.icmpYes X313.here hx rfl (pc0 := 15) (pc' := 38) rfl (hb hby d9_15) rfl (by decide) (by decide) (by decide) k₀) ?_
  refine own_step (T313.setTop (mkF m 39 #[.val (.ref a), .val (.int t), .val (.int (4 : Int32)), .val (.int (-1 : Int32)), .val (.int (4 : Int32))] [(.int (-1 : Int32))])) (fun t₀ k₀ => XS.iloadN X313.here hx rfl (hb hby d9_38) rfl k₀) ?_
  obtain ⟨fs, hr, hrun, hended, hW, hsame⟩ := X313.leave (v := some (.int (-1 : Int32))) (fun h => by rw [Bd.returns] at h; cases h)
  refine ⟨_, _, ?_, hrun, hended, _, _, rfl, ?_, ⟨_, rfl⟩, hW, hsame.mono (by decide) (by decide)⟩
  · exact retI X313 hx Bd.returns (hb hby d9_39) hr
  · show Q_rm9_4_1 Z a t ba kc N b0 b1 b2 b3 h0 n0 _ T313.heap _
    rw [e313]
    exact ⟨by simp +decide [own_all, own_st], N0, rfl⟩
theorem ef_rm9_4_2 (m : MethodId) (a : Addr) (t : Int32) : entryFrame m #[(.ref a), (.int t), (.int (4 : Int32))] 5 = mkF m 0 #[.val (.ref a), .val (.int t), .val (.int (4 : Int32)), .unset, .unset] [] := by first | (simp [entryFrame, mkF, argsToLocals, Value.category]; done) | rfl
def Q_rm9_4_2 (Z : State) (a : Addr) (t : Int32) (ba : Addr) (kc : ClassId) (N : Int32) (b0 : Int32) (b1 : Int32) (b2 : Int32) (b3 : Int32) (h0 : Heap) (n0 : Nat) (v : Option Value) (h : Heap) (L : List Loc) : Prop := v = some (.int (own_all 4 2 t b0 b1 b2 b3)) ∧ Fr n0 L ∧ h = h0
set_option maxRecDepth 65536 in
set_option maxHeartbeats 40000000 in
theorem rm9_4_2 (l : Launch) (Z : State) (a0 : Array Value) (hw : ∀ d ∈ tables_1, d.before a0 Z = true) (ws : List Jvm.Cond) (a : Addr) (t : Int32) (ba : Addr) (kc : ClassId) (N : Int32) (b0 : Int32) (b1 : Int32) (b2 : Int32) (b3 : Int32) (h0 : Heap) (n0 : Nat) (Z0 : n0 ≤ h0.size) (Fb : Fld Z h0 a "com/example/notesmith/notesmith/report/LineBuffer" "bytes" "[B" (.ref ba)) (Fl : Fld Z h0 a "com/example/notesmith/notesmith/report/LineBuffer" "length" "I" (.int (2 : Int32))) (Vb : Arv Z h0 ba kc .byte N [(.int b0), (.int b1), (.int b2), (.int b3)] (.int (0 : Int32))) (hN4 : ¬ N < 4) :
    MetFree l (⟨"com/example/notesmith/notesmith/report/LineBuffer", "indexOf", "(CI)I"⟩ : MethodName) (head1 (Jvm.Cond.code (⟨"com/example/notesmith/notesmith/report/LineBuffer", "indexOf", "(CI)I"⟩ : MethodName) prog_104_method_6_code 5 (some .int) :: ws) ({ frames := 0, cells := 0, slots := 0, locals := 0 } : Room)) (fun as₉ U => as₉ = #[(.ref a), (.int t), (.int (4 : Int32))] ∧ Z.Warmed39 U.vm ∧ U.heap = h0) (fun _ _ _ _ _ => True) (fun _ U o₉ U' => ∃ v L, o₉ = .returned v ∧ Q_rm9_4_2 Z a t ba kc N b0 b1 b2 b3 h0 n0 v U'.heap L ∧ FrameEnd U o₉ U' L ({ frames := 0, cells := 0, slots := 0, locals := 0 } : Room).cells ({ frames := 0, cells := 0, slots := 0, locals := 0 } : Room).slots) := by
  refine MetFree.of_bodySF (plainFor_of_name pn_1) hisR ?_
  intro p e s m args below meth c s₁ Bd hml0 hP hK
  obtain ⟨rfl, hZ, hh⟩ := hP
  have hx := Bd.exec
  have hby := Bd.bytes
  have hml : c.maxLocals = 5 := hml0
  have hown : s.vm.findClass "com/example/notesmith/notesmith/report/LineBuffer" = some m.cls := findClass_of_methodNamed Bd.named
  have hnm := (name_of_methodNamed Bd.named Bd.method).1
  have X0 : Stand p l e ({ frames := 0, cells := 0, slots := 0, locals := 0 } : Room) s m #[(.ref a), (.int t), (.int (4 : Int32))] below meth c s₁ [] 0 0 := Stand.of_body Bd
  have e0 : s₁.heap = h0 := by rw [← hh, Bd.state]; rfl
  have N0 := Fr.nil n0
  show own_Go p e below (fun s₂ o₉ => s₂.status = .running ∧ Ended s₂ below o₉ ∧ ∃ v L, o₉ = .returned v ∧ Q_rm9_4_2 Z a t ba kc N b0 b1 b2 b3 h0 n0 v s₂.heap L ∧ FrameEnd s o₉ s₂ L ({ frames := 0, cells := 0, slots := 0, locals := 0 } : Room).cells ({ frames := 0, cells := 0, slots := 0, locals := 0 } : Room).slots) (s₁.setTop (entryFrame m #[(.ref a), (.int t), (.int (4 : Int32))] 5))
  rw [ef_rm9_4_2 m a t]
  refine own_step (s₁.setTop (mkF m 1 #[.val (.ref a), .val (.int t), .val (.int (4 : Int32)), .unset, .unset] [(.int (-1 : Int32))])) (fun t₀ k₀ => XS.iconst X0.here hx rfl (hb hby d9_0) k₀) ?_
  refine own_step (s₁.setTop (mkF m 2 #[.val (.ref a), .val (.int t), .val (.int (4 : Int32)), .val (.int (-1 : Int32)), .unset] [])) (fun t₀ k₀ => XS.istoreN X0.here hx rfl (hb hby d9_1) rfl (l' := #[.val (.ref a), .val (.int t), .val (.int (4 : Int32)), .val (.int (-1 : Int32)), .unset]) rfl k₀) ?_
  refine own_step (s₁.setTop (mkF m 3 #[.val (.ref a), .val (.int t), .val (.int (4 : Int32)), .val (.int (-1 : Int32)), .unset] [(.int (4 : Int32))])) (fun t₀ k₀ => XS.iloadN X0.here hx rfl (hb hby d9_2) rfl k₀) ?_
  refine own_step (s₁.setTop (mkF m 5 #[.val (.ref a), .val (.int t), .val (.int (4 : Int32)), .val (.int (-1 : Int32)), .val (.int (4 : Int32))] [])) (fun t₀ k₀ => XS.istore X0.here hx rfl (hb hby d9_3) rfl (l' := #[.val (.ref a), .val (.int t), .val (.int (4 : Int32)), .val (.int (-1 : Int32)), .val (.int (4 : Int32))]) rfl k₀) ?_
  refine own_step (s₁.setTop (mkF m 6 #[.val (.ref a), .val (.int t), .val (.int (4 : Int32)), .val (.int (-1 : Int32)), .val (.int (4 : Int32))] [(.int (-1 : Int32))])) (fun t₀ k₀ => XS.iloadN X0.here hx rfl (hb hby d9_5) rfl k₀) ?_
  refine own_step (s₁.setTop (mkF m 9 #[.val (.ref a), .val (.int t), .val (.int (4 : Int32)), .val (.int (-1 : Int32)), .val (.int (4 : Int32))] [])) (fun t₀ k₀ => XS.ifNo X0.here hx rfl (hb hby d9_6) rfl (by decide) k₀) ?_
  refine own_step (s₁.setTop (mkF m 11 #[.val (.ref a), .val (.int t), .val (.int (4 : Int32)), .val (.int (-1 : Int32)), .val (.int (4 : Int32))] [(.int (4 : Int32))])) (fun t₀ k₀ => XS.iload X0.here hx rfl (hb hby d9_9) rfl k₀) ?_
  refine own_step (s₁.setTop (mkF m 12 #[.val (.ref a), .val (.int t), .val (.int (4 : Int32)), .val (.int (-1 : Int32)), .val (.int (4 : Int32))] [(.ref a), (.int (4 : Int32))])) (fun t₀ k₀ => XS.aloadN X0.here hx rfl (hb hby d9_11) rfl rfl k₀) ?_
  obtain ⟨T314, X314, e314, st314⟩ := getF X0 hx hZ hown (host := "") (Or.inl (hw _ (List.mem_of_getElem? (i := 22) rfl))) Via.refl e0 Fl (g := (mkF m 12 #[.val (.ref a), .val (.int t), .val (.int (4 : Int32)), .val (.int (-1 : Int32)), .val (.int (4 : Int32))] [(.ref a), (.int (4 : Int32))])) rfl rfl (hb hby d9_12)
  refine own_step (T314.setTop (mkF m 15 #[.val (.ref a), .val (.int t), .val (.int (4 : Int32)), .val (.int (-1 : Int32)), .val (.int (4 : Int32))] [(.int (2 : Int32)), (.int (4 : Int32))])) (fun t₀ k₀ => st314 t₀ k₀) ?_
  refine own_step (T314.setTop (mkF m 38 #[.val (.ref a), .val (.int t), .val (.int (4 : Int32)), .val (.int (-1 : Int32)), .val (.int (4 : Int32))] [])) (fun t₀ k₀ => XS.icmpYes X314.here hx rfl (pc0 := 15) (pc' := 38) rfl (hb hby d9_15) rfl (by decide) (by decide) (by decide) k₀) ?_
  refine own_step (T314.setTop (mkF m 39 #[.val (.ref a), .val (.int t), .val (.int (4 : Int32)), .val (.int (-1 : Int32)), .val (.int (4 : Int32))] [(.int (-1 : Int32))])) (fun t₀ k₀ => XS.iloadN X314.here hx rfl (hb hby d9_38) rfl k₀) ?_
  obtain ⟨fs, hr, hrun, hended, hW, hsame⟩ := X314.leave (v := some (.int (-1 : Int32))) (fun h => by rw [Bd.returns] at h; cases h)
  refine ⟨_, _, ?_, hrun, hended, _, _, rfl, ?_, ⟨_, rfl⟩, hW, hsame.mono (by decide) (by decide)⟩
  · exact retI X314 hx Bd.returns (hb hby d9_39) hr
  · show Q_rm9_4_2 Z a t ba kc N b0 b1 b2 b3 h0 n0 _ T314.heap _
    rw [e314]
    exact ⟨by simp +decide [own_all, own_st], N0, rfl⟩
theorem ef_rm9_4_3 (m : MethodId) (a : Addr) (t : Int32) : entryFrame m #[(.ref a), (.int t), (.int (4 : Int32))] 5 = mkF m 0 #[.val (.ref a), .val (.int t), .val (.int (4 : Int32)), .unset, .unset] [] := by first | (simp [entryFrame, mkF, argsToLocals, Value.category]; done) | rfl
def Q_rm9_4_3 (Z : State) (a : Addr) (t : Int32) (ba : Addr) (kc : ClassId) (N : Int32) (b0 : Int32) (b1 : Int32) (b2 : Int32) (b3 : Int32) (h0 : Heap) (n0 : Nat) (v : Option Value) (h : Heap) (L : List Loc) : Prop := v = some (.int (own_all 4 3 t b0 b1 b2 b3)) ∧ Fr n0 L ∧ h = h0
set_option maxRecDepth 65536 in
set_option maxHeartbeats 40000000 in
theorem rm9_4_3 (l : Launch) (Z : State) (a0 : Array Value) (hw : ∀ d ∈ tables_1, d.before a0 Z = true) (ws : List Jvm.Cond) (a : Addr) (t : Int32) (ba : Addr) (kc : ClassId) (N : Int32) (b0 : Int32) (b1 : Int32) (b2 : Int32) (b3 : Int32) (h0 : Heap) (n0 : Nat) (Z0 : n0 ≤ h0.size) (Fb : Fld Z h0 a "com/example/notesmith/notesmith/report/LineBuffer" "bytes" "[B" (.ref ba)) (Fl : Fld Z h0 a "com/example/notesmith/notesmith/report/LineBuffer" "length" "I" (.int (3 : Int32))) (Vb : Arv Z h0 ba kc .byte N [(.int b0), (.int b1), (.int b2), (.int b3)] (.int (0 : Int32))) (hN4 : ¬ N < 4) :
    MetFree l (⟨"com/example/notesmith/notesmith/report/LineBuffer", "indexOf", "(CI)I"⟩ : MethodName) (head1 (Jvm.Cond.code (⟨"com/example/notesmith/notesmith/report/LineBuffer", "indexOf", "(CI)I"⟩ : MethodName) prog_104_method_6_code 5 (some .int) :: ws) ({ frames := 0, cells := 0, slots := 0, locals := 0 } : Room)) (fun as₉ U => as₉ = #[(.ref a), (.int t), (.int (4 : Int32))] ∧ Z.Warmed39 U.vm ∧ U.heap = h0) (fun _ _ _ _ _ => True) (fun _ U o₉ U' => ∃ v L, o₉ = .returned v ∧ Q_rm9_4_3 Z a t ba kc N b0 b1 b2 b3 h0 n0 v U'.heap L ∧ FrameEnd U o₉ U' L ({ frames := 0, cells := 0, slots := 0, locals := 0 } : Room).cells ({ frames := 0, cells := 0, slots := 0, locals := 0 } : Room).slots) := by
  refine MetFree.of_bodySF (plainFor_of_name pn_1) hisR ?_
  intro p e s m args below meth c s₁ Bd hml0 hP hK
  obtain ⟨rfl, hZ, hh⟩ := hP
  have hx := Bd.exec
  have hby := Bd.bytes
  have hml : c.maxLocals = 5 := hml0
  have hown : s.vm.findClass "com/example/notesmith/notesmith/report/LineBuffer" = some m.cls := findClass_of_methodNamed Bd.named
  have hnm := (name_of_methodNamed Bd.named Bd.method).1
  have X0 : Stand p l e ({ frames := 0, cells := 0, slots := 0, locals := 0 } : Room) s m #[(.ref a), (.int t), (.int (4 : Int32))] below meth c s₁ [] 0 0 := Stand.of_body Bd
  have e0 : s₁.heap = h0 := by rw [← hh, Bd.state]; rfl
  have N0 := Fr.nil n0
  show own_Go p e below (fun s₂ o₉ => s₂.status = .running ∧ Ended s₂ below o₉ ∧ ∃ v L, o₉ = .returned v ∧ Q_rm9_4_3 Z a t ba kc N b0 b1 b2 b3 h0 n0 v s₂.heap L ∧ FrameEnd s o₉ s₂ L ({ frames := 0, cells := 0, slots := 0, locals := 0 } : Room).cells ({ frames := 0, cells := 0, slots := 0, locals := 0 } : Room).slots) (s₁.setTop (entryFrame m #[(.ref a), (.int t), (.int (4 : Int32))] 5))
  rw [ef_rm9_4_3 m a t]
  refine own_step (s₁.setTop (mkF m 1 #[.val (.ref a), .val (.int t), .val (.int (4 : Int32)), .unset, .unset] [(.int (-1 : Int32))])) (fun t₀ k₀ => XS.iconst X0.here hx rfl (hb hby d9_0) k₀) ?_
  refine own_step (s₁.setTop (mkF m 2 #[.val (.ref a), .val (.int t), .val (.int (4 : Int32)), .val (.int (-1 : Int32)), .unset] [])) (fun t₀ k₀ => XS.istoreN X0.here hx rfl (hb hby d9_1) rfl (l' := #[.val (.ref a), .val (.int t), .val (.int (4 : Int32)), .val (.int (-1 : Int32)), .unset]) rfl k₀) ?_
  refine own_step (s₁.setTop (mkF m 3 #[.val (.ref a), .val (.int t), .val (.int (4 : Int32)), .val (.int (-1 : Int32)), .unset] [(.int (4 : Int32))])) (fun t₀ k₀ => XS.iloadN X0.here hx rfl (hb hby d9_2) rfl k₀) ?_
  refine own_step (s₁.setTop (mkF m 5 #[.val (.ref a), .val (.int t), .val (.int (4 : Int32)), .val (.int (-1 : Int32)), .val (.int (4 : Int32))] [])) (fun t₀ k₀ => XS.istore X0.here hx rfl (hb hby d9_3) rfl (l' := #[.val (.ref a), .val (.int t), .val (.int (4 : Int32)), .val (.int (-1 : Int32)), .val (.int (4 : Int32))]) rfl k₀) ?_
  refine own_step (s₁.setTop (mkF m 6 #[.val (.ref a), .val (.int t), .val (.int (4 : Int32)), .val (.int (-1 : Int32)), .val (.int (4 : Int32))] [(.int (-1 : Int32))])) (fun t₀ k₀ => XS.iloadN X0.here hx rfl (hb hby d9_5) rfl k₀) ?_
  refine own_step (s₁.setTop (mkF m 9 #[.val (.ref a), .val (.int t), .val (.int (4 : Int32)), .val (.int (-1 : Int32)), .val (.int (4 : Int32))] [])) (fun t₀ k₀ => XS.ifNo X0.here hx rfl (hb hby d9_6) rfl (by decide) k₀) ?_
  refine own_step (s₁.setTop (mkF m 11 #[.val (.ref a), .val (.int t), .val (.int (4 : Int32)), .val (.int (-1 : Int32)), .val (.int (4 : Int32))] [(.int (4 : Int32))])) (fun t₀ k₀ => XS.iload X0.here hx rfl (hb hby d9_9) rfl k₀) ?_
  refine own_step (s₁.setTop (mkF m 12 #[.val (.ref a), .val (.int t), .val (.int (4 : Int32)), .val (.int (-1 : Int32)), .val (.int (4 : Int32))] [(.ref a), (.int (4 : Int32))])) (fun t₀ k₀ => XS.aloadN X0.here hx rfl (hb hby d9_11) rfl rfl k₀) ?_
  obtain ⟨T315, X315, e315, st315⟩ := getF X0 hx hZ hown (host := "") (Or.inl (hw _ (List.mem_of_getElem? (i := 22) rfl))) Via.refl e0 Fl (g := (mkF m 12 #[.val (.ref a), .val (.int t), .val (.int (4 : Int32)), .val (.int (-1 : Int32)), .val (.int (4 : Int32))] [(.ref a), (.int (4 : Int32))])) rfl rfl (hb hby d9_12)
  refine own_step (T315.setTop (mkF m 15 #[.val (.ref a), .val (.int t), .val (.int (4 : Int32)), .val (.int (-1 : Int32)), .val (.int (4 : Int32))] [(.int (3 : Int32)), (.int (4 : Int32))])) (fun t₀ k₀ => st315 t₀ k₀) ?_
  refine own_step (T315.setTop (mkF m 38 #[.val (.ref a), .val (.int t), .val (.int (4 : Int32)), .val (.int (-1 : Int32)), .val (.int (4 : Int32))] [])) (fun t₀ k₀ => XS.icmpYes X315.here hx rfl (pc0 := 15) (pc' := 38) rfl (hb hby d9_15) rfl (by decide) (by decide) (by decide) k₀) ?_
  refine own_step (T315.setTop (mkF m 39 #[.val (.ref a), .val (.int t), .val (.int (4 : Int32)), .val (.int (-1 : Int32)), .val (.int (4 : Int32))] [(.int (-1 : Int32))])) (fun t₀ k₀ => XS.iloadN X315.here hx rfl (hb hby d9_38) rfl k₀) ?_
  obtain ⟨fs, hr, hrun, hended, hW, hsame⟩ := X315.leave (v := some (.int (-1 : Int32))) (fun h => by rw [Bd.returns] at h; cases h)
  refine ⟨_, _, ?_, hrun, hended, _, _, rfl, ?_, ⟨_, rfl⟩, hW, hsame.mono (by decide) (by decide)⟩
  · exact retI X315 hx Bd.returns (hb hby d9_39) hr
  · show Q_rm9_4_3 Z a t ba kc N b0 b1 b2 b3 h0 n0 _ T315.heap _
    rw [e315]
    exact ⟨by simp +decide [own_all, own_st], N0, rfl⟩
theorem ef_rm9_4_4 (m : MethodId) (a : Addr) (t : Int32) : entryFrame m #[(.ref a), (.int t), (.int (4 : Int32))] 5 = mkF m 0 #[.val (.ref a), .val (.int t), .val (.int (4 : Int32)), .unset, .unset] [] := by first | (simp [entryFrame, mkF, argsToLocals, Value.category]; done) | rfl
def Q_rm9_4_4 (Z : State) (a : Addr) (t : Int32) (ba : Addr) (kc : ClassId) (N : Int32) (b0 : Int32) (b1 : Int32) (b2 : Int32) (b3 : Int32) (h0 : Heap) (n0 : Nat) (v : Option Value) (h : Heap) (L : List Loc) : Prop := v = some (.int (own_all 4 4 t b0 b1 b2 b3)) ∧ Fr n0 L ∧ h = h0
set_option maxRecDepth 65536 in
set_option maxHeartbeats 40000000 in
theorem rm9_4_4 (l : Launch) (Z : State) (a0 : Array Value) (hw : ∀ d ∈ tables_1, d.before a0 Z = true) (ws : List Jvm.Cond) (a : Addr) (t : Int32) (ba : Addr) (kc : ClassId) (N : Int32) (b0 : Int32) (b1 : Int32) (b2 : Int32) (b3 : Int32) (h0 : Heap) (n0 : Nat) (Z0 : n0 ≤ h0.size) (Fb : Fld Z h0 a "com/example/notesmith/notesmith/report/LineBuffer" "bytes" "[B" (.ref ba)) (Fl : Fld Z h0 a "com/example/notesmith/notesmith/report/LineBuffer" "length" "I" (.int (4 : Int32))) (Vb : Arv Z h0 ba kc .byte N [(.int b0), (.int b1), (.int b2), (.int b3)] (.int (0 : Int32))) (hN4 : ¬ N < 4) :
    MetFree l (⟨"com/example/notesmith/notesmith/report/LineBuffer", "indexOf", "(CI)I"⟩ : MethodName) (head1 (Jvm.Cond.code (⟨"com/example/notesmith/notesmith/report/LineBuffer", "indexOf", "(CI)I"⟩ : MethodName) prog_104_method_6_code 5 (some .int) :: ws) ({ frames := 0, cells := 0, slots := 0, locals := 0 } : Room)) (fun as₉ U => as₉ = #[(.ref a), (.int t), (.int (4 : Int32))] ∧ Z.Warmed39 U.vm ∧ U.heap = h0) (fun _ _ _ _ _ => True) (fun _ U o₉ U' => ∃ v L, o₉ = .returned v ∧ Q_rm9_4_4 Z a t ba kc N b0 b1 b2 b3 h0 n0 v U'.heap L ∧ FrameEnd U o₉ U' L ({ frames := 0, cells := 0, slots := 0, locals := 0 } : Room).cells ({ frames := 0, cells := 0, slots := 0, locals := 0 } : Room).slots) := by
  refine MetFree.of_bodySF (plainFor_of_name pn_1) hisR ?_
  intro p e s m args below meth c s₁ Bd hml0 hP hK
  obtain ⟨rfl, hZ, hh⟩ := hP
  have hx := Bd.exec
  have hby := Bd.bytes
  have hml : c.maxLocals = 5 := hml0
  have hown : s.vm.findClass "com/example/notesmith/notesmith/report/LineBuffer" = some m.cls := findClass_of_methodNamed Bd.named
  have hnm := (name_of_methodNamed Bd.named Bd.method).1
  have X0 : Stand p l e ({ frames := 0, cells := 0, slots := 0, locals := 0 } : Room) s m #[(.ref a), (.int t), (.int (4 : Int32))] below meth c s₁ [] 0 0 := Stand.of_body Bd
  have e0 : s₁.heap = h0 := by rw [← hh, Bd.state]; rfl
  have N0 := Fr.nil n0
  show own_Go p e below (fun s₂ o₉ => s₂.status = .running ∧ Ended s₂ below o₉ ∧ ∃ v L, o₉ = .returned v ∧ Q_rm9_4_4 Z a t ba kc N b0 b1 b2 b3 h0 n0 v s₂.heap L ∧ FrameEnd s o₉ s₂ L ({ frames := 0, cells := 0, slots := 0, locals := 0 } : Room).cells ({ frames := 0, cells := 0, slots := 0, locals := 0 } : Room).slots) (s₁.setTop (entryFrame m #[(.ref a), (.int t), (.int (4 : Int32))] 5))
  rw [ef_rm9_4_4 m a t]
  refine own_step (s₁.setTop (mkF m 1 #[.val (.ref a), .val (.int t), .val (.int (4 : Int32)), .unset, .unset] [(.int (-1 : Int32))])) (fun t₀ k₀ => XS.iconst X0.here hx rfl (hb hby d9_0) k₀) ?_
  refine own_step (s₁.setTop (mkF m 2 #[.val (.ref a), .val (.int t), .val (.int (4 : Int32)), .val (.int (-1 : Int32)), .unset] [])) (fun t₀ k₀ => XS.istoreN X0.here hx rfl (hb hby d9_1) rfl (l' := #[.val (.ref a), .val (.int t), .val (.int (4 : Int32)), .val (.int (-1 : Int32)), .unset]) rfl k₀) ?_
  refine own_step (s₁.setTop (mkF m 3 #[.val (.ref a), .val (.int t), .val (.int (4 : Int32)), .val (.int (-1 : Int32)), .unset] [(.int (4 : Int32))])) (fun t₀ k₀ => XS.iloadN X0.here hx rfl (hb hby d9_2) rfl k₀) ?_
  refine own_step (s₁.setTop (mkF m 5 #[.val (.ref a), .val (.int t), .val (.int (4 : Int32)), .val (.int (-1 : Int32)), .val (.int (4 : Int32))] [])) (fun t₀ k₀ => XS.istore X0.here hx rfl (hb hby d9_3) rfl (l' := #[.val (.ref a), .val (.int t), .val (.int (4 : Int32)), .val (.int (-1 : Int32)), .val (.int (4 : Int32))]) rfl k₀) ?_
  refine own_step (s₁.setTop (mkF m 6 #[.val (.ref a), .val (.int t), .val (.int (4 : Int32)), .val (.int (-1 : Int32)), .val (.int (4 : Int32))] [(.int (-1 : Int32))])) (fun t₀ k₀ => XS.iloadN X0.here hx rfl (hb hby d9_5) rfl k₀) ?_
  refine own_step (s₁.setTop (mkF m 9 #[.val (.ref a), .val (.int t), .val (.int (4 : Int32)), .val (.int (-1 : Int32)), .val (.int (4 : Int32))] [])) (fun t₀ k₀ => XS.ifNo X0.here hx rfl (hb hby d9_6) rfl (by decide) k₀) ?_
  refine own_step (s₁.setTop (mkF m 11 #[.val (.ref a), .val (.int t), .val (.int (4 : Int32)), .val (.int (-1 : Int32)), .val (.int (4 : Int32))] [(.int (4 : Int32))])) (fun t₀ k₀ => XS.iload X0.here hx rfl (hb hby d9_9) rfl k₀) ?_
  refine own_step (s₁.setTop (mkF m 12 #[.val (.ref a), .val (.int t), .val (.int (4 : Int32)), .val (.int (-1 : Int32)), .val (.int (4 : Int32))] [(.ref a), (.int (4 : Int32))])) (fun t₀ k₀ => XS.aloadN X0.here hx rfl (hb hby d9_11) rfl rfl k₀) ?_
  obtain ⟨T316, X316, e316, st316⟩ := getF X0 hx hZ hown (host := "") (Or.inl (hw _ (List.mem_of_getElem? (i := 22) rfl))) Via.refl e0 Fl (g := (mkF m 12 #[.val (.ref a), .val (.int t), .val (.int (4 : Int32)), .val (.int (-1 : Int32)), .val (.int (4 : Int32))] [(.ref a), (.int (4 : Int32))])) rfl rfl (hb hby d9_12)
  refine own_step (T316.setTop (mkF m 15 #[.val (.ref a), .val (.int t), .val (.int (4 : Int32)), .val (.int (-1 : Int32)), .val (.int (4 : Int32))] [(.int (4 : Int32)), (.int (4 : Int32))])) (fun t₀ k₀ => st316 t₀ k₀) ?_
  refine own_step (T316.setTop (mkF m 38 #[.val (.ref a), .val (.int t), .val (.int (4 : Int32)), .val (.int (-1 : Int32)), .val (.int (4 : Int32))] [])) (fun t₀ k₀ => XS.icmpYes X316.here hx rfl (pc0 := 15) (pc' := 38) rfl (hb hby d9_15) rfl (by decide) (by decide) (by decide) k₀) ?_
  refine own_step (T316.setTop (mkF m 39 #[.val (.ref a), .val (.int t), .val (.int (4 : Int32)), .val (.int (-1 : Int32)), .val (.int (4 : Int32))] [(.int (-1 : Int32))])) (fun t₀ k₀ => XS.iloadN X316.here hx rfl (hb hby d9_38) rfl k₀) ?_
  obtain ⟨fs, hr, hrun, hended, hW, hsame⟩ := X316.leave (v := some (.int (-1 : Int32))) (fun h => by rw [Bd.returns] at h; cases h)
  refine ⟨_, _, ?_, hrun, hended, _, _, rfl, ?_, ⟨_, rfl⟩, hW, hsame.mono (by decide) (by decide)⟩
  · exact retI X316 hx Bd.returns (hb hby d9_39) hr
  · show Q_rm9_4_4 Z a t ba kc N b0 b1 b2 b3 h0 n0 _ T316.heap _
    rw [e316]
    exact ⟨by simp +decide [own_all, own_st], N0, rfl⟩
theorem ef_rm9_5_0 (m : MethodId) (a : Addr) (t : Int32) : entryFrame m #[(.ref a), (.int t), (.int (5 : Int32))] 5 = mkF m 0 #[.val (.ref a), .val (.int t), .val (.int (5 : Int32)), .unset, .unset] [] := by first | (simp [entryFrame, mkF, argsToLocals, Value.category]; done) | rfl
def Q_rm9_5_0 (Z : State) (a : Addr) (t : Int32) (ba : Addr) (kc : ClassId) (N : Int32) (b0 : Int32) (b1 : Int32) (b2 : Int32) (b3 : Int32) (h0 : Heap) (n0 : Nat) (v : Option Value) (h : Heap) (L : List Loc) : Prop := v = some (.int (own_all 5 0 t b0 b1 b2 b3)) ∧ Fr n0 L ∧ h = h0
set_option maxRecDepth 65536 in
set_option maxHeartbeats 40000000 in
theorem rm9_5_0 (l : Launch) (Z : State) (a0 : Array Value) (hw : ∀ d ∈ tables_1, d.before a0 Z = true) (ws : List Jvm.Cond) (a : Addr) (t : Int32) (ba : Addr) (kc : ClassId) (N : Int32) (b0 : Int32) (b1 : Int32) (b2 : Int32) (b3 : Int32) (h0 : Heap) (n0 : Nat) (Z0 : n0 ≤ h0.size) (Fb : Fld Z h0 a "com/example/notesmith/notesmith/report/LineBuffer" "bytes" "[B" (.ref ba)) (Fl : Fld Z h0 a "com/example/notesmith/notesmith/report/LineBuffer" "length" "I" (.int (0 : Int32))) (Vb : Arv Z h0 ba kc .byte N [(.int b0), (.int b1), (.int b2), (.int b3)] (.int (0 : Int32))) (hN4 : ¬ N < 4) :
    MetFree l (⟨"com/example/notesmith/notesmith/report/LineBuffer", "indexOf", "(CI)I"⟩ : MethodName) (head1 (Jvm.Cond.code (⟨"com/example/notesmith/notesmith/report/LineBuffer", "indexOf", "(CI)I"⟩ : MethodName) prog_104_method_6_code 5 (some .int) :: ws) ({ frames := 0, cells := 0, slots := 0, locals := 0 } : Room)) (fun as₉ U => as₉ = #[(.ref a), (.int t), (.int (5 : Int32))] ∧ Z.Warmed39 U.vm ∧ U.heap = h0) (fun _ _ _ _ _ => True) (fun _ U o₉ U' => ∃ v L, o₉ = .returned v ∧ Q_rm9_5_0 Z a t ba kc N b0 b1 b2 b3 h0 n0 v U'.heap L ∧ FrameEnd U o₉ U' L ({ frames := 0, cells := 0, slots := 0, locals := 0 } : Room).cells ({ frames := 0, cells := 0, slots := 0, locals := 0 } : Room).slots) := by
  refine MetFree.of_bodySF (plainFor_of_name pn_1) hisR ?_
  intro p e s m args below meth c s₁ Bd hml0 hP hK
  obtain ⟨rfl, hZ, hh⟩ := hP
  have hx := Bd.exec
  have hby := Bd.bytes
  have hml : c.maxLocals = 5 := hml0
  have hown : s.vm.findClass "com/example/notesmith/notesmith/report/LineBuffer" = some m.cls := findClass_of_methodNamed Bd.named
  have hnm := (name_of_methodNamed Bd.named Bd.method).1
  have X0 : Stand p l e ({ frames := 0, cells := 0, slots := 0, locals := 0 } : Room) s m #[(.ref a), (.int t), (.int (5 : Int32))] below meth c s₁ [] 0 0 := Stand.of_body Bd
  have e0 : s₁.heap = h0 := by rw [← hh, Bd.state]; rfl
  have N0 := Fr.nil n0
  show own_Go p e below (fun s₂ o₉ => s₂.status = .running ∧ Ended s₂ below o₉ ∧ ∃ v L, o₉ = .returned v ∧ Q_rm9_5_0 Z a t ba kc N b0 b1 b2 b3 h0 n0 v s₂.heap L ∧ FrameEnd s o₉ s₂ L ({ frames := 0, cells := 0, slots := 0, locals := 0 } : Room).cells ({ frames := 0, cells := 0, slots := 0, locals := 0 } : Room).slots) (s₁.setTop (entryFrame m #[(.ref a), (.int t), (.int (5 : Int32))] 5))
  rw [ef_rm9_5_0 m a t]
  refine own_step (s₁.setTop (mkF m 1 #[.val (.ref a), .val (.int t), .val (.int (5 : Int32)), .unset, .unset] [(.int (-1 : Int32))])) (fun t₀ k₀ => XS.iconst X0.here hx rfl (hb hby d9_0) k₀) ?_
  refine own_step (s₁.setTop (mkF m 2 #[.val (.ref a), .val (.int t), .val (.int (5 : Int32)), .val (.int (-1 : Int32)), .unset] [])) (fun t₀ k₀ => XS.istoreN X0.here hx rfl (hb hby d9_1) rfl (l' := #[.val (.ref a), .val (.int t), .val (.int (5 : Int32)), .val (.int (-1 : Int32)), .unset]) rfl k₀) ?_
  refine own_step (s₁.setTop (mkF m 3 #[.val (.ref a), .val (.int t), .val (.int (5 : Int32)), .val (.int (-1 : Int32)), .unset] [(.int (5 : Int32))])) (fun t₀ k₀ => XS.iloadN X0.here hx rfl (hb hby d9_2) rfl k₀) ?_
  refine own_step (s₁.setTop (mkF m 5 #[.val (.ref a), .val (.int t), .val (.int (5 : Int32)), .val (.int (-1 : Int32)), .val (.int (5 : Int32))] [])) (fun t₀ k₀ => XS.istore X0.here hx rfl (hb hby d9_3) rfl (l' := #[.val (.ref a), .val (.int t), .val (.int (5 : Int32)), .val (.int (-1 : Int32)), .val (.int (5 : Int32))]) rfl k₀) ?_
  refine own_step (s₁.setTop (mkF m 6 #[.val (.ref a), .val (.int t), .val (.int (5 : Int32)), .val (.int (-1 : Int32)), .val (.int (5 : Int32))] [(.int (-1 : Int32))])) (fun t₀ k₀ => XS.iloadN X0.here hx rfl (hb hby d9_5) rfl k₀) ?_
  refine own_step (s₁.setTop (mkF m 9 #[.val (.ref a), .val (.int t), .val (.int (5 : Int32)), .val (.int (-1 : Int32)), .val (.int (5 : Int32))] [])) (fun t₀ k₀ => XS.ifNo X0.here hx rfl (hb hby d9_6) rfl (by decide) k₀) ?_
  refine own_step (s₁.setTop (mkF m 11 #[.val (.ref a), .val (.int t), .val (.int (5 : Int32)), .val (.int (-1 : Int32)), .val (.int (5 : Int32))] [(.int (5 : Int32))])) (fun t₀ k₀ => XS.iload X0.here hx rfl (hb hby d9_9) rfl k₀) ?_
  refine own_step (s₁.setTop (mkF m 12 #[.val (.ref a), .val (.int t), .val (.int (5 : Int32)), .val (.int (-1 : Int32)), .val (.int (5 : Int32))] [(.ref a), (.int (5 : Int32))])) (fun t₀ k₀ => XS.aloadN X0.here hx rfl (hb hby d9_11) rfl rfl k₀) ?_
  obtain ⟨T317, X317, e317, st317⟩ := getF X0 hx hZ hown (host := "") (Or.inl (hw _ (List.mem_of_getElem? (i := 22) rfl))) Via.refl e0 Fl (g := (mkF m 12 #[.val (.ref a), .val (.int t), .val (.int (5 : Int32)), .val (.int (-1 : Int32)), .val (.int (5 : Int32))] [(.ref a), (.int (5 : Int32))])) rfl rfl (hb hby d9_12)
  refine own_step (T317.setTop (mkF m 15 #[.val (.ref a), .val (.int t), .val (.int (5 : Int32)), .val (.int (-1 : Int32)), .val (.int (5 : Int32))] [(.int (0 : Int32)), (.int (5 : Int32))])) (fun t₀ k₀ => st317 t₀ k₀) ?_
  refine own_step (T317.setTop (mkF m 38 #[.val (.ref a), .val (.int t), .val (.int (5 : Int32)), .val (.int (-1 : Int32)), .val (.int (5 : Int32))] [])) (fun t₀ k₀ => XS.icmpYes X317.here hx rfl (pc0 := 15) (pc' := 38) rfl (hb hby d9_15) rfl (by decide) (by decide) (by decide) k₀) ?_
  refine own_step (T317.setTop (mkF m 39 #[.val (.ref a), .val (.int t), .val (.int (5 : Int32)), .val (.int (-1 : Int32)), .val (.int (5 : Int32))] [(.int (-1 : Int32))])) (fun t₀ k₀ => XS.iloadN X317.here hx rfl (hb hby d9_38) rfl k₀) ?_
  obtain ⟨fs, hr, hrun, hended, hW, hsame⟩ := X317.leave (v := some (.int (-1 : Int32))) (fun h => by rw [Bd.returns] at h; cases h)
  refine ⟨_, _, ?_, hrun, hended, _, _, rfl, ?_, ⟨_, rfl⟩, hW, hsame.mono (by decide) (by decide)⟩
  · exact retI X317 hx Bd.returns (hb hby d9_39) hr
  · show Q_rm9_5_0 Z a t ba kc N b0 b1 b2 b3 h0 n0 _ T317.heap _
    rw [e317]
    exact ⟨by simp +decide [own_all, own_st], N0, rfl⟩
theorem ef_rm9_5_1 (m : MethodId) (a : Addr) (t : Int32) : entryFrame m #[(.ref a), (.int t), (.int (5 : Int32))] 5 = mkF m 0 #[.val (.ref a), .val (.int t), .val (.int (5 : Int32)), .unset, .unset] [] := by first | (simp [entryFrame, mkF, argsToLocals, Value.category]; done) | rfl
def Q_rm9_5_1 (Z : State) (a : Addr) (t : Int32) (ba : Addr) (kc : ClassId) (N : Int32) (b0 : Int32) (b1 : Int32) (b2 : Int32) (b3 : Int32) (h0 : Heap) (n0 : Nat) (v : Option Value) (h : Heap) (L : List Loc) : Prop := v = some (.int (own_all 5 1 t b0 b1 b2 b3)) ∧ Fr n0 L ∧ h = h0
set_option maxRecDepth 65536 in
set_option maxHeartbeats 40000000 in
theorem rm9_5_1 (l : Launch) (Z : State) (a0 : Array Value) (hw : ∀ d ∈ tables_1, d.before a0 Z = true) (ws : List Jvm.Cond) (a : Addr) (t : Int32) (ba : Addr) (kc : ClassId) (N : Int32) (b0 : Int32) (b1 : Int32) (b2 : Int32) (b3 : Int32) (h0 : Heap) (n0 : Nat) (Z0 : n0 ≤ h0.size) (Fb : Fld Z h0 a "com/example/notesmith/notesmith/report/LineBuffer" "bytes" "[B" (.ref ba)) (Fl : Fld Z h0 a "com/example/notesmith/notesmith/report/LineBuffer" "length" "I" (.int (1 : Int32))) (Vb : Arv Z h0 ba kc .byte N [(.int b0), (.int b1), (.int b2), (.int b3)] (.int (0 : Int32))) (hN4 : ¬ N < 4) :
    MetFree l (⟨"com/example/notesmith/notesmith/report/LineBuffer", "indexOf", "(CI)I"⟩ : MethodName) (head1 (Jvm.Cond.code (⟨"com/example/notesmith/notesmith/report/LineBuffer", "indexOf", "(CI)I"⟩ : MethodName) prog_104_method_6_code 5 (some .int) :: ws) ({ frames := 0, cells := 0, slots := 0, locals := 0 } : Room)) (fun as₉ U => as₉ = #[(.ref a), (.int t), (.int (5 : Int32))] ∧ Z.Warmed39 U.vm ∧ U.heap = h0) (fun _ _ _ _ _ => True) (fun _ U o₉ U' => ∃ v L, o₉ = .returned v ∧ Q_rm9_5_1 Z a t ba kc N b0 b1 b2 b3 h0 n0 v U'.heap L ∧ FrameEnd U o₉ U' L ({ frames := 0, cells := 0, slots := 0, locals := 0 } : Room).cells ({ frames := 0, cells := 0, slots := 0, locals := 0 } : Room).slots) := by
  refine MetFree.of_bodySF (plainFor_of_name pn_1) hisR ?_
  intro p e s m args below meth c s₁ Bd hml0 hP hK
  obtain ⟨rfl, hZ, hh⟩ := hP
  have hx := Bd.exec
  have hby := Bd.bytes
  have hml : c.maxLocals = 5 := hml0
  have hown : s.vm.findClass "com/example/notesmith/notesmith/report/LineBuffer" = some m.cls := findClass_of_methodNamed Bd.named
  have hnm := (name_of_methodNamed Bd.named Bd.method).1
  have X0 : Stand p l e ({ frames := 0, cells := 0, slots := 0, locals := 0 } : Room) s m #[(.ref a), (.int t), (.int (5 : Int32))] below meth c s₁ [] 0 0 := Stand.of_body Bd
  have e0 : s₁.heap = h0 := by rw [← hh, Bd.state]; rfl
  have N0 := Fr.nil n0
  show own_Go p e below (fun s₂ o₉ => s₂.status = .running ∧ Ended s₂ below o₉ ∧ ∃ v L, o₉ = .returned v ∧ Q_rm9_5_1 Z a t ba kc N b0 b1 b2 b3 h0 n0 v s₂.heap L ∧ FrameEnd s o₉ s₂ L ({ frames := 0, cells := 0, slots := 0, locals := 0 } : Room).cells ({ frames := 0, cells := 0, slots := 0, locals := 0 } : Room).slots) (s₁.setTop (entryFrame m #[(.ref a), (.int t), (.int (5 : Int32))] 5))
  rw [ef_rm9_5_1 m a t]
  refine own_step (s₁.setTop (mkF m 1 #[.val (.ref a), .val (.int t), .val (.int (5 : Int32)), .unset, .unset] [(.int (-1 : Int32))])) (fun t₀ k₀ => XS.iconst X0.here hx rfl (hb hby d9_0) k₀) ?_
  refine own_step (s₁.setTop (mkF m 2 #[.val (.ref a), .val (.int t), .val (.int (5 : Int32)), .val (.int (-1 : Int32)), .unset] [])) (fun t₀ k₀ => XS.istoreN X0.here hx rfl (hb hby d9_1) rfl (l' := #[.val (.ref a), .val (.int t), .val (.int (5 : Int32)), .val (.int (-1 : Int32)), .unset]) rfl k₀) ?_
  refine own_step (s₁.setTop (mkF m 3 #[.val (.ref a), .val (.int t), .val (.int (5 : Int32)), .val (.int (-1 : Int32)), .unset] [(.int (5 : Int32))])) (fun t₀ k₀ => XS.iloadN X0.here hx rfl (hb hby d9_2) rfl k₀) ?_
  refine own_step (s₁.setTop (mkF m 5 #[.val (.ref a), .val (.int t), .val (.int (5 : Int32)), .val (.int (-1 : Int32)), .val (.int (5 : Int32))] [])) (fun t₀ k₀ => XS.istore X0.here hx rfl (hb hby d9_3) rfl (l' := #[.val (.ref a), .val (.int t), .val (.int (5 : Int32)), .val (.int (-1 : Int32)), .val (.int (5 : Int32))]) rfl k₀) ?_
  refine own_step (s₁.setTop (mkF m 6 #[.val (.ref a), .val (.int t), .val (.int (5 : Int32)), .val (.int (-1 : Int32)), .val (.int (5 : Int32))] [(.int (-1 : Int32))])) (fun t₀ k₀ => XS.iloadN X0.here hx rfl (hb hby d9_5) rfl k₀) ?_
  refine own_step (s₁.setTop (mkF m 9 #[.val (.ref a), .val (.int t), .val (.int (5 : Int32)), .val (.int (-1 : Int32)), .val (.int (5 : Int32))] [])) (fun t₀ k₀ => XS.ifNo X0.here hx rfl (hb hby d9_6) rfl (by decide) k₀) ?_
  refine own_step (s₁.setTop (mkF m 11 #[.val (.ref a), .val (.int t), .val (.int (5 : Int32)), .val (.int (-1 : Int32)), .val (.int (5 : Int32))] [(.int (5 : Int32))])) (fun t₀ k₀ => XS.iload X0.here hx rfl (hb hby d9_9) rfl k₀) ?_
  refine own_step (s₁.setTop (mkF m 12 #[.val (.ref a), .val (.int t), .val (.int (5 : Int32)), .val (.int (-1 : Int32)), .val (.int (5 : Int32))] [(.ref a), (.int (5 : Int32))])) (fun t₀ k₀ => XS.aloadN X0.here hx rfl (hb hby d9_11) rfl rfl k₀) ?_
  obtain ⟨T318, X318, e318, st318⟩ := getF X0 hx hZ hown (host := "") (Or.inl (hw _ (List.mem_of_getElem? (i := 22) rfl))) Via.refl e0 Fl (g := (mkF m 12 #[.val (.ref a), .val (.int t), .val (.int (5 : Int32)), .val (.int (-1 : Int32)), .val (.int (5 : Int32))] [(.ref a), (.int (5 : Int32))])) rfl rfl (hb hby d9_12)
  refine own_step (T318.setTop (mkF m 15 #[.val (.ref a), .val (.int t), .val (.int (5 : Int32)), .val (.int (-1 : Int32)), .val (.int (5 : Int32))] [(.int (1 : Int32)), (.int (5 : Int32))])) (fun t₀ k₀ => st318 t₀ k₀) ?_
  refine own_step (T318.setTop (mkF m 38 #[.val (.ref a), .val (.int t), .val (.int (5 : Int32)), .val (.int (-1 : Int32)), .val (.int (5 : Int32))] [])) (fun t₀ k₀ => XS.icmpYes X318.here hx rfl (pc0 := 15) (pc' := 38) rfl (hb hby d9_15) rfl (by decide) (by decide) (by decide) k₀) ?_
  refine own_step (T318.setTop (mkF m 39 #[.val (.ref a), .val (.int t), .val (.int (5 : Int32)), .val (.int (-1 : Int32)), .val (.int (5 : Int32))] [(.int (-1 : Int32))])) (fun t₀ k₀ => XS.iloadN X318.here hx rfl (hb hby d9_38) rfl k₀) ?_
  obtain ⟨fs, hr, hrun, hended, hW, hsame⟩ := X318.leave (v := some (.int (-1 : Int32))) (fun h => by rw [Bd.returns] at h; cases h)
  refine ⟨_, _, ?_, hrun, hended, _, _, rfl, ?_, ⟨_, rfl⟩, hW, hsame.mono (by decide) (by decide)⟩
  · exact retI X318 hx Bd.returns (hb hby d9_39) hr
  · show Q_rm9_5_1 Z a t ba kc N b0 b1 b2 b3 h0 n0 _ T318.heap _
    rw [e318]
    exact ⟨by simp +decide [own_all, own_st], N0, rfl⟩
theorem ef_rm9_5_2 (m : MethodId) (a : Addr) (t : Int32) : entryFrame m #[(.ref a), (.int t), (.int (5 : Int32))] 5 = mkF m 0 #[.val (.ref a), .val (.int t), .val (.int (5 : Int32)), .unset, .unset] [] := by first | (simp [entryFrame, mkF, argsToLocals, Value.category]; done) | rfl
def Q_rm9_5_2 (Z : State) (a : Addr) (t : Int32) (ba : Addr) (kc : ClassId) (N : Int32) (b0 : Int32) (b1 : Int32) (b2 : Int32) (b3 : Int32) (h0 : Heap) (n0 : Nat) (v : Option Value) (h : Heap) (L : List Loc) : Prop := v = some (.int (own_all 5 2 t b0 b1 b2 b3)) ∧ Fr n0 L ∧ h = h0
set_option maxRecDepth 65536 in
set_option maxHeartbeats 40000000 in
theorem rm9_5_2 (l : Launch) (Z : State) (a0 : Array Value) (hw : ∀ d ∈ tables_1, d.before a0 Z = true) (ws : List Jvm.Cond) (a : Addr) (t : Int32) (ba : Addr) (kc : ClassId) (N : Int32) (b0 : Int32) (b1 : Int32) (b2 : Int32) (b3 : Int32) (h0 : Heap) (n0 : Nat) (Z0 : n0 ≤ h0.size) (Fb : Fld Z h0 a "com/example/notesmith/notesmith/report/LineBuffer" "bytes" "[B" (.ref ba)) (Fl : Fld Z h0 a "com/example/notesmith/notesmith/report/LineBuffer" "length" "I" (.int (2 : Int32))) (Vb : Arv Z h0 ba kc .byte N [(.int b0), (.int b1), (.int b2), (.int b3)] (.int (0 : Int32))) (hN4 : ¬ N < 4) :
    MetFree l (⟨"com/example/notesmith/notesmith/report/LineBuffer", "indexOf", "(CI)I"⟩ : MethodName) (head1 (Jvm.Cond.code (⟨"com/example/notesmith/notesmith/report/LineBuffer", "indexOf", "(CI)I"⟩ : MethodName) prog_104_method_6_code 5 (some .int) :: ws) ({ frames := 0, cells := 0, slots := 0, locals := 0 } : Room)) (fun as₉ U => as₉ = #[(.ref a), (.int t), (.int (5 : Int32))] ∧ Z.Warmed39 U.vm ∧ U.heap = h0) (fun _ _ _ _ _ => True) (fun _ U o₉ U' => ∃ v L, o₉ = .returned v ∧ Q_rm9_5_2 Z a t ba kc N b0 b1 b2 b3 h0 n0 v U'.heap L ∧ FrameEnd U o₉ U' L ({ frames := 0, cells := 0, slots := 0, locals := 0 } : Room).cells ({ frames := 0, cells := 0, slots := 0, locals := 0 } : Room).slots) := by
  refine MetFree.of_bodySF (plainFor_of_name pn_1) hisR ?_
  intro p e s m args below meth c s₁ Bd hml0 hP hK
  obtain ⟨rfl, hZ, hh⟩ := hP
  have hx := Bd.exec
  have hby := Bd.bytes
  have hml : c.maxLocals = 5 := hml0
  have hown : s.vm.findClass "com/example/notesmith/notesmith/report/LineBuffer" = some m.cls := findClass_of_methodNamed Bd.named
  have hnm := (name_of_methodNamed Bd.named Bd.method).1
  have X0 : Stand p l e ({ frames := 0, cells := 0, slots := 0, locals := 0 } : Room) s m #[(.ref a), (.int t), (.int (5 : Int32))] below meth c s₁ [] 0 0 := Stand.of_body Bd
  have e0 : s₁.heap = h0 := by rw [← hh, Bd.state]; rfl
  have N0 := Fr.nil n0
  show own_Go p e below (fun s₂ o₉ => s₂.status = .running ∧ Ended s₂ below o₉ ∧ ∃ v L, o₉ = .returned v ∧ Q_rm9_5_2 Z a t ba kc N b0 b1 b2 b3 h0 n0 v s₂.heap L ∧ FrameEnd s o₉ s₂ L ({ frames := 0, cells := 0, slots := 0, locals := 0 } : Room).cells ({ frames := 0, cells := 0, slots := 0, locals := 0 } : Room).slots) (s₁.setTop (entryFrame m #[(.ref a), (.int t), (.int (5 : Int32))] 5))
  rw [ef_rm9_5_2 m a t]
  refine own_step (s₁.setTop (mkF m 1 #[.val (.ref a), .val (.int t), .val (.int (5 : Int32)), .unset, .unset] [(.int (-1 : Int32))])) (fun t₀ k₀ => XS.iconst X0.here hx rfl (hb hby d9_0) k₀) ?_
  refine own_step (s₁.setTop (mkF m 2 #[.val (.ref a), .val (.int t), .val (.int (5 : Int32)), .val (.int (-1 : Int32)), .unset] [])) (fun t₀ k₀ => XS.istoreN X0.here hx rfl (hb hby d9_1) rfl (l' := #[.val (.ref a), .val (.int t), .val (.int (5 : Int32)), .val (.int (-1 : Int32)), .unset]) rfl k₀) ?_
  refine own_step (s₁.setTop (mkF m 3 #[.val (.ref a), .val (.int t), .val (.int (5 : Int32)), .val (.int (-1 : Int32)), .unset] [(.int (5 : Int32))])) (fun t₀ k₀ => XS.iloadN X0.here hx rfl (hb hby d9_2) rfl k₀) ?_
  refine own_step (s₁.setTop (mkF m 5 #[.val (.ref a), .val (.int t), .val (.int (5 : Int32)), .val (.int (-1 : Int32)), .val (.int (5 : Int32))] [])) (fun t₀ k₀ => XS.istore X0.here hx rfl (hb hby d9_3) rfl (l' := #[.val (.ref a), .val (.int t), .val (.int (5 : Int32)), .val (.int (-1 : Int32)), .val (.int (5 : Int32))]) rfl k₀) ?_
  refine own_step (s₁.setTop (mkF m 6 #[.val (.ref a), .val (.int t), .val (.int (5 : Int32)), .val (.int (-1 : Int32)), .val (.int (5 : Int32))] [(.int (-1 : Int32))])) (fun t₀ k₀ => XS.iloadN X0.here hx rfl (hb hby d9_5) rfl k₀) ?_
  refine own_step (s₁.setTop (mkF m 9 #[.val (.ref a), .val (.int t), .val (.int (5 : Int32)), .val (.int (-1 : Int32)), .val (.int (5 : Int32))] [])) (fun t₀ k₀ => XS.ifNo X0.here hx rfl (hb hby d9_6) rfl (by decide) k₀) ?_
  refine own_step (s₁.setTop (mkF m 11 #[.val (.ref a), .val (.int t), .val (.int (5 : Int32)), .val (.int (-1 : Int32)), .val (.int (5 : Int32))] [(.int (5 : Int32))])) (fun t₀ k₀ => XS.iload X0.here hx rfl (hb hby d9_9) rfl k₀) ?_
  refine own_step (s₁.setTop (mkF m 12 #[.val (.ref a), .val (.int t), .val (.int (5 : Int32)), .val (.int (-1 : Int32)), .val (.int (5 : Int32))] [(.ref a), (.int (5 : Int32))])) (fun t₀ k₀ => XS.aloadN X0.here hx rfl (hb hby d9_11) rfl rfl k₀) ?_
  obtain ⟨T319, X319, e319, st319⟩ := getF X0 hx hZ hown (host := "") (Or.inl (hw _ (List.mem_of_getElem? (i := 22) rfl))) Via.refl e0 Fl (g := (mkF m 12 #[.val (.ref a), .val (.int t), .val (.int (5 : Int32)), .val (.int (-1 : Int32)), .val (.int (5 : Int32))] [(.ref a), (.int (5 : Int32))])) rfl rfl (hb hby d9_12)
  refine own_step (T319.setTop (mkF m 15 #[.val (.ref a), .val (.int t), .val (.int (5 : Int32)), .val (.int (-1 : Int32)), .val (.int (5 : Int32))] [(.int (2 : Int32)), (.int (5 : Int32))])) (fun t₀ k₀ => st319 t₀ k₀) ?_
  refine own_step (T319.setTop (mkF m 38 #[.val (.ref a), .val (.int t), .val (.int (5 : Int32)), .val (.int (-1 : Int32)), .val (.int (5 : Int32))] [])) (fun t₀ k₀ => XS.icmpYes X319.here hx rfl (pc0 := 15) (pc' := 38) rfl (hb hby d9_15) rfl (by decide) (by decide) (by decide) k₀) ?_
  refine own_step (T319.setTop (mkF m 39 #[.val (.ref a), .val (.int t), .val (.int (5 : Int32)), .val (.int (-1 : Int32)), .val (.int (5 : Int32))] [(.int (-1 : Int32))])) (fun t₀ k₀ => XS.iloadN X319.here hx rfl (hb hby d9_38) rfl k₀) ?_
  obtain ⟨fs, hr, hrun, hended, hW, hsame⟩ := X319.leave (v := some (.int (-1 : Int32))) (fun h => by rw [Bd.returns] at h; cases h)
  refine ⟨_, _, ?_, hrun, hended, _, _, rfl, ?_, ⟨_, rfl⟩, hW, hsame.mono (by decide) (by decide)⟩
  · exact retI X319 hx Bd.returns (hb hby d9_39) hr
  · show Q_rm9_5_2 Z a t ba kc N b0 b1 b2 b3 h0 n0 _ T319.heap _
    rw [e319]
    exact ⟨by simp +decide [own_all, own_st], N0, rfl⟩
theorem ef_rm9_5_3 (m : MethodId) (a : Addr) (t : Int32) : entryFrame m #[(.ref a), (.int t), (.int (5 : Int32))] 5 = mkF m 0 #[.val (.ref a), .val (.int t), .val (.int (5 : Int32)), .unset, .unset] [] := by first | (simp [entryFrame, mkF, argsToLocals, Value.category]; done) | rfl
def Q_rm9_5_3 (Z : State) (a : Addr) (t : Int32) (ba : Addr) (kc : ClassId) (N : Int32) (b0 : Int32) (b1 : Int32) (b2 : Int32) (b3 : Int32) (h0 : Heap) (n0 : Nat) (v : Option Value) (h : Heap) (L : List Loc) : Prop := v = some (.int (own_all 5 3 t b0 b1 b2 b3)) ∧ Fr n0 L ∧ h = h0
set_option maxRecDepth 65536 in
set_option maxHeartbeats 40000000 in
theorem rm9_5_3 (l : Launch) (Z : State) (a0 : Array Value) (hw : ∀ d ∈ tables_1, d.before a0 Z = true) (ws : List Jvm.Cond) (a : Addr) (t : Int32) (ba : Addr) (kc : ClassId) (N : Int32) (b0 : Int32) (b1 : Int32) (b2 : Int32) (b3 : Int32) (h0 : Heap) (n0 : Nat) (Z0 : n0 ≤ h0.size) (Fb : Fld Z h0 a "com/example/notesmith/notesmith/report/LineBuffer" "bytes" "[B" (.ref ba)) (Fl : Fld Z h0 a "com/example/notesmith/notesmith/report/LineBuffer" "length" "I" (.int (3 : Int32))) (Vb : Arv Z h0 ba kc .byte N [(.int b0), (.int b1), (.int b2), (.int b3)] (.int (0 : Int32))) (hN4 : ¬ N < 4) :
    MetFree l (⟨"com/example/notesmith/notesmith/report/LineBuffer", "indexOf", "(CI)I"⟩ : MethodName) (head1 (Jvm.Cond.code (⟨"com/example/notesmith/notesmith/report/LineBuffer", "indexOf", "(CI)I"⟩ : MethodName) prog_104_method_6_code 5 (some .int) :: ws) ({ frames := 0, cells := 0, slots := 0, locals := 0 } : Room)) (fun as₉ U => as₉ = #[(.ref a), (.int t), (.int (5 : Int32))] ∧ Z.Warmed39 U.vm ∧ U.heap = h0) (fun _ _ _ _ _ => True) (fun _ U o₉ U' => ∃ v L, o₉ = .returned v ∧ Q_rm9_5_3 Z a t ba kc N b0 b1 b2 b3 h0 n0 v U'.heap L ∧ FrameEnd U o₉ U' L ({ frames := 0, cells := 0, slots := 0, locals := 0 } : Room).cells ({ frames := 0, cells := 0, slots := 0, locals := 0 } : Room).slots) := by
  refine MetFree.of_bodySF (plainFor_of_name pn_1) hisR ?_
  intro p e s m args below meth c s₁ Bd hml0 hP hK
  obtain ⟨rfl, hZ, hh⟩ := hP
  have hx := Bd.exec
  have hby := Bd.bytes
  have hml : c.maxLocals = 5 := hml0
  have hown : s.vm.findClass "com/example/notesmith/notesmith/report/LineBuffer" = some m.cls := findClass_of_methodNamed Bd.named
  have hnm := (name_of_methodNamed Bd.named Bd.method).1
  have X0 : Stand p l e ({ frames := 0, cells := 0, slots := 0, locals := 0 } : Room) s m #[(.ref a), (.int t), (.int (5 : Int32))] below meth c s₁ [] 0 0 := Stand.of_body Bd
  have e0 : s₁.heap = h0 := by rw [← hh, Bd.state]; rfl
  have N0 := Fr.nil n0
  show own_Go p e below (fun s₂ o₉ => s₂.status = .running ∧ Ended s₂ below o₉ ∧ ∃ v L, o₉ = .returned v ∧ Q_rm9_5_3 Z a t ba kc N b0 b1 b2 b3 h0 n0 v s₂.heap L ∧ FrameEnd s o₉ s₂ L ({ frames := 0, cells := 0, slots := 0, locals := 0 } : Room).cells ({ frames := 0, cells := 0, slots := 0, locals := 0 } : Room).slots) (s₁.setTop (entryFrame m #[(.ref a), (.int t), (.int (5 : Int32))] 5))
  rw [ef_rm9_5_3 m a t]
  refine own_step (s₁.setTop (mkF m 1 #[.val (.ref a), .val (.int t), .val (.int (5 : Int32)), .unset, .unset] [(.int (-1 : Int32))])) (fun t₀ k₀ => XS.iconst X0.here hx rfl (hb hby d9_0) k₀) ?_
  refine own_step (s₁.setTop (mkF m 2 #[.val (.ref a), .val (.int t), .val (.int (5 : Int32)), .val (.int (-1 : Int32)), .unset] [])) (fun t₀ k₀ => XS.istoreN X0.here hx rfl (hb hby d9_1) rfl (l' := #[.val (.ref a), .val (.int t), .val (.int (5 : Int32)), .val (.int (-1 : Int32)), .unset]) rfl k₀) ?_
  refine own_step (s₁.setTop (mkF m 3 #[.val (.ref a), .val (.int t), .val (.int (5 : Int32)), .val (.int (-1 : Int32)), .unset] [(.int (5 : Int32))])) (fun t₀ k₀ => XS.iloadN X0.here hx rfl (hb hby d9_2) rfl k₀) ?_
  refine own_step (s₁.setTop (mkF m 5 #[.val (.ref a), .val (.int t), .val (.int (5 : Int32)), .val (.int (-1 : Int32)), .val (.int (5 : Int32))] [])) (fun t₀ k₀ => XS.istore X0.here hx rfl (hb hby d9_3) rfl (l' := #[.val (.ref a), .val (.int t), .val (.int (5 : Int32)), .val (.int (-1 : Int32)), .val (.int (5 : Int32))]) rfl k₀) ?_
  refine own_step (s₁.setTop (mkF m 6 #[.val (.ref a), .val (.int t), .val (.int (5 : Int32)), .val (.int (-1 : Int32)), .val (.int (5 : Int32))] [(.int (-1 : Int32))])) (fun t₀ k₀ => XS.iloadN X0.here hx rfl (hb hby d9_5) rfl k₀) ?_
  refine own_step (s₁.setTop (mkF m 9 #[.val (.ref a), .val (.int t), .val (.int (5 : Int32)), .val (.int (-1 : Int32)), .val (.int (5 : Int32))] [])) (fun t₀ k₀ => XS.ifNo X0.here hx rfl (hb hby d9_6) rfl (by decide) k₀) ?_
  refine own_step (s₁.setTop (mkF m 11 #[.val (.ref a), .val (.int t), .val (.int (5 : Int32)), .val (.int (-1 : Int32)), .val (.int (5 : Int32))] [(.int (5 : Int32))])) (fun t₀ k₀ => XS.iload X0.here hx rfl (hb hby d9_9) rfl k₀) ?_
  refine own_step (s₁.setTop (mkF m 12 #[.val (.ref a), .val (.int t), .val (.int (5 : Int32)), .val (.int (-1 : Int32)), .val (.int (5 : Int32))] [(.ref a), (.int (5 : Int32))])) (fun t₀ k₀ => XS.aloadN X0.here hx rfl (hb hby d9_11) rfl rfl k₀) ?_
  obtain ⟨T320, X320, e320, st320⟩ := getF X0 hx hZ hown (host := "") (Or.inl (hw _ (List.mem_of_getElem? (i := 22) rfl))) Via.refl e0 Fl (g := (mkF m 12 #[.val (.ref a), .val (.int t), .val (.int (5 : Int32)), .val (.int (-1 : Int32)), .val (.int (5 : Int32))] [(.ref a), (.int (5 : Int32))])) rfl rfl (hb hby d9_12)
  refine own_step (T320.setTop (mkF m 15 #[.val (.ref a), .val (.int t), .val (.int (5 : Int32)), .val (.int (-1 : Int32)), .val (.int (5 : Int32))] [(.int (3 : Int32)), (.int (5 : Int32))])) (fun t₀ k₀ => st320 t₀ k₀) ?_
  refine own_step (T320.setTop (mkF m 38 #[.val (.ref a), .val (.int t), .val (.int (5 : Int32)), .val (.int (-1 : Int32)), .val (.int (5 : Int32))] [])) (fun t₀ k₀ => XS.icmpYes X320.here hx rfl (pc0 := 15) (pc' := 38) rfl (hb hby d9_15) rfl (by decide) (by decide) (by decide) k₀) ?_
  refine own_step (T320.setTop (mkF m 39 #[.val (.ref a), .val (.int t), .val (.int (5 : Int32)), .val (.int (-1 : Int32)), .val (.int (5 : Int32))] [(.int (-1 : Int32))])) (fun t₀ k₀ => XS.iloadN X320.here hx rfl (hb hby d9_38) rfl k₀) ?_
  obtain ⟨fs, hr, hrun, hended, hW, hsame⟩ := X320.leave (v := some (.int (-1 : Int32))) (fun h => by rw [Bd.returns] at h; cases h)
  refine ⟨_, _, ?_, hrun, hended, _, _, rfl, ?_, ⟨_, rfl⟩, hW, hsame.mono (by decide) (by decide)⟩
  · exact retI X320 hx Bd.returns (hb hby d9_39) hr
  · show Q_rm9_5_3 Z a t ba kc N b0 b1 b2 b3 h0 n0 _ T320.heap _
    rw [e320]
    exact ⟨by simp +decide [own_all, own_st], N0, rfl⟩
theorem ef_rm9_5_4 (m : MethodId) (a : Addr) (t : Int32) : entryFrame m #[(.ref a), (.int t), (.int (5 : Int32))] 5 = mkF m 0 #[.val (.ref a), .val (.int t), .val (.int (5 : Int32)), .unset, .unset] [] := by first | (simp [entryFrame, mkF, argsToLocals, Value.category]; done) | rfl
def Q_rm9_5_4 (Z : State) (a : Addr) (t : Int32) (ba : Addr) (kc : ClassId) (N : Int32) (b0 : Int32) (b1 : Int32) (b2 : Int32) (b3 : Int32) (h0 : Heap) (n0 : Nat) (v : Option Value) (h : Heap) (L : List Loc) : Prop := v = some (.int (own_all 5 4 t b0 b1 b2 b3)) ∧ Fr n0 L ∧ h = h0
set_option maxRecDepth 65536 in
set_option maxHeartbeats 40000000 in
theorem rm9_5_4 (l : Launch) (Z : State) (a0 : Array Value) (hw : ∀ d ∈ tables_1, d.before a0 Z = true) (ws : List Jvm.Cond) (a : Addr) (t : Int32) (ba : Addr) (kc : ClassId) (N : Int32) (b0 : Int32) (b1 : Int32) (b2 : Int32) (b3 : Int32) (h0 : Heap) (n0 : Nat) (Z0 : n0 ≤ h0.size) (Fb : Fld Z h0 a "com/example/notesmith/notesmith/report/LineBuffer" "bytes" "[B" (.ref ba)) (Fl : Fld Z h0 a "com/example/notesmith/notesmith/report/LineBuffer" "length" "I" (.int (4 : Int32))) (Vb : Arv Z h0 ba kc .byte N [(.int b0), (.int b1), (.int b2), (.int b3)] (.int (0 : Int32))) (hN4 : ¬ N < 4) :
    MetFree l (⟨"com/example/notesmith/notesmith/report/LineBuffer", "indexOf", "(CI)I"⟩ : MethodName) (head1 (Jvm.Cond.code (⟨"com/example/notesmith/notesmith/report/LineBuffer", "indexOf", "(CI)I"⟩ : MethodName) prog_104_method_6_code 5 (some .int) :: ws) ({ frames := 0, cells := 0, slots := 0, locals := 0 } : Room)) (fun as₉ U => as₉ = #[(.ref a), (.int t), (.int (5 : Int32))] ∧ Z.Warmed39 U.vm ∧ U.heap = h0) (fun _ _ _ _ _ => True) (fun _ U o₉ U' => ∃ v L, o₉ = .returned v ∧ Q_rm9_5_4 Z a t ba kc N b0 b1 b2 b3 h0 n0 v U'.heap L ∧ FrameEnd U o₉ U' L ({ frames := 0, cells := 0, slots := 0, locals := 0 } : Room).cells ({ frames := 0, cells := 0, slots := 0, locals := 0 } : Room).slots) := by
  refine MetFree.of_bodySF (plainFor_of_name pn_1) hisR ?_
  intro p e s m args below meth c s₁ Bd hml0 hP hK
  obtain ⟨rfl, hZ, hh⟩ := hP
  have hx := Bd.exec
  have hby := Bd.bytes
  have hml : c.maxLocals = 5 := hml0
  have hown : s.vm.findClass "com/example/notesmith/notesmith/report/LineBuffer" = some m.cls := findClass_of_methodNamed Bd.named
  have hnm := (name_of_methodNamed Bd.named Bd.method).1
  have X0 : Stand p l e ({ frames := 0, cells := 0, slots := 0, locals := 0 } : Room) s m #[(.ref a), (.int t), (.int (5 : Int32))] below meth c s₁ [] 0 0 := Stand.of_body Bd
  have e0 : s₁.heap = h0 := by rw [← hh, Bd.state]; rfl
  have N0 := Fr.nil n0
  show own_Go p e below (fun s₂ o₉ => s₂.status = .running ∧ Ended s₂ below o₉ ∧ ∃ v L, o₉ = .returned v ∧ Q_rm9_5_4 Z a t ba kc N b0 b1 b2 b3 h0 n0 v s₂.heap L ∧ FrameEnd s o₉ s₂ L ({ frames := 0, cells := 0, slots := 0, locals := 0 } : Room).cells ({ frames := 0, cells := 0, slots := 0, locals := 0 } : Room).slots) (s₁.setTop (entryFrame m #[(.ref a), (.int t), (.int (5 : Int32))] 5))
  rw [ef_rm9_5_4 m a t]
  refine own_step (s₁.setTop (mkF m 1 #[.val (.ref a), .val (.int t), .val (.int (5 : Int32)), .unset, .unset] [(.int (-1 : Int32))])) (fun t₀ k₀ => XS.iconst X0.here hx rfl (hb hby d9_0) k₀) ?_
  refine own_step (s₁.setTop (mkF m 2 #[.val (.ref a), .val (.int t), .val (.int (5 : Int32)), .val (.int (-1 : Int32)), .unset] [])) (fun t₀ k₀ => XS.istoreN X0.here hx rfl (hb hby d9_1) rfl (l' := #[.val (.ref a), .val (.int t), .val (.int (5 : Int32)), .val (.int (-1 : Int32)), .unset]) rfl k₀) ?_
  refine own_step (s₁.setTop (mkF m 3 #[.val (.ref a), .val (.int t), .val (.int (5 : Int32)), .val (.int (-1 : Int32)), .unset] [(.int (5 : Int32))])) (fun t₀ k₀ => XS.iloadN X0.here hx rfl (hb hby d9_2) rfl k₀) ?_
  refine own_step (s₁.setTop (mkF m 5 #[.val (.ref a), .val (.int t), .val (.int (5 : Int32)), .val (.int (-1 : Int32)), .val (.int (5 : Int32))] [])) (fun t₀ k₀ => XS.istore X0.here hx rfl (hb hby d9_3) rfl (l' := #[.val (.ref a), .val (.int t), .val (.int (5 : Int32)), .val (.int (-1 : Int32)), .val (.int (5 : Int32))]) rfl k₀) ?_
  refine own_step (s₁.setTop (mkF m 6 #[.val (.ref a), .val (.int t), .val (.int (5 : Int32)), .val (.int (-1 : Int32)), .val (.int (5 : Int32))] [(.int (-1 : Int32))])) (fun t₀ k₀ => XS.iloadN X0.here hx rfl (hb hby d9_5) rfl k₀) ?_
  refine own_step (s₁.setTop (mkF m 9 #[.val (.ref a), .val (.int t), .val (.int (5 : Int32)), .val (.int (-1 : Int32)), .val (.int (5 : Int32))] [])) (fun t₀ k₀ => XS.ifNo X0.here hx rfl (hb hby d9_6) rfl (by decide) k₀) ?_
  refine own_step (s₁.setTop (mkF m 11 #[.val (.ref a), .val (.int t), .val (.int (5 : Int32)), .val (.int (-1 : Int32)), .val (.int (5 : Int32))] [(.int (5 : Int32))])) (fun t₀ k₀ => XS.iload X0.here hx rfl (hb hby d9_9) rfl k₀) ?_
  refine own_step (s₁.setTop (mkF m 12 #[.val (.ref a), .val (.int t), .val (.int (5 : Int32)), .val (.int (-1 : Int32)), .val (.int (5 : Int32))] [(.ref a), (.int (5 : Int32))])) (fun t₀ k₀ => XS.aloadN X0.here hx rfl (hb hby d9_11) rfl rfl k₀) ?_
  obtain ⟨T321, X321, e321, st321⟩ := getF X0 hx hZ hown (host := "") (Or.inl (hw _ (List.mem_of_getElem? (i := 22) rfl))) Via.refl e0 Fl (g := (mkF m 12 #[.val (.ref a), .val (.int t), .val (.int (5 : Int32)), .val (.int (-1 : Int32)), .val (.int (5 : Int32))] [(.ref a), (.int (5 : Int32))])) rfl rfl (hb hby d9_12)
  refine own_step (T321.setTop (mkF m 15 #[.val (.ref a), .val (.int t), .val (.int (5 : Int32)), .val (.int (-1 : Int32)), .val (.int (5 : Int32))] [(.int (4 : Int32)), (.int (5 : Int32))])) (fun t₀ k₀ => st321 t₀ k₀) ?_
  refine own_step (T321.setTop (mkF m 38 #[.val (.ref a), .val (.int t), .val (.int (5 : Int32)), .val (.int (-1 : Int32)), .val (.int (5 : Int32))] [])) (fun t₀ k₀ => XS.icmpYes X321.here hx rfl (pc0 := 15) (pc' := 38) rfl (hb hby d9_15) rfl (by decide) (by decide) (by decide) k₀) ?_
  refine own_step (T321.setTop (mkF m 39 #[.val (.ref a), .val (.int t), .val (.int (5 : Int32)), .val (.int (-1 : Int32)), .val (.int (5 : Int32))] [(.int (-1 : Int32))])) (fun t₀ k₀ => XS.iloadN X321.here hx rfl (hb hby d9_38) rfl k₀) ?_
  obtain ⟨fs, hr, hrun, hended, hW, hsame⟩ := X321.leave (v := some (.int (-1 : Int32))) (fun h => by rw [Bd.returns] at h; cases h)
  refine ⟨_, _, ?_, hrun, hended, _, _, rfl, ?_, ⟨_, rfl⟩, hW, hsame.mono (by decide) (by decide)⟩
  · exact retI X321 hx Bd.returns (hb hby d9_39) hr
  · show Q_rm9_5_4 Z a t ba kc N b0 b1 b2 b3 h0 n0 _ T321.heap _
    rw [e321]
    exact ⟨by simp +decide [own_all, own_st], N0, rfl⟩
theorem own_nlt0 {c : Int32} (h : own_cap c) : ¬ c < 0 := own_cap0 h
theorem own_nlt1 {M k : Int32} (h : ¬ M < k) (h1 : (1 : Int32).toInt ≤ k.toInt) : ¬ M < 1 := by
  rw [Int32.lt_iff_toInt_lt] at h ⊢; omega
theorem pn_0 : plainName "com/example/notesmith/notesmith/report/LineBufferIndexOfPinLaw" = true := by first | (simp [plainName, overriddenIn]; done) | decide +kernel
theorem ef_rm0 (m : MethodId) (pk : Int32) (qu : Int32) (fs0 : Int32) (ls0 : Int32) (cs0 : Int32) : entryFrame m #[(.int pk), (.int qu), (.int fs0), (.int ls0), (.int cs0)] maxLocals = mkF m 0 #[.val (.int pk), .val (.int qu), .val (.int fs0), .val (.int ls0), .val (.int cs0), .unset, .unset, .unset, .unset, .unset, .unset, .unset, .unset, .unset, .unset, .unset, .unset] [] := by first | (simp [entryFrame, mkF, argsToLocals, Value.category, maxLocals]; done) | rfl
def Q_rm0 (Z : State) (pk : Int32) (qu : Int32) (fs0 : Int32) (ls0 : Int32) (cs0 : Int32) (h0 : Heap) (n0 : Nat) (v : Option Value) (h : Heap) (L : List Loc) : Prop := v = some (.int 1) ∧ Fr n0 L
set_option maxRecDepth 65536 in
set_option maxHeartbeats 40000000 in
theorem rm0 (l : Launch) (Z : State) (a0 : Array Value) (hw : ∀ d ∈ tables_1, d.before a0 Z = true) (ws : List Jvm.Cond) (pk : Int32) (qu : Int32) (fs0 : Int32) (ls0 : Int32) (cs0 : Int32) (h0 : Heap) (n0 : Nat) (Z0 : n0 ≤ h0.size) :
    MetFree l x (head1 (Jvm.Cond.code x code maxLocals ret :: ws) room_1) (fun as₉ U => as₉ = #[(.int pk), (.int qu), (.int fs0), (.int ls0), (.int cs0)] ∧ Z.Warmed39 U.vm ∧ U.heap = h0) (fun _ _ _ _ _ => True) (fun _ U o₉ U' => ∃ v L, o₉ = .returned v ∧ Q_rm0 Z pk qu fs0 ls0 cs0 h0 n0 v U'.heap L ∧ FrameEnd U o₉ U' L room_1.cells room_1.slots) := by
  refine MetFree.of_bodySF (plainFor_of_name pn_0) hisR ?_
  intro p e s m args below meth c s₁ Bd hml0 hP hK
  obtain ⟨rfl, hZ, hh⟩ := hP
  have hx := Bd.exec
  have hby := Bd.bytes
  have hml : c.maxLocals = 17 := hml0
  have hown : s.vm.findClass "com/example/notesmith/notesmith/report/LineBufferIndexOfPinLaw" = some m.cls := findClass_of_methodNamed Bd.named
  have hnm := (name_of_methodNamed Bd.named Bd.method).1
  have X0 : Stand p l e room_1 s m #[(.int pk), (.int qu), (.int fs0), (.int ls0), (.int cs0)] below meth c s₁ [] 0 0 := Stand.of_body Bd
  have e0 : s₁.heap = h0 := by rw [← hh, Bd.state]; rfl
  have N0 := Fr.nil n0
  have cut282 : ∀ (b0 : Int32) (b1 : Int32) (b2 : Int32) (b3 : Int32) (n : Int32) (fr : Int32) (cap : Int32) (sel : Int32) (t : Int32) (lb : Addr) (got : Int32) (ex : Int32) (hh : Heap) (Zc282 : n0 ≤ hh.size) (Tc282 : State) (lc282 : List Loc) (Nc282 : Fr n0 lc282) (Xc282 : Stand p l e room_1 s m #[(.int pk), (.int qu), (.int fs0), (.int ls0), (.int cs0)] below meth c Tc282 lc282 6 42) (ec282 : Tc282.heap = hh) (Ec : Exa Z hh lb "com/example/notesmith/notesmith/report/LineBuffer") (Fc : Fld Z hh lb "com/example/notesmith/notesmith/report/LineBuffer" "length" "I" (.int n)) (hgot : got = own_all fr n t b0 b1 b2 b3) (hex : ex = own_all fr n t b0 b1 b2 b3), own_Go p e below (fun s₂ o₉ => s₂.status = .running ∧ Ended s₂ below o₉ ∧ ∃ v L, o₉ = .returned v ∧ Q_rm0 Z pk qu fs0 ls0 cs0 h0 n0 v s₂.heap L ∧ FrameEnd s o₉ s₂ L room_1.cells room_1.slots) (Tc282.setTop (mkF m 282 #[.val (.int pk), .val (.int qu), .val (.int fs0), .val (.int ls0), .val (.int cs0), .val (.int b0), .val (.int b1), .val (.int b2), .val (.int b3), .val (.int n), .val (.int fr), .val (.int cap), .val (.int sel), .val (.int t), .val (.ref lb), .val (.int got), .val (.int ex)] [])) := by
    intro b0 b1 b2 b3 n fr cap sel t lb got ex hh Zc282 Tc282 lc282 Nc282 Xc282 ec282 Ec Fc hgot hex
    refine own_step (Tc282.setTop (mkF m 284 #[.val (.int pk), .val (.int qu), .val (.int fs0), .val (.int ls0), .val (.int cs0), .val (.int b0), .val (.int b1), .val (.int b2), .val (.int b3), .val (.int n), .val (.int fr), .val (.int cap), .val (.int sel), .val (.int t), .val (.ref lb), .val (.int got), .val (.int ex)] [(.int got)])) (fun t₀ k₀ => XS.iload Xc282.here hx rfl (hb hby at_282) rfl k₀) ?_
    refine own_step (Tc282.setTop (mkF m 286 #[.val (.int pk), .val (.int qu), .val (.int fs0), .val (.int ls0), .val (.int cs0), .val (.int b0), .val (.int b1), .val (.int b2), .val (.int b3), .val (.int n), .val (.int fr), .val (.int cap), .val (.int sel), .val (.int t), .val (.ref lb), .val (.int got), .val (.int ex)] [(.int ex), (.int got)])) (fun t₀ k₀ => XS.iload Xc282.here hx rfl (hb hby at_284) rfl k₀) ?_
    have hk322 : got = ex := hgot.trans hex.symm
    refine own_step (Tc282.setTop (mkF m 289 #[.val (.int pk), .val (.int qu), .val (.int fs0), .val (.int ls0), .val (.int cs0), .val (.int b0), .val (.int b1), .val (.int b2), .val (.int b3), .val (.int n), .val (.int fr), .val (.int cap), .val (.int sel), .val (.int t), .val (.ref lb), .val (.int got), .val (.int ex)] [])) (fun t₀ k₀ => XS.icmpNo Xc282.here hx rfl (hb hby at_286) rfl (teq hk322).2 k₀) ?_
    refine own_step (Tc282.setTop (mkF m 291 #[.val (.int pk), .val (.int qu), .val (.int fs0), .val (.int ls0), .val (.int cs0), .val (.int b0), .val (.int b1), .val (.int b2), .val (.int b3), .val (.int n), .val (.int fr), .val (.int cap), .val (.int sel), .val (.int t), .val (.ref lb), .val (.int got), .val (.int ex)] [(.ref lb)])) (fun t₀ k₀ => XS.aload Xc282.here hx rfl (hb hby at_289) rfl rfl k₀) ?_
    obtain ⟨cq323, kq323, q323a, q323b, q323c⟩ := isOf hZ ec282 Ec
    obtain ⟨_, _, ⟨T323, L323, k323, n323⟩, -, X323, ⟨Lc323, hQ323, l323, y323, z323⟩, st323⟩ := Xc282.virtualBack hx (y := (⟨"com/example/notesmith/notesmith/report/LineBuffer", "length", "()I"⟩ : MethodName)) (z := (⟨"com/example/notesmith/notesmith/report/LineBuffer", "length", "()I"⟩ : MethodName)) hown (mvT hZ (hw _ (List.mem_of_getElem? (i := 49) rfl))) (mvT hZ (hw _ (List.mem_of_getElem? (i := 50) rfl))) (notFace_of_selects (args := #[]) (mvT hZ (hw _ (List.mem_of_getElem? (i := 52) rfl)))) (mvT hZ (hw _ (List.mem_of_getElem? (i := 52) rfl))) (mvT hZ (hw _ (List.mem_of_getElem? (i := 51) rfl))) (by decide) (backOf (W := 0) (rm10 l Z a0 hw [] lb n hh n0 Zc282 Fc) hZ (hw _ (List.mem_of_getElem? (i := 53) rfl)) (hw _ (List.mem_of_getElem? (i := 3) rfl)) (by decide) (by decide)) q323a q323c (g := (mkF m 291 #[.val (.int pk), .val (.int qu), .val (.int fs0), .val (.int ls0), .val (.int cs0), .val (.int b0), .val (.int b1), .val (.int b2), .val (.int b3), .val (.int n), .val (.int fr), .val (.int cap), .val (.int sel), .val (.int t), .val (.ref lb), .val (.int got), .val (.int ex)] [(.ref lb)])) rfl (by rw [hml]; rfl) (Steps.refl _) (argsL := []) (rest := []) (lenOf pd_7 rfl) rfl (by show 2 * 0 + _ ≤ _; exact Nat.le_of_eq rfl) (hb hby at_291) (fun _ _ => ⟨rfl, ec282, (by decide : 6 + 0 ≤ _), (by decide : 42 + 0 ≤ _)⟩)
    dsimp only [Pt.U, Pt.locs, Pt.cells, Pt.slots] at X323 l323 y323 z323 st323 hQ323
    subst l323 y323 z323
    obtain ⟨rfl, N323q, e323⟩ := hQ323
    have N323 := Fr.app Nc282 N323q
    refine own_comes (T323.setTop (mkF m 294 #[.val (.int pk), .val (.int qu), .val (.int fs0), .val (.int ls0), .val (.int cs0), .val (.int b0), .val (.int b1), .val (.int b2), .val (.int b3), .val (.int n), .val (.int fr), .val (.int cap), .val (.int sel), .val (.int t), .val (.ref lb), .val (.int got), .val (.int ex)] [(.int n)])) st323 ?_
    refine own_step (T323.setTop (mkF m 296 #[.val (.int pk), .val (.int qu), .val (.int fs0), .val (.int ls0), .val (.int cs0), .val (.int b0), .val (.int b1), .val (.int b2), .val (.int b3), .val (.int n), .val (.int fr), .val (.int cap), .val (.int sel), .val (.int t), .val (.ref lb), .val (.int got), .val (.int ex)] [(.int n), (.int n)])) (fun t₀ k₀ => XS.iload X323.here hx rfl (hb hby at_294) rfl k₀) ?_
    have hk324 : n = n := rfl
    refine own_step (T323.setTop (mkF m 299 #[.val (.int pk), .val (.int qu), .val (.int fs0), .val (.int ls0), .val (.int cs0), .val (.int b0), .val (.int b1), .val (.int b2), .val (.int b3), .val (.int n), .val (.int fr), .val (.int cap), .val (.int sel), .val (.int t), .val (.ref lb), .val (.int got), .val (.int ex)] [])) (fun t₀ k₀ => XS.icmpNo X323.here hx rfl (hb hby at_296) rfl (teq hk324).2 k₀) ?_
    refine own_step (T323.setTop (mkF m 300 #[.val (.int pk), .val (.int qu), .val (.int fs0), .val (.int ls0), .val (.int cs0), .val (.int b0), .val (.int b1), .val (.int b2), .val (.int b3), .val (.int n), .val (.int fr), .val (.int cap), .val (.int sel), .val (.int t), .val (.ref lb), .val (.int got), .val (.int ex)] [(.int (1 : Int32))])) (fun t₀ k₀ => XS.iconst X323.here hx rfl (hb hby at_299) k₀) ?_
    refine own_step (T323.setTop (mkF m 304 #[.val (.int pk), .val (.int qu), .val (.int fs0), .val (.int ls0), .val (.int cs0), .val (.int b0), .val (.int b1), .val (.int b2), .val (.int b3), .val (.int n), .val (.int fr), .val (.int cap), .val (.int sel), .val (.int t), .val (.ref lb), .val (.int got), .val (.int ex)] [(.int (1 : Int32))])) (fun t₀ k₀ => XS.goto X323.here hx rfl (pc0 := 300) (pc' := 304) rfl (hb hby at_300) (by decide) (by decide) k₀) ?_
    obtain ⟨fs, hr, hrun, hended, hW, hsame⟩ := X323.leave (v := some (.int (1 : Int32))) (fun h => by rw [Bd.returns] at h; cases h)
    refine ⟨_, _, ?_, hrun, hended, _, _, rfl, ?_, ⟨_, rfl⟩, hW, hsame.mono (by decide) (by decide)⟩
    · exact retN X323 hx (t := .boolean) Bd.returns (by simp) (hb hby at_304) hr
    · show Q_rm0 Z pk qu fs0 ls0 cs0 h0 n0 _ T323.heap _
      rw [e323]
      exact ⟨rfl, N323⟩
  have cut260 : ∀ (b0 : Int32) (b1 : Int32) (b2 : Int32) (b3 : Int32) (n : Int32) (fr : Int32) (cap : Int32) (sel : Int32) (t : Int32) (lb : Addr) (got : Int32) (ex : Int32) (hh : Heap) (Zc260 : n0 ≤ hh.size) (Tc260 : State) (lc260 : List Loc) (Nc260 : Fr n0 lc260) (Xc260 : Stand p l e room_1 s m #[(.int pk), (.int qu), (.int fs0), (.int ls0), (.int cs0)] below meth c Tc260 lc260 6 42) (ec260 : Tc260.heap = hh) (Ec : Exa Z hh lb "com/example/notesmith/notesmith/report/LineBuffer") (Fc : Fld Z hh lb "com/example/notesmith/notesmith/report/LineBuffer" "length" "I" (.int n)) (hgot : got = own_all fr n t b0 b1 b2 b3) (hex : ex = own_st 1 fr n b1 t (own_st 2 fr n b2 t (own_st 3 fr n b3 t (-1)))), own_Go p e below (fun s₂ o₉ => s₂.status = .running ∧ Ended s₂ below o₉ ∧ ∃ v L, o₉ = .returned v ∧ Q_rm0 Z pk qu fs0 ls0 cs0 h0 n0 v s₂.heap L ∧ FrameEnd s o₉ s₂ L room_1.cells room_1.slots) (Tc260.setTop (mkF m 260 #[.val (.int pk), .val (.int qu), .val (.int fs0), .val (.int ls0), .val (.int cs0), .val (.int b0), .val (.int b1), .val (.int b2), .val (.int b3), .val (.int n), .val (.int fr), .val (.int cap), .val (.int sel), .val (.int t), .val (.ref lb), .val (.int got), .val (.int ex)] [])) := by
    intro b0 b1 b2 b3 n fr cap sel t lb got ex hh Zc260 Tc260 lc260 Nc260 Xc260 ec260 Ec Fc hgot hex
    refine own_step (Tc260.setTop (mkF m 261 #[.val (.int pk), .val (.int qu), .val (.int fs0), .val (.int ls0), .val (.int cs0), .val (.int b0), .val (.int b1), .val (.int b2), .val (.int b3), .val (.int n), .val (.int fr), .val (.int cap), .val (.int sel), .val (.int t), .val (.ref lb), .val (.int got), .val (.int ex)] [(.int (0 : Int32))])) (fun t₀ k₀ => XS.iconst Xc260.here hx rfl (hb hby at_260) k₀) ?_
    refine own_step (Tc260.setTop (mkF m 263 #[.val (.int pk), .val (.int qu), .val (.int fs0), .val (.int ls0), .val (.int cs0), .val (.int b0), .val (.int b1), .val (.int b2), .val (.int b3), .val (.int n), .val (.int fr), .val (.int cap), .val (.int sel), .val (.int t), .val (.ref lb), .val (.int got), .val (.int ex)] [(.int fr), (.int (0 : Int32))])) (fun t₀ k₀ => XS.iload Xc260.here hx rfl (hb hby at_261) rfl k₀) ?_
    by_cases hc263 : (0 : Int32) < fr
    · skip
      refine own_step (Tc260.setTop (mkF m 282 #[.val (.int pk), .val (.int qu), .val (.int fs0), .val (.int ls0), .val (.int cs0), .val (.int b0), .val (.int b1), .val (.int b2), .val (.int b3), .val (.int n), .val (.int fr), .val (.int cap), .val (.int sel), .val (.int t), .val (.ref lb), .val (.int got), .val (.int ex)] [])) (fun t₀ k₀ => XS.icmpYes Xc260.here hx rfl (pc0 := 263) (pc' := 282) rfl (hb hby at_263) rfl (tlt hc263).1 (by decide) (by decide) k₀) ?_
      exact cut282 b0 b1 b2 b3 n fr cap sel t lb got ex _ Zc260 _ _ Nc260 Xc260 ec260 Ec Fc hgot (by unfold own_all; rw [own_st]; rw [if_neg (fun q => q.1 hc263)]; exact hex)
    · skip
      refine own_step (Tc260.setTop (mkF m 266 #[.val (.int pk), .val (.int qu), .val (.int fs0), .val (.int ls0), .val (.int cs0), .val (.int b0), .val (.int b1), .val (.int b2), .val (.int b3), .val (.int n), .val (.int fr), .val (.int cap), .val (.int sel), .val (.int t), .val (.ref lb), .val (.int got), .val (.int ex)] [])) (fun t₀ k₀ => XS.icmpNo Xc260.here hx rfl (hb hby at_263) rfl (flt hc263).1 k₀) ?_
      refine own_step (Tc260.setTop (mkF m 267 #[.val (.int pk), .val (.int qu), .val (.int fs0), .val (.int ls0), .val (.int cs0), .val (.int b0), .val (.int b1), .val (.int b2), .val (.int b3), .val (.int n), .val (.int fr), .val (.int cap), .val (.int sel), .val (.int t), .val (.ref lb), .val (.int got), .val (.int ex)] [(.int (0 : Int32))])) (fun t₀ k₀ => XS.iconst Xc260.here hx rfl (hb hby at_266) k₀) ?_
      refine own_step (Tc260.setTop (mkF m 269 #[.val (.int pk), .val (.int qu), .val (.int fs0), .val (.int ls0), .val (.int cs0), .val (.int b0), .val (.int b1), .val (.int b2), .val (.int b3), .val (.int n), .val (.int fr), .val (.int cap), .val (.int sel), .val (.int t), .val (.ref lb), .val (.int got), .val (.int ex)] [(.int n), (.int (0 : Int32))])) (fun t₀ k₀ => XS.iload Xc260.here hx rfl (hb hby at_267) rfl k₀) ?_
      by_cases hc269 : (0 : Int32) < n
      · skip
        refine own_step (Tc260.setTop (mkF m 272 #[.val (.int pk), .val (.int qu), .val (.int fs0), .val (.int ls0), .val (.int cs0), .val (.int b0), .val (.int b1), .val (.int b2), .val (.int b3), .val (.int n), .val (.int fr), .val (.int cap), .val (.int sel), .val (.int t), .val (.ref lb), .val (.int got), .val (.int ex)] [])) (fun t₀ k₀ => XS.icmpNo Xc260.here hx rfl (hb hby at_269) rfl (tlt hc269).2.1 k₀) ?_
        refine own_step (Tc260.setTop (mkF m 274 #[.val (.int pk), .val (.int qu), .val (.int fs0), .val (.int ls0), .val (.int cs0), .val (.int b0), .val (.int b1), .val (.int b2), .val (.int b3), .val (.int n), .val (.int fr), .val (.int cap), .val (.int sel), .val (.int t), .val (.ref lb), .val (.int got), .val (.int ex)] [(.int b0)])) (fun t₀ k₀ => XS.iload Xc260.here hx rfl (hb hby at_272) rfl k₀) ?_
        refine own_step (Tc260.setTop (mkF m 276 #[.val (.int pk), .val (.int qu), .val (.int fs0), .val (.int ls0), .val (.int cs0), .val (.int b0), .val (.int b1), .val (.int b2), .val (.int b3), .val (.int n), .val (.int fr), .val (.int cap), .val (.int sel), .val (.int t), .val (.ref lb), .val (.int got), .val (.int ex)] [(.int t), (.int b0)])) (fun t₀ k₀ => XS.iload Xc260.here hx rfl (hb hby at_274) rfl k₀) ?_
        by_cases hc276 : b0 = t
        · skip
          refine own_step (Tc260.setTop (mkF m 279 #[.val (.int pk), .val (.int qu), .val (.int fs0), .val (.int ls0), .val (.int cs0), .val (.int b0), .val (.int b1), .val (.int b2), .val (.int b3), .val (.int n), .val (.int fr), .val (.int cap), .val (.int sel), .val (.int t), .val (.ref lb), .val (.int got), .val (.int ex)] [])) (fun t₀ k₀ => XS.icmpNo Xc260.here hx rfl (hb hby at_276) rfl (teq hc276).2 k₀) ?_
          refine own_step (Tc260.setTop (mkF m 280 #[.val (.int pk), .val (.int qu), .val (.int fs0), .val (.int ls0), .val (.int cs0), .val (.int b0), .val (.int b1), .val (.int b2), .val (.int b3), .val (.int n), .val (.int fr), .val (.int cap), .val (.int sel), .val (.int t), .val (.ref lb), .val (.int got), .val (.int ex)] [(.int (0 : Int32))])) (fun t₀ k₀ => XS.iconst Xc260.here hx rfl (hb hby at_279) k₀) ?_
          refine own_step (Tc260.setTop (mkF m 282 #[.val (.int pk), .val (.int qu), .val (.int fs0), .val (.int ls0), .val (.int cs0), .val (.int b0), .val (.int b1), .val (.int b2), .val (.int b3), .val (.int n), .val (.int fr), .val (.int cap), .val (.int sel), .val (.int t), .val (.ref lb), .val (.int got), .val (.int (0 : Int32))] [])) (fun t₀ k₀ => XS.istore Xc260.here hx rfl (hb hby at_280) rfl (l' := #[.val (.int pk), .val (.int qu), .val (.int fs0), .val (.int ls0), .val (.int cs0), .val (.int b0), .val (.int b1), .val (.int b2), .val (.int b3), .val (.int n), .val (.int fr), .val (.int cap), .val (.int sel), .val (.int t), .val (.ref lb), .val (.int got), .val (.int (0 : Int32))]) rfl k₀) ?_
          exact cut282 b0 b1 b2 b3 n fr cap sel t lb got (0 : Int32) _ Zc260 _ _ Nc260 Xc260 ec260 Ec Fc hgot (by unfold own_all; rw [own_st]; rw [if_pos ⟨hc263, hc269, hc276⟩])
        · skip
          refine own_step (Tc260.setTop (mkF m 282 #[.val (.int pk), .val (.int qu), .val (.int fs0), .val (.int ls0), .val (.int cs0), .val (.int b0), .val (.int b1), .val (.int b2), .val (.int b3), .val (.int n), .val (.int fr), .val (.int cap), .val (.int sel), .val (.int t), .val (.ref lb), .val (.int got), .val (.int ex)] [])) (fun t₀ k₀ => XS.icmpYes Xc260.here hx rfl (pc0 := 276) (pc' := 282) rfl (hb hby at_276) rfl (feq hc276).2 (by decide) (by decide) k₀) ?_
          exact cut282 b0 b1 b2 b3 n fr cap sel t lb got ex _ Zc260 _ _ Nc260 Xc260 ec260 Ec Fc hgot (by unfold own_all; rw [own_st]; rw [if_neg (fun q => hc276 q.2.2)]; exact hex)
      · skip
        refine own_step (Tc260.setTop (mkF m 282 #[.val (.int pk), .val (.int qu), .val (.int fs0), .val (.int ls0), .val (.int cs0), .val (.int b0), .val (.int b1), .val (.int b2), .val (.int b3), .val (.int n), .val (.int fr), .val (.int cap), .val (.int sel), .val (.int t), .val (.ref lb), .val (.int got), .val (.int ex)] [])) (fun t₀ k₀ => XS.icmpYes Xc260.here hx rfl (pc0 := 269) (pc' := 282) rfl (hb hby at_269) rfl (flt hc269).2.1 (by decide) (by decide) k₀) ?_
        exact cut282 b0 b1 b2 b3 n fr cap sel t lb got ex _ Zc260 _ _ Nc260 Xc260 ec260 Ec Fc hgot (by unfold own_all; rw [own_st]; rw [if_neg (fun q => hc269 q.2.1)]; exact hex)
  have cut238 : ∀ (b0 : Int32) (b1 : Int32) (b2 : Int32) (b3 : Int32) (n : Int32) (fr : Int32) (cap : Int32) (sel : Int32) (t : Int32) (lb : Addr) (got : Int32) (ex : Int32) (hh : Heap) (Zc238 : n0 ≤ hh.size) (Tc238 : State) (lc238 : List Loc) (Nc238 : Fr n0 lc238) (Xc238 : Stand p l e room_1 s m #[(.int pk), (.int qu), (.int fs0), (.int ls0), (.int cs0)] below meth c Tc238 lc238 6 42) (ec238 : Tc238.heap = hh) (Ec : Exa Z hh lb "com/example/notesmith/notesmith/report/LineBuffer") (Fc : Fld Z hh lb "com/example/notesmith/notesmith/report/LineBuffer" "length" "I" (.int n)) (hgot : got = own_all fr n t b0 b1 b2 b3) (hex : ex = own_st 2 fr n b2 t (own_st 3 fr n b3 t (-1))), own_Go p e below (fun s₂ o₉ => s₂.status = .running ∧ Ended s₂ below o₉ ∧ ∃ v L, o₉ = .returned v ∧ Q_rm0 Z pk qu fs0 ls0 cs0 h0 n0 v s₂.heap L ∧ FrameEnd s o₉ s₂ L room_1.cells room_1.slots) (Tc238.setTop (mkF m 238 #[.val (.int pk), .val (.int qu), .val (.int fs0), .val (.int ls0), .val (.int cs0), .val (.int b0), .val (.int b1), .val (.int b2), .val (.int b3), .val (.int n), .val (.int fr), .val (.int cap), .val (.int sel), .val (.int t), .val (.ref lb), .val (.int got), .val (.int ex)] [])) := by
    intro b0 b1 b2 b3 n fr cap sel t lb got ex hh Zc238 Tc238 lc238 Nc238 Xc238 ec238 Ec Fc hgot hex
    refine own_step (Tc238.setTop (mkF m 239 #[.val (.int pk), .val (.int qu), .val (.int fs0), .val (.int ls0), .val (.int cs0), .val (.int b0), .val (.int b1), .val (.int b2), .val (.int b3), .val (.int n), .val (.int fr), .val (.int cap), .val (.int sel), .val (.int t), .val (.ref lb), .val (.int got), .val (.int ex)] [(.int (1 : Int32))])) (fun t₀ k₀ => XS.iconst Xc238.here hx rfl (hb hby at_238) k₀) ?_
    refine own_step (Tc238.setTop (mkF m 241 #[.val (.int pk), .val (.int qu), .val (.int fs0), .val (.int ls0), .val (.int cs0), .val (.int b0), .val (.int b1), .val (.int b2), .val (.int b3), .val (.int n), .val (.int fr), .val (.int cap), .val (.int sel), .val (.int t), .val (.ref lb), .val (.int got), .val (.int ex)] [(.int fr), (.int (1 : Int32))])) (fun t₀ k₀ => XS.iload Xc238.here hx rfl (hb hby at_239) rfl k₀) ?_
    by_cases hc241 : (1 : Int32) < fr
    · skip
      refine own_step (Tc238.setTop (mkF m 260 #[.val (.int pk), .val (.int qu), .val (.int fs0), .val (.int ls0), .val (.int cs0), .val (.int b0), .val (.int b1), .val (.int b2), .val (.int b3), .val (.int n), .val (.int fr), .val (.int cap), .val (.int sel), .val (.int t), .val (.ref lb), .val (.int got), .val (.int ex)] [])) (fun t₀ k₀ => XS.icmpYes Xc238.here hx rfl (pc0 := 241) (pc' := 260) rfl (hb hby at_241) rfl (tlt hc241).1 (by decide) (by decide) k₀) ?_
      exact cut260 b0 b1 b2 b3 n fr cap sel t lb got ex _ Zc238 _ _ Nc238 Xc238 ec238 Ec Fc hgot (by rw [own_st]; rw [if_neg (fun q => q.1 hc241)]; exact hex)
    · skip
      refine own_step (Tc238.setTop (mkF m 244 #[.val (.int pk), .val (.int qu), .val (.int fs0), .val (.int ls0), .val (.int cs0), .val (.int b0), .val (.int b1), .val (.int b2), .val (.int b3), .val (.int n), .val (.int fr), .val (.int cap), .val (.int sel), .val (.int t), .val (.ref lb), .val (.int got), .val (.int ex)] [])) (fun t₀ k₀ => XS.icmpNo Xc238.here hx rfl (hb hby at_241) rfl (flt hc241).1 k₀) ?_
      refine own_step (Tc238.setTop (mkF m 245 #[.val (.int pk), .val (.int qu), .val (.int fs0), .val (.int ls0), .val (.int cs0), .val (.int b0), .val (.int b1), .val (.int b2), .val (.int b3), .val (.int n), .val (.int fr), .val (.int cap), .val (.int sel), .val (.int t), .val (.ref lb), .val (.int got), .val (.int ex)] [(.int (1 : Int32))])) (fun t₀ k₀ => XS.iconst Xc238.here hx rfl (hb hby at_244) k₀) ?_
      refine own_step (Tc238.setTop (mkF m 247 #[.val (.int pk), .val (.int qu), .val (.int fs0), .val (.int ls0), .val (.int cs0), .val (.int b0), .val (.int b1), .val (.int b2), .val (.int b3), .val (.int n), .val (.int fr), .val (.int cap), .val (.int sel), .val (.int t), .val (.ref lb), .val (.int got), .val (.int ex)] [(.int n), (.int (1 : Int32))])) (fun t₀ k₀ => XS.iload Xc238.here hx rfl (hb hby at_245) rfl k₀) ?_
      by_cases hc247 : (1 : Int32) < n
      · skip
        refine own_step (Tc238.setTop (mkF m 250 #[.val (.int pk), .val (.int qu), .val (.int fs0), .val (.int ls0), .val (.int cs0), .val (.int b0), .val (.int b1), .val (.int b2), .val (.int b3), .val (.int n), .val (.int fr), .val (.int cap), .val (.int sel), .val (.int t), .val (.ref lb), .val (.int got), .val (.int ex)] [])) (fun t₀ k₀ => XS.icmpNo Xc238.here hx rfl (hb hby at_247) rfl (tlt hc247).2.1 k₀) ?_
        refine own_step (Tc238.setTop (mkF m 252 #[.val (.int pk), .val (.int qu), .val (.int fs0), .val (.int ls0), .val (.int cs0), .val (.int b0), .val (.int b1), .val (.int b2), .val (.int b3), .val (.int n), .val (.int fr), .val (.int cap), .val (.int sel), .val (.int t), .val (.ref lb), .val (.int got), .val (.int ex)] [(.int b1)])) (fun t₀ k₀ => XS.iload Xc238.here hx rfl (hb hby at_250) rfl k₀) ?_
        refine own_step (Tc238.setTop (mkF m 254 #[.val (.int pk), .val (.int qu), .val (.int fs0), .val (.int ls0), .val (.int cs0), .val (.int b0), .val (.int b1), .val (.int b2), .val (.int b3), .val (.int n), .val (.int fr), .val (.int cap), .val (.int sel), .val (.int t), .val (.ref lb), .val (.int got), .val (.int ex)] [(.int t), (.int b1)])) (fun t₀ k₀ => XS.iload Xc238.here hx rfl (hb hby at_252) rfl k₀) ?_
        by_cases hc254 : b1 = t
        · skip
          refine own_step (Tc238.setTop (mkF m 257 #[.val (.int pk), .val (.int qu), .val (.int fs0), .val (.int ls0), .val (.int cs0), .val (.int b0), .val (.int b1), .val (.int b2), .val (.int b3), .val (.int n), .val (.int fr), .val (.int cap), .val (.int sel), .val (.int t), .val (.ref lb), .val (.int got), .val (.int ex)] [])) (fun t₀ k₀ => XS.icmpNo Xc238.here hx rfl (hb hby at_254) rfl (teq hc254).2 k₀) ?_
          refine own_step (Tc238.setTop (mkF m 258 #[.val (.int pk), .val (.int qu), .val (.int fs0), .val (.int ls0), .val (.int cs0), .val (.int b0), .val (.int b1), .val (.int b2), .val (.int b3), .val (.int n), .val (.int fr), .val (.int cap), .val (.int sel), .val (.int t), .val (.ref lb), .val (.int got), .val (.int ex)] [(.int (1 : Int32))])) (fun t₀ k₀ => XS.iconst Xc238.here hx rfl (hb hby at_257) k₀) ?_
          refine own_step (Tc238.setTop (mkF m 260 #[.val (.int pk), .val (.int qu), .val (.int fs0), .val (.int ls0), .val (.int cs0), .val (.int b0), .val (.int b1), .val (.int b2), .val (.int b3), .val (.int n), .val (.int fr), .val (.int cap), .val (.int sel), .val (.int t), .val (.ref lb), .val (.int got), .val (.int (1 : Int32))] [])) (fun t₀ k₀ => XS.istore Xc238.here hx rfl (hb hby at_258) rfl (l' := #[.val (.int pk), .val (.int qu), .val (.int fs0), .val (.int ls0), .val (.int cs0), .val (.int b0), .val (.int b1), .val (.int b2), .val (.int b3), .val (.int n), .val (.int fr), .val (.int cap), .val (.int sel), .val (.int t), .val (.ref lb), .val (.int got), .val (.int (1 : Int32))]) rfl k₀) ?_
          exact cut260 b0 b1 b2 b3 n fr cap sel t lb got (1 : Int32) _ Zc238 _ _ Nc238 Xc238 ec238 Ec Fc hgot (by rw [own_st]; rw [if_pos ⟨hc241, hc247, hc254⟩])
        · skip
          refine own_step (Tc238.setTop (mkF m 260 #[.val (.int pk), .val (.int qu), .val (.int fs0), .val (.int ls0), .val (.int cs0), .val (.int b0), .val (.int b1), .val (.int b2), .val (.int b3), .val (.int n), .val (.int fr), .val (.int cap), .val (.int sel), .val (.int t), .val (.ref lb), .val (.int got), .val (.int ex)] [])) (fun t₀ k₀ => XS.icmpYes Xc238.here hx rfl (pc0 := 254) (pc' := 260) rfl (hb hby at_254) rfl (feq hc254).2 (by decide) (by decide) k₀) ?_
          exact cut260 b0 b1 b2 b3 n fr cap sel t lb got ex _ Zc238 _ _ Nc238 Xc238 ec238 Ec Fc hgot (by rw [own_st]; rw [if_neg (fun q => hc254 q.2.2)]; exact hex)
      · skip
        refine own_step (Tc238.setTop (mkF m 260 #[.val (.int pk), .val (.int qu), .val (.int fs0), .val (.int ls0), .val (.int cs0), .val (.int b0), .val (.int b1), .val (.int b2), .val (.int b3), .val (.int n), .val (.int fr), .val (.int cap), .val (.int sel), .val (.int t), .val (.ref lb), .val (.int got), .val (.int ex)] [])) (fun t₀ k₀ => XS.icmpYes Xc238.here hx rfl (pc0 := 247) (pc' := 260) rfl (hb hby at_247) rfl (flt hc247).2.1 (by decide) (by decide) k₀) ?_
        exact cut260 b0 b1 b2 b3 n fr cap sel t lb got ex _ Zc238 _ _ Nc238 Xc238 ec238 Ec Fc hgot (by rw [own_st]; rw [if_neg (fun q => hc247 q.2.1)]; exact hex)
  have cut216 : ∀ (b0 : Int32) (b1 : Int32) (b2 : Int32) (b3 : Int32) (n : Int32) (fr : Int32) (cap : Int32) (sel : Int32) (t : Int32) (lb : Addr) (got : Int32) (ex : Int32) (hh : Heap) (Zc216 : n0 ≤ hh.size) (Tc216 : State) (lc216 : List Loc) (Nc216 : Fr n0 lc216) (Xc216 : Stand p l e room_1 s m #[(.int pk), (.int qu), (.int fs0), (.int ls0), (.int cs0)] below meth c Tc216 lc216 6 42) (ec216 : Tc216.heap = hh) (Ec : Exa Z hh lb "com/example/notesmith/notesmith/report/LineBuffer") (Fc : Fld Z hh lb "com/example/notesmith/notesmith/report/LineBuffer" "length" "I" (.int n)) (hgot : got = own_all fr n t b0 b1 b2 b3) (hex : ex = own_st 3 fr n b3 t (-1)), own_Go p e below (fun s₂ o₉ => s₂.status = .running ∧ Ended s₂ below o₉ ∧ ∃ v L, o₉ = .returned v ∧ Q_rm0 Z pk qu fs0 ls0 cs0 h0 n0 v s₂.heap L ∧ FrameEnd s o₉ s₂ L room_1.cells room_1.slots) (Tc216.setTop (mkF m 216 #[.val (.int pk), .val (.int qu), .val (.int fs0), .val (.int ls0), .val (.int cs0), .val (.int b0), .val (.int b1), .val (.int b2), .val (.int b3), .val (.int n), .val (.int fr), .val (.int cap), .val (.int sel), .val (.int t), .val (.ref lb), .val (.int got), .val (.int ex)] [])) := by
    intro b0 b1 b2 b3 n fr cap sel t lb got ex hh Zc216 Tc216 lc216 Nc216 Xc216 ec216 Ec Fc hgot hex
    refine own_step (Tc216.setTop (mkF m 217 #[.val (.int pk), .val (.int qu), .val (.int fs0), .val (.int ls0), .val (.int cs0), .val (.int b0), .val (.int b1), .val (.int b2), .val (.int b3), .val (.int n), .val (.int fr), .val (.int cap), .val (.int sel), .val (.int t), .val (.ref lb), .val (.int got), .val (.int ex)] [(.int (2 : Int32))])) (fun t₀ k₀ => XS.iconst Xc216.here hx rfl (hb hby at_216) k₀) ?_
    refine own_step (Tc216.setTop (mkF m 219 #[.val (.int pk), .val (.int qu), .val (.int fs0), .val (.int ls0), .val (.int cs0), .val (.int b0), .val (.int b1), .val (.int b2), .val (.int b3), .val (.int n), .val (.int fr), .val (.int cap), .val (.int sel), .val (.int t), .val (.ref lb), .val (.int got), .val (.int ex)] [(.int fr), (.int (2 : Int32))])) (fun t₀ k₀ => XS.iload Xc216.here hx rfl (hb hby at_217) rfl k₀) ?_
    by_cases hc219 : (2 : Int32) < fr
    · skip
      refine own_step (Tc216.setTop (mkF m 238 #[.val (.int pk), .val (.int qu), .val (.int fs0), .val (.int ls0), .val (.int cs0), .val (.int b0), .val (.int b1), .val (.int b2), .val (.int b3), .val (.int n), .val (.int fr), .val (.int cap), .val (.int sel), .val (.int t), .val (.ref lb), .val (.int got), .val (.int ex)] [])) (fun t₀ k₀ => XS.icmpYes Xc216.here hx rfl (pc0 := 219) (pc' := 238) rfl (hb hby at_219) rfl (tlt hc219).1 (by decide) (by decide) k₀) ?_
      exact cut238 b0 b1 b2 b3 n fr cap sel t lb got ex _ Zc216 _ _ Nc216 Xc216 ec216 Ec Fc hgot (by rw [own_st]; rw [if_neg (fun q => q.1 hc219)]; exact hex)
    · skip
      refine own_step (Tc216.setTop (mkF m 222 #[.val (.int pk), .val (.int qu), .val (.int fs0), .val (.int ls0), .val (.int cs0), .val (.int b0), .val (.int b1), .val (.int b2), .val (.int b3), .val (.int n), .val (.int fr), .val (.int cap), .val (.int sel), .val (.int t), .val (.ref lb), .val (.int got), .val (.int ex)] [])) (fun t₀ k₀ => XS.icmpNo Xc216.here hx rfl (hb hby at_219) rfl (flt hc219).1 k₀) ?_
      refine own_step (Tc216.setTop (mkF m 223 #[.val (.int pk), .val (.int qu), .val (.int fs0), .val (.int ls0), .val (.int cs0), .val (.int b0), .val (.int b1), .val (.int b2), .val (.int b3), .val (.int n), .val (.int fr), .val (.int cap), .val (.int sel), .val (.int t), .val (.ref lb), .val (.int got), .val (.int ex)] [(.int (2 : Int32))])) (fun t₀ k₀ => XS.iconst Xc216.here hx rfl (hb hby at_222) k₀) ?_
      refine own_step (Tc216.setTop (mkF m 225 #[.val (.int pk), .val (.int qu), .val (.int fs0), .val (.int ls0), .val (.int cs0), .val (.int b0), .val (.int b1), .val (.int b2), .val (.int b3), .val (.int n), .val (.int fr), .val (.int cap), .val (.int sel), .val (.int t), .val (.ref lb), .val (.int got), .val (.int ex)] [(.int n), (.int (2 : Int32))])) (fun t₀ k₀ => XS.iload Xc216.here hx rfl (hb hby at_223) rfl k₀) ?_
      by_cases hc225 : (2 : Int32) < n
      · skip
        refine own_step (Tc216.setTop (mkF m 228 #[.val (.int pk), .val (.int qu), .val (.int fs0), .val (.int ls0), .val (.int cs0), .val (.int b0), .val (.int b1), .val (.int b2), .val (.int b3), .val (.int n), .val (.int fr), .val (.int cap), .val (.int sel), .val (.int t), .val (.ref lb), .val (.int got), .val (.int ex)] [])) (fun t₀ k₀ => XS.icmpNo Xc216.here hx rfl (hb hby at_225) rfl (tlt hc225).2.1 k₀) ?_
        refine own_step (Tc216.setTop (mkF m 230 #[.val (.int pk), .val (.int qu), .val (.int fs0), .val (.int ls0), .val (.int cs0), .val (.int b0), .val (.int b1), .val (.int b2), .val (.int b3), .val (.int n), .val (.int fr), .val (.int cap), .val (.int sel), .val (.int t), .val (.ref lb), .val (.int got), .val (.int ex)] [(.int b2)])) (fun t₀ k₀ => XS.iload Xc216.here hx rfl (hb hby at_228) rfl k₀) ?_
        refine own_step (Tc216.setTop (mkF m 232 #[.val (.int pk), .val (.int qu), .val (.int fs0), .val (.int ls0), .val (.int cs0), .val (.int b0), .val (.int b1), .val (.int b2), .val (.int b3), .val (.int n), .val (.int fr), .val (.int cap), .val (.int sel), .val (.int t), .val (.ref lb), .val (.int got), .val (.int ex)] [(.int t), (.int b2)])) (fun t₀ k₀ => XS.iload Xc216.here hx rfl (hb hby at_230) rfl k₀) ?_
        by_cases hc232 : b2 = t
        · skip
          refine own_step (Tc216.setTop (mkF m 235 #[.val (.int pk), .val (.int qu), .val (.int fs0), .val (.int ls0), .val (.int cs0), .val (.int b0), .val (.int b1), .val (.int b2), .val (.int b3), .val (.int n), .val (.int fr), .val (.int cap), .val (.int sel), .val (.int t), .val (.ref lb), .val (.int got), .val (.int ex)] [])) (fun t₀ k₀ => XS.icmpNo Xc216.here hx rfl (hb hby at_232) rfl (teq hc232).2 k₀) ?_
          refine own_step (Tc216.setTop (mkF m 236 #[.val (.int pk), .val (.int qu), .val (.int fs0), .val (.int ls0), .val (.int cs0), .val (.int b0), .val (.int b1), .val (.int b2), .val (.int b3), .val (.int n), .val (.int fr), .val (.int cap), .val (.int sel), .val (.int t), .val (.ref lb), .val (.int got), .val (.int ex)] [(.int (2 : Int32))])) (fun t₀ k₀ => XS.iconst Xc216.here hx rfl (hb hby at_235) k₀) ?_
          refine own_step (Tc216.setTop (mkF m 238 #[.val (.int pk), .val (.int qu), .val (.int fs0), .val (.int ls0), .val (.int cs0), .val (.int b0), .val (.int b1), .val (.int b2), .val (.int b3), .val (.int n), .val (.int fr), .val (.int cap), .val (.int sel), .val (.int t), .val (.ref lb), .val (.int got), .val (.int (2 : Int32))] [])) (fun t₀ k₀ => XS.istore Xc216.here hx rfl (hb hby at_236) rfl (l' := #[.val (.int pk), .val (.int qu), .val (.int fs0), .val (.int ls0), .val (.int cs0), .val (.int b0), .val (.int b1), .val (.int b2), .val (.int b3), .val (.int n), .val (.int fr), .val (.int cap), .val (.int sel), .val (.int t), .val (.ref lb), .val (.int got), .val (.int (2 : Int32))]) rfl k₀) ?_
          exact cut238 b0 b1 b2 b3 n fr cap sel t lb got (2 : Int32) _ Zc216 _ _ Nc216 Xc216 ec216 Ec Fc hgot (by rw [own_st]; rw [if_pos ⟨hc219, hc225, hc232⟩])
        · skip
          refine own_step (Tc216.setTop (mkF m 238 #[.val (.int pk), .val (.int qu), .val (.int fs0), .val (.int ls0), .val (.int cs0), .val (.int b0), .val (.int b1), .val (.int b2), .val (.int b3), .val (.int n), .val (.int fr), .val (.int cap), .val (.int sel), .val (.int t), .val (.ref lb), .val (.int got), .val (.int ex)] [])) (fun t₀ k₀ => XS.icmpYes Xc216.here hx rfl (pc0 := 232) (pc' := 238) rfl (hb hby at_232) rfl (feq hc232).2 (by decide) (by decide) k₀) ?_
          exact cut238 b0 b1 b2 b3 n fr cap sel t lb got ex _ Zc216 _ _ Nc216 Xc216 ec216 Ec Fc hgot (by rw [own_st]; rw [if_neg (fun q => hc232 q.2.2)]; exact hex)
      · skip
        refine own_step (Tc216.setTop (mkF m 238 #[.val (.int pk), .val (.int qu), .val (.int fs0), .val (.int ls0), .val (.int cs0), .val (.int b0), .val (.int b1), .val (.int b2), .val (.int b3), .val (.int n), .val (.int fr), .val (.int cap), .val (.int sel), .val (.int t), .val (.ref lb), .val (.int got), .val (.int ex)] [])) (fun t₀ k₀ => XS.icmpYes Xc216.here hx rfl (pc0 := 225) (pc' := 238) rfl (hb hby at_225) rfl (flt hc225).2.1 (by decide) (by decide) k₀) ?_
        exact cut238 b0 b1 b2 b3 n fr cap sel t lb got ex _ Zc216 _ _ Nc216 Xc216 ec216 Ec Fc hgot (by rw [own_st]; rw [if_neg (fun q => hc225 q.2.1)]; exact hex)
  have cut189 : ∀ (b0 : Int32) (b1 : Int32) (b2 : Int32) (b3 : Int32) (n : Int32) (fr : Int32) (cap : Int32) (sel : Int32) (t : Int32) (lb : Addr) (got : Int32) (hh : Heap) (Zc189 : n0 ≤ hh.size) (Tc189 : State) (lc189 : List Loc) (Nc189 : Fr n0 lc189) (Xc189 : Stand p l e room_1 s m #[(.int pk), (.int qu), (.int fs0), (.int ls0), (.int cs0)] below meth c Tc189 lc189 6 42) (ec189 : Tc189.heap = hh) (Ec : Exa Z hh lb "com/example/notesmith/notesmith/report/LineBuffer") (Fc : Fld Z hh lb "com/example/notesmith/notesmith/report/LineBuffer" "length" "I" (.int n)) (hgot : got = own_all fr n t b0 b1 b2 b3), own_Go p e below (fun s₂ o₉ => s₂.status = .running ∧ Ended s₂ below o₉ ∧ ∃ v L, o₉ = .returned v ∧ Q_rm0 Z pk qu fs0 ls0 cs0 h0 n0 v s₂.heap L ∧ FrameEnd s o₉ s₂ L room_1.cells room_1.slots) (Tc189.setTop (mkF m 189 #[.val (.int pk), .val (.int qu), .val (.int fs0), .val (.int ls0), .val (.int cs0), .val (.int b0), .val (.int b1), .val (.int b2), .val (.int b3), .val (.int n), .val (.int fr), .val (.int cap), .val (.int sel), .val (.int t), .val (.ref lb), .unset, .unset] [(.int got)])) := by
    intro b0 b1 b2 b3 n fr cap sel t lb got hh Zc189 Tc189 lc189 Nc189 Xc189 ec189 Ec Fc hgot
    refine own_step (Tc189.setTop (mkF m 191 #[.val (.int pk), .val (.int qu), .val (.int fs0), .val (.int ls0), .val (.int cs0), .val (.int b0), .val (.int b1), .val (.int b2), .val (.int b3), .val (.int n), .val (.int fr), .val (.int cap), .val (.int sel), .val (.int t), .val (.ref lb), .val (.int got), .unset] [])) (fun t₀ k₀ => XS.istore Xc189.here hx rfl (hb hby at_189) rfl (l' := #[.val (.int pk), .val (.int qu), .val (.int fs0), .val (.int ls0), .val (.int cs0), .val (.int b0), .val (.int b1), .val (.int b2), .val (.int b3), .val (.int n), .val (.int fr), .val (.int cap), .val (.int sel), .val (.int t), .val (.ref lb), .val (.int got), .unset]) rfl k₀) ?_
    refine own_step (Tc189.setTop (mkF m 192 #[.val (.int pk), .val (.int qu), .val (.int fs0), .val (.int ls0), .val (.int cs0), .val (.int b0), .val (.int b1), .val (.int b2), .val (.int b3), .val (.int n), .val (.int fr), .val (.int cap), .val (.int sel), .val (.int t), .val (.ref lb), .val (.int got), .unset] [(.int (-1 : Int32))])) (fun t₀ k₀ => XS.iconst Xc189.here hx rfl (hb hby at_191) k₀) ?_
    refine own_step (Tc189.setTop (mkF m 194 #[.val (.int pk), .val (.int qu), .val (.int fs0), .val (.int ls0), .val (.int cs0), .val (.int b0), .val (.int b1), .val (.int b2), .val (.int b3), .val (.int n), .val (.int fr), .val (.int cap), .val (.int sel), .val (.int t), .val (.ref lb), .val (.int got), .val (.int (-1 : Int32))] [])) (fun t₀ k₀ => XS.istore Xc189.here hx rfl (hb hby at_192) rfl (l' := #[.val (.int pk), .val (.int qu), .val (.int fs0), .val (.int ls0), .val (.int cs0), .val (.int b0), .val (.int b1), .val (.int b2), .val (.int b3), .val (.int n), .val (.int fr), .val (.int cap), .val (.int sel), .val (.int t), .val (.ref lb), .val (.int got), .val (.int (-1 : Int32))]) rfl k₀) ?_
    refine own_step (Tc189.setTop (mkF m 195 #[.val (.int pk), .val (.int qu), .val (.int fs0), .val (.int ls0), .val (.int cs0), .val (.int b0), .val (.int b1), .val (.int b2), .val (.int b3), .val (.int n), .val (.int fr), .val (.int cap), .val (.int sel), .val (.int t), .val (.ref lb), .val (.int got), .val (.int (-1 : Int32))] [(.int (3 : Int32))])) (fun t₀ k₀ => XS.iconst Xc189.here hx rfl (hb hby at_194) k₀) ?_
    refine own_step (Tc189.setTop (mkF m 197 #[.val (.int pk), .val (.int qu), .val (.int fs0), .val (.int ls0), .val (.int cs0), .val (.int b0), .val (.int b1), .val (.int b2), .val (.int b3), .val (.int n), .val (.int fr), .val (.int cap), .val (.int sel), .val (.int t), .val (.ref lb), .val (.int got), .val (.int (-1 : Int32))] [(.int fr), (.int (3 : Int32))])) (fun t₀ k₀ => XS.iload Xc189.here hx rfl (hb hby at_195) rfl k₀) ?_
    by_cases hc197 : (3 : Int32) < fr
    · skip
      refine own_step (Tc189.setTop (mkF m 216 #[.val (.int pk), .val (.int qu), .val (.int fs0), .val (.int ls0), .val (.int cs0), .val (.int b0), .val (.int b1), .val (.int b2), .val (.int b3), .val (.int n), .val (.int fr), .val (.int cap), .val (.int sel), .val (.int t), .val (.ref lb), .val (.int got), .val (.int (-1 : Int32))] [])) (fun t₀ k₀ => XS.icmpYes Xc189.here hx rfl (pc0 := 197) (pc' := 216) rfl (hb hby at_197) rfl (tlt hc197).1 (by decide) (by decide) k₀) ?_
      exact cut216 b0 b1 b2 b3 n fr cap sel t lb got (-1 : Int32) _ Zc189 _ _ Nc189 Xc189 ec189 Ec Fc hgot (by rw [own_st]; rw [if_neg (fun q => q.1 hc197)])
    · skip
      refine own_step (Tc189.setTop (mkF m 200 #[.val (.int pk), .val (.int qu), .val (.int fs0), .val (.int ls0), .val (.int cs0), .val (.int b0), .val (.int b1), .val (.int b2), .val (.int b3), .val (.int n), .val (.int fr), .val (.int cap), .val (.int sel), .val (.int t), .val (.ref lb), .val (.int got), .val (.int (-1 : Int32))] [])) (fun t₀ k₀ => XS.icmpNo Xc189.here hx rfl (hb hby at_197) rfl (flt hc197).1 k₀) ?_
      refine own_step (Tc189.setTop (mkF m 201 #[.val (.int pk), .val (.int qu), .val (.int fs0), .val (.int ls0), .val (.int cs0), .val (.int b0), .val (.int b1), .val (.int b2), .val (.int b3), .val (.int n), .val (.int fr), .val (.int cap), .val (.int sel), .val (.int t), .val (.ref lb), .val (.int got), .val (.int (-1 : Int32))] [(.int (3 : Int32))])) (fun t₀ k₀ => XS.iconst Xc189.here hx rfl (hb hby at_200) k₀) ?_
      refine own_step (Tc189.setTop (mkF m 203 #[.val (.int pk), .val (.int qu), .val (.int fs0), .val (.int ls0), .val (.int cs0), .val (.int b0), .val (.int b1), .val (.int b2), .val (.int b3), .val (.int n), .val (.int fr), .val (.int cap), .val (.int sel), .val (.int t), .val (.ref lb), .val (.int got), .val (.int (-1 : Int32))] [(.int n), (.int (3 : Int32))])) (fun t₀ k₀ => XS.iload Xc189.here hx rfl (hb hby at_201) rfl k₀) ?_
      by_cases hc203 : (3 : Int32) < n
      · skip
        refine own_step (Tc189.setTop (mkF m 206 #[.val (.int pk), .val (.int qu), .val (.int fs0), .val (.int ls0), .val (.int cs0), .val (.int b0), .val (.int b1), .val (.int b2), .val (.int b3), .val (.int n), .val (.int fr), .val (.int cap), .val (.int sel), .val (.int t), .val (.ref lb), .val (.int got), .val (.int (-1 : Int32))] [])) (fun t₀ k₀ => XS.icmpNo Xc189.here hx rfl (hb hby at_203) rfl (tlt hc203).2.1 k₀) ?_
        refine own_step (Tc189.setTop (mkF m 208 #[.val (.int pk), .val (.int qu), .val (.int fs0), .val (.int ls0), .val (.int cs0), .val (.int b0), .val (.int b1), .val (.int b2), .val (.int b3), .val (.int n), .val (.int fr), .val (.int cap), .val (.int sel), .val (.int t), .val (.ref lb), .val (.int got), .val (.int (-1 : Int32))] [(.int b3)])) (fun t₀ k₀ => XS.iload Xc189.here hx rfl (hb hby at_206) rfl k₀) ?_
        refine own_step (Tc189.setTop (mkF m 210 #[.val (.int pk), .val (.int qu), .val (.int fs0), .val (.int ls0), .val (.int cs0), .val (.int b0), .val (.int b1), .val (.int b2), .val (.int b3), .val (.int n), .val (.int fr), .val (.int cap), .val (.int sel), .val (.int t), .val (.ref lb), .val (.int got), .val (.int (-1 : Int32))] [(.int t), (.int b3)])) (fun t₀ k₀ => XS.iload Xc189.here hx rfl (hb hby at_208) rfl k₀) ?_
        by_cases hc210 : b3 = t
        · skip
          refine own_step (Tc189.setTop (mkF m 213 #[.val (.int pk), .val (.int qu), .val (.int fs0), .val (.int ls0), .val (.int cs0), .val (.int b0), .val (.int b1), .val (.int b2), .val (.int b3), .val (.int n), .val (.int fr), .val (.int cap), .val (.int sel), .val (.int t), .val (.ref lb), .val (.int got), .val (.int (-1 : Int32))] [])) (fun t₀ k₀ => XS.icmpNo Xc189.here hx rfl (hb hby at_210) rfl (teq hc210).2 k₀) ?_
          refine own_step (Tc189.setTop (mkF m 214 #[.val (.int pk), .val (.int qu), .val (.int fs0), .val (.int ls0), .val (.int cs0), .val (.int b0), .val (.int b1), .val (.int b2), .val (.int b3), .val (.int n), .val (.int fr), .val (.int cap), .val (.int sel), .val (.int t), .val (.ref lb), .val (.int got), .val (.int (-1 : Int32))] [(.int (3 : Int32))])) (fun t₀ k₀ => XS.iconst Xc189.here hx rfl (hb hby at_213) k₀) ?_
          refine own_step (Tc189.setTop (mkF m 216 #[.val (.int pk), .val (.int qu), .val (.int fs0), .val (.int ls0), .val (.int cs0), .val (.int b0), .val (.int b1), .val (.int b2), .val (.int b3), .val (.int n), .val (.int fr), .val (.int cap), .val (.int sel), .val (.int t), .val (.ref lb), .val (.int got), .val (.int (3 : Int32))] [])) (fun t₀ k₀ => XS.istore Xc189.here hx rfl (hb hby at_214) rfl (l' := #[.val (.int pk), .val (.int qu), .val (.int fs0), .val (.int ls0), .val (.int cs0), .val (.int b0), .val (.int b1), .val (.int b2), .val (.int b3), .val (.int n), .val (.int fr), .val (.int cap), .val (.int sel), .val (.int t), .val (.ref lb), .val (.int got), .val (.int (3 : Int32))]) rfl k₀) ?_
          exact cut216 b0 b1 b2 b3 n fr cap sel t lb got (3 : Int32) _ Zc189 _ _ Nc189 Xc189 ec189 Ec Fc hgot (by rw [own_st]; rw [if_pos ⟨hc197, hc203, hc210⟩])
        · skip
          refine own_step (Tc189.setTop (mkF m 216 #[.val (.int pk), .val (.int qu), .val (.int fs0), .val (.int ls0), .val (.int cs0), .val (.int b0), .val (.int b1), .val (.int b2), .val (.int b3), .val (.int n), .val (.int fr), .val (.int cap), .val (.int sel), .val (.int t), .val (.ref lb), .val (.int got), .val (.int (-1 : Int32))] [])) (fun t₀ k₀ => XS.icmpYes Xc189.here hx rfl (pc0 := 210) (pc' := 216) rfl (hb hby at_210) rfl (feq hc210).2 (by decide) (by decide) k₀) ?_
          exact cut216 b0 b1 b2 b3 n fr cap sel t lb got (-1 : Int32) _ Zc189 _ _ Nc189 Xc189 ec189 Ec Fc hgot (by rw [own_st]; rw [if_neg (fun q => hc210 q.2.2)])
      · skip
        refine own_step (Tc189.setTop (mkF m 216 #[.val (.int pk), .val (.int qu), .val (.int fs0), .val (.int ls0), .val (.int cs0), .val (.int b0), .val (.int b1), .val (.int b2), .val (.int b3), .val (.int n), .val (.int fr), .val (.int cap), .val (.int sel), .val (.int t), .val (.ref lb), .val (.int got), .val (.int (-1 : Int32))] [])) (fun t₀ k₀ => XS.icmpYes Xc189.here hx rfl (pc0 := 203) (pc' := 216) rfl (hb hby at_203) rfl (flt hc203).2.1 (by decide) (by decide) k₀) ?_
        exact cut216 b0 b1 b2 b3 n fr cap sel t lb got (-1 : Int32) _ Zc189 _ _ Nc189 Xc189 ec189 Ec Fc hgot (by rw [own_st]; rw [if_neg (fun q => hc203 q.2.1)])
  have cut130 : ∀ (b0 : Int32) (b1 : Int32) (b2 : Int32) (b3 : Int32) (n : Int32) (fr : Int32) (cap : Int32) (sel : Int32) (t : Int32) (Tc130 : State) (Xc130 : Stand p l e room_1 s m #[(.int pk), (.int qu), (.int fs0), (.int ls0), (.int cs0)] below meth c Tc130 [] 0 0) (ec130 : Tc130.heap = h0) (hb0 : nar .byte (b0.toInt8.toInt32) = b0) (hb1 : nar .byte (b1.toInt8.toInt32) = b1) (hb2 : nar .byte (b2.toInt8.toInt32) = b2) (hb3 : nar .byte (b3.toInt8.toInt32) = b3) (hcap : own_cap cap) (hfn : own_FN fr n), own_Go p e below (fun s₂ o₉ => s₂.status = .running ∧ Ended s₂ below o₉ ∧ ∃ v L, o₉ = .returned v ∧ Q_rm0 Z pk qu fs0 ls0 cs0 h0 n0 v s₂.heap L ∧ FrameEnd s o₉ s₂ L room_1.cells room_1.slots) (Tc130.setTop (mkF m 130 #[.val (.int pk), .val (.int qu), .val (.int fs0), .val (.int ls0), .val (.int cs0), .val (.int b0), .val (.int b1), .val (.int b2), .val (.int b3), .val (.int n), .val (.int fr), .val (.int cap), .val (.int sel), .val (.int t), .unset, .unset, .unset] [])) := by
    intro b0 b1 b2 b3 n fr cap sel t Tc130 Xc130 ec130 hb0 hb1 hb2 hb3 hcap hfn
    obtain ⟨T325, h325, X325, e325, E325, A325, D325, -, st325⟩ := newO Xc130 hx hZ hown (hw _ (List.mem_of_getElem? (i := 1) rfl)) (hw _ (List.mem_of_getElem? (i := 2) rfl)) (hw _ (List.mem_of_getElem? (i := 3) rfl)) ec130 (g := (mkF m 130 #[.val (.int pk), .val (.int qu), .val (.int fs0), .val (.int ls0), .val (.int cs0), .val (.int b0), .val (.int b1), .val (.int b2), .val (.int b3), .val (.int n), .val (.int fr), .val (.int cap), .val (.int sel), .val (.int t), .unset, .unset, .unset] [])) rfl (hb hby at_130) (by decide) (by decide)
    obtain ⟨b325, g325⟩ : ∃ z, z = h0.size := ⟨_, rfl⟩
    rw [← g325] at A325 D325 st325
    have fr_b325 : n0 ≤ b325 := Nat.le_trans Z0 (Nat.le_of_eq g325.symm)
    have f326 : Fld Z h325 b325 "com/example/notesmith/notesmith/report/LineBuffer" "bytes" "[B" .null := D325 (Or.inl (hw _ (List.mem_of_getElem? (i := 12) rfl))) (ty := (.array .byte)) (by decide)
    have f327 : Fld Z h325 b325 "com/example/notesmith/notesmith/report/LineBuffer" "length" "I" (.int (0 : Int32)) := D325 (Or.inl (hw _ (List.mem_of_getElem? (i := 23) rfl))) (ty := .int) (by decide)
    have z325 : n0 ≤ h325.size := Nat.le_trans Z0 E325.1
    refine own_step (T325.setTop (mkF m 133 #[.val (.int pk), .val (.int qu), .val (.int fs0), .val (.int ls0), .val (.int cs0), .val (.int b0), .val (.int b1), .val (.int b2), .val (.int b3), .val (.int n), .val (.int fr), .val (.int cap), .val (.int sel), .val (.int t), .unset, .unset, .unset] [(.ref b325)])) (fun t₀ k₀ => st325 t₀ k₀) ?_
    refine own_step (T325.setTop (mkF m 134 #[.val (.int pk), .val (.int qu), .val (.int fs0), .val (.int ls0), .val (.int cs0), .val (.int b0), .val (.int b1), .val (.int b2), .val (.int b3), .val (.int n), .val (.int fr), .val (.int cap), .val (.int sel), .val (.int t), .unset, .unset, .unset] [(.ref b325), (.ref b325)])) (fun t₀ k₀ => XS.dup X325.here hx rfl (hb hby at_133) rfl rfl k₀) ?_
    refine own_step (T325.setTop (mkF m 136 #[.val (.int pk), .val (.int qu), .val (.int fs0), .val (.int ls0), .val (.int cs0), .val (.int b0), .val (.int b1), .val (.int b2), .val (.int b3), .val (.int n), .val (.int fr), .val (.int cap), .val (.int sel), .val (.int t), .unset, .unset, .unset] [(.int cap), (.ref b325), (.ref b325)])) (fun t₀ k₀ => XS.iload X325.here hx rfl (hb hby at_134) rfl k₀) ?_
    obtain ⟨_, _, ⟨T328, L328, k328, n328⟩, -, X328, ⟨Lc328, hQ328, l328, y328, z328⟩, st328⟩ := X325.specialBack hx (y := (⟨"com/example/notesmith/notesmith/report/LineBuffer", "<init>", "(I)V"⟩ : MethodName)) rfl hown (mvT hZ (hw _ (List.mem_of_getElem? (i := 4) rfl))) (mvT hZ (hw _ (List.mem_of_getElem? (i := 5) rfl))) (mvT hZ (hw _ (List.mem_of_getElem? (i := 6) rfl))) (by decide) (backOf (W := 1) (rm1 l Z a0 hw [] b325 cap h325 n0 z325 A325 f326 f327 fr_b325 hcap) hZ (hw _ (List.mem_of_getElem? (i := 6) rfl)) (hw _ (List.mem_of_getElem? (i := 3) rfl)) (by decide) (by decide)) (g := (mkF m 136 #[.val (.int pk), .val (.int qu), .val (.int fs0), .val (.int ls0), .val (.int cs0), .val (.int b0), .val (.int b1), .val (.int b2), .val (.int b3), .val (.int n), .val (.int fr), .val (.int cap), .val (.int sel), .val (.int t), .unset, .unset, .unset] [(.int cap), (.ref b325), (.ref b325)])) rfl (by rw [hml]; rfl) (Steps.refl _) (a := b325) (argsL := [(.int cap)]) (rest := [(.ref b325)]) (lenOf pd_0 rfl) rfl (by show 2 * 0 + _ ≤ _; exact Nat.le_of_eq rfl) (hb hby at_136) (fun _ _ => ⟨rfl, e325, (by decide : 1 + 1 ≤ _), (by decide : 2 + 8 ≤ _)⟩)
    dsimp only [Pt.U, Pt.locs, Pt.cells, Pt.slots] at X328 l328 y328 z328 st328 hQ328
    subst l328 y328 z328
    obtain ⟨ba329, kc330, rfl, N328q, K328, f331, f332, f333, f334, f335⟩ := hQ328
    have N328 := Fr.app N0 N328q
    refine own_comes (T328.setTop (mkF m 139 #[.val (.int pk), .val (.int qu), .val (.int fs0), .val (.int ls0), .val (.int cs0), .val (.int b0), .val (.int b1), .val (.int b2), .val (.int b3), .val (.int n), .val (.int fr), .val (.int cap), .val (.int sel), .val (.int t), .unset, .unset, .unset] [(.ref b325)])) st328 ?_
    refine own_step (T328.setTop (mkF m 141 #[.val (.int pk), .val (.int qu), .val (.int fs0), .val (.int ls0), .val (.int cs0), .val (.int b0), .val (.int b1), .val (.int b2), .val (.int b3), .val (.int n), .val (.int fr), .val (.int cap), .val (.int sel), .val (.int t), .val (.ref b325), .unset, .unset] [])) (fun t₀ k₀ => XS.astore X328.here hx rfl (hb hby at_139) rfl rfl (l' := #[.val (.int pk), .val (.int qu), .val (.int fs0), .val (.int ls0), .val (.int cs0), .val (.int b0), .val (.int b1), .val (.int b2), .val (.int b3), .val (.int n), .val (.int fr), .val (.int cap), .val (.int sel), .val (.int t), .val (.ref b325), .unset, .unset]) rfl k₀) ?_
    refine own_step (T328.setTop (mkF m 143 #[.val (.int pk), .val (.int qu), .val (.int fs0), .val (.int ls0), .val (.int cs0), .val (.int b0), .val (.int b1), .val (.int b2), .val (.int b3), .val (.int n), .val (.int fr), .val (.int cap), .val (.int sel), .val (.int t), .val (.ref b325), .unset, .unset] [(.ref b325)])) (fun t₀ k₀ => XS.aload X328.here hx rfl (hb hby at_141) rfl rfl k₀) ?_
    refine own_step (T328.setTop (mkF m 145 #[.val (.int pk), .val (.int qu), .val (.int fs0), .val (.int ls0), .val (.int cs0), .val (.int b0), .val (.int b1), .val (.int b2), .val (.int b3), .val (.int n), .val (.int fr), .val (.int cap), .val (.int sel), .val (.int t), .val (.ref b325), .unset, .unset] [(.int b0), (.ref b325)])) (fun t₀ k₀ => XS.iload X328.here hx rfl (hb hby at_143) rfl k₀) ?_
    obtain ⟨cq336, kq336, q336a, q336b, q336c⟩ := isOf hZ rfl f332
    obtain ⟨_, _, ⟨T336, L336, k336, n336⟩, -, X336, ⟨Lc336, hQ336, l336, y336, z336⟩, st336⟩ := X328.virtualBack hx (y := (⟨"com/example/notesmith/notesmith/report/LineBuffer", "append", "(C)Lcom/example/notesmith/notesmith/report/LineBuffer;"⟩ : MethodName)) (z := (⟨"com/example/notesmith/notesmith/report/LineBuffer", "append", "(C)Lcom/example/notesmith/notesmith/report/LineBuffer;"⟩ : MethodName)) hown (mvT hZ (hw _ (List.mem_of_getElem? (i := 13) rfl))) (mvT hZ (hw _ (List.mem_of_getElem? (i := 14) rfl))) (notFace_of_selects (args := #[]) (mvT hZ (hw _ (List.mem_of_getElem? (i := 16) rfl)))) (mvT hZ (hw _ (List.mem_of_getElem? (i := 16) rfl))) (mvT hZ (hw _ (List.mem_of_getElem? (i := 15) rfl))) (by decide) (backOf (W := 0) (rm3_0 l Z a0 hw [] b325 b0 ba329 kc330 cap T328.heap n0 K328 f332 f333 f334 f335 fr_b325 f331 (own_nlt0 hcap) (own_cap1 hcap) hb0) hZ (hw _ (List.mem_of_getElem? (i := 17) rfl)) (hw _ (List.mem_of_getElem? (i := 3) rfl)) (by decide) (by decide)) q336a q336c (g := (mkF m 145 #[.val (.int pk), .val (.int qu), .val (.int fs0), .val (.int ls0), .val (.int cs0), .val (.int b0), .val (.int b1), .val (.int b2), .val (.int b3), .val (.int n), .val (.int fr), .val (.int cap), .val (.int sel), .val (.int t), .val (.ref b325), .unset, .unset] [(.int b0), (.ref b325)])) rfl (by rw [hml]; rfl) (Steps.refl _) (argsL := [(.int b0)]) (rest := []) (lenOf pd_2 rfl) rfl (by show 2 * 0 + _ ≤ _; exact Nat.le_of_eq rfl) (hb hby at_145) (fun _ _ => ⟨rfl, rfl, (by decide : 2 + 1 ≤ _), (by decide : 10 + 8 ≤ _)⟩)
    dsimp only [Pt.U, Pt.locs, Pt.cells, Pt.slots] at X336 l336 y336 z336 st336 hQ336
    subst l336 y336 z336
    obtain ⟨nb337, kd338, M339, rfl, N336q, K336, f340, f341, f342, f343, f344, f345⟩ := hQ336
    have N336 := Fr.app N328 N336q
    refine own_comes (T336.setTop (mkF m 148 #[.val (.int pk), .val (.int qu), .val (.int fs0), .val (.int ls0), .val (.int cs0), .val (.int b0), .val (.int b1), .val (.int b2), .val (.int b3), .val (.int n), .val (.int fr), .val (.int cap), .val (.int sel), .val (.int t), .val (.ref b325), .unset, .unset] [(.ref b325)])) st336 ?_
    refine own_step (T336.setTop (mkF m 149 #[.val (.int pk), .val (.int qu), .val (.int fs0), .val (.int ls0), .val (.int cs0), .val (.int b0), .val (.int b1), .val (.int b2), .val (.int b3), .val (.int n), .val (.int fr), .val (.int cap), .val (.int sel), .val (.int t), .val (.ref b325), .unset, .unset] [])) (fun t₀ k₀ => XS.pop X336.here hx rfl (hb hby at_148) rfl rfl k₀) ?_
    refine own_step (T336.setTop (mkF m 151 #[.val (.int pk), .val (.int qu), .val (.int fs0), .val (.int ls0), .val (.int cs0), .val (.int b0), .val (.int b1), .val (.int b2), .val (.int b3), .val (.int n), .val (.int fr), .val (.int cap), .val (.int sel), .val (.int t), .val (.ref b325), .unset, .unset] [(.ref b325)])) (fun t₀ k₀ => XS.aload X336.here hx rfl (hb hby at_149) rfl rfl k₀) ?_
    refine own_step (T336.setTop (mkF m 153 #[.val (.int pk), .val (.int qu), .val (.int fs0), .val (.int ls0), .val (.int cs0), .val (.int b0), .val (.int b1), .val (.int b2), .val (.int b3), .val (.int n), .val (.int fr), .val (.int cap), .val (.int sel), .val (.int t), .val (.ref b325), .unset, .unset] [(.int b1), (.ref b325)])) (fun t₀ k₀ => XS.iload X336.here hx rfl (hb hby at_151) rfl k₀) ?_
    obtain ⟨cq346, kq346, q346a, q346b, q346c⟩ := isOf hZ rfl f342
    obtain ⟨_, _, ⟨T346, L346, k346, n346⟩, -, X346, ⟨Lc346, hQ346, l346, y346, z346⟩, st346⟩ := X336.virtualBack hx (y := (⟨"com/example/notesmith/notesmith/report/LineBuffer", "append", "(C)Lcom/example/notesmith/notesmith/report/LineBuffer;"⟩ : MethodName)) (z := (⟨"com/example/notesmith/notesmith/report/LineBuffer", "append", "(C)Lcom/example/notesmith/notesmith/report/LineBuffer;"⟩ : MethodName)) hown (mvT hZ (hw _ (List.mem_of_getElem? (i := 13) rfl))) (mvT hZ (hw _ (List.mem_of_getElem? (i := 14) rfl))) (notFace_of_selects (args := #[]) (mvT hZ (hw _ (List.mem_of_getElem? (i := 16) rfl)))) (mvT hZ (hw _ (List.mem_of_getElem? (i := 16) rfl))) (mvT hZ (hw _ (List.mem_of_getElem? (i := 15) rfl))) (by decide) (backOf (W := 0) (rm3_1 l Z a0 hw [] b325 b1 nb337 kd338 M339 b0 T336.heap n0 K336 f342 f343 f344 f345 fr_b325 f340 f341 (own_nlt1 f341 (by decide)) hb1) hZ (hw _ (List.mem_of_getElem? (i := 17) rfl)) (hw _ (List.mem_of_getElem? (i := 3) rfl)) (by decide) (by decide)) q346a q346c (g := (mkF m 153 #[.val (.int pk), .val (.int qu), .val (.int fs0), .val (.int ls0), .val (.int cs0), .val (.int b0), .val (.int b1), .val (.int b2), .val (.int b3), .val (.int n), .val (.int fr), .val (.int cap), .val (.int sel), .val (.int t), .val (.ref b325), .unset, .unset] [(.int b1), (.ref b325)])) rfl (by rw [hml]; rfl) (Steps.refl _) (argsL := [(.int b1)]) (rest := []) (lenOf pd_2 rfl) rfl (by show 2 * 0 + _ ≤ _; exact Nat.le_of_eq rfl) (hb hby at_153) (fun _ _ => ⟨rfl, rfl, (by decide : 3 + 1 ≤ _), (by decide : 18 + 8 ≤ _)⟩)
    dsimp only [Pt.U, Pt.locs, Pt.cells, Pt.slots] at X346 l346 y346 z346 st346 hQ346
    subst l346 y346 z346
    obtain ⟨nb347, kd348, M349, rfl, N346q, K346, f350, f351, f352, f353, f354, f355⟩ := hQ346
    have N346 := Fr.app N336 N346q
    refine own_comes (T346.setTop (mkF m 156 #[.val (.int pk), .val (.int qu), .val (.int fs0), .val (.int ls0), .val (.int cs0), .val (.int b0), .val (.int b1), .val (.int b2), .val (.int b3), .val (.int n), .val (.int fr), .val (.int cap), .val (.int sel), .val (.int t), .val (.ref b325), .unset, .unset] [(.ref b325)])) st346 ?_
    refine own_step (T346.setTop (mkF m 157 #[.val (.int pk), .val (.int qu), .val (.int fs0), .val (.int ls0), .val (.int cs0), .val (.int b0), .val (.int b1), .val (.int b2), .val (.int b3), .val (.int n), .val (.int fr), .val (.int cap), .val (.int sel), .val (.int t), .val (.ref b325), .unset, .unset] [])) (fun t₀ k₀ => XS.pop X346.here hx rfl (hb hby at_156) rfl rfl k₀) ?_
    refine own_step (T346.setTop (mkF m 159 #[.val (.int pk), .val (.int qu), .val (.int fs0), .val (.int ls0), .val (.int cs0), .val (.int b0), .val (.int b1), .val (.int b2), .val (.int b3), .val (.int n), .val (.int fr), .val (.int cap), .val (.int sel), .val (.int t), .val (.ref b325), .unset, .unset] [(.ref b325)])) (fun t₀ k₀ => XS.aload X346.here hx rfl (hb hby at_157) rfl rfl k₀) ?_
    refine own_step (T346.setTop (mkF m 161 #[.val (.int pk), .val (.int qu), .val (.int fs0), .val (.int ls0), .val (.int cs0), .val (.int b0), .val (.int b1), .val (.int b2), .val (.int b3), .val (.int n), .val (.int fr), .val (.int cap), .val (.int sel), .val (.int t), .val (.ref b325), .unset, .unset] [(.int b2), (.ref b325)])) (fun t₀ k₀ => XS.iload X346.here hx rfl (hb hby at_159) rfl k₀) ?_
    obtain ⟨cq356, kq356, q356a, q356b, q356c⟩ := isOf hZ rfl f352
    obtain ⟨_, _, ⟨T356, L356, k356, n356⟩, -, X356, ⟨Lc356, hQ356, l356, y356, z356⟩, st356⟩ := X346.virtualBack hx (y := (⟨"com/example/notesmith/notesmith/report/LineBuffer", "append", "(C)Lcom/example/notesmith/notesmith/report/LineBuffer;"⟩ : MethodName)) (z := (⟨"com/example/notesmith/notesmith/report/LineBuffer", "append", "(C)Lcom/example/notesmith/notesmith/report/LineBuffer;"⟩ : MethodName)) hown (mvT hZ (hw _ (List.mem_of_getElem? (i := 13) rfl))) (mvT hZ (hw _ (List.mem_of_getElem? (i := 14) rfl))) (notFace_of_selects (args := #[]) (mvT hZ (hw _ (List.mem_of_getElem? (i := 16) rfl)))) (mvT hZ (hw _ (List.mem_of_getElem? (i := 16) rfl))) (mvT hZ (hw _ (List.mem_of_getElem? (i := 15) rfl))) (by decide) (backOf (W := 0) (rm3_2 l Z a0 hw [] b325 b2 nb347 kd348 M349 b0 b1 T346.heap n0 K346 f352 f353 f354 f355 fr_b325 f350 f351 (own_nlt1 f351 (by decide)) hb2) hZ (hw _ (List.mem_of_getElem? (i := 17) rfl)) (hw _ (List.mem_of_getElem? (i := 3) rfl)) (by decide) (by decide)) q356a q356c (g := (mkF m 161 #[.val (.int pk), .val (.int qu), .val (.int fs0), .val (.int ls0), .val (.int cs0), .val (.int b0), .val (.int b1), .val (.int b2), .val (.int b3), .val (.int n), .val (.int fr), .val (.int cap), .val (.int sel), .val (.int t), .val (.ref b325), .unset, .unset] [(.int b2), (.ref b325)])) rfl (by rw [hml]; rfl) (Steps.refl _) (argsL := [(.int b2)]) (rest := []) (lenOf pd_2 rfl) rfl (by show 2 * 0 + _ ≤ _; exact Nat.le_of_eq rfl) (hb hby at_161) (fun _ _ => ⟨rfl, rfl, (by decide : 4 + 1 ≤ _), (by decide : 26 + 8 ≤ _)⟩)
    dsimp only [Pt.U, Pt.locs, Pt.cells, Pt.slots] at X356 l356 y356 z356 st356 hQ356
    subst l356 y356 z356
    obtain ⟨nb357, kd358, M359, rfl, N356q, K356, f360, f361, f362, f363, f364, f365⟩ := hQ356
    have N356 := Fr.app N346 N356q
    refine own_comes (T356.setTop (mkF m 164 #[.val (.int pk), .val (.int qu), .val (.int fs0), .val (.int ls0), .val (.int cs0), .val (.int b0), .val (.int b1), .val (.int b2), .val (.int b3), .val (.int n), .val (.int fr), .val (.int cap), .val (.int sel), .val (.int t), .val (.ref b325), .unset, .unset] [(.ref b325)])) st356 ?_
    refine own_step (T356.setTop (mkF m 165 #[.val (.int pk), .val (.int qu), .val (.int fs0), .val (.int ls0), .val (.int cs0), .val (.int b0), .val (.int b1), .val (.int b2), .val (.int b3), .val (.int n), .val (.int fr), .val (.int cap), .val (.int sel), .val (.int t), .val (.ref b325), .unset, .unset] [])) (fun t₀ k₀ => XS.pop X356.here hx rfl (hb hby at_164) rfl rfl k₀) ?_
    refine own_step (T356.setTop (mkF m 167 #[.val (.int pk), .val (.int qu), .val (.int fs0), .val (.int ls0), .val (.int cs0), .val (.int b0), .val (.int b1), .val (.int b2), .val (.int b3), .val (.int n), .val (.int fr), .val (.int cap), .val (.int sel), .val (.int t), .val (.ref b325), .unset, .unset] [(.ref b325)])) (fun t₀ k₀ => XS.aload X356.here hx rfl (hb hby at_165) rfl rfl k₀) ?_
    refine own_step (T356.setTop (mkF m 169 #[.val (.int pk), .val (.int qu), .val (.int fs0), .val (.int ls0), .val (.int cs0), .val (.int b0), .val (.int b1), .val (.int b2), .val (.int b3), .val (.int n), .val (.int fr), .val (.int cap), .val (.int sel), .val (.int t), .val (.ref b325), .unset, .unset] [(.int b3), (.ref b325)])) (fun t₀ k₀ => XS.iload X356.here hx rfl (hb hby at_167) rfl k₀) ?_
    obtain ⟨cq366, kq366, q366a, q366b, q366c⟩ := isOf hZ rfl f362
    obtain ⟨_, _, ⟨T366, L366, k366, n366⟩, -, X366, ⟨Lc366, hQ366, l366, y366, z366⟩, st366⟩ := X356.virtualBack hx (y := (⟨"com/example/notesmith/notesmith/report/LineBuffer", "append", "(C)Lcom/example/notesmith/notesmith/report/LineBuffer;"⟩ : MethodName)) (z := (⟨"com/example/notesmith/notesmith/report/LineBuffer", "append", "(C)Lcom/example/notesmith/notesmith/report/LineBuffer;"⟩ : MethodName)) hown (mvT hZ (hw _ (List.mem_of_getElem? (i := 13) rfl))) (mvT hZ (hw _ (List.mem_of_getElem? (i := 14) rfl))) (notFace_of_selects (args := #[]) (mvT hZ (hw _ (List.mem_of_getElem? (i := 16) rfl)))) (mvT hZ (hw _ (List.mem_of_getElem? (i := 16) rfl))) (mvT hZ (hw _ (List.mem_of_getElem? (i := 15) rfl))) (by decide) (backOf (W := 0) (rm3_3 l Z a0 hw [] b325 b3 nb357 kd358 M359 b0 b1 b2 T356.heap n0 K356 f362 f363 f364 f365 fr_b325 f360 f361 (own_nlt1 f361 (by decide)) hb3) hZ (hw _ (List.mem_of_getElem? (i := 17) rfl)) (hw _ (List.mem_of_getElem? (i := 3) rfl)) (by decide) (by decide)) q366a q366c (g := (mkF m 169 #[.val (.int pk), .val (.int qu), .val (.int fs0), .val (.int ls0), .val (.int cs0), .val (.int b0), .val (.int b1), .val (.int b2), .val (.int b3), .val (.int n), .val (.int fr), .val (.int cap), .val (.int sel), .val (.int t), .val (.ref b325), .unset, .unset] [(.int b3), (.ref b325)])) rfl (by rw [hml]; rfl) (Steps.refl _) (argsL := [(.int b3)]) (rest := []) (lenOf pd_2 rfl) rfl (by show 2 * 0 + _ ≤ _; exact Nat.le_of_eq rfl) (hb hby at_169) (fun _ _ => ⟨rfl, rfl, (by decide : 5 + 1 ≤ _), (by decide : 34 + 8 ≤ _)⟩)
    dsimp only [Pt.U, Pt.locs, Pt.cells, Pt.slots] at X366 l366 y366 z366 st366 hQ366
    subst l366 y366 z366
    obtain ⟨nb367, kd368, M369, rfl, N366q, K366, f370, f371, f372, f373, f374, f375⟩ := hQ366
    have N366 := Fr.app N356 N366q
    refine own_comes (T366.setTop (mkF m 172 #[.val (.int pk), .val (.int qu), .val (.int fs0), .val (.int ls0), .val (.int cs0), .val (.int b0), .val (.int b1), .val (.int b2), .val (.int b3), .val (.int n), .val (.int fr), .val (.int cap), .val (.int sel), .val (.int t), .val (.ref b325), .unset, .unset] [(.ref b325)])) st366 ?_
    refine own_step (T366.setTop (mkF m 173 #[.val (.int pk), .val (.int qu), .val (.int fs0), .val (.int ls0), .val (.int cs0), .val (.int b0), .val (.int b1), .val (.int b2), .val (.int b3), .val (.int n), .val (.int fr), .val (.int cap), .val (.int sel), .val (.int t), .val (.ref b325), .unset, .unset] [])) (fun t₀ k₀ => XS.pop X366.here hx rfl (hb hby at_172) rfl rfl k₀) ?_
    refine own_step (T366.setTop (mkF m 175 #[.val (.int pk), .val (.int qu), .val (.int fs0), .val (.int ls0), .val (.int cs0), .val (.int b0), .val (.int b1), .val (.int b2), .val (.int b3), .val (.int n), .val (.int fr), .val (.int cap), .val (.int sel), .val (.int t), .val (.ref b325), .unset, .unset] [(.ref b325)])) (fun t₀ k₀ => XS.aload X366.here hx rfl (hb hby at_173) rfl rfl k₀) ?_
    refine own_step (T366.setTop (mkF m 177 #[.val (.int pk), .val (.int qu), .val (.int fs0), .val (.int ls0), .val (.int cs0), .val (.int b0), .val (.int b1), .val (.int b2), .val (.int b3), .val (.int n), .val (.int fr), .val (.int cap), .val (.int sel), .val (.int t), .val (.ref b325), .unset, .unset] [(.int n), (.ref b325)])) (fun t₀ k₀ => XS.iload X366.here hx rfl (hb hby at_175) rfl k₀) ?_
    obtain ⟨cq376, kq376, q376a, q376b, q376c⟩ := isOf hZ rfl f372
    obtain ⟨_, _, ⟨T376, L376, k376, n376⟩, -, X376, ⟨Lc376, hQ376, l376, y376, z376⟩, st376⟩ := X366.virtualBack hx (y := (⟨"com/example/notesmith/notesmith/report/LineBuffer", "setLength", "(I)V"⟩ : MethodName)) (z := (⟨"com/example/notesmith/notesmith/report/LineBuffer", "setLength", "(I)V"⟩ : MethodName)) hown (mvT hZ (hw _ (List.mem_of_getElem? (i := 39) rfl))) (mvT hZ (hw _ (List.mem_of_getElem? (i := 40) rfl))) (notFace_of_selects (args := #[]) (mvT hZ (hw _ (List.mem_of_getElem? (i := 42) rfl)))) (mvT hZ (hw _ (List.mem_of_getElem? (i := 42) rfl))) (mvT hZ (hw _ (List.mem_of_getElem? (i := 41) rfl))) (by decide) (backOf (W := 0) (rm8 l Z a0 hw [] b325 n nb367 (4 : Int32) T366.heap n0 K366 f372 f373 f374 fr_b325) hZ (hw _ (List.mem_of_getElem? (i := 43) rfl)) (hw _ (List.mem_of_getElem? (i := 3) rfl)) (by decide) (by decide)) q376a q376c (g := (mkF m 177 #[.val (.int pk), .val (.int qu), .val (.int fs0), .val (.int ls0), .val (.int cs0), .val (.int b0), .val (.int b1), .val (.int b2), .val (.int b3), .val (.int n), .val (.int fr), .val (.int cap), .val (.int sel), .val (.int t), .val (.ref b325), .unset, .unset] [(.int n), (.ref b325)])) rfl (by rw [hml]; rfl) (Steps.refl _) (argsL := [(.int n)]) (rest := []) (lenOf pd_0 rfl) rfl (by show 2 * 0 + _ ≤ _; exact Nat.le_of_eq rfl) (hb hby at_177) (fun _ _ => ⟨rfl, rfl, (by decide : 6 + 0 ≤ _), (by decide : 42 + 0 ≤ _)⟩)
    dsimp only [Pt.U, Pt.locs, Pt.cells, Pt.slots] at X376 l376 y376 z376 st376 hQ376
    subst l376 y376 z376
    obtain ⟨rfl, N376q, K376, f377, f378, f379⟩ := hQ376
    have N376 := Fr.app N366 N376q
    have ne380 : nb367 ≠ b325 := (Ne.symm (Exa.neArv f372 f375 (hw _ (List.mem_of_getElem? (i := 2) rfl))))
    have f381 : Exa Z T376.heap b325 "com/example/notesmith/notesmith/report/LineBuffer" := f372.keep K376
    have f384 : Arv Z T376.heap nb367 kd368 .byte M369 [(.int b0), (.int b1), (.int b2), (.int b3)] (.int (0 : Int32)) := f375.keep K376 (ninS ne380 nin0)
    have z376' : n0 ≤ T376.heap.size := Nat.le_trans K366 K376.1
    refine own_comes (T376.setTop (mkF m 180 #[.val (.int pk), .val (.int qu), .val (.int fs0), .val (.int ls0), .val (.int cs0), .val (.int b0), .val (.int b1), .val (.int b2), .val (.int b3), .val (.int n), .val (.int fr), .val (.int cap), .val (.int sel), .val (.int t), .val (.ref b325), .unset, .unset] [])) st376 ?_
    obtain ⟨hf1, hf2, hn1, hn2⟩ := hfn
    rcases own_lit5 hf1 hf2 with q1 | q1 | q1 | q1 | q1 | q1
    · rcases own_lit4 hn1 hn2 with q2 | q2 | q2 | q2 | q2
      · clear hf1 hf2 hn1 hn2; subst q1 q2
        refine own_step (T376.setTop (mkF m 182 #[.val (.int pk), .val (.int qu), .val (.int fs0), .val (.int ls0), .val (.int cs0), .val (.int b0), .val (.int b1), .val (.int b2), .val (.int b3), .val (.int (0 : Int32)), .val (.int (0 : Int32)), .val (.int cap), .val (.int sel), .val (.int t), .val (.ref b325), .unset, .unset] [(.ref b325)])) (fun t₀ k₀ => XS.aload X376.here hx rfl (hb hby at_180) rfl rfl k₀) ?_
        refine own_step (T376.setTop (mkF m 184 #[.val (.int pk), .val (.int qu), .val (.int fs0), .val (.int ls0), .val (.int cs0), .val (.int b0), .val (.int b1), .val (.int b2), .val (.int b3), .val (.int (0 : Int32)), .val (.int (0 : Int32)), .val (.int cap), .val (.int sel), .val (.int t), .val (.ref b325), .unset, .unset] [(.int t), (.ref b325)])) (fun t₀ k₀ => XS.iload X376.here hx rfl (hb hby at_182) rfl k₀) ?_
        refine own_step (T376.setTop (mkF m 186 #[.val (.int pk), .val (.int qu), .val (.int fs0), .val (.int ls0), .val (.int cs0), .val (.int b0), .val (.int b1), .val (.int b2), .val (.int b3), .val (.int (0 : Int32)), .val (.int (0 : Int32)), .val (.int cap), .val (.int sel), .val (.int t), .val (.ref b325), .unset, .unset] [(.int (0 : Int32)), (.int t), (.ref b325)])) (fun t₀ k₀ => XS.iload X376.here hx rfl (hb hby at_184) rfl k₀) ?_
        obtain ⟨cq385, kq385, q385a, q385b, q385c⟩ := isOf hZ rfl f377
        obtain ⟨_, _, ⟨T385, L385, k385, n385⟩, -, X385, ⟨Lc385, hQ385, l385, y385, z385⟩, st385⟩ := X376.virtualBack hx (y := (⟨"com/example/notesmith/notesmith/report/LineBuffer", "indexOf", "(CI)I"⟩ : MethodName)) (z := (⟨"com/example/notesmith/notesmith/report/LineBuffer", "indexOf", "(CI)I"⟩ : MethodName)) hown (mvT hZ (hw _ (List.mem_of_getElem? (i := 44) rfl))) (mvT hZ (hw _ (List.mem_of_getElem? (i := 45) rfl))) (notFace_of_selects (args := #[]) (mvT hZ (hw _ (List.mem_of_getElem? (i := 47) rfl)))) (mvT hZ (hw _ (List.mem_of_getElem? (i := 47) rfl))) (mvT hZ (hw _ (List.mem_of_getElem? (i := 46) rfl))) (by decide) (backOf (W := 0) (rm9_0_0 l Z a0 hw [] b325 t nb367 kd368 M369 b0 b1 b2 b3 T376.heap n0 z376' f378 f379 f384 f371) hZ (hw _ (List.mem_of_getElem? (i := 48) rfl)) (hw _ (List.mem_of_getElem? (i := 3) rfl)) (by decide) (by decide)) q385a q385c (g := (mkF m 186 #[.val (.int pk), .val (.int qu), .val (.int fs0), .val (.int ls0), .val (.int cs0), .val (.int b0), .val (.int b1), .val (.int b2), .val (.int b3), .val (.int (0 : Int32)), .val (.int (0 : Int32)), .val (.int cap), .val (.int sel), .val (.int t), .val (.ref b325), .unset, .unset] [(.int (0 : Int32)), (.int t), (.ref b325)])) rfl (by rw [hml]; rfl) (Steps.refl _) (argsL := [(.int t), (.int (0 : Int32))]) (rest := []) (lenOf pd_6 rfl) rfl (by show 2 * 0 + _ ≤ _; exact Nat.le_of_eq rfl) (hb hby at_186) (fun _ _ => ⟨rfl, rfl, (by decide : 6 + 0 ≤ _), (by decide : 42 + 0 ≤ _)⟩)
        dsimp only [Pt.U, Pt.locs, Pt.cells, Pt.slots] at X385 l385 y385 z385 st385 hQ385
        subst l385 y385 z385
        obtain ⟨rfl, N385q, e385⟩ := hQ385
        have N385 := Fr.app N376 N385q
        refine own_comes (T385.setTop (mkF m 189 #[.val (.int pk), .val (.int qu), .val (.int fs0), .val (.int ls0), .val (.int cs0), .val (.int b0), .val (.int b1), .val (.int b2), .val (.int b3), .val (.int (0 : Int32)), .val (.int (0 : Int32)), .val (.int cap), .val (.int sel), .val (.int t), .val (.ref b325), .unset, .unset] [(.int (own_all 0 0 t b0 b1 b2 b3))])) st385 ?_
        exact cut189 b0 b1 b2 b3 (0 : Int32) (0 : Int32) cap sel t b325 (own_all 0 0 t b0 b1 b2 b3) _ z376' _ _ N385 X385 e385 f377 f379 rfl
      · clear hf1 hf2 hn1 hn2; subst q1 q2
        refine own_step (T376.setTop (mkF m 182 #[.val (.int pk), .val (.int qu), .val (.int fs0), .val (.int ls0), .val (.int cs0), .val (.int b0), .val (.int b1), .val (.int b2), .val (.int b3), .val (.int (1 : Int32)), .val (.int (0 : Int32)), .val (.int cap), .val (.int sel), .val (.int t), .val (.ref b325), .unset, .unset] [(.ref b325)])) (fun t₀ k₀ => XS.aload X376.here hx rfl (hb hby at_180) rfl rfl k₀) ?_
        refine own_step (T376.setTop (mkF m 184 #[.val (.int pk), .val (.int qu), .val (.int fs0), .val (.int ls0), .val (.int cs0), .val (.int b0), .val (.int b1), .val (.int b2), .val (.int b3), .val (.int (1 : Int32)), .val (.int (0 : Int32)), .val (.int cap), .val (.int sel), .val (.int t), .val (.ref b325), .unset, .unset] [(.int t), (.ref b325)])) (fun t₀ k₀ => XS.iload X376.here hx rfl (hb hby at_182) rfl k₀) ?_
        refine own_step (T376.setTop (mkF m 186 #[.val (.int pk), .val (.int qu), .val (.int fs0), .val (.int ls0), .val (.int cs0), .val (.int b0), .val (.int b1), .val (.int b2), .val (.int b3), .val (.int (1 : Int32)), .val (.int (0 : Int32)), .val (.int cap), .val (.int sel), .val (.int t), .val (.ref b325), .unset, .unset] [(.int (0 : Int32)), (.int t), (.ref b325)])) (fun t₀ k₀ => XS.iload X376.here hx rfl (hb hby at_184) rfl k₀) ?_
        obtain ⟨cq386, kq386, q386a, q386b, q386c⟩ := isOf hZ rfl f377
        obtain ⟨_, _, ⟨T386, L386, k386, n386⟩, -, X386, ⟨Lc386, hQ386, l386, y386, z386⟩, st386⟩ := X376.virtualBack hx (y := (⟨"com/example/notesmith/notesmith/report/LineBuffer", "indexOf", "(CI)I"⟩ : MethodName)) (z := (⟨"com/example/notesmith/notesmith/report/LineBuffer", "indexOf", "(CI)I"⟩ : MethodName)) hown (mvT hZ (hw _ (List.mem_of_getElem? (i := 44) rfl))) (mvT hZ (hw _ (List.mem_of_getElem? (i := 45) rfl))) (notFace_of_selects (args := #[]) (mvT hZ (hw _ (List.mem_of_getElem? (i := 47) rfl)))) (mvT hZ (hw _ (List.mem_of_getElem? (i := 47) rfl))) (mvT hZ (hw _ (List.mem_of_getElem? (i := 46) rfl))) (by decide) (backOf (W := 0) (rm9_0_1 l Z a0 hw [] b325 t nb367 kd368 M369 b0 b1 b2 b3 T376.heap n0 z376' f378 f379 f384 f371) hZ (hw _ (List.mem_of_getElem? (i := 48) rfl)) (hw _ (List.mem_of_getElem? (i := 3) rfl)) (by decide) (by decide)) q386a q386c (g := (mkF m 186 #[.val (.int pk), .val (.int qu), .val (.int fs0), .val (.int ls0), .val (.int cs0), .val (.int b0), .val (.int b1), .val (.int b2), .val (.int b3), .val (.int (1 : Int32)), .val (.int (0 : Int32)), .val (.int cap), .val (.int sel), .val (.int t), .val (.ref b325), .unset, .unset] [(.int (0 : Int32)), (.int t), (.ref b325)])) rfl (by rw [hml]; rfl) (Steps.refl _) (argsL := [(.int t), (.int (0 : Int32))]) (rest := []) (lenOf pd_6 rfl) rfl (by show 2 * 0 + _ ≤ _; exact Nat.le_of_eq rfl) (hb hby at_186) (fun _ _ => ⟨rfl, rfl, (by decide : 6 + 0 ≤ _), (by decide : 42 + 0 ≤ _)⟩)
        dsimp only [Pt.U, Pt.locs, Pt.cells, Pt.slots] at X386 l386 y386 z386 st386 hQ386
        subst l386 y386 z386
        obtain ⟨rfl, N386q, e386⟩ := hQ386
        have N386 := Fr.app N376 N386q
        refine own_comes (T386.setTop (mkF m 189 #[.val (.int pk), .val (.int qu), .val (.int fs0), .val (.int ls0), .val (.int cs0), .val (.int b0), .val (.int b1), .val (.int b2), .val (.int b3), .val (.int (1 : Int32)), .val (.int (0 : Int32)), .val (.int cap), .val (.int sel), .val (.int t), .val (.ref b325), .unset, .unset] [(.int (own_all 0 1 t b0 b1 b2 b3))])) st386 ?_
        exact cut189 b0 b1 b2 b3 (1 : Int32) (0 : Int32) cap sel t b325 (own_all 0 1 t b0 b1 b2 b3) _ z376' _ _ N386 X386 e386 f377 f379 rfl
      · clear hf1 hf2 hn1 hn2; subst q1 q2
        refine own_step (T376.setTop (mkF m 182 #[.val (.int pk), .val (.int qu), .val (.int fs0), .val (.int ls0), .val (.int cs0), .val (.int b0), .val (.int b1), .val (.int b2), .val (.int b3), .val (.int (2 : Int32)), .val (.int (0 : Int32)), .val (.int cap), .val (.int sel), .val (.int t), .val (.ref b325), .unset, .unset] [(.ref b325)])) (fun t₀ k₀ => XS.aload X376.here hx rfl (hb hby at_180) rfl rfl k₀) ?_
        refine own_step (T376.setTop (mkF m 184 #[.val (.int pk), .val (.int qu), .val (.int fs0), .val (.int ls0), .val (.int cs0), .val (.int b0), .val (.int b1), .val (.int b2), .val (.int b3), .val (.int (2 : Int32)), .val (.int (0 : Int32)), .val (.int cap), .val (.int sel), .val (.int t), .val (.ref b325), .unset, .unset] [(.int t), (.ref b325)])) (fun t₀ k₀ => XS.iload X376.here hx rfl (hb hby at_182) rfl k₀) ?_
        refine own_step (T376.setTop (mkF m 186 #[.val (.int pk), .val (.int qu), .val (.int fs0), .val (.int ls0), .val (.int cs0), .val (.int b0), .val (.int b1), .val (.int b2), .val (.int b3), .val (.int (2 : Int32)), .val (.int (0 : Int32)), .val (.int cap), .val (.int sel), .val (.int t), .val (.ref b325), .unset, .unset] [(.int (0 : Int32)), (.int t), (.ref b325)])) (fun t₀ k₀ => XS.iload X376.here hx rfl (hb hby at_184) rfl k₀) ?_
        obtain ⟨cq387, kq387, q387a, q387b, q387c⟩ := isOf hZ rfl f377
        obtain ⟨_, _, ⟨T387, L387, k387, n387⟩, -, X387, ⟨Lc387, hQ387, l387, y387, z387⟩, st387⟩ := X376.virtualBack hx (y := (⟨"com/example/notesmith/notesmith/report/LineBuffer", "indexOf", "(CI)I"⟩ : MethodName)) (z := (⟨"com/example/notesmith/notesmith/report/LineBuffer", "indexOf", "(CI)I"⟩ : MethodName)) hown (mvT hZ (hw _ (List.mem_of_getElem? (i := 44) rfl))) (mvT hZ (hw _ (List.mem_of_getElem? (i := 45) rfl))) (notFace_of_selects (args := #[]) (mvT hZ (hw _ (List.mem_of_getElem? (i := 47) rfl)))) (mvT hZ (hw _ (List.mem_of_getElem? (i := 47) rfl))) (mvT hZ (hw _ (List.mem_of_getElem? (i := 46) rfl))) (by decide) (backOf (W := 0) (rm9_0_2 l Z a0 hw [] b325 t nb367 kd368 M369 b0 b1 b2 b3 T376.heap n0 z376' f378 f379 f384 f371) hZ (hw _ (List.mem_of_getElem? (i := 48) rfl)) (hw _ (List.mem_of_getElem? (i := 3) rfl)) (by decide) (by decide)) q387a q387c (g := (mkF m 186 #[.val (.int pk), .val (.int qu), .val (.int fs0), .val (.int ls0), .val (.int cs0), .val (.int b0), .val (.int b1), .val (.int b2), .val (.int b3), .val (.int (2 : Int32)), .val (.int (0 : Int32)), .val (.int cap), .val (.int sel), .val (.int t), .val (.ref b325), .unset, .unset] [(.int (0 : Int32)), (.int t), (.ref b325)])) rfl (by rw [hml]; rfl) (Steps.refl _) (argsL := [(.int t), (.int (0 : Int32))]) (rest := []) (lenOf pd_6 rfl) rfl (by show 2 * 0 + _ ≤ _; exact Nat.le_of_eq rfl) (hb hby at_186) (fun _ _ => ⟨rfl, rfl, (by decide : 6 + 0 ≤ _), (by decide : 42 + 0 ≤ _)⟩)
        dsimp only [Pt.U, Pt.locs, Pt.cells, Pt.slots] at X387 l387 y387 z387 st387 hQ387
        subst l387 y387 z387
        obtain ⟨rfl, N387q, e387⟩ := hQ387
        have N387 := Fr.app N376 N387q
        refine own_comes (T387.setTop (mkF m 189 #[.val (.int pk), .val (.int qu), .val (.int fs0), .val (.int ls0), .val (.int cs0), .val (.int b0), .val (.int b1), .val (.int b2), .val (.int b3), .val (.int (2 : Int32)), .val (.int (0 : Int32)), .val (.int cap), .val (.int sel), .val (.int t), .val (.ref b325), .unset, .unset] [(.int (own_all 0 2 t b0 b1 b2 b3))])) st387 ?_
        exact cut189 b0 b1 b2 b3 (2 : Int32) (0 : Int32) cap sel t b325 (own_all 0 2 t b0 b1 b2 b3) _ z376' _ _ N387 X387 e387 f377 f379 rfl
      · clear hf1 hf2 hn1 hn2; subst q1 q2
        refine own_step (T376.setTop (mkF m 182 #[.val (.int pk), .val (.int qu), .val (.int fs0), .val (.int ls0), .val (.int cs0), .val (.int b0), .val (.int b1), .val (.int b2), .val (.int b3), .val (.int (3 : Int32)), .val (.int (0 : Int32)), .val (.int cap), .val (.int sel), .val (.int t), .val (.ref b325), .unset, .unset] [(.ref b325)])) (fun t₀ k₀ => XS.aload X376.here hx rfl (hb hby at_180) rfl rfl k₀) ?_
        refine own_step (T376.setTop (mkF m 184 #[.val (.int pk), .val (.int qu), .val (.int fs0), .val (.int ls0), .val (.int cs0), .val (.int b0), .val (.int b1), .val (.int b2), .val (.int b3), .val (.int (3 : Int32)), .val (.int (0 : Int32)), .val (.int cap), .val (.int sel), .val (.int t), .val (.ref b325), .unset, .unset] [(.int t), (.ref b325)])) (fun t₀ k₀ => XS.iload X376.here hx rfl (hb hby at_182) rfl k₀) ?_
        refine own_step (T376.setTop (mkF m 186 #[.val (.int pk), .val (.int qu), .val (.int fs0), .val (.int ls0), .val (.int cs0), .val (.int b0), .val (.int b1), .val (.int b2), .val (.int b3), .val (.int (3 : Int32)), .val (.int (0 : Int32)), .val (.int cap), .val (.int sel), .val (.int t), .val (.ref b325), .unset, .unset] [(.int (0 : Int32)), (.int t), (.ref b325)])) (fun t₀ k₀ => XS.iload X376.here hx rfl (hb hby at_184) rfl k₀) ?_
        obtain ⟨cq388, kq388, q388a, q388b, q388c⟩ := isOf hZ rfl f377
        obtain ⟨_, _, ⟨T388, L388, k388, n388⟩, -, X388, ⟨Lc388, hQ388, l388, y388, z388⟩, st388⟩ := X376.virtualBack hx (y := (⟨"com/example/notesmith/notesmith/report/LineBuffer", "indexOf", "(CI)I"⟩ : MethodName)) (z := (⟨"com/example/notesmith/notesmith/report/LineBuffer", "indexOf", "(CI)I"⟩ : MethodName)) hown (mvT hZ (hw _ (List.mem_of_getElem? (i := 44) rfl))) (mvT hZ (hw _ (List.mem_of_getElem? (i := 45) rfl))) (notFace_of_selects (args := #[]) (mvT hZ (hw _ (List.mem_of_getElem? (i := 47) rfl)))) (mvT hZ (hw _ (List.mem_of_getElem? (i := 47) rfl))) (mvT hZ (hw _ (List.mem_of_getElem? (i := 46) rfl))) (by decide) (backOf (W := 0) (rm9_0_3 l Z a0 hw [] b325 t nb367 kd368 M369 b0 b1 b2 b3 T376.heap n0 z376' f378 f379 f384 f371) hZ (hw _ (List.mem_of_getElem? (i := 48) rfl)) (hw _ (List.mem_of_getElem? (i := 3) rfl)) (by decide) (by decide)) q388a q388c (g := (mkF m 186 #[.val (.int pk), .val (.int qu), .val (.int fs0), .val (.int ls0), .val (.int cs0), .val (.int b0), .val (.int b1), .val (.int b2), .val (.int b3), .val (.int (3 : Int32)), .val (.int (0 : Int32)), .val (.int cap), .val (.int sel), .val (.int t), .val (.ref b325), .unset, .unset] [(.int (0 : Int32)), (.int t), (.ref b325)])) rfl (by rw [hml]; rfl) (Steps.refl _) (argsL := [(.int t), (.int (0 : Int32))]) (rest := []) (lenOf pd_6 rfl) rfl (by show 2 * 0 + _ ≤ _; exact Nat.le_of_eq rfl) (hb hby at_186) (fun _ _ => ⟨rfl, rfl, (by decide : 6 + 0 ≤ _), (by decide : 42 + 0 ≤ _)⟩)
        dsimp only [Pt.U, Pt.locs, Pt.cells, Pt.slots] at X388 l388 y388 z388 st388 hQ388
        subst l388 y388 z388
        obtain ⟨rfl, N388q, e388⟩ := hQ388
        have N388 := Fr.app N376 N388q
        refine own_comes (T388.setTop (mkF m 189 #[.val (.int pk), .val (.int qu), .val (.int fs0), .val (.int ls0), .val (.int cs0), .val (.int b0), .val (.int b1), .val (.int b2), .val (.int b3), .val (.int (3 : Int32)), .val (.int (0 : Int32)), .val (.int cap), .val (.int sel), .val (.int t), .val (.ref b325), .unset, .unset] [(.int (own_all 0 3 t b0 b1 b2 b3))])) st388 ?_
        exact cut189 b0 b1 b2 b3 (3 : Int32) (0 : Int32) cap sel t b325 (own_all 0 3 t b0 b1 b2 b3) _ z376' _ _ N388 X388 e388 f377 f379 rfl
      · clear hf1 hf2 hn1 hn2; subst q1 q2
        refine own_step (T376.setTop (mkF m 182 #[.val (.int pk), .val (.int qu), .val (.int fs0), .val (.int ls0), .val (.int cs0), .val (.int b0), .val (.int b1), .val (.int b2), .val (.int b3), .val (.int (4 : Int32)), .val (.int (0 : Int32)), .val (.int cap), .val (.int sel), .val (.int t), .val (.ref b325), .unset, .unset] [(.ref b325)])) (fun t₀ k₀ => XS.aload X376.here hx rfl (hb hby at_180) rfl rfl k₀) ?_
        refine own_step (T376.setTop (mkF m 184 #[.val (.int pk), .val (.int qu), .val (.int fs0), .val (.int ls0), .val (.int cs0), .val (.int b0), .val (.int b1), .val (.int b2), .val (.int b3), .val (.int (4 : Int32)), .val (.int (0 : Int32)), .val (.int cap), .val (.int sel), .val (.int t), .val (.ref b325), .unset, .unset] [(.int t), (.ref b325)])) (fun t₀ k₀ => XS.iload X376.here hx rfl (hb hby at_182) rfl k₀) ?_
        refine own_step (T376.setTop (mkF m 186 #[.val (.int pk), .val (.int qu), .val (.int fs0), .val (.int ls0), .val (.int cs0), .val (.int b0), .val (.int b1), .val (.int b2), .val (.int b3), .val (.int (4 : Int32)), .val (.int (0 : Int32)), .val (.int cap), .val (.int sel), .val (.int t), .val (.ref b325), .unset, .unset] [(.int (0 : Int32)), (.int t), (.ref b325)])) (fun t₀ k₀ => XS.iload X376.here hx rfl (hb hby at_184) rfl k₀) ?_
        obtain ⟨cq389, kq389, q389a, q389b, q389c⟩ := isOf hZ rfl f377
        obtain ⟨_, _, ⟨T389, L389, k389, n389⟩, -, X389, ⟨Lc389, hQ389, l389, y389, z389⟩, st389⟩ := X376.virtualBack hx (y := (⟨"com/example/notesmith/notesmith/report/LineBuffer", "indexOf", "(CI)I"⟩ : MethodName)) (z := (⟨"com/example/notesmith/notesmith/report/LineBuffer", "indexOf", "(CI)I"⟩ : MethodName)) hown (mvT hZ (hw _ (List.mem_of_getElem? (i := 44) rfl))) (mvT hZ (hw _ (List.mem_of_getElem? (i := 45) rfl))) (notFace_of_selects (args := #[]) (mvT hZ (hw _ (List.mem_of_getElem? (i := 47) rfl)))) (mvT hZ (hw _ (List.mem_of_getElem? (i := 47) rfl))) (mvT hZ (hw _ (List.mem_of_getElem? (i := 46) rfl))) (by decide) (backOf (W := 0) (rm9_0_4 l Z a0 hw [] b325 t nb367 kd368 M369 b0 b1 b2 b3 T376.heap n0 z376' f378 f379 f384 f371) hZ (hw _ (List.mem_of_getElem? (i := 48) rfl)) (hw _ (List.mem_of_getElem? (i := 3) rfl)) (by decide) (by decide)) q389a q389c (g := (mkF m 186 #[.val (.int pk), .val (.int qu), .val (.int fs0), .val (.int ls0), .val (.int cs0), .val (.int b0), .val (.int b1), .val (.int b2), .val (.int b3), .val (.int (4 : Int32)), .val (.int (0 : Int32)), .val (.int cap), .val (.int sel), .val (.int t), .val (.ref b325), .unset, .unset] [(.int (0 : Int32)), (.int t), (.ref b325)])) rfl (by rw [hml]; rfl) (Steps.refl _) (argsL := [(.int t), (.int (0 : Int32))]) (rest := []) (lenOf pd_6 rfl) rfl (by show 2 * 0 + _ ≤ _; exact Nat.le_of_eq rfl) (hb hby at_186) (fun _ _ => ⟨rfl, rfl, (by decide : 6 + 0 ≤ _), (by decide : 42 + 0 ≤ _)⟩)
        dsimp only [Pt.U, Pt.locs, Pt.cells, Pt.slots] at X389 l389 y389 z389 st389 hQ389
        subst l389 y389 z389
        obtain ⟨rfl, N389q, e389⟩ := hQ389
        have N389 := Fr.app N376 N389q
        refine own_comes (T389.setTop (mkF m 189 #[.val (.int pk), .val (.int qu), .val (.int fs0), .val (.int ls0), .val (.int cs0), .val (.int b0), .val (.int b1), .val (.int b2), .val (.int b3), .val (.int (4 : Int32)), .val (.int (0 : Int32)), .val (.int cap), .val (.int sel), .val (.int t), .val (.ref b325), .unset, .unset] [(.int (own_all 0 4 t b0 b1 b2 b3))])) st389 ?_
        exact cut189 b0 b1 b2 b3 (4 : Int32) (0 : Int32) cap sel t b325 (own_all 0 4 t b0 b1 b2 b3) _ z376' _ _ N389 X389 e389 f377 f379 rfl
    · rcases own_lit4 hn1 hn2 with q2 | q2 | q2 | q2 | q2
      · clear hf1 hf2 hn1 hn2; subst q1 q2
        refine own_step (T376.setTop (mkF m 182 #[.val (.int pk), .val (.int qu), .val (.int fs0), .val (.int ls0), .val (.int cs0), .val (.int b0), .val (.int b1), .val (.int b2), .val (.int b3), .val (.int (0 : Int32)), .val (.int (1 : Int32)), .val (.int cap), .val (.int sel), .val (.int t), .val (.ref b325), .unset, .unset] [(.ref b325)])) (fun t₀ k₀ => XS.aload X376.here hx rfl (hb hby at_180) rfl rfl k₀) ?_
        refine own_step (T376.setTop (mkF m 184 #[.val (.int pk), .val (.int qu), .val (.int fs0), .val (.int ls0), .val (.int cs0), .val (.int b0), .val (.int b1), .val (.int b2), .val (.int b3), .val (.int (0 : Int32)), .val (.int (1 : Int32)), .val (.int cap), .val (.int sel), .val (.int t), .val (.ref b325), .unset, .unset] [(.int t), (.ref b325)])) (fun t₀ k₀ => XS.iload X376.here hx rfl (hb hby at_182) rfl k₀) ?_
        refine own_step (T376.setTop (mkF m 186 #[.val (.int pk), .val (.int qu), .val (.int fs0), .val (.int ls0), .val (.int cs0), .val (.int b0), .val (.int b1), .val (.int b2), .val (.int b3), .val (.int (0 : Int32)), .val (.int (1 : Int32)), .val (.int cap), .val (.int sel), .val (.int t), .val (.ref b325), .unset, .unset] [(.int (1 : Int32)), (.int t), (.ref b325)])) (fun t₀ k₀ => XS.iload X376.here hx rfl (hb hby at_184) rfl k₀) ?_
        obtain ⟨cq390, kq390, q390a, q390b, q390c⟩ := isOf hZ rfl f377
        obtain ⟨_, _, ⟨T390, L390, k390, n390⟩, -, X390, ⟨Lc390, hQ390, l390, y390, z390⟩, st390⟩ := X376.virtualBack hx (y := (⟨"com/example/notesmith/notesmith/report/LineBuffer", "indexOf", "(CI)I"⟩ : MethodName)) (z := (⟨"com/example/notesmith/notesmith/report/LineBuffer", "indexOf", "(CI)I"⟩ : MethodName)) hown (mvT hZ (hw _ (List.mem_of_getElem? (i := 44) rfl))) (mvT hZ (hw _ (List.mem_of_getElem? (i := 45) rfl))) (notFace_of_selects (args := #[]) (mvT hZ (hw _ (List.mem_of_getElem? (i := 47) rfl)))) (mvT hZ (hw _ (List.mem_of_getElem? (i := 47) rfl))) (mvT hZ (hw _ (List.mem_of_getElem? (i := 46) rfl))) (by decide) (backOf (W := 0) (rm9_1_0 l Z a0 hw [] b325 t nb367 kd368 M369 b0 b1 b2 b3 T376.heap n0 z376' f378 f379 f384 f371) hZ (hw _ (List.mem_of_getElem? (i := 48) rfl)) (hw _ (List.mem_of_getElem? (i := 3) rfl)) (by decide) (by decide)) q390a q390c (g := (mkF m 186 #[.val (.int pk), .val (.int qu), .val (.int fs0), .val (.int ls0), .val (.int cs0), .val (.int b0), .val (.int b1), .val (.int b2), .val (.int b3), .val (.int (0 : Int32)), .val (.int (1 : Int32)), .val (.int cap), .val (.int sel), .val (.int t), .val (.ref b325), .unset, .unset] [(.int (1 : Int32)), (.int t), (.ref b325)])) rfl (by rw [hml]; rfl) (Steps.refl _) (argsL := [(.int t), (.int (1 : Int32))]) (rest := []) (lenOf pd_6 rfl) rfl (by show 2 * 0 + _ ≤ _; exact Nat.le_of_eq rfl) (hb hby at_186) (fun _ _ => ⟨rfl, rfl, (by decide : 6 + 0 ≤ _), (by decide : 42 + 0 ≤ _)⟩)
        dsimp only [Pt.U, Pt.locs, Pt.cells, Pt.slots] at X390 l390 y390 z390 st390 hQ390
        subst l390 y390 z390
        obtain ⟨rfl, N390q, e390⟩ := hQ390
        have N390 := Fr.app N376 N390q
        refine own_comes (T390.setTop (mkF m 189 #[.val (.int pk), .val (.int qu), .val (.int fs0), .val (.int ls0), .val (.int cs0), .val (.int b0), .val (.int b1), .val (.int b2), .val (.int b3), .val (.int (0 : Int32)), .val (.int (1 : Int32)), .val (.int cap), .val (.int sel), .val (.int t), .val (.ref b325), .unset, .unset] [(.int (own_all 1 0 t b0 b1 b2 b3))])) st390 ?_
        exact cut189 b0 b1 b2 b3 (0 : Int32) (1 : Int32) cap sel t b325 (own_all 1 0 t b0 b1 b2 b3) _ z376' _ _ N390 X390 e390 f377 f379 rfl
      · clear hf1 hf2 hn1 hn2; subst q1 q2
        refine own_step (T376.setTop (mkF m 182 #[.val (.int pk), .val (.int qu), .val (.int fs0), .val (.int ls0), .val (.int cs0), .val (.int b0), .val (.int b1), .val (.int b2), .val (.int b3), .val (.int (1 : Int32)), .val (.int (1 : Int32)), .val (.int cap), .val (.int sel), .val (.int t), .val (.ref b325), .unset, .unset] [(.ref b325)])) (fun t₀ k₀ => XS.aload X376.here hx rfl (hb hby at_180) rfl rfl k₀) ?_
        refine own_step (T376.setTop (mkF m 184 #[.val (.int pk), .val (.int qu), .val (.int fs0), .val (.int ls0), .val (.int cs0), .val (.int b0), .val (.int b1), .val (.int b2), .val (.int b3), .val (.int (1 : Int32)), .val (.int (1 : Int32)), .val (.int cap), .val (.int sel), .val (.int t), .val (.ref b325), .unset, .unset] [(.int t), (.ref b325)])) (fun t₀ k₀ => XS.iload X376.here hx rfl (hb hby at_182) rfl k₀) ?_
        refine own_step (T376.setTop (mkF m 186 #[.val (.int pk), .val (.int qu), .val (.int fs0), .val (.int ls0), .val (.int cs0), .val (.int b0), .val (.int b1), .val (.int b2), .val (.int b3), .val (.int (1 : Int32)), .val (.int (1 : Int32)), .val (.int cap), .val (.int sel), .val (.int t), .val (.ref b325), .unset, .unset] [(.int (1 : Int32)), (.int t), (.ref b325)])) (fun t₀ k₀ => XS.iload X376.here hx rfl (hb hby at_184) rfl k₀) ?_
        obtain ⟨cq391, kq391, q391a, q391b, q391c⟩ := isOf hZ rfl f377
        obtain ⟨_, _, ⟨T391, L391, k391, n391⟩, -, X391, ⟨Lc391, hQ391, l391, y391, z391⟩, st391⟩ := X376.virtualBack hx (y := (⟨"com/example/notesmith/notesmith/report/LineBuffer", "indexOf", "(CI)I"⟩ : MethodName)) (z := (⟨"com/example/notesmith/notesmith/report/LineBuffer", "indexOf", "(CI)I"⟩ : MethodName)) hown (mvT hZ (hw _ (List.mem_of_getElem? (i := 44) rfl))) (mvT hZ (hw _ (List.mem_of_getElem? (i := 45) rfl))) (notFace_of_selects (args := #[]) (mvT hZ (hw _ (List.mem_of_getElem? (i := 47) rfl)))) (mvT hZ (hw _ (List.mem_of_getElem? (i := 47) rfl))) (mvT hZ (hw _ (List.mem_of_getElem? (i := 46) rfl))) (by decide) (backOf (W := 0) (rm9_1_1 l Z a0 hw [] b325 t nb367 kd368 M369 b0 b1 b2 b3 T376.heap n0 z376' f378 f379 f384 f371) hZ (hw _ (List.mem_of_getElem? (i := 48) rfl)) (hw _ (List.mem_of_getElem? (i := 3) rfl)) (by decide) (by decide)) q391a q391c (g := (mkF m 186 #[.val (.int pk), .val (.int qu), .val (.int fs0), .val (.int ls0), .val (.int cs0), .val (.int b0), .val (.int b1), .val (.int b2), .val (.int b3), .val (.int (1 : Int32)), .val (.int (1 : Int32)), .val (.int cap), .val (.int sel), .val (.int t), .val (.ref b325), .unset, .unset] [(.int (1 : Int32)), (.int t), (.ref b325)])) rfl (by rw [hml]; rfl) (Steps.refl _) (argsL := [(.int t), (.int (1 : Int32))]) (rest := []) (lenOf pd_6 rfl) rfl (by show 2 * 0 + _ ≤ _; exact Nat.le_of_eq rfl) (hb hby at_186) (fun _ _ => ⟨rfl, rfl, (by decide : 6 + 0 ≤ _), (by decide : 42 + 0 ≤ _)⟩)
        dsimp only [Pt.U, Pt.locs, Pt.cells, Pt.slots] at X391 l391 y391 z391 st391 hQ391
        subst l391 y391 z391
        obtain ⟨rfl, N391q, e391⟩ := hQ391
        have N391 := Fr.app N376 N391q
        refine own_comes (T391.setTop (mkF m 189 #[.val (.int pk), .val (.int qu), .val (.int fs0), .val (.int ls0), .val (.int cs0), .val (.int b0), .val (.int b1), .val (.int b2), .val (.int b3), .val (.int (1 : Int32)), .val (.int (1 : Int32)), .val (.int cap), .val (.int sel), .val (.int t), .val (.ref b325), .unset, .unset] [(.int (own_all 1 1 t b0 b1 b2 b3))])) st391 ?_
        exact cut189 b0 b1 b2 b3 (1 : Int32) (1 : Int32) cap sel t b325 (own_all 1 1 t b0 b1 b2 b3) _ z376' _ _ N391 X391 e391 f377 f379 rfl
      · clear hf1 hf2 hn1 hn2; subst q1 q2
        refine own_step (T376.setTop (mkF m 182 #[.val (.int pk), .val (.int qu), .val (.int fs0), .val (.int ls0), .val (.int cs0), .val (.int b0), .val (.int b1), .val (.int b2), .val (.int b3), .val (.int (2 : Int32)), .val (.int (1 : Int32)), .val (.int cap), .val (.int sel), .val (.int t), .val (.ref b325), .unset, .unset] [(.ref b325)])) (fun t₀ k₀ => XS.aload X376.here hx rfl (hb hby at_180) rfl rfl k₀) ?_
        refine own_step (T376.setTop (mkF m 184 #[.val (.int pk), .val (.int qu), .val (.int fs0), .val (.int ls0), .val (.int cs0), .val (.int b0), .val (.int b1), .val (.int b2), .val (.int b3), .val (.int (2 : Int32)), .val (.int (1 : Int32)), .val (.int cap), .val (.int sel), .val (.int t), .val (.ref b325), .unset, .unset] [(.int t), (.ref b325)])) (fun t₀ k₀ => XS.iload X376.here hx rfl (hb hby at_182) rfl k₀) ?_
        refine own_step (T376.setTop (mkF m 186 #[.val (.int pk), .val (.int qu), .val (.int fs0), .val (.int ls0), .val (.int cs0), .val (.int b0), .val (.int b1), .val (.int b2), .val (.int b3), .val (.int (2 : Int32)), .val (.int (1 : Int32)), .val (.int cap), .val (.int sel), .val (.int t), .val (.ref b325), .unset, .unset] [(.int (1 : Int32)), (.int t), (.ref b325)])) (fun t₀ k₀ => XS.iload X376.here hx rfl (hb hby at_184) rfl k₀) ?_
        obtain ⟨cq392, kq392, q392a, q392b, q392c⟩ := isOf hZ rfl f377
        obtain ⟨_, _, ⟨T392, L392, k392, n392⟩, -, X392, ⟨Lc392, hQ392, l392, y392, z392⟩, st392⟩ := X376.virtualBack hx (y := (⟨"com/example/notesmith/notesmith/report/LineBuffer", "indexOf", "(CI)I"⟩ : MethodName)) (z := (⟨"com/example/notesmith/notesmith/report/LineBuffer", "indexOf", "(CI)I"⟩ : MethodName)) hown (mvT hZ (hw _ (List.mem_of_getElem? (i := 44) rfl))) (mvT hZ (hw _ (List.mem_of_getElem? (i := 45) rfl))) (notFace_of_selects (args := #[]) (mvT hZ (hw _ (List.mem_of_getElem? (i := 47) rfl)))) (mvT hZ (hw _ (List.mem_of_getElem? (i := 47) rfl))) (mvT hZ (hw _ (List.mem_of_getElem? (i := 46) rfl))) (by decide) (backOf (W := 0) (rm9_1_2 l Z a0 hw [] b325 t nb367 kd368 M369 b0 b1 b2 b3 T376.heap n0 z376' f378 f379 f384 f371) hZ (hw _ (List.mem_of_getElem? (i := 48) rfl)) (hw _ (List.mem_of_getElem? (i := 3) rfl)) (by decide) (by decide)) q392a q392c (g := (mkF m 186 #[.val (.int pk), .val (.int qu), .val (.int fs0), .val (.int ls0), .val (.int cs0), .val (.int b0), .val (.int b1), .val (.int b2), .val (.int b3), .val (.int (2 : Int32)), .val (.int (1 : Int32)), .val (.int cap), .val (.int sel), .val (.int t), .val (.ref b325), .unset, .unset] [(.int (1 : Int32)), (.int t), (.ref b325)])) rfl (by rw [hml]; rfl) (Steps.refl _) (argsL := [(.int t), (.int (1 : Int32))]) (rest := []) (lenOf pd_6 rfl) rfl (by show 2 * 0 + _ ≤ _; exact Nat.le_of_eq rfl) (hb hby at_186) (fun _ _ => ⟨rfl, rfl, (by decide : 6 + 0 ≤ _), (by decide : 42 + 0 ≤ _)⟩)
        dsimp only [Pt.U, Pt.locs, Pt.cells, Pt.slots] at X392 l392 y392 z392 st392 hQ392
        subst l392 y392 z392
        obtain ⟨rfl, N392q, e392⟩ := hQ392
        have N392 := Fr.app N376 N392q
        refine own_comes (T392.setTop (mkF m 189 #[.val (.int pk), .val (.int qu), .val (.int fs0), .val (.int ls0), .val (.int cs0), .val (.int b0), .val (.int b1), .val (.int b2), .val (.int b3), .val (.int (2 : Int32)), .val (.int (1 : Int32)), .val (.int cap), .val (.int sel), .val (.int t), .val (.ref b325), .unset, .unset] [(.int (own_all 1 2 t b0 b1 b2 b3))])) st392 ?_
        exact cut189 b0 b1 b2 b3 (2 : Int32) (1 : Int32) cap sel t b325 (own_all 1 2 t b0 b1 b2 b3) _ z376' _ _ N392 X392 e392 f377 f379 rfl
      · clear hf1 hf2 hn1 hn2; subst q1 q2
        refine own_step (T376.setTop (mkF m 182 #[.val (.int pk), .val (.int qu), .val (.int fs0), .val (.int ls0), .val (.int cs0), .val (.int b0), .val (.int b1), .val (.int b2), .val (.int b3), .val (.int (3 : Int32)), .val (.int (1 : Int32)), .val (.int cap), .val (.int sel), .val (.int t), .val (.ref b325), .unset, .unset] [(.ref b325)])) (fun t₀ k₀ => XS.aload X376.here hx rfl (hb hby at_180) rfl rfl k₀) ?_
        refine own_step (T376.setTop (mkF m 184 #[.val (.int pk), .val (.int qu), .val (.int fs0), .val (.int ls0), .val (.int cs0), .val (.int b0), .val (.int b1), .val (.int b2), .val (.int b3), .val (.int (3 : Int32)), .val (.int (1 : Int32)), .val (.int cap), .val (.int sel), .val (.int t), .val (.ref b325), .unset, .unset] [(.int t), (.ref b325)])) (fun t₀ k₀ => XS.iload X376.here hx rfl (hb hby at_182) rfl k₀) ?_
        refine own_step (T376.setTop (mkF m 186 #[.val (.int pk), .val (.int qu), .val (.int fs0), .val (.int ls0), .val (.int cs0), .val (.int b0), .val (.int b1), .val (.int b2), .val (.int b3), .val (.int (3 : Int32)), .val (.int (1 : Int32)), .val (.int cap), .val (.int sel), .val (.int t), .val (.ref b325), .unset, .unset] [(.int (1 : Int32)), (.int t), (.ref b325)])) (fun t₀ k₀ => XS.iload X376.here hx rfl (hb hby at_184) rfl k₀) ?_
        obtain ⟨cq393, kq393, q393a, q393b, q393c⟩ := isOf hZ rfl f377
        obtain ⟨_, _, ⟨T393, L393, k393, n393⟩, -, X393, ⟨Lc393, hQ393, l393, y393, z393⟩, st393⟩ := X376.virtualBack hx (y := (⟨"com/example/notesmith/notesmith/report/LineBuffer", "indexOf", "(CI)I"⟩ : MethodName)) (z := (⟨"com/example/notesmith/notesmith/report/LineBuffer", "indexOf", "(CI)I"⟩ : MethodName)) hown (mvT hZ (hw _ (List.mem_of_getElem? (i := 44) rfl))) (mvT hZ (hw _ (List.mem_of_getElem? (i := 45) rfl))) (notFace_of_selects (args := #[]) (mvT hZ (hw _ (List.mem_of_getElem? (i := 47) rfl)))) (mvT hZ (hw _ (List.mem_of_getElem? (i := 47) rfl))) (mvT hZ (hw _ (List.mem_of_getElem? (i := 46) rfl))) (by decide) (backOf (W := 0) (rm9_1_3 l Z a0 hw [] b325 t nb367 kd368 M369 b0 b1 b2 b3 T376.heap n0 z376' f378 f379 f384 f371) hZ (hw _ (List.mem_of_getElem? (i := 48) rfl)) (hw _ (List.mem_of_getElem? (i := 3) rfl)) (by decide) (by decide)) q393a q393c (g := (mkF m 186 #[.val (.int pk), .val (.int qu), .val (.int fs0), .val (.int ls0), .val (.int cs0), .val (.int b0), .val (.int b1), .val (.int b2), .val (.int b3), .val (.int (3 : Int32)), .val (.int (1 : Int32)), .val (.int cap), .val (.int sel), .val (.int t), .val (.ref b325), .unset, .unset] [(.int (1 : Int32)), (.int t), (.ref b325)])) rfl (by rw [hml]; rfl) (Steps.refl _) (argsL := [(.int t), (.int (1 : Int32))]) (rest := []) (lenOf pd_6 rfl) rfl (by show 2 * 0 + _ ≤ _; exact Nat.le_of_eq rfl) (hb hby at_186) (fun _ _ => ⟨rfl, rfl, (by decide : 6 + 0 ≤ _), (by decide : 42 + 0 ≤ _)⟩)
        dsimp only [Pt.U, Pt.locs, Pt.cells, Pt.slots] at X393 l393 y393 z393 st393 hQ393
        subst l393 y393 z393
        obtain ⟨rfl, N393q, e393⟩ := hQ393
        have N393 := Fr.app N376 N393q
        refine own_comes (T393.setTop (mkF m 189 #[.val (.int pk), .val (.int qu), .val (.int fs0), .val (.int ls0), .val (.int cs0), .val (.int b0), .val (.int b1), .val (.int b2), .val (.int b3), .val (.int (3 : Int32)), .val (.int (1 : Int32)), .val (.int cap), .val (.int sel), .val (.int t), .val (.ref b325), .unset, .unset] [(.int (own_all 1 3 t b0 b1 b2 b3))])) st393 ?_
        exact cut189 b0 b1 b2 b3 (3 : Int32) (1 : Int32) cap sel t b325 (own_all 1 3 t b0 b1 b2 b3) _ z376' _ _ N393 X393 e393 f377 f379 rfl
      · clear hf1 hf2 hn1 hn2; subst q1 q2
        refine own_step (T376.setTop (mkF m 182 #[.val (.int pk), .val (.int qu), .val (.int fs0), .val (.int ls0), .val (.int cs0), .val (.int b0), .val (.int b1), .val (.int b2), .val (.int b3), .val (.int (4 : Int32)), .val (.int (1 : Int32)), .val (.int cap), .val (.int sel), .val (.int t), .val (.ref b325), .unset, .unset] [(.ref b325)])) (fun t₀ k₀ => XS.aload X376.here hx rfl (hb hby at_180) rfl rfl k₀) ?_
        refine own_step (T376.setTop (mkF m 184 #[.val (.int pk), .val (.int qu), .val (.int fs0), .val (.int ls0), .val (.int cs0), .val (.int b0), .val (.int b1), .val (.int b2), .val (.int b3), .val (.int (4 : Int32)), .val (.int (1 : Int32)), .val (.int cap), .val (.int sel), .val (.int t), .val (.ref b325), .unset, .unset] [(.int t), (.ref b325)])) (fun t₀ k₀ => XS.iload X376.here hx rfl (hb hby at_182) rfl k₀) ?_
        refine own_step (T376.setTop (mkF m 186 #[.val (.int pk), .val (.int qu), .val (.int fs0), .val (.int ls0), .val (.int cs0), .val (.int b0), .val (.int b1), .val (.int b2), .val (.int b3), .val (.int (4 : Int32)), .val (.int (1 : Int32)), .val (.int cap), .val (.int sel), .val (.int t), .val (.ref b325), .unset, .unset] [(.int (1 : Int32)), (.int t), (.ref b325)])) (fun t₀ k₀ => XS.iload X376.here hx rfl (hb hby at_184) rfl k₀) ?_
        obtain ⟨cq394, kq394, q394a, q394b, q394c⟩ := isOf hZ rfl f377
        obtain ⟨_, _, ⟨T394, L394, k394, n394⟩, -, X394, ⟨Lc394, hQ394, l394, y394, z394⟩, st394⟩ := X376.virtualBack hx (y := (⟨"com/example/notesmith/notesmith/report/LineBuffer", "indexOf", "(CI)I"⟩ : MethodName)) (z := (⟨"com/example/notesmith/notesmith/report/LineBuffer", "indexOf", "(CI)I"⟩ : MethodName)) hown (mvT hZ (hw _ (List.mem_of_getElem? (i := 44) rfl))) (mvT hZ (hw _ (List.mem_of_getElem? (i := 45) rfl))) (notFace_of_selects (args := #[]) (mvT hZ (hw _ (List.mem_of_getElem? (i := 47) rfl)))) (mvT hZ (hw _ (List.mem_of_getElem? (i := 47) rfl))) (mvT hZ (hw _ (List.mem_of_getElem? (i := 46) rfl))) (by decide) (backOf (W := 0) (rm9_1_4 l Z a0 hw [] b325 t nb367 kd368 M369 b0 b1 b2 b3 T376.heap n0 z376' f378 f379 f384 f371) hZ (hw _ (List.mem_of_getElem? (i := 48) rfl)) (hw _ (List.mem_of_getElem? (i := 3) rfl)) (by decide) (by decide)) q394a q394c (g := (mkF m 186 #[.val (.int pk), .val (.int qu), .val (.int fs0), .val (.int ls0), .val (.int cs0), .val (.int b0), .val (.int b1), .val (.int b2), .val (.int b3), .val (.int (4 : Int32)), .val (.int (1 : Int32)), .val (.int cap), .val (.int sel), .val (.int t), .val (.ref b325), .unset, .unset] [(.int (1 : Int32)), (.int t), (.ref b325)])) rfl (by rw [hml]; rfl) (Steps.refl _) (argsL := [(.int t), (.int (1 : Int32))]) (rest := []) (lenOf pd_6 rfl) rfl (by show 2 * 0 + _ ≤ _; exact Nat.le_of_eq rfl) (hb hby at_186) (fun _ _ => ⟨rfl, rfl, (by decide : 6 + 0 ≤ _), (by decide : 42 + 0 ≤ _)⟩)
        dsimp only [Pt.U, Pt.locs, Pt.cells, Pt.slots] at X394 l394 y394 z394 st394 hQ394
        subst l394 y394 z394
        obtain ⟨rfl, N394q, e394⟩ := hQ394
        have N394 := Fr.app N376 N394q
        refine own_comes (T394.setTop (mkF m 189 #[.val (.int pk), .val (.int qu), .val (.int fs0), .val (.int ls0), .val (.int cs0), .val (.int b0), .val (.int b1), .val (.int b2), .val (.int b3), .val (.int (4 : Int32)), .val (.int (1 : Int32)), .val (.int cap), .val (.int sel), .val (.int t), .val (.ref b325), .unset, .unset] [(.int (own_all 1 4 t b0 b1 b2 b3))])) st394 ?_
        exact cut189 b0 b1 b2 b3 (4 : Int32) (1 : Int32) cap sel t b325 (own_all 1 4 t b0 b1 b2 b3) _ z376' _ _ N394 X394 e394 f377 f379 rfl
    · rcases own_lit4 hn1 hn2 with q2 | q2 | q2 | q2 | q2
      · clear hf1 hf2 hn1 hn2; subst q1 q2
        refine own_step (T376.setTop (mkF m 182 #[.val (.int pk), .val (.int qu), .val (.int fs0), .val (.int ls0), .val (.int cs0), .val (.int b0), .val (.int b1), .val (.int b2), .val (.int b3), .val (.int (0 : Int32)), .val (.int (2 : Int32)), .val (.int cap), .val (.int sel), .val (.int t), .val (.ref b325), .unset, .unset] [(.ref b325)])) (fun t₀ k₀ => XS.aload X376.here hx rfl (hb hby at_180) rfl rfl k₀) ?_
        refine own_step (T376.setTop (mkF m 184 #[.val (.int pk), .val (.int qu), .val (.int fs0), .val (.int ls0), .val (.int cs0), .val (.int b0), .val (.int b1), .val (.int b2), .val (.int b3), .val (.int (0 : Int32)), .val (.int (2 : Int32)), .val (.int cap), .val (.int sel), .val (.int t), .val (.ref b325), .unset, .unset] [(.int t), (.ref b325)])) (fun t₀ k₀ => XS.iload X376.here hx rfl (hb hby at_182) rfl k₀) ?_
        refine own_step (T376.setTop (mkF m 186 #[.val (.int pk), .val (.int qu), .val (.int fs0), .val (.int ls0), .val (.int cs0), .val (.int b0), .val (.int b1), .val (.int b2), .val (.int b3), .val (.int (0 : Int32)), .val (.int (2 : Int32)), .val (.int cap), .val (.int sel), .val (.int t), .val (.ref b325), .unset, .unset] [(.int (2 : Int32)), (.int t), (.ref b325)])) (fun t₀ k₀ => XS.iload X376.here hx rfl (hb hby at_184) rfl k₀) ?_
        obtain ⟨cq395, kq395, q395a, q395b, q395c⟩ := isOf hZ rfl f377
        obtain ⟨_, _, ⟨T395, L395, k395, n395⟩, -, X395, ⟨Lc395, hQ395, l395, y395, z395⟩, st395⟩ := X376.virtualBack hx (y := (⟨"com/example/notesmith/notesmith/report/LineBuffer", "indexOf", "(CI)I"⟩ : MethodName)) (z := (⟨"com/example/notesmith/notesmith/report/LineBuffer", "indexOf", "(CI)I"⟩ : MethodName)) hown (mvT hZ (hw _ (List.mem_of_getElem? (i := 44) rfl))) (mvT hZ (hw _ (List.mem_of_getElem? (i := 45) rfl))) (notFace_of_selects (args := #[]) (mvT hZ (hw _ (List.mem_of_getElem? (i := 47) rfl)))) (mvT hZ (hw _ (List.mem_of_getElem? (i := 47) rfl))) (mvT hZ (hw _ (List.mem_of_getElem? (i := 46) rfl))) (by decide) (backOf (W := 0) (rm9_2_0 l Z a0 hw [] b325 t nb367 kd368 M369 b0 b1 b2 b3 T376.heap n0 z376' f378 f379 f384 f371) hZ (hw _ (List.mem_of_getElem? (i := 48) rfl)) (hw _ (List.mem_of_getElem? (i := 3) rfl)) (by decide) (by decide)) q395a q395c (g := (mkF m 186 #[.val (.int pk), .val (.int qu), .val (.int fs0), .val (.int ls0), .val (.int cs0), .val (.int b0), .val (.int b1), .val (.int b2), .val (.int b3), .val (.int (0 : Int32)), .val (.int (2 : Int32)), .val (.int cap), .val (.int sel), .val (.int t), .val (.ref b325), .unset, .unset] [(.int (2 : Int32)), (.int t), (.ref b325)])) rfl (by rw [hml]; rfl) (Steps.refl _) (argsL := [(.int t), (.int (2 : Int32))]) (rest := []) (lenOf pd_6 rfl) rfl (by show 2 * 0 + _ ≤ _; exact Nat.le_of_eq rfl) (hb hby at_186) (fun _ _ => ⟨rfl, rfl, (by decide : 6 + 0 ≤ _), (by decide : 42 + 0 ≤ _)⟩)
        dsimp only [Pt.U, Pt.locs, Pt.cells, Pt.slots] at X395 l395 y395 z395 st395 hQ395
        subst l395 y395 z395
        obtain ⟨rfl, N395q, e395⟩ := hQ395
        have N395 := Fr.app N376 N395q
        refine own_comes (T395.setTop (mkF m 189 #[.val (.int pk), .val (.int qu), .val (.int fs0), .val (.int ls0), .val (.int cs0), .val (.int b0), .val (.int b1), .val (.int b2), .val (.int b3), .val (.int (0 : Int32)), .val (.int (2 : Int32)), .val (.int cap), .val (.int sel), .val (.int t), .val (.ref b325), .unset, .unset] [(.int (own_all 2 0 t b0 b1 b2 b3))])) st395 ?_
        exact cut189 b0 b1 b2 b3 (0 : Int32) (2 : Int32) cap sel t b325 (own_all 2 0 t b0 b1 b2 b3) _ z376' _ _ N395 X395 e395 f377 f379 rfl
      · clear hf1 hf2 hn1 hn2; subst q1 q2
        refine own_step (T376.setTop (mkF m 182 #[.val (.int pk), .val (.int qu), .val (.int fs0), .val (.int ls0), .val (.int cs0), .val (.int b0), .val (.int b1), .val (.int b2), .val (.int b3), .val (.int (1 : Int32)), .val (.int (2 : Int32)), .val (.int cap), .val (.int sel), .val (.int t), .val (.ref b325), .unset, .unset] [(.ref b325)])) (fun t₀ k₀ => XS.aload X376.here hx rfl (hb hby at_180) rfl rfl k₀) ?_
        refine own_step (T376.setTop (mkF m 184 #[.val (.int pk), .val (.int qu), .val (.int fs0), .val (.int ls0), .val (.int cs0), .val (.int b0), .val (.int b1), .val (.int b2), .val (.int b3), .val (.int (1 : Int32)), .val (.int (2 : Int32)), .val (.int cap), .val (.int sel), .val (.int t), .val (.ref b325), .unset, .unset] [(.int t), (.ref b325)])) (fun t₀ k₀ => XS.iload X376.here hx rfl (hb hby at_182) rfl k₀) ?_
        refine own_step (T376.setTop (mkF m 186 #[.val (.int pk), .val (.int qu), .val (.int fs0), .val (.int ls0), .val (.int cs0), .val (.int b0), .val (.int b1), .val (.int b2), .val (.int b3), .val (.int (1 : Int32)), .val (.int (2 : Int32)), .val (.int cap), .val (.int sel), .val (.int t), .val (.ref b325), .unset, .unset] [(.int (2 : Int32)), (.int t), (.ref b325)])) (fun t₀ k₀ => XS.iload X376.here hx rfl (hb hby at_184) rfl k₀) ?_
        obtain ⟨cq396, kq396, q396a, q396b, q396c⟩ := isOf hZ rfl f377
        obtain ⟨_, _, ⟨T396, L396, k396, n396⟩, -, X396, ⟨Lc396, hQ396, l396, y396, z396⟩, st396⟩ := X376.virtualBack hx (y := (⟨"com/example/notesmith/notesmith/report/LineBuffer", "indexOf", "(CI)I"⟩ : MethodName)) (z := (⟨"com/example/notesmith/notesmith/report/LineBuffer", "indexOf", "(CI)I"⟩ : MethodName)) hown (mvT hZ (hw _ (List.mem_of_getElem? (i := 44) rfl))) (mvT hZ (hw _ (List.mem_of_getElem? (i := 45) rfl))) (notFace_of_selects (args := #[]) (mvT hZ (hw _ (List.mem_of_getElem? (i := 47) rfl)))) (mvT hZ (hw _ (List.mem_of_getElem? (i := 47) rfl))) (mvT hZ (hw _ (List.mem_of_getElem? (i := 46) rfl))) (by decide) (backOf (W := 0) (rm9_2_1 l Z a0 hw [] b325 t nb367 kd368 M369 b0 b1 b2 b3 T376.heap n0 z376' f378 f379 f384 f371) hZ (hw _ (List.mem_of_getElem? (i := 48) rfl)) (hw _ (List.mem_of_getElem? (i := 3) rfl)) (by decide) (by decide)) q396a q396c (g := (mkF m 186 #[.val (.int pk), .val (.int qu), .val (.int fs0), .val (.int ls0), .val (.int cs0), .val (.int b0), .val (.int b1), .val (.int b2), .val (.int b3), .val (.int (1 : Int32)), .val (.int (2 : Int32)), .val (.int cap), .val (.int sel), .val (.int t), .val (.ref b325), .unset, .unset] [(.int (2 : Int32)), (.int t), (.ref b325)])) rfl (by rw [hml]; rfl) (Steps.refl _) (argsL := [(.int t), (.int (2 : Int32))]) (rest := []) (lenOf pd_6 rfl) rfl (by show 2 * 0 + _ ≤ _; exact Nat.le_of_eq rfl) (hb hby at_186) (fun _ _ => ⟨rfl, rfl, (by decide : 6 + 0 ≤ _), (by decide : 42 + 0 ≤ _)⟩)
        dsimp only [Pt.U, Pt.locs, Pt.cells, Pt.slots] at X396 l396 y396 z396 st396 hQ396
        subst l396 y396 z396
        obtain ⟨rfl, N396q, e396⟩ := hQ396
        have N396 := Fr.app N376 N396q
        refine own_comes (T396.setTop (mkF m 189 #[.val (.int pk), .val (.int qu), .val (.int fs0), .val (.int ls0), .val (.int cs0), .val (.int b0), .val (.int b1), .val (.int b2), .val (.int b3), .val (.int (1 : Int32)), .val (.int (2 : Int32)), .val (.int cap), .val (.int sel), .val (.int t), .val (.ref b325), .unset, .unset] [(.int (own_all 2 1 t b0 b1 b2 b3))])) st396 ?_
        exact cut189 b0 b1 b2 b3 (1 : Int32) (2 : Int32) cap sel t b325 (own_all 2 1 t b0 b1 b2 b3) _ z376' _ _ N396 X396 e396 f377 f379 rfl
      · clear hf1 hf2 hn1 hn2; subst q1 q2
        refine own_step (T376.setTop (mkF m 182 #[.val (.int pk), .val (.int qu), .val (.int fs0), .val (.int ls0), .val (.int cs0), .val (.int b0), .val (.int b1), .val (.int b2), .val (.int b3), .val (.int (2 : Int32)), .val (.int (2 : Int32)), .val (.int cap), .val (.int sel), .val (.int t), .val (.ref b325), .unset, .unset] [(.ref b325)])) (fun t₀ k₀ => XS.aload X376.here hx rfl (hb hby at_180) rfl rfl k₀) ?_
        refine own_step (T376.setTop (mkF m 184 #[.val (.int pk), .val (.int qu), .val (.int fs0), .val (.int ls0), .val (.int cs0), .val (.int b0), .val (.int b1), .val (.int b2), .val (.int b3), .val (.int (2 : Int32)), .val (.int (2 : Int32)), .val (.int cap), .val (.int sel), .val (.int t), .val (.ref b325), .unset, .unset] [(.int t), (.ref b325)])) (fun t₀ k₀ => XS.iload X376.here hx rfl (hb hby at_182) rfl k₀) ?_
        refine own_step (T376.setTop (mkF m 186 #[.val (.int pk), .val (.int qu), .val (.int fs0), .val (.int ls0), .val (.int cs0), .val (.int b0), .val (.int b1), .val (.int b2), .val (.int b3), .val (.int (2 : Int32)), .val (.int (2 : Int32)), .val (.int cap), .val (.int sel), .val (.int t), .val (.ref b325), .unset, .unset] [(.int (2 : Int32)), (.int t), (.ref b325)])) (fun t₀ k₀ => XS.iload X376.here hx rfl (hb hby at_184) rfl k₀) ?_
        obtain ⟨cq397, kq397, q397a, q397b, q397c⟩ := isOf hZ rfl f377
        obtain ⟨_, _, ⟨T397, L397, k397, n397⟩, -, X397, ⟨Lc397, hQ397, l397, y397, z397⟩, st397⟩ := X376.virtualBack hx (y := (⟨"com/example/notesmith/notesmith/report/LineBuffer", "indexOf", "(CI)I"⟩ : MethodName)) (z := (⟨"com/example/notesmith/notesmith/report/LineBuffer", "indexOf", "(CI)I"⟩ : MethodName)) hown (mvT hZ (hw _ (List.mem_of_getElem? (i := 44) rfl))) (mvT hZ (hw _ (List.mem_of_getElem? (i := 45) rfl))) (notFace_of_selects (args := #[]) (mvT hZ (hw _ (List.mem_of_getElem? (i := 47) rfl)))) (mvT hZ (hw _ (List.mem_of_getElem? (i := 47) rfl))) (mvT hZ (hw _ (List.mem_of_getElem? (i := 46) rfl))) (by decide) (backOf (W := 0) (rm9_2_2 l Z a0 hw [] b325 t nb367 kd368 M369 b0 b1 b2 b3 T376.heap n0 z376' f378 f379 f384 f371) hZ (hw _ (List.mem_of_getElem? (i := 48) rfl)) (hw _ (List.mem_of_getElem? (i := 3) rfl)) (by decide) (by decide)) q397a q397c (g := (mkF m 186 #[.val (.int pk), .val (.int qu), .val (.int fs0), .val (.int ls0), .val (.int cs0), .val (.int b0), .val (.int b1), .val (.int b2), .val (.int b3), .val (.int (2 : Int32)), .val (.int (2 : Int32)), .val (.int cap), .val (.int sel), .val (.int t), .val (.ref b325), .unset, .unset] [(.int (2 : Int32)), (.int t), (.ref b325)])) rfl (by rw [hml]; rfl) (Steps.refl _) (argsL := [(.int t), (.int (2 : Int32))]) (rest := []) (lenOf pd_6 rfl) rfl (by show 2 * 0 + _ ≤ _; exact Nat.le_of_eq rfl) (hb hby at_186) (fun _ _ => ⟨rfl, rfl, (by decide : 6 + 0 ≤ _), (by decide : 42 + 0 ≤ _)⟩)
        dsimp only [Pt.U, Pt.locs, Pt.cells, Pt.slots] at X397 l397 y397 z397 st397 hQ397
        subst l397 y397 z397
        obtain ⟨rfl, N397q, e397⟩ := hQ397
        have N397 := Fr.app N376 N397q
        refine own_comes (T397.setTop (mkF m 189 #[.val (.int pk), .val (.int qu), .val (.int fs0), .val (.int ls0), .val (.int cs0), .val (.int b0), .val (.int b1), .val (.int b2), .val (.int b3), .val (.int (2 : Int32)), .val (.int (2 : Int32)), .val (.int cap), .val (.int sel), .val (.int t), .val (.ref b325), .unset, .unset] [(.int (own_all 2 2 t b0 b1 b2 b3))])) st397 ?_
        exact cut189 b0 b1 b2 b3 (2 : Int32) (2 : Int32) cap sel t b325 (own_all 2 2 t b0 b1 b2 b3) _ z376' _ _ N397 X397 e397 f377 f379 rfl
      · clear hf1 hf2 hn1 hn2; subst q1 q2
        refine own_step (T376.setTop (mkF m 182 #[.val (.int pk), .val (.int qu), .val (.int fs0), .val (.int ls0), .val (.int cs0), .val (.int b0), .val (.int b1), .val (.int b2), .val (.int b3), .val (.int (3 : Int32)), .val (.int (2 : Int32)), .val (.int cap), .val (.int sel), .val (.int t), .val (.ref b325), .unset, .unset] [(.ref b325)])) (fun t₀ k₀ => XS.aload X376.here hx rfl (hb hby at_180) rfl rfl k₀) ?_
        refine own_step (T376.setTop (mkF m 184 #[.val (.int pk), .val (.int qu), .val (.int fs0), .val (.int ls0), .val (.int cs0), .val (.int b0), .val (.int b1), .val (.int b2), .val (.int b3), .val (.int (3 : Int32)), .val (.int (2 : Int32)), .val (.int cap), .val (.int sel), .val (.int t), .val (.ref b325), .unset, .unset] [(.int t), (.ref b325)])) (fun t₀ k₀ => XS.iload X376.here hx rfl (hb hby at_182) rfl k₀) ?_
        refine own_step (T376.setTop (mkF m 186 #[.val (.int pk), .val (.int qu), .val (.int fs0), .val (.int ls0), .val (.int cs0), .val (.int b0), .val (.int b1), .val (.int b2), .val (.int b3), .val (.int (3 : Int32)), .val (.int (2 : Int32)), .val (.int cap), .val (.int sel), .val (.int t), .val (.ref b325), .unset, .unset] [(.int (2 : Int32)), (.int t), (.ref b325)])) (fun t₀ k₀ => XS.iload X376.here hx rfl (hb hby at_184) rfl k₀) ?_
        obtain ⟨cq398, kq398, q398a, q398b, q398c⟩ := isOf hZ rfl f377
        obtain ⟨_, _, ⟨T398, L398, k398, n398⟩, -, X398, ⟨Lc398, hQ398, l398, y398, z398⟩, st398⟩ := X376.virtualBack hx (y := (⟨"com/example/notesmith/notesmith/report/LineBuffer", "indexOf", "(CI)I"⟩ : MethodName)) (z := (⟨"com/example/notesmith/notesmith/report/LineBuffer", "indexOf", "(CI)I"⟩ : MethodName)) hown (mvT hZ (hw _ (List.mem_of_getElem? (i := 44) rfl))) (mvT hZ (hw _ (List.mem_of_getElem? (i := 45) rfl))) (notFace_of_selects (args := #[]) (mvT hZ (hw _ (List.mem_of_getElem? (i := 47) rfl)))) (mvT hZ (hw _ (List.mem_of_getElem? (i := 47) rfl))) (mvT hZ (hw _ (List.mem_of_getElem? (i := 46) rfl))) (by decide) (backOf (W := 0) (rm9_2_3 l Z a0 hw [] b325 t nb367 kd368 M369 b0 b1 b2 b3 T376.heap n0 z376' f378 f379 f384 f371) hZ (hw _ (List.mem_of_getElem? (i := 48) rfl)) (hw _ (List.mem_of_getElem? (i := 3) rfl)) (by decide) (by decide)) q398a q398c (g := (mkF m 186 #[.val (.int pk), .val (.int qu), .val (.int fs0), .val (.int ls0), .val (.int cs0), .val (.int b0), .val (.int b1), .val (.int b2), .val (.int b3), .val (.int (3 : Int32)), .val (.int (2 : Int32)), .val (.int cap), .val (.int sel), .val (.int t), .val (.ref b325), .unset, .unset] [(.int (2 : Int32)), (.int t), (.ref b325)])) rfl (by rw [hml]; rfl) (Steps.refl _) (argsL := [(.int t), (.int (2 : Int32))]) (rest := []) (lenOf pd_6 rfl) rfl (by show 2 * 0 + _ ≤ _; exact Nat.le_of_eq rfl) (hb hby at_186) (fun _ _ => ⟨rfl, rfl, (by decide : 6 + 0 ≤ _), (by decide : 42 + 0 ≤ _)⟩)
        dsimp only [Pt.U, Pt.locs, Pt.cells, Pt.slots] at X398 l398 y398 z398 st398 hQ398
        subst l398 y398 z398
        obtain ⟨rfl, N398q, e398⟩ := hQ398
        have N398 := Fr.app N376 N398q
        refine own_comes (T398.setTop (mkF m 189 #[.val (.int pk), .val (.int qu), .val (.int fs0), .val (.int ls0), .val (.int cs0), .val (.int b0), .val (.int b1), .val (.int b2), .val (.int b3), .val (.int (3 : Int32)), .val (.int (2 : Int32)), .val (.int cap), .val (.int sel), .val (.int t), .val (.ref b325), .unset, .unset] [(.int (own_all 2 3 t b0 b1 b2 b3))])) st398 ?_
        exact cut189 b0 b1 b2 b3 (3 : Int32) (2 : Int32) cap sel t b325 (own_all 2 3 t b0 b1 b2 b3) _ z376' _ _ N398 X398 e398 f377 f379 rfl
      · clear hf1 hf2 hn1 hn2; subst q1 q2
        refine own_step (T376.setTop (mkF m 182 #[.val (.int pk), .val (.int qu), .val (.int fs0), .val (.int ls0), .val (.int cs0), .val (.int b0), .val (.int b1), .val (.int b2), .val (.int b3), .val (.int (4 : Int32)), .val (.int (2 : Int32)), .val (.int cap), .val (.int sel), .val (.int t), .val (.ref b325), .unset, .unset] [(.ref b325)])) (fun t₀ k₀ => XS.aload X376.here hx rfl (hb hby at_180) rfl rfl k₀) ?_
        refine own_step (T376.setTop (mkF m 184 #[.val (.int pk), .val (.int qu), .val (.int fs0), .val (.int ls0), .val (.int cs0), .val (.int b0), .val (.int b1), .val (.int b2), .val (.int b3), .val (.int (4 : Int32)), .val (.int (2 : Int32)), .val (.int cap), .val (.int sel), .val (.int t), .val (.ref b325), .unset, .unset] [(.int t), (.ref b325)])) (fun t₀ k₀ => XS.iload X376.here hx rfl (hb hby at_182) rfl k₀) ?_
        refine own_step (T376.setTop (mkF m 186 #[.val (.int pk), .val (.int qu), .val (.int fs0), .val (.int ls0), .val (.int cs0), .val (.int b0), .val (.int b1), .val (.int b2), .val (.int b3), .val (.int (4 : Int32)), .val (.int (2 : Int32)), .val (.int cap), .val (.int sel), .val (.int t), .val (.ref b325), .unset, .unset] [(.int (2 : Int32)), (.int t), (.ref b325)])) (fun t₀ k₀ => XS.iload X376.here hx rfl (hb hby at_184) rfl k₀) ?_
        obtain ⟨cq399, kq399, q399a, q399b, q399c⟩ := isOf hZ rfl f377
        obtain ⟨_, _, ⟨T399, L399, k399, n399⟩, -, X399, ⟨Lc399, hQ399, l399, y399, z399⟩, st399⟩ := X376.virtualBack hx (y := (⟨"com/example/notesmith/notesmith/report/LineBuffer", "indexOf", "(CI)I"⟩ : MethodName)) (z := (⟨"com/example/notesmith/notesmith/report/LineBuffer", "indexOf", "(CI)I"⟩ : MethodName)) hown (mvT hZ (hw _ (List.mem_of_getElem? (i := 44) rfl))) (mvT hZ (hw _ (List.mem_of_getElem? (i := 45) rfl))) (notFace_of_selects (args := #[]) (mvT hZ (hw _ (List.mem_of_getElem? (i := 47) rfl)))) (mvT hZ (hw _ (List.mem_of_getElem? (i := 47) rfl))) (mvT hZ (hw _ (List.mem_of_getElem? (i := 46) rfl))) (by decide) (backOf (W := 0) (rm9_2_4 l Z a0 hw [] b325 t nb367 kd368 M369 b0 b1 b2 b3 T376.heap n0 z376' f378 f379 f384 f371) hZ (hw _ (List.mem_of_getElem? (i := 48) rfl)) (hw _ (List.mem_of_getElem? (i := 3) rfl)) (by decide) (by decide)) q399a q399c (g := (mkF m 186 #[.val (.int pk), .val (.int qu), .val (.int fs0), .val (.int ls0), .val (.int cs0), .val (.int b0), .val (.int b1), .val (.int b2), .val (.int b3), .val (.int (4 : Int32)), .val (.int (2 : Int32)), .val (.int cap), .val (.int sel), .val (.int t), .val (.ref b325), .unset, .unset] [(.int (2 : Int32)), (.int t), (.ref b325)])) rfl (by rw [hml]; rfl) (Steps.refl _) (argsL := [(.int t), (.int (2 : Int32))]) (rest := []) (lenOf pd_6 rfl) rfl (by show 2 * 0 + _ ≤ _; exact Nat.le_of_eq rfl) (hb hby at_186) (fun _ _ => ⟨rfl, rfl, (by decide : 6 + 0 ≤ _), (by decide : 42 + 0 ≤ _)⟩)
        dsimp only [Pt.U, Pt.locs, Pt.cells, Pt.slots] at X399 l399 y399 z399 st399 hQ399
        subst l399 y399 z399
        obtain ⟨rfl, N399q, e399⟩ := hQ399
        have N399 := Fr.app N376 N399q
        refine own_comes (T399.setTop (mkF m 189 #[.val (.int pk), .val (.int qu), .val (.int fs0), .val (.int ls0), .val (.int cs0), .val (.int b0), .val (.int b1), .val (.int b2), .val (.int b3), .val (.int (4 : Int32)), .val (.int (2 : Int32)), .val (.int cap), .val (.int sel), .val (.int t), .val (.ref b325), .unset, .unset] [(.int (own_all 2 4 t b0 b1 b2 b3))])) st399 ?_
        exact cut189 b0 b1 b2 b3 (4 : Int32) (2 : Int32) cap sel t b325 (own_all 2 4 t b0 b1 b2 b3) _ z376' _ _ N399 X399 e399 f377 f379 rfl
    · rcases own_lit4 hn1 hn2 with q2 | q2 | q2 | q2 | q2
      · clear hf1 hf2 hn1 hn2; subst q1 q2
        refine own_step (T376.setTop (mkF m 182 #[.val (.int pk), .val (.int qu), .val (.int fs0), .val (.int ls0), .val (.int cs0), .val (.int b0), .val (.int b1), .val (.int b2), .val (.int b3), .val (.int (0 : Int32)), .val (.int (3 : Int32)), .val (.int cap), .val (.int sel), .val (.int t), .val (.ref b325), .unset, .unset] [(.ref b325)])) (fun t₀ k₀ => XS.aload X376.here hx rfl (hb hby at_180) rfl rfl k₀) ?_
        refine own_step (T376.setTop (mkF m 184 #[.val (.int pk), .val (.int qu), .val (.int fs0), .val (.int ls0), .val (.int cs0), .val (.int b0), .val (.int b1), .val (.int b2), .val (.int b3), .val (.int (0 : Int32)), .val (.int (3 : Int32)), .val (.int cap), .val (.int sel), .val (.int t), .val (.ref b325), .unset, .unset] [(.int t), (.ref b325)])) (fun t₀ k₀ => XS.iload X376.here hx rfl (hb hby at_182) rfl k₀) ?_
        refine own_step (T376.setTop (mkF m 186 #[.val (.int pk), .val (.int qu), .val (.int fs0), .val (.int ls0), .val (.int cs0), .val (.int b0), .val (.int b1), .val (.int b2), .val (.int b3), .val (.int (0 : Int32)), .val (.int (3 : Int32)), .val (.int cap), .val (.int sel), .val (.int t), .val (.ref b325), .unset, .unset] [(.int (3 : Int32)), (.int t), (.ref b325)])) (fun t₀ k₀ => XS.iload X376.here hx rfl (hb hby at_184) rfl k₀) ?_
        obtain ⟨cq400, kq400, q400a, q400b, q400c⟩ := isOf hZ rfl f377
        obtain ⟨_, _, ⟨T400, L400, k400, n400⟩, -, X400, ⟨Lc400, hQ400, l400, y400, z400⟩, st400⟩ := X376.virtualBack hx (y := (⟨"com/example/notesmith/notesmith/report/LineBuffer", "indexOf", "(CI)I"⟩ : MethodName)) (z := (⟨"com/example/notesmith/notesmith/report/LineBuffer", "indexOf", "(CI)I"⟩ : MethodName)) hown (mvT hZ (hw _ (List.mem_of_getElem? (i := 44) rfl))) (mvT hZ (hw _ (List.mem_of_getElem? (i := 45) rfl))) (notFace_of_selects (args := #[]) (mvT hZ (hw _ (List.mem_of_getElem? (i := 47) rfl)))) (mvT hZ (hw _ (List.mem_of_getElem? (i := 47) rfl))) (mvT hZ (hw _ (List.mem_of_getElem? (i := 46) rfl))) (by decide) (backOf (W := 0) (rm9_3_0 l Z a0 hw [] b325 t nb367 kd368 M369 b0 b1 b2 b3 T376.heap n0 z376' f378 f379 f384 f371) hZ (hw _ (List.mem_of_getElem? (i := 48) rfl)) (hw _ (List.mem_of_getElem? (i := 3) rfl)) (by decide) (by decide)) q400a q400c (g := (mkF m 186 #[.val (.int pk), .val (.int qu), .val (.int fs0), .val (.int ls0), .val (.int cs0), .val (.int b0), .val (.int b1), .val (.int b2), .val (.int b3), .val (.int (0 : Int32)), .val (.int (3 : Int32)), .val (.int cap), .val (.int sel), .val (.int t), .val (.ref b325), .unset, .unset] [(.int (3 : Int32)), (.int t), (.ref b325)])) rfl (by rw [hml]; rfl) (Steps.refl _) (argsL := [(.int t), (.int (3 : Int32))]) (rest := []) (lenOf pd_6 rfl) rfl (by show 2 * 0 + _ ≤ _; exact Nat.le_of_eq rfl) (hb hby at_186) (fun _ _ => ⟨rfl, rfl, (by decide : 6 + 0 ≤ _), (by decide : 42 + 0 ≤ _)⟩)
        dsimp only [Pt.U, Pt.locs, Pt.cells, Pt.slots] at X400 l400 y400 z400 st400 hQ400
        subst l400 y400 z400
        obtain ⟨rfl, N400q, e400⟩ := hQ400
        have N400 := Fr.app N376 N400q
        refine own_comes (T400.setTop (mkF m 189 #[.val (.int pk), .val (.int qu), .val (.int fs0), .val (.int ls0), .val (.int cs0), .val (.int b0), .val (.int b1), .val (.int b2), .val (.int b3), .val (.int (0 : Int32)), .val (.int (3 : Int32)), .val (.int cap), .val (.int sel), .val (.int t), .val (.ref b325), .unset, .unset] [(.int (own_all 3 0 t b0 b1 b2 b3))])) st400 ?_
        exact cut189 b0 b1 b2 b3 (0 : Int32) (3 : Int32) cap sel t b325 (own_all 3 0 t b0 b1 b2 b3) _ z376' _ _ N400 X400 e400 f377 f379 rfl
      · clear hf1 hf2 hn1 hn2; subst q1 q2
        refine own_step (T376.setTop (mkF m 182 #[.val (.int pk), .val (.int qu), .val (.int fs0), .val (.int ls0), .val (.int cs0), .val (.int b0), .val (.int b1), .val (.int b2), .val (.int b3), .val (.int (1 : Int32)), .val (.int (3 : Int32)), .val (.int cap), .val (.int sel), .val (.int t), .val (.ref b325), .unset, .unset] [(.ref b325)])) (fun t₀ k₀ => XS.aload X376.here hx rfl (hb hby at_180) rfl rfl k₀) ?_
        refine own_step (T376.setTop (mkF m 184 #[.val (.int pk), .val (.int qu), .val (.int fs0), .val (.int ls0), .val (.int cs0), .val (.int b0), .val (.int b1), .val (.int b2), .val (.int b3), .val (.int (1 : Int32)), .val (.int (3 : Int32)), .val (.int cap), .val (.int sel), .val (.int t), .val (.ref b325), .unset, .unset] [(.int t), (.ref b325)])) (fun t₀ k₀ => XS.iload X376.here hx rfl (hb hby at_182) rfl k₀) ?_
        refine own_step (T376.setTop (mkF m 186 #[.val (.int pk), .val (.int qu), .val (.int fs0), .val (.int ls0), .val (.int cs0), .val (.int b0), .val (.int b1), .val (.int b2), .val (.int b3), .val (.int (1 : Int32)), .val (.int (3 : Int32)), .val (.int cap), .val (.int sel), .val (.int t), .val (.ref b325), .unset, .unset] [(.int (3 : Int32)), (.int t), (.ref b325)])) (fun t₀ k₀ => XS.iload X376.here hx rfl (hb hby at_184) rfl k₀) ?_
        obtain ⟨cq401, kq401, q401a, q401b, q401c⟩ := isOf hZ rfl f377
        obtain ⟨_, _, ⟨T401, L401, k401, n401⟩, -, X401, ⟨Lc401, hQ401, l401, y401, z401⟩, st401⟩ := X376.virtualBack hx (y := (⟨"com/example/notesmith/notesmith/report/LineBuffer", "indexOf", "(CI)I"⟩ : MethodName)) (z := (⟨"com/example/notesmith/notesmith/report/LineBuffer", "indexOf", "(CI)I"⟩ : MethodName)) hown (mvT hZ (hw _ (List.mem_of_getElem? (i := 44) rfl))) (mvT hZ (hw _ (List.mem_of_getElem? (i := 45) rfl))) (notFace_of_selects (args := #[]) (mvT hZ (hw _ (List.mem_of_getElem? (i := 47) rfl)))) (mvT hZ (hw _ (List.mem_of_getElem? (i := 47) rfl))) (mvT hZ (hw _ (List.mem_of_getElem? (i := 46) rfl))) (by decide) (backOf (W := 0) (rm9_3_1 l Z a0 hw [] b325 t nb367 kd368 M369 b0 b1 b2 b3 T376.heap n0 z376' f378 f379 f384 f371) hZ (hw _ (List.mem_of_getElem? (i := 48) rfl)) (hw _ (List.mem_of_getElem? (i := 3) rfl)) (by decide) (by decide)) q401a q401c (g := (mkF m 186 #[.val (.int pk), .val (.int qu), .val (.int fs0), .val (.int ls0), .val (.int cs0), .val (.int b0), .val (.int b1), .val (.int b2), .val (.int b3), .val (.int (1 : Int32)), .val (.int (3 : Int32)), .val (.int cap), .val (.int sel), .val (.int t), .val (.ref b325), .unset, .unset] [(.int (3 : Int32)), (.int t), (.ref b325)])) rfl (by rw [hml]; rfl) (Steps.refl _) (argsL := [(.int t), (.int (3 : Int32))]) (rest := []) (lenOf pd_6 rfl) rfl (by show 2 * 0 + _ ≤ _; exact Nat.le_of_eq rfl) (hb hby at_186) (fun _ _ => ⟨rfl, rfl, (by decide : 6 + 0 ≤ _), (by decide : 42 + 0 ≤ _)⟩)
        dsimp only [Pt.U, Pt.locs, Pt.cells, Pt.slots] at X401 l401 y401 z401 st401 hQ401
        subst l401 y401 z401
        obtain ⟨rfl, N401q, e401⟩ := hQ401
        have N401 := Fr.app N376 N401q
        refine own_comes (T401.setTop (mkF m 189 #[.val (.int pk), .val (.int qu), .val (.int fs0), .val (.int ls0), .val (.int cs0), .val (.int b0), .val (.int b1), .val (.int b2), .val (.int b3), .val (.int (1 : Int32)), .val (.int (3 : Int32)), .val (.int cap), .val (.int sel), .val (.int t), .val (.ref b325), .unset, .unset] [(.int (own_all 3 1 t b0 b1 b2 b3))])) st401 ?_
        exact cut189 b0 b1 b2 b3 (1 : Int32) (3 : Int32) cap sel t b325 (own_all 3 1 t b0 b1 b2 b3) _ z376' _ _ N401 X401 e401 f377 f379 rfl
      · clear hf1 hf2 hn1 hn2; subst q1 q2
        refine own_step (T376.setTop (mkF m 182 #[.val (.int pk), .val (.int qu), .val (.int fs0), .val (.int ls0), .val (.int cs0), .val (.int b0), .val (.int b1), .val (.int b2), .val (.int b3), .val (.int (2 : Int32)), .val (.int (3 : Int32)), .val (.int cap), .val (.int sel), .val (.int t), .val (.ref b325), .unset, .unset] [(.ref b325)])) (fun t₀ k₀ => XS.aload X376.here hx rfl (hb hby at_180) rfl rfl k₀) ?_
        refine own_step (T376.setTop (mkF m 184 #[.val (.int pk), .val (.int qu), .val (.int fs0), .val (.int ls0), .val (.int cs0), .val (.int b0), .val (.int b1), .val (.int b2), .val (.int b3), .val (.int (2 : Int32)), .val (.int (3 : Int32)), .val (.int cap), .val (.int sel), .val (.int t), .val (.ref b325), .unset, .unset] [(.int t), (.ref b325)])) (fun t₀ k₀ => XS.iload X376.here hx rfl (hb hby at_182) rfl k₀) ?_
        refine own_step (T376.setTop (mkF m 186 #[.val (.int pk), .val (.int qu), .val (.int fs0), .val (.int ls0), .val (.int cs0), .val (.int b0), .val (.int b1), .val (.int b2), .val (.int b3), .val (.int (2 : Int32)), .val (.int (3 : Int32)), .val (.int cap), .val (.int sel), .val (.int t), .val (.ref b325), .unset, .unset] [(.int (3 : Int32)), (.int t), (.ref b325)])) (fun t₀ k₀ => XS.iload X376.here hx rfl (hb hby at_184) rfl k₀) ?_
        obtain ⟨cq402, kq402, q402a, q402b, q402c⟩ := isOf hZ rfl f377
        obtain ⟨_, _, ⟨T402, L402, k402, n402⟩, -, X402, ⟨Lc402, hQ402, l402, y402, z402⟩, st402⟩ := X376.virtualBack hx (y := (⟨"com/example/notesmith/notesmith/report/LineBuffer", "indexOf", "(CI)I"⟩ : MethodName)) (z := (⟨"com/example/notesmith/notesmith/report/LineBuffer", "indexOf", "(CI)I"⟩ : MethodName)) hown (mvT hZ (hw _ (List.mem_of_getElem? (i := 44) rfl))) (mvT hZ (hw _ (List.mem_of_getElem? (i := 45) rfl))) (notFace_of_selects (args := #[]) (mvT hZ (hw _ (List.mem_of_getElem? (i := 47) rfl)))) (mvT hZ (hw _ (List.mem_of_getElem? (i := 47) rfl))) (mvT hZ (hw _ (List.mem_of_getElem? (i := 46) rfl))) (by decide) (backOf (W := 0) (rm9_3_2 l Z a0 hw [] b325 t nb367 kd368 M369 b0 b1 b2 b3 T376.heap n0 z376' f378 f379 f384 f371) hZ (hw _ (List.mem_of_getElem? (i := 48) rfl)) (hw _ (List.mem_of_getElem? (i := 3) rfl)) (by decide) (by decide)) q402a q402c (g := (mkF m 186 #[.val (.int pk), .val (.int qu), .val (.int fs0), .val (.int ls0), .val (.int cs0), .val (.int b0), .val (.int b1), .val (.int b2), .val (.int b3), .val (.int (2 : Int32)), .val (.int (3 : Int32)), .val (.int cap), .val (.int sel), .val (.int t), .val (.ref b325), .unset, .unset] [(.int (3 : Int32)), (.int t), (.ref b325)])) rfl (by rw [hml]; rfl) (Steps.refl _) (argsL := [(.int t), (.int (3 : Int32))]) (rest := []) (lenOf pd_6 rfl) rfl (by show 2 * 0 + _ ≤ _; exact Nat.le_of_eq rfl) (hb hby at_186) (fun _ _ => ⟨rfl, rfl, (by decide : 6 + 0 ≤ _), (by decide : 42 + 0 ≤ _)⟩)
        dsimp only [Pt.U, Pt.locs, Pt.cells, Pt.slots] at X402 l402 y402 z402 st402 hQ402
        subst l402 y402 z402
        obtain ⟨rfl, N402q, e402⟩ := hQ402
        have N402 := Fr.app N376 N402q
        refine own_comes (T402.setTop (mkF m 189 #[.val (.int pk), .val (.int qu), .val (.int fs0), .val (.int ls0), .val (.int cs0), .val (.int b0), .val (.int b1), .val (.int b2), .val (.int b3), .val (.int (2 : Int32)), .val (.int (3 : Int32)), .val (.int cap), .val (.int sel), .val (.int t), .val (.ref b325), .unset, .unset] [(.int (own_all 3 2 t b0 b1 b2 b3))])) st402 ?_
        exact cut189 b0 b1 b2 b3 (2 : Int32) (3 : Int32) cap sel t b325 (own_all 3 2 t b0 b1 b2 b3) _ z376' _ _ N402 X402 e402 f377 f379 rfl
      · clear hf1 hf2 hn1 hn2; subst q1 q2
        refine own_step (T376.setTop (mkF m 182 #[.val (.int pk), .val (.int qu), .val (.int fs0), .val (.int ls0), .val (.int cs0), .val (.int b0), .val (.int b1), .val (.int b2), .val (.int b3), .val (.int (3 : Int32)), .val (.int (3 : Int32)), .val (.int cap), .val (.int sel), .val (.int t), .val (.ref b325), .unset, .unset] [(.ref b325)])) (fun t₀ k₀ => XS.aload X376.here hx rfl (hb hby at_180) rfl rfl k₀) ?_
        refine own_step (T376.setTop (mkF m 184 #[.val (.int pk), .val (.int qu), .val (.int fs0), .val (.int ls0), .val (.int cs0), .val (.int b0), .val (.int b1), .val (.int b2), .val (.int b3), .val (.int (3 : Int32)), .val (.int (3 : Int32)), .val (.int cap), .val (.int sel), .val (.int t), .val (.ref b325), .unset, .unset] [(.int t), (.ref b325)])) (fun t₀ k₀ => XS.iload X376.here hx rfl (hb hby at_182) rfl k₀) ?_
        refine own_step (T376.setTop (mkF m 186 #[.val (.int pk), .val (.int qu), .val (.int fs0), .val (.int ls0), .val (.int cs0), .val (.int b0), .val (.int b1), .val (.int b2), .val (.int b3), .val (.int (3 : Int32)), .val (.int (3 : Int32)), .val (.int cap), .val (.int sel), .val (.int t), .val (.ref b325), .unset, .unset] [(.int (3 : Int32)), (.int t), (.ref b325)])) (fun t₀ k₀ => XS.iload X376.here hx rfl (hb hby at_184) rfl k₀) ?_
        obtain ⟨cq403, kq403, q403a, q403b, q403c⟩ := isOf hZ rfl f377
        obtain ⟨_, _, ⟨T403, L403, k403, n403⟩, -, X403, ⟨Lc403, hQ403, l403, y403, z403⟩, st403⟩ := X376.virtualBack hx (y := (⟨"com/example/notesmith/notesmith/report/LineBuffer", "indexOf", "(CI)I"⟩ : MethodName)) (z := (⟨"com/example/notesmith/notesmith/report/LineBuffer", "indexOf", "(CI)I"⟩ : MethodName)) hown (mvT hZ (hw _ (List.mem_of_getElem? (i := 44) rfl))) (mvT hZ (hw _ (List.mem_of_getElem? (i := 45) rfl))) (notFace_of_selects (args := #[]) (mvT hZ (hw _ (List.mem_of_getElem? (i := 47) rfl)))) (mvT hZ (hw _ (List.mem_of_getElem? (i := 47) rfl))) (mvT hZ (hw _ (List.mem_of_getElem? (i := 46) rfl))) (by decide) (backOf (W := 0) (rm9_3_3 l Z a0 hw [] b325 t nb367 kd368 M369 b0 b1 b2 b3 T376.heap n0 z376' f378 f379 f384 f371) hZ (hw _ (List.mem_of_getElem? (i := 48) rfl)) (hw _ (List.mem_of_getElem? (i := 3) rfl)) (by decide) (by decide)) q403a q403c (g := (mkF m 186 #[.val (.int pk), .val (.int qu), .val (.int fs0), .val (.int ls0), .val (.int cs0), .val (.int b0), .val (.int b1), .val (.int b2), .val (.int b3), .val (.int (3 : Int32)), .val (.int (3 : Int32)), .val (.int cap), .val (.int sel), .val (.int t), .val (.ref b325), .unset, .unset] [(.int (3 : Int32)), (.int t), (.ref b325)])) rfl (by rw [hml]; rfl) (Steps.refl _) (argsL := [(.int t), (.int (3 : Int32))]) (rest := []) (lenOf pd_6 rfl) rfl (by show 2 * 0 + _ ≤ _; exact Nat.le_of_eq rfl) (hb hby at_186) (fun _ _ => ⟨rfl, rfl, (by decide : 6 + 0 ≤ _), (by decide : 42 + 0 ≤ _)⟩)
        dsimp only [Pt.U, Pt.locs, Pt.cells, Pt.slots] at X403 l403 y403 z403 st403 hQ403
        subst l403 y403 z403
        obtain ⟨rfl, N403q, e403⟩ := hQ403
        have N403 := Fr.app N376 N403q
        refine own_comes (T403.setTop (mkF m 189 #[.val (.int pk), .val (.int qu), .val (.int fs0), .val (.int ls0), .val (.int cs0), .val (.int b0), .val (.int b1), .val (.int b2), .val (.int b3), .val (.int (3 : Int32)), .val (.int (3 : Int32)), .val (.int cap), .val (.int sel), .val (.int t), .val (.ref b325), .unset, .unset] [(.int (own_all 3 3 t b0 b1 b2 b3))])) st403 ?_
        exact cut189 b0 b1 b2 b3 (3 : Int32) (3 : Int32) cap sel t b325 (own_all 3 3 t b0 b1 b2 b3) _ z376' _ _ N403 X403 e403 f377 f379 rfl
      · clear hf1 hf2 hn1 hn2; subst q1 q2
        refine own_step (T376.setTop (mkF m 182 #[.val (.int pk), .val (.int qu), .val (.int fs0), .val (.int ls0), .val (.int cs0), .val (.int b0), .val (.int b1), .val (.int b2), .val (.int b3), .val (.int (4 : Int32)), .val (.int (3 : Int32)), .val (.int cap), .val (.int sel), .val (.int t), .val (.ref b325), .unset, .unset] [(.ref b325)])) (fun t₀ k₀ => XS.aload X376.here hx rfl (hb hby at_180) rfl rfl k₀) ?_
        refine own_step (T376.setTop (mkF m 184 #[.val (.int pk), .val (.int qu), .val (.int fs0), .val (.int ls0), .val (.int cs0), .val (.int b0), .val (.int b1), .val (.int b2), .val (.int b3), .val (.int (4 : Int32)), .val (.int (3 : Int32)), .val (.int cap), .val (.int sel), .val (.int t), .val (.ref b325), .unset, .unset] [(.int t), (.ref b325)])) (fun t₀ k₀ => XS.iload X376.here hx rfl (hb hby at_182) rfl k₀) ?_
        refine own_step (T376.setTop (mkF m 186 #[.val (.int pk), .val (.int qu), .val (.int fs0), .val (.int ls0), .val (.int cs0), .val (.int b0), .val (.int b1), .val (.int b2), .val (.int b3), .val (.int (4 : Int32)), .val (.int (3 : Int32)), .val (.int cap), .val (.int sel), .val (.int t), .val (.ref b325), .unset, .unset] [(.int (3 : Int32)), (.int t), (.ref b325)])) (fun t₀ k₀ => XS.iload X376.here hx rfl (hb hby at_184) rfl k₀) ?_
        obtain ⟨cq404, kq404, q404a, q404b, q404c⟩ := isOf hZ rfl f377
        obtain ⟨_, _, ⟨T404, L404, k404, n404⟩, -, X404, ⟨Lc404, hQ404, l404, y404, z404⟩, st404⟩ := X376.virtualBack hx (y := (⟨"com/example/notesmith/notesmith/report/LineBuffer", "indexOf", "(CI)I"⟩ : MethodName)) (z := (⟨"com/example/notesmith/notesmith/report/LineBuffer", "indexOf", "(CI)I"⟩ : MethodName)) hown (mvT hZ (hw _ (List.mem_of_getElem? (i := 44) rfl))) (mvT hZ (hw _ (List.mem_of_getElem? (i := 45) rfl))) (notFace_of_selects (args := #[]) (mvT hZ (hw _ (List.mem_of_getElem? (i := 47) rfl)))) (mvT hZ (hw _ (List.mem_of_getElem? (i := 47) rfl))) (mvT hZ (hw _ (List.mem_of_getElem? (i := 46) rfl))) (by decide) (backOf (W := 0) (rm9_3_4 l Z a0 hw [] b325 t nb367 kd368 M369 b0 b1 b2 b3 T376.heap n0 z376' f378 f379 f384 f371) hZ (hw _ (List.mem_of_getElem? (i := 48) rfl)) (hw _ (List.mem_of_getElem? (i := 3) rfl)) (by decide) (by decide)) q404a q404c (g := (mkF m 186 #[.val (.int pk), .val (.int qu), .val (.int fs0), .val (.int ls0), .val (.int cs0), .val (.int b0), .val (.int b1), .val (.int b2), .val (.int b3), .val (.int (4 : Int32)), .val (.int (3 : Int32)), .val (.int cap), .val (.int sel), .val (.int t), .val (.ref b325), .unset, .unset] [(.int (3 : Int32)), (.int t), (.ref b325)])) rfl (by rw [hml]; rfl) (Steps.refl _) (argsL := [(.int t), (.int (3 : Int32))]) (rest := []) (lenOf pd_6 rfl) rfl (by show 2 * 0 + _ ≤ _; exact Nat.le_of_eq rfl) (hb hby at_186) (fun _ _ => ⟨rfl, rfl, (by decide : 6 + 0 ≤ _), (by decide : 42 + 0 ≤ _)⟩)
        dsimp only [Pt.U, Pt.locs, Pt.cells, Pt.slots] at X404 l404 y404 z404 st404 hQ404
        subst l404 y404 z404
        obtain ⟨rfl, N404q, e404⟩ := hQ404
        have N404 := Fr.app N376 N404q
        refine own_comes (T404.setTop (mkF m 189 #[.val (.int pk), .val (.int qu), .val (.int fs0), .val (.int ls0), .val (.int cs0), .val (.int b0), .val (.int b1), .val (.int b2), .val (.int b3), .val (.int (4 : Int32)), .val (.int (3 : Int32)), .val (.int cap), .val (.int sel), .val (.int t), .val (.ref b325), .unset, .unset] [(.int (own_all 3 4 t b0 b1 b2 b3))])) st404 ?_
        exact cut189 b0 b1 b2 b3 (4 : Int32) (3 : Int32) cap sel t b325 (own_all 3 4 t b0 b1 b2 b3) _ z376' _ _ N404 X404 e404 f377 f379 rfl
    · rcases own_lit4 hn1 hn2 with q2 | q2 | q2 | q2 | q2
      · clear hf1 hf2 hn1 hn2; subst q1 q2
        refine own_step (T376.setTop (mkF m 182 #[.val (.int pk), .val (.int qu), .val (.int fs0), .val (.int ls0), .val (.int cs0), .val (.int b0), .val (.int b1), .val (.int b2), .val (.int b3), .val (.int (0 : Int32)), .val (.int (4 : Int32)), .val (.int cap), .val (.int sel), .val (.int t), .val (.ref b325), .unset, .unset] [(.ref b325)])) (fun t₀ k₀ => XS.aload X376.here hx rfl (hb hby at_180) rfl rfl k₀) ?_
        refine own_step (T376.setTop (mkF m 184 #[.val (.int pk), .val (.int qu), .val (.int fs0), .val (.int ls0), .val (.int cs0), .val (.int b0), .val (.int b1), .val (.int b2), .val (.int b3), .val (.int (0 : Int32)), .val (.int (4 : Int32)), .val (.int cap), .val (.int sel), .val (.int t), .val (.ref b325), .unset, .unset] [(.int t), (.ref b325)])) (fun t₀ k₀ => XS.iload X376.here hx rfl (hb hby at_182) rfl k₀) ?_
        refine own_step (T376.setTop (mkF m 186 #[.val (.int pk), .val (.int qu), .val (.int fs0), .val (.int ls0), .val (.int cs0), .val (.int b0), .val (.int b1), .val (.int b2), .val (.int b3), .val (.int (0 : Int32)), .val (.int (4 : Int32)), .val (.int cap), .val (.int sel), .val (.int t), .val (.ref b325), .unset, .unset] [(.int (4 : Int32)), (.int t), (.ref b325)])) (fun t₀ k₀ => XS.iload X376.here hx rfl (hb hby at_184) rfl k₀) ?_
        obtain ⟨cq405, kq405, q405a, q405b, q405c⟩ := isOf hZ rfl f377
        obtain ⟨_, _, ⟨T405, L405, k405, n405⟩, -, X405, ⟨Lc405, hQ405, l405, y405, z405⟩, st405⟩ := X376.virtualBack hx (y := (⟨"com/example/notesmith/notesmith/report/LineBuffer", "indexOf", "(CI)I"⟩ : MethodName)) (z := (⟨"com/example/notesmith/notesmith/report/LineBuffer", "indexOf", "(CI)I"⟩ : MethodName)) hown (mvT hZ (hw _ (List.mem_of_getElem? (i := 44) rfl))) (mvT hZ (hw _ (List.mem_of_getElem? (i := 45) rfl))) (notFace_of_selects (args := #[]) (mvT hZ (hw _ (List.mem_of_getElem? (i := 47) rfl)))) (mvT hZ (hw _ (List.mem_of_getElem? (i := 47) rfl))) (mvT hZ (hw _ (List.mem_of_getElem? (i := 46) rfl))) (by decide) (backOf (W := 0) (rm9_4_0 l Z a0 hw [] b325 t nb367 kd368 M369 b0 b1 b2 b3 T376.heap n0 z376' f378 f379 f384 f371) hZ (hw _ (List.mem_of_getElem? (i := 48) rfl)) (hw _ (List.mem_of_getElem? (i := 3) rfl)) (by decide) (by decide)) q405a q405c (g := (mkF m 186 #[.val (.int pk), .val (.int qu), .val (.int fs0), .val (.int ls0), .val (.int cs0), .val (.int b0), .val (.int b1), .val (.int b2), .val (.int b3), .val (.int (0 : Int32)), .val (.int (4 : Int32)), .val (.int cap), .val (.int sel), .val (.int t), .val (.ref b325), .unset, .unset] [(.int (4 : Int32)), (.int t), (.ref b325)])) rfl (by rw [hml]; rfl) (Steps.refl _) (argsL := [(.int t), (.int (4 : Int32))]) (rest := []) (lenOf pd_6 rfl) rfl (by show 2 * 0 + _ ≤ _; exact Nat.le_of_eq rfl) (hb hby at_186) (fun _ _ => ⟨rfl, rfl, (by decide : 6 + 0 ≤ _), (by decide : 42 + 0 ≤ _)⟩)
        dsimp only [Pt.U, Pt.locs, Pt.cells, Pt.slots] at X405 l405 y405 z405 st405 hQ405
        subst l405 y405 z405
        obtain ⟨rfl, N405q, e405⟩ := hQ405
        have N405 := Fr.app N376 N405q
        refine own_comes (T405.setTop (mkF m 189 #[.val (.int pk), .val (.int qu), .val (.int fs0), .val (.int ls0), .val (.int cs0), .val (.int b0), .val (.int b1), .val (.int b2), .val (.int b3), .val (.int (0 : Int32)), .val (.int (4 : Int32)), .val (.int cap), .val (.int sel), .val (.int t), .val (.ref b325), .unset, .unset] [(.int (own_all 4 0 t b0 b1 b2 b3))])) st405 ?_
        exact cut189 b0 b1 b2 b3 (0 : Int32) (4 : Int32) cap sel t b325 (own_all 4 0 t b0 b1 b2 b3) _ z376' _ _ N405 X405 e405 f377 f379 rfl
      · clear hf1 hf2 hn1 hn2; subst q1 q2
        refine own_step (T376.setTop (mkF m 182 #[.val (.int pk), .val (.int qu), .val (.int fs0), .val (.int ls0), .val (.int cs0), .val (.int b0), .val (.int b1), .val (.int b2), .val (.int b3), .val (.int (1 : Int32)), .val (.int (4 : Int32)), .val (.int cap), .val (.int sel), .val (.int t), .val (.ref b325), .unset, .unset] [(.ref b325)])) (fun t₀ k₀ => XS.aload X376.here hx rfl (hb hby at_180) rfl rfl k₀) ?_
        refine own_step (T376.setTop (mkF m 184 #[.val (.int pk), .val (.int qu), .val (.int fs0), .val (.int ls0), .val (.int cs0), .val (.int b0), .val (.int b1), .val (.int b2), .val (.int b3), .val (.int (1 : Int32)), .val (.int (4 : Int32)), .val (.int cap), .val (.int sel), .val (.int t), .val (.ref b325), .unset, .unset] [(.int t), (.ref b325)])) (fun t₀ k₀ => XS.iload X376.here hx rfl (hb hby at_182) rfl k₀) ?_
        refine own_step (T376.setTop (mkF m 186 #[.val (.int pk), .val (.int qu), .val (.int fs0), .val (.int ls0), .val (.int cs0), .val (.int b0), .val (.int b1), .val (.int b2), .val (.int b3), .val (.int (1 : Int32)), .val (.int (4 : Int32)), .val (.int cap), .val (.int sel), .val (.int t), .val (.ref b325), .unset, .unset] [(.int (4 : Int32)), (.int t), (.ref b325)])) (fun t₀ k₀ => XS.iload X376.here hx rfl (hb hby at_184) rfl k₀) ?_
        obtain ⟨cq406, kq406, q406a, q406b, q406c⟩ := isOf hZ rfl f377
        obtain ⟨_, _, ⟨T406, L406, k406, n406⟩, -, X406, ⟨Lc406, hQ406, l406, y406, z406⟩, st406⟩ := X376.virtualBack hx (y := (⟨"com/example/notesmith/notesmith/report/LineBuffer", "indexOf", "(CI)I"⟩ : MethodName)) (z := (⟨"com/example/notesmith/notesmith/report/LineBuffer", "indexOf", "(CI)I"⟩ : MethodName)) hown (mvT hZ (hw _ (List.mem_of_getElem? (i := 44) rfl))) (mvT hZ (hw _ (List.mem_of_getElem? (i := 45) rfl))) (notFace_of_selects (args := #[]) (mvT hZ (hw _ (List.mem_of_getElem? (i := 47) rfl)))) (mvT hZ (hw _ (List.mem_of_getElem? (i := 47) rfl))) (mvT hZ (hw _ (List.mem_of_getElem? (i := 46) rfl))) (by decide) (backOf (W := 0) (rm9_4_1 l Z a0 hw [] b325 t nb367 kd368 M369 b0 b1 b2 b3 T376.heap n0 z376' f378 f379 f384 f371) hZ (hw _ (List.mem_of_getElem? (i := 48) rfl)) (hw _ (List.mem_of_getElem? (i := 3) rfl)) (by decide) (by decide)) q406a q406c (g := (mkF m 186 #[.val (.int pk), .val (.int qu), .val (.int fs0), .val (.int ls0), .val (.int cs0), .val (.int b0), .val (.int b1), .val (.int b2), .val (.int b3), .val (.int (1 : Int32)), .val (.int (4 : Int32)), .val (.int cap), .val (.int sel), .val (.int t), .val (.ref b325), .unset, .unset] [(.int (4 : Int32)), (.int t), (.ref b325)])) rfl (by rw [hml]; rfl) (Steps.refl _) (argsL := [(.int t), (.int (4 : Int32))]) (rest := []) (lenOf pd_6 rfl) rfl (by show 2 * 0 + _ ≤ _; exact Nat.le_of_eq rfl) (hb hby at_186) (fun _ _ => ⟨rfl, rfl, (by decide : 6 + 0 ≤ _), (by decide : 42 + 0 ≤ _)⟩)
        dsimp only [Pt.U, Pt.locs, Pt.cells, Pt.slots] at X406 l406 y406 z406 st406 hQ406
        subst l406 y406 z406
        obtain ⟨rfl, N406q, e406⟩ := hQ406
        have N406 := Fr.app N376 N406q
        refine own_comes (T406.setTop (mkF m 189 #[.val (.int pk), .val (.int qu), .val (.int fs0), .val (.int ls0), .val (.int cs0), .val (.int b0), .val (.int b1), .val (.int b2), .val (.int b3), .val (.int (1 : Int32)), .val (.int (4 : Int32)), .val (.int cap), .val (.int sel), .val (.int t), .val (.ref b325), .unset, .unset] [(.int (own_all 4 1 t b0 b1 b2 b3))])) st406 ?_
        exact cut189 b0 b1 b2 b3 (1 : Int32) (4 : Int32) cap sel t b325 (own_all 4 1 t b0 b1 b2 b3) _ z376' _ _ N406 X406 e406 f377 f379 rfl
      · clear hf1 hf2 hn1 hn2; subst q1 q2
        refine own_step (T376.setTop (mkF m 182 #[.val (.int pk), .val (.int qu), .val (.int fs0), .val (.int ls0), .val (.int cs0), .val (.int b0), .val (.int b1), .val (.int b2), .val (.int b3), .val (.int (2 : Int32)), .val (.int (4 : Int32)), .val (.int cap), .val (.int sel), .val (.int t), .val (.ref b325), .unset, .unset] [(.ref b325)])) (fun t₀ k₀ => XS.aload X376.here hx rfl (hb hby at_180) rfl rfl k₀) ?_
        refine own_step (T376.setTop (mkF m 184 #[.val (.int pk), .val (.int qu), .val (.int fs0), .val (.int ls0), .val (.int cs0), .val (.int b0), .val (.int b1), .val (.int b2), .val (.int b3), .val (.int (2 : Int32)), .val (.int (4 : Int32)), .val (.int cap), .val (.int sel), .val (.int t), .val (.ref b325), .unset, .unset] [(.int t), (.ref b325)])) (fun t₀ k₀ => XS.iload X376.here hx rfl (hb hby at_182) rfl k₀) ?_
        refine own_step (T376.setTop (mkF m 186 #[.val (.int pk), .val (.int qu), .val (.int fs0), .val (.int ls0), .val (.int cs0), .val (.int b0), .val (.int b1), .val (.int b2), .val (.int b3), .val (.int (2 : Int32)), .val (.int (4 : Int32)), .val (.int cap), .val (.int sel), .val (.int t), .val (.ref b325), .unset, .unset] [(.int (4 : Int32)), (.int t), (.ref b325)])) (fun t₀ k₀ => XS.iload X376.here hx rfl (hb hby at_184) rfl k₀) ?_
        obtain ⟨cq407, kq407, q407a, q407b, q407c⟩ := isOf hZ rfl f377
        obtain ⟨_, _, ⟨T407, L407, k407, n407⟩, -, X407, ⟨Lc407, hQ407, l407, y407, z407⟩, st407⟩ := X376.virtualBack hx (y := (⟨"com/example/notesmith/notesmith/report/LineBuffer", "indexOf", "(CI)I"⟩ : MethodName)) (z := (⟨"com/example/notesmith/notesmith/report/LineBuffer", "indexOf", "(CI)I"⟩ : MethodName)) hown (mvT hZ (hw _ (List.mem_of_getElem? (i := 44) rfl))) (mvT hZ (hw _ (List.mem_of_getElem? (i := 45) rfl))) (notFace_of_selects (args := #[]) (mvT hZ (hw _ (List.mem_of_getElem? (i := 47) rfl)))) (mvT hZ (hw _ (List.mem_of_getElem? (i := 47) rfl))) (mvT hZ (hw _ (List.mem_of_getElem? (i := 46) rfl))) (by decide) (backOf (W := 0) (rm9_4_2 l Z a0 hw [] b325 t nb367 kd368 M369 b0 b1 b2 b3 T376.heap n0 z376' f378 f379 f384 f371) hZ (hw _ (List.mem_of_getElem? (i := 48) rfl)) (hw _ (List.mem_of_getElem? (i := 3) rfl)) (by decide) (by decide)) q407a q407c (g := (mkF m 186 #[.val (.int pk), .val (.int qu), .val (.int fs0), .val (.int ls0), .val (.int cs0), .val (.int b0), .val (.int b1), .val (.int b2), .val (.int b3), .val (.int (2 : Int32)), .val (.int (4 : Int32)), .val (.int cap), .val (.int sel), .val (.int t), .val (.ref b325), .unset, .unset] [(.int (4 : Int32)), (.int t), (.ref b325)])) rfl (by rw [hml]; rfl) (Steps.refl _) (argsL := [(.int t), (.int (4 : Int32))]) (rest := []) (lenOf pd_6 rfl) rfl (by show 2 * 0 + _ ≤ _; exact Nat.le_of_eq rfl) (hb hby at_186) (fun _ _ => ⟨rfl, rfl, (by decide : 6 + 0 ≤ _), (by decide : 42 + 0 ≤ _)⟩)
        dsimp only [Pt.U, Pt.locs, Pt.cells, Pt.slots] at X407 l407 y407 z407 st407 hQ407
        subst l407 y407 z407
        obtain ⟨rfl, N407q, e407⟩ := hQ407
        have N407 := Fr.app N376 N407q
        refine own_comes (T407.setTop (mkF m 189 #[.val (.int pk), .val (.int qu), .val (.int fs0), .val (.int ls0), .val (.int cs0), .val (.int b0), .val (.int b1), .val (.int b2), .val (.int b3), .val (.int (2 : Int32)), .val (.int (4 : Int32)), .val (.int cap), .val (.int sel), .val (.int t), .val (.ref b325), .unset, .unset] [(.int (own_all 4 2 t b0 b1 b2 b3))])) st407 ?_
        exact cut189 b0 b1 b2 b3 (2 : Int32) (4 : Int32) cap sel t b325 (own_all 4 2 t b0 b1 b2 b3) _ z376' _ _ N407 X407 e407 f377 f379 rfl
      · clear hf1 hf2 hn1 hn2; subst q1 q2
        refine own_step (T376.setTop (mkF m 182 #[.val (.int pk), .val (.int qu), .val (.int fs0), .val (.int ls0), .val (.int cs0), .val (.int b0), .val (.int b1), .val (.int b2), .val (.int b3), .val (.int (3 : Int32)), .val (.int (4 : Int32)), .val (.int cap), .val (.int sel), .val (.int t), .val (.ref b325), .unset, .unset] [(.ref b325)])) (fun t₀ k₀ => XS.aload X376.here hx rfl (hb hby at_180) rfl rfl k₀) ?_
        refine own_step (T376.setTop (mkF m 184 #[.val (.int pk), .val (.int qu), .val (.int fs0), .val (.int ls0), .val (.int cs0), .val (.int b0), .val (.int b1), .val (.int b2), .val (.int b3), .val (.int (3 : Int32)), .val (.int (4 : Int32)), .val (.int cap), .val (.int sel), .val (.int t), .val (.ref b325), .unset, .unset] [(.int t), (.ref b325)])) (fun t₀ k₀ => XS.iload X376.here hx rfl (hb hby at_182) rfl k₀) ?_
        refine own_step (T376.setTop (mkF m 186 #[.val (.int pk), .val (.int qu), .val (.int fs0), .val (.int ls0), .val (.int cs0), .val (.int b0), .val (.int b1), .val (.int b2), .val (.int b3), .val (.int (3 : Int32)), .val (.int (4 : Int32)), .val (.int cap), .val (.int sel), .val (.int t), .val (.ref b325), .unset, .unset] [(.int (4 : Int32)), (.int t), (.ref b325)])) (fun t₀ k₀ => XS.iload X376.here hx rfl (hb hby at_184) rfl k₀) ?_
        obtain ⟨cq408, kq408, q408a, q408b, q408c⟩ := isOf hZ rfl f377
        obtain ⟨_, _, ⟨T408, L408, k408, n408⟩, -, X408, ⟨Lc408, hQ408, l408, y408, z408⟩, st408⟩ := X376.virtualBack hx (y := (⟨"com/example/notesmith/notesmith/report/LineBuffer", "indexOf", "(CI)I"⟩ : MethodName)) (z := (⟨"com/example/notesmith/notesmith/report/LineBuffer", "indexOf", "(CI)I"⟩ : MethodName)) hown (mvT hZ (hw _ (List.mem_of_getElem? (i := 44) rfl))) (mvT hZ (hw _ (List.mem_of_getElem? (i := 45) rfl))) (notFace_of_selects (args := #[]) (mvT hZ (hw _ (List.mem_of_getElem? (i := 47) rfl)))) (mvT hZ (hw _ (List.mem_of_getElem? (i := 47) rfl))) (mvT hZ (hw _ (List.mem_of_getElem? (i := 46) rfl))) (by decide) (backOf (W := 0) (rm9_4_3 l Z a0 hw [] b325 t nb367 kd368 M369 b0 b1 b2 b3 T376.heap n0 z376' f378 f379 f384 f371) hZ (hw _ (List.mem_of_getElem? (i := 48) rfl)) (hw _ (List.mem_of_getElem? (i := 3) rfl)) (by decide) (by decide)) q408a q408c (g := (mkF m 186 #[.val (.int pk), .val (.int qu), .val (.int fs0), .val (.int ls0), .val (.int cs0), .val (.int b0), .val (.int b1), .val (.int b2), .val (.int b3), .val (.int (3 : Int32)), .val (.int (4 : Int32)), .val (.int cap), .val (.int sel), .val (.int t), .val (.ref b325), .unset, .unset] [(.int (4 : Int32)), (.int t), (.ref b325)])) rfl (by rw [hml]; rfl) (Steps.refl _) (argsL := [(.int t), (.int (4 : Int32))]) (rest := []) (lenOf pd_6 rfl) rfl (by show 2 * 0 + _ ≤ _; exact Nat.le_of_eq rfl) (hb hby at_186) (fun _ _ => ⟨rfl, rfl, (by decide : 6 + 0 ≤ _), (by decide : 42 + 0 ≤ _)⟩)
        dsimp only [Pt.U, Pt.locs, Pt.cells, Pt.slots] at X408 l408 y408 z408 st408 hQ408
        subst l408 y408 z408
        obtain ⟨rfl, N408q, e408⟩ := hQ408
        have N408 := Fr.app N376 N408q
        refine own_comes (T408.setTop (mkF m 189 #[.val (.int pk), .val (.int qu), .val (.int fs0), .val (.int ls0), .val (.int cs0), .val (.int b0), .val (.int b1), .val (.int b2), .val (.int b3), .val (.int (3 : Int32)), .val (.int (4 : Int32)), .val (.int cap), .val (.int sel), .val (.int t), .val (.ref b325), .unset, .unset] [(.int (own_all 4 3 t b0 b1 b2 b3))])) st408 ?_
        exact cut189 b0 b1 b2 b3 (3 : Int32) (4 : Int32) cap sel t b325 (own_all 4 3 t b0 b1 b2 b3) _ z376' _ _ N408 X408 e408 f377 f379 rfl
      · clear hf1 hf2 hn1 hn2; subst q1 q2
        refine own_step (T376.setTop (mkF m 182 #[.val (.int pk), .val (.int qu), .val (.int fs0), .val (.int ls0), .val (.int cs0), .val (.int b0), .val (.int b1), .val (.int b2), .val (.int b3), .val (.int (4 : Int32)), .val (.int (4 : Int32)), .val (.int cap), .val (.int sel), .val (.int t), .val (.ref b325), .unset, .unset] [(.ref b325)])) (fun t₀ k₀ => XS.aload X376.here hx rfl (hb hby at_180) rfl rfl k₀) ?_
        refine own_step (T376.setTop (mkF m 184 #[.val (.int pk), .val (.int qu), .val (.int fs0), .val (.int ls0), .val (.int cs0), .val (.int b0), .val (.int b1), .val (.int b2), .val (.int b3), .val (.int (4 : Int32)), .val (.int (4 : Int32)), .val (.int cap), .val (.int sel), .val (.int t), .val (.ref b325), .unset, .unset] [(.int t), (.ref b325)])) (fun t₀ k₀ => XS.iload X376.here hx rfl (hb hby at_182) rfl k₀) ?_
        refine own_step (T376.setTop (mkF m 186 #[.val (.int pk), .val (.int qu), .val (.int fs0), .val (.int ls0), .val (.int cs0), .val (.int b0), .val (.int b1), .val (.int b2), .val (.int b3), .val (.int (4 : Int32)), .val (.int (4 : Int32)), .val (.int cap), .val (.int sel), .val (.int t), .val (.ref b325), .unset, .unset] [(.int (4 : Int32)), (.int t), (.ref b325)])) (fun t₀ k₀ => XS.iload X376.here hx rfl (hb hby at_184) rfl k₀) ?_
        obtain ⟨cq409, kq409, q409a, q409b, q409c⟩ := isOf hZ rfl f377
        obtain ⟨_, _, ⟨T409, L409, k409, n409⟩, -, X409, ⟨Lc409, hQ409, l409, y409, z409⟩, st409⟩ := X376.virtualBack hx (y := (⟨"com/example/notesmith/notesmith/report/LineBuffer", "indexOf", "(CI)I"⟩ : MethodName)) (z := (⟨"com/example/notesmith/notesmith/report/LineBuffer", "indexOf", "(CI)I"⟩ : MethodName)) hown (mvT hZ (hw _ (List.mem_of_getElem? (i := 44) rfl))) (mvT hZ (hw _ (List.mem_of_getElem? (i := 45) rfl))) (notFace_of_selects (args := #[]) (mvT hZ (hw _ (List.mem_of_getElem? (i := 47) rfl)))) (mvT hZ (hw _ (List.mem_of_getElem? (i := 47) rfl))) (mvT hZ (hw _ (List.mem_of_getElem? (i := 46) rfl))) (by decide) (backOf (W := 0) (rm9_4_4 l Z a0 hw [] b325 t nb367 kd368 M369 b0 b1 b2 b3 T376.heap n0 z376' f378 f379 f384 f371) hZ (hw _ (List.mem_of_getElem? (i := 48) rfl)) (hw _ (List.mem_of_getElem? (i := 3) rfl)) (by decide) (by decide)) q409a q409c (g := (mkF m 186 #[.val (.int pk), .val (.int qu), .val (.int fs0), .val (.int ls0), .val (.int cs0), .val (.int b0), .val (.int b1), .val (.int b2), .val (.int b3), .val (.int (4 : Int32)), .val (.int (4 : Int32)), .val (.int cap), .val (.int sel), .val (.int t), .val (.ref b325), .unset, .unset] [(.int (4 : Int32)), (.int t), (.ref b325)])) rfl (by rw [hml]; rfl) (Steps.refl _) (argsL := [(.int t), (.int (4 : Int32))]) (rest := []) (lenOf pd_6 rfl) rfl (by show 2 * 0 + _ ≤ _; exact Nat.le_of_eq rfl) (hb hby at_186) (fun _ _ => ⟨rfl, rfl, (by decide : 6 + 0 ≤ _), (by decide : 42 + 0 ≤ _)⟩)
        dsimp only [Pt.U, Pt.locs, Pt.cells, Pt.slots] at X409 l409 y409 z409 st409 hQ409
        subst l409 y409 z409
        obtain ⟨rfl, N409q, e409⟩ := hQ409
        have N409 := Fr.app N376 N409q
        refine own_comes (T409.setTop (mkF m 189 #[.val (.int pk), .val (.int qu), .val (.int fs0), .val (.int ls0), .val (.int cs0), .val (.int b0), .val (.int b1), .val (.int b2), .val (.int b3), .val (.int (4 : Int32)), .val (.int (4 : Int32)), .val (.int cap), .val (.int sel), .val (.int t), .val (.ref b325), .unset, .unset] [(.int (own_all 4 4 t b0 b1 b2 b3))])) st409 ?_
        exact cut189 b0 b1 b2 b3 (4 : Int32) (4 : Int32) cap sel t b325 (own_all 4 4 t b0 b1 b2 b3) _ z376' _ _ N409 X409 e409 f377 f379 rfl
    · rcases own_lit4 hn1 hn2 with q2 | q2 | q2 | q2 | q2
      · clear hf1 hf2 hn1 hn2; subst q1 q2
        refine own_step (T376.setTop (mkF m 182 #[.val (.int pk), .val (.int qu), .val (.int fs0), .val (.int ls0), .val (.int cs0), .val (.int b0), .val (.int b1), .val (.int b2), .val (.int b3), .val (.int (0 : Int32)), .val (.int (5 : Int32)), .val (.int cap), .val (.int sel), .val (.int t), .val (.ref b325), .unset, .unset] [(.ref b325)])) (fun t₀ k₀ => XS.aload X376.here hx rfl (hb hby at_180) rfl rfl k₀) ?_
        refine own_step (T376.setTop (mkF m 184 #[.val (.int pk), .val (.int qu), .val (.int fs0), .val (.int ls0), .val (.int cs0), .val (.int b0), .val (.int b1), .val (.int b2), .val (.int b3), .val (.int (0 : Int32)), .val (.int (5 : Int32)), .val (.int cap), .val (.int sel), .val (.int t), .val (.ref b325), .unset, .unset] [(.int t), (.ref b325)])) (fun t₀ k₀ => XS.iload X376.here hx rfl (hb hby at_182) rfl k₀) ?_
        refine own_step (T376.setTop (mkF m 186 #[.val (.int pk), .val (.int qu), .val (.int fs0), .val (.int ls0), .val (.int cs0), .val (.int b0), .val (.int b1), .val (.int b2), .val (.int b3), .val (.int (0 : Int32)), .val (.int (5 : Int32)), .val (.int cap), .val (.int sel), .val (.int t), .val (.ref b325), .unset, .unset] [(.int (5 : Int32)), (.int t), (.ref b325)])) (fun t₀ k₀ => XS.iload X376.here hx rfl (hb hby at_184) rfl k₀) ?_
        obtain ⟨cq410, kq410, q410a, q410b, q410c⟩ := isOf hZ rfl f377
        obtain ⟨_, _, ⟨T410, L410, k410, n410⟩, -, X410, ⟨Lc410, hQ410, l410, y410, z410⟩, st410⟩ := X376.virtualBack hx (y := (⟨"com/example/notesmith/notesmith/report/LineBuffer", "indexOf", "(CI)I"⟩ : MethodName)) (z := (⟨"com/example/notesmith/notesmith/report/LineBuffer", "indexOf", "(CI)I"⟩ : MethodName)) hown (mvT hZ (hw _ (List.mem_of_getElem? (i := 44) rfl))) (mvT hZ (hw _ (List.mem_of_getElem? (i := 45) rfl))) (notFace_of_selects (args := #[]) (mvT hZ (hw _ (List.mem_of_getElem? (i := 47) rfl)))) (mvT hZ (hw _ (List.mem_of_getElem? (i := 47) rfl))) (mvT hZ (hw _ (List.mem_of_getElem? (i := 46) rfl))) (by decide) (backOf (W := 0) (rm9_5_0 l Z a0 hw [] b325 t nb367 kd368 M369 b0 b1 b2 b3 T376.heap n0 z376' f378 f379 f384 f371) hZ (hw _ (List.mem_of_getElem? (i := 48) rfl)) (hw _ (List.mem_of_getElem? (i := 3) rfl)) (by decide) (by decide)) q410a q410c (g := (mkF m 186 #[.val (.int pk), .val (.int qu), .val (.int fs0), .val (.int ls0), .val (.int cs0), .val (.int b0), .val (.int b1), .val (.int b2), .val (.int b3), .val (.int (0 : Int32)), .val (.int (5 : Int32)), .val (.int cap), .val (.int sel), .val (.int t), .val (.ref b325), .unset, .unset] [(.int (5 : Int32)), (.int t), (.ref b325)])) rfl (by rw [hml]; rfl) (Steps.refl _) (argsL := [(.int t), (.int (5 : Int32))]) (rest := []) (lenOf pd_6 rfl) rfl (by show 2 * 0 + _ ≤ _; exact Nat.le_of_eq rfl) (hb hby at_186) (fun _ _ => ⟨rfl, rfl, (by decide : 6 + 0 ≤ _), (by decide : 42 + 0 ≤ _)⟩)
        dsimp only [Pt.U, Pt.locs, Pt.cells, Pt.slots] at X410 l410 y410 z410 st410 hQ410
        subst l410 y410 z410
        obtain ⟨rfl, N410q, e410⟩ := hQ410
        have N410 := Fr.app N376 N410q
        refine own_comes (T410.setTop (mkF m 189 #[.val (.int pk), .val (.int qu), .val (.int fs0), .val (.int ls0), .val (.int cs0), .val (.int b0), .val (.int b1), .val (.int b2), .val (.int b3), .val (.int (0 : Int32)), .val (.int (5 : Int32)), .val (.int cap), .val (.int sel), .val (.int t), .val (.ref b325), .unset, .unset] [(.int (own_all 5 0 t b0 b1 b2 b3))])) st410 ?_
        exact cut189 b0 b1 b2 b3 (0 : Int32) (5 : Int32) cap sel t b325 (own_all 5 0 t b0 b1 b2 b3) _ z376' _ _ N410 X410 e410 f377 f379 rfl
      · clear hf1 hf2 hn1 hn2; subst q1 q2
        refine own_step (T376.setTop (mkF m 182 #[.val (.int pk), .val (.int qu), .val (.int fs0), .val (.int ls0), .val (.int cs0), .val (.int b0), .val (.int b1), .val (.int b2), .val (.int b3), .val (.int (1 : Int32)), .val (.int (5 : Int32)), .val (.int cap), .val (.int sel), .val (.int t), .val (.ref b325), .unset, .unset] [(.ref b325)])) (fun t₀ k₀ => XS.aload X376.here hx rfl (hb hby at_180) rfl rfl k₀) ?_
        refine own_step (T376.setTop (mkF m 184 #[.val (.int pk), .val (.int qu), .val (.int fs0), .val (.int ls0), .val (.int cs0), .val (.int b0), .val (.int b1), .val (.int b2), .val (.int b3), .val (.int (1 : Int32)), .val (.int (5 : Int32)), .val (.int cap), .val (.int sel), .val (.int t), .val (.ref b325), .unset, .unset] [(.int t), (.ref b325)])) (fun t₀ k₀ => XS.iload X376.here hx rfl (hb hby at_182) rfl k₀) ?_
        refine own_step (T376.setTop (mkF m 186 #[.val (.int pk), .val (.int qu), .val (.int fs0), .val (.int ls0), .val (.int cs0), .val (.int b0), .val (.int b1), .val (.int b2), .val (.int b3), .val (.int (1 : Int32)), .val (.int (5 : Int32)), .val (.int cap), .val (.int sel), .val (.int t), .val (.ref b325), .unset, .unset] [(.int (5 : Int32)), (.int t), (.ref b325)])) (fun t₀ k₀ => XS.iload X376.here hx rfl (hb hby at_184) rfl k₀) ?_
        obtain ⟨cq411, kq411, q411a, q411b, q411c⟩ := isOf hZ rfl f377
        obtain ⟨_, _, ⟨T411, L411, k411, n411⟩, -, X411, ⟨Lc411, hQ411, l411, y411, z411⟩, st411⟩ := X376.virtualBack hx (y := (⟨"com/example/notesmith/notesmith/report/LineBuffer", "indexOf", "(CI)I"⟩ : MethodName)) (z := (⟨"com/example/notesmith/notesmith/report/LineBuffer", "indexOf", "(CI)I"⟩ : MethodName)) hown (mvT hZ (hw _ (List.mem_of_getElem? (i := 44) rfl))) (mvT hZ (hw _ (List.mem_of_getElem? (i := 45) rfl))) (notFace_of_selects (args := #[]) (mvT hZ (hw _ (List.mem_of_getElem? (i := 47) rfl)))) (mvT hZ (hw _ (List.mem_of_getElem? (i := 47) rfl))) (mvT hZ (hw _ (List.mem_of_getElem? (i := 46) rfl))) (by decide) (backOf (W := 0) (rm9_5_1 l Z a0 hw [] b325 t nb367 kd368 M369 b0 b1 b2 b3 T376.heap n0 z376' f378 f379 f384 f371) hZ (hw _ (List.mem_of_getElem? (i := 48) rfl)) (hw _ (List.mem_of_getElem? (i := 3) rfl)) (by decide) (by decide)) q411a q411c (g := (mkF m 186 #[.val (.int pk), .val (.int qu), .val (.int fs0), .val (.int ls0), .val (.int cs0), .val (.int b0), .val (.int b1), .val (.int b2), .val (.int b3), .val (.int (1 : Int32)), .val (.int (5 : Int32)), .val (.int cap), .val (.int sel), .val (.int t), .val (.ref b325), .unset, .unset] [(.int (5 : Int32)), (.int t), (.ref b325)])) rfl (by rw [hml]; rfl) (Steps.refl _) (argsL := [(.int t), (.int (5 : Int32))]) (rest := []) (lenOf pd_6 rfl) rfl (by show 2 * 0 + _ ≤ _; exact Nat.le_of_eq rfl) (hb hby at_186) (fun _ _ => ⟨rfl, rfl, (by decide : 6 + 0 ≤ _), (by decide : 42 + 0 ≤ _)⟩)
        dsimp only [Pt.U, Pt.locs, Pt.cells, Pt.slots] at X411 l411 y411 z411 st411 hQ411
        subst l411 y411 z411
        obtain ⟨rfl, N411q, e411⟩ := hQ411
        have N411 := Fr.app N376 N411q
        refine own_comes (T411.setTop (mkF m 189 #[.val (.int pk), .val (.int qu), .val (.int fs0), .val (.int ls0), .val (.int cs0), .val (.int b0), .val (.int b1), .val (.int b2), .val (.int b3), .val (.int (1 : Int32)), .val (.int (5 : Int32)), .val (.int cap), .val (.int sel), .val (.int t), .val (.ref b325), .unset, .unset] [(.int (own_all 5 1 t b0 b1 b2 b3))])) st411 ?_
        exact cut189 b0 b1 b2 b3 (1 : Int32) (5 : Int32) cap sel t b325 (own_all 5 1 t b0 b1 b2 b3) _ z376' _ _ N411 X411 e411 f377 f379 rfl
      · clear hf1 hf2 hn1 hn2; subst q1 q2
        refine own_step (T376.setTop (mkF m 182 #[.val (.int pk), .val (.int qu), .val (.int fs0), .val (.int ls0), .val (.int cs0), .val (.int b0), .val (.int b1), .val (.int b2), .val (.int b3), .val (.int (2 : Int32)), .val (.int (5 : Int32)), .val (.int cap), .val (.int sel), .val (.int t), .val (.ref b325), .unset, .unset] [(.ref b325)])) (fun t₀ k₀ => XS.aload X376.here hx rfl (hb hby at_180) rfl rfl k₀) ?_
        refine own_step (T376.setTop (mkF m 184 #[.val (.int pk), .val (.int qu), .val (.int fs0), .val (.int ls0), .val (.int cs0), .val (.int b0), .val (.int b1), .val (.int b2), .val (.int b3), .val (.int (2 : Int32)), .val (.int (5 : Int32)), .val (.int cap), .val (.int sel), .val (.int t), .val (.ref b325), .unset, .unset] [(.int t), (.ref b325)])) (fun t₀ k₀ => XS.iload X376.here hx rfl (hb hby at_182) rfl k₀) ?_
        refine own_step (T376.setTop (mkF m 186 #[.val (.int pk), .val (.int qu), .val (.int fs0), .val (.int ls0), .val (.int cs0), .val (.int b0), .val (.int b1), .val (.int b2), .val (.int b3), .val (.int (2 : Int32)), .val (.int (5 : Int32)), .val (.int cap), .val (.int sel), .val (.int t), .val (.ref b325), .unset, .unset] [(.int (5 : Int32)), (.int t), (.ref b325)])) (fun t₀ k₀ => XS.iload X376.here hx rfl (hb hby at_184) rfl k₀) ?_
        obtain ⟨cq412, kq412, q412a, q412b, q412c⟩ := isOf hZ rfl f377
        obtain ⟨_, _, ⟨T412, L412, k412, n412⟩, -, X412, ⟨Lc412, hQ412, l412, y412, z412⟩, st412⟩ := X376.virtualBack hx (y := (⟨"com/example/notesmith/notesmith/report/LineBuffer", "indexOf", "(CI)I"⟩ : MethodName)) (z := (⟨"com/example/notesmith/notesmith/report/LineBuffer", "indexOf", "(CI)I"⟩ : MethodName)) hown (mvT hZ (hw _ (List.mem_of_getElem? (i := 44) rfl))) (mvT hZ (hw _ (List.mem_of_getElem? (i := 45) rfl))) (notFace_of_selects (args := #[]) (mvT hZ (hw _ (List.mem_of_getElem? (i := 47) rfl)))) (mvT hZ (hw _ (List.mem_of_getElem? (i := 47) rfl))) (mvT hZ (hw _ (List.mem_of_getElem? (i := 46) rfl))) (by decide) (backOf (W := 0) (rm9_5_2 l Z a0 hw [] b325 t nb367 kd368 M369 b0 b1 b2 b3 T376.heap n0 z376' f378 f379 f384 f371) hZ (hw _ (List.mem_of_getElem? (i := 48) rfl)) (hw _ (List.mem_of_getElem? (i := 3) rfl)) (by decide) (by decide)) q412a q412c (g := (mkF m 186 #[.val (.int pk), .val (.int qu), .val (.int fs0), .val (.int ls0), .val (.int cs0), .val (.int b0), .val (.int b1), .val (.int b2), .val (.int b3), .val (.int (2 : Int32)), .val (.int (5 : Int32)), .val (.int cap), .val (.int sel), .val (.int t), .val (.ref b325), .unset, .unset] [(.int (5 : Int32)), (.int t), (.ref b325)])) rfl (by rw [hml]; rfl) (Steps.refl _) (argsL := [(.int t), (.int (5 : Int32))]) (rest := []) (lenOf pd_6 rfl) rfl (by show 2 * 0 + _ ≤ _; exact Nat.le_of_eq rfl) (hb hby at_186) (fun _ _ => ⟨rfl, rfl, (by decide : 6 + 0 ≤ _), (by decide : 42 + 0 ≤ _)⟩)
        dsimp only [Pt.U, Pt.locs, Pt.cells, Pt.slots] at X412 l412 y412 z412 st412 hQ412
        subst l412 y412 z412
        obtain ⟨rfl, N412q, e412⟩ := hQ412
        have N412 := Fr.app N376 N412q
        refine own_comes (T412.setTop (mkF m 189 #[.val (.int pk), .val (.int qu), .val (.int fs0), .val (.int ls0), .val (.int cs0), .val (.int b0), .val (.int b1), .val (.int b2), .val (.int b3), .val (.int (2 : Int32)), .val (.int (5 : Int32)), .val (.int cap), .val (.int sel), .val (.int t), .val (.ref b325), .unset, .unset] [(.int (own_all 5 2 t b0 b1 b2 b3))])) st412 ?_
        exact cut189 b0 b1 b2 b3 (2 : Int32) (5 : Int32) cap sel t b325 (own_all 5 2 t b0 b1 b2 b3) _ z376' _ _ N412 X412 e412 f377 f379 rfl
      · clear hf1 hf2 hn1 hn2; subst q1 q2
        refine own_step (T376.setTop (mkF m 182 #[.val (.int pk), .val (.int qu), .val (.int fs0), .val (.int ls0), .val (.int cs0), .val (.int b0), .val (.int b1), .val (.int b2), .val (.int b3), .val (.int (3 : Int32)), .val (.int (5 : Int32)), .val (.int cap), .val (.int sel), .val (.int t), .val (.ref b325), .unset, .unset] [(.ref b325)])) (fun t₀ k₀ => XS.aload X376.here hx rfl (hb hby at_180) rfl rfl k₀) ?_
        refine own_step (T376.setTop (mkF m 184 #[.val (.int pk), .val (.int qu), .val (.int fs0), .val (.int ls0), .val (.int cs0), .val (.int b0), .val (.int b1), .val (.int b2), .val (.int b3), .val (.int (3 : Int32)), .val (.int (5 : Int32)), .val (.int cap), .val (.int sel), .val (.int t), .val (.ref b325), .unset, .unset] [(.int t), (.ref b325)])) (fun t₀ k₀ => XS.iload X376.here hx rfl (hb hby at_182) rfl k₀) ?_
        refine own_step (T376.setTop (mkF m 186 #[.val (.int pk), .val (.int qu), .val (.int fs0), .val (.int ls0), .val (.int cs0), .val (.int b0), .val (.int b1), .val (.int b2), .val (.int b3), .val (.int (3 : Int32)), .val (.int (5 : Int32)), .val (.int cap), .val (.int sel), .val (.int t), .val (.ref b325), .unset, .unset] [(.int (5 : Int32)), (.int t), (.ref b325)])) (fun t₀ k₀ => XS.iload X376.here hx rfl (hb hby at_184) rfl k₀) ?_
        obtain ⟨cq413, kq413, q413a, q413b, q413c⟩ := isOf hZ rfl f377
        obtain ⟨_, _, ⟨T413, L413, k413, n413⟩, -, X413, ⟨Lc413, hQ413, l413, y413, z413⟩, st413⟩ := X376.virtualBack hx (y := (⟨"com/example/notesmith/notesmith/report/LineBuffer", "indexOf", "(CI)I"⟩ : MethodName)) (z := (⟨"com/example/notesmith/notesmith/report/LineBuffer", "indexOf", "(CI)I"⟩ : MethodName)) hown (mvT hZ (hw _ (List.mem_of_getElem? (i := 44) rfl))) (mvT hZ (hw _ (List.mem_of_getElem? (i := 45) rfl))) (notFace_of_selects (args := #[]) (mvT hZ (hw _ (List.mem_of_getElem? (i := 47) rfl)))) (mvT hZ (hw _ (List.mem_of_getElem? (i := 47) rfl))) (mvT hZ (hw _ (List.mem_of_getElem? (i := 46) rfl))) (by decide) (backOf (W := 0) (rm9_5_3 l Z a0 hw [] b325 t nb367 kd368 M369 b0 b1 b2 b3 T376.heap n0 z376' f378 f379 f384 f371) hZ (hw _ (List.mem_of_getElem? (i := 48) rfl)) (hw _ (List.mem_of_getElem? (i := 3) rfl)) (by decide) (by decide)) q413a q413c (g := (mkF m 186 #[.val (.int pk), .val (.int qu), .val (.int fs0), .val (.int ls0), .val (.int cs0), .val (.int b0), .val (.int b1), .val (.int b2), .val (.int b3), .val (.int (3 : Int32)), .val (.int (5 : Int32)), .val (.int cap), .val (.int sel), .val (.int t), .val (.ref b325), .unset, .unset] [(.int (5 : Int32)), (.int t), (.ref b325)])) rfl (by rw [hml]; rfl) (Steps.refl _) (argsL := [(.int t), (.int (5 : Int32))]) (rest := []) (lenOf pd_6 rfl) rfl (by show 2 * 0 + _ ≤ _; exact Nat.le_of_eq rfl) (hb hby at_186) (fun _ _ => ⟨rfl, rfl, (by decide : 6 + 0 ≤ _), (by decide : 42 + 0 ≤ _)⟩)
        dsimp only [Pt.U, Pt.locs, Pt.cells, Pt.slots] at X413 l413 y413 z413 st413 hQ413
        subst l413 y413 z413
        obtain ⟨rfl, N413q, e413⟩ := hQ413
        have N413 := Fr.app N376 N413q
        refine own_comes (T413.setTop (mkF m 189 #[.val (.int pk), .val (.int qu), .val (.int fs0), .val (.int ls0), .val (.int cs0), .val (.int b0), .val (.int b1), .val (.int b2), .val (.int b3), .val (.int (3 : Int32)), .val (.int (5 : Int32)), .val (.int cap), .val (.int sel), .val (.int t), .val (.ref b325), .unset, .unset] [(.int (own_all 5 3 t b0 b1 b2 b3))])) st413 ?_
        exact cut189 b0 b1 b2 b3 (3 : Int32) (5 : Int32) cap sel t b325 (own_all 5 3 t b0 b1 b2 b3) _ z376' _ _ N413 X413 e413 f377 f379 rfl
      · clear hf1 hf2 hn1 hn2; subst q1 q2
        refine own_step (T376.setTop (mkF m 182 #[.val (.int pk), .val (.int qu), .val (.int fs0), .val (.int ls0), .val (.int cs0), .val (.int b0), .val (.int b1), .val (.int b2), .val (.int b3), .val (.int (4 : Int32)), .val (.int (5 : Int32)), .val (.int cap), .val (.int sel), .val (.int t), .val (.ref b325), .unset, .unset] [(.ref b325)])) (fun t₀ k₀ => XS.aload X376.here hx rfl (hb hby at_180) rfl rfl k₀) ?_
        refine own_step (T376.setTop (mkF m 184 #[.val (.int pk), .val (.int qu), .val (.int fs0), .val (.int ls0), .val (.int cs0), .val (.int b0), .val (.int b1), .val (.int b2), .val (.int b3), .val (.int (4 : Int32)), .val (.int (5 : Int32)), .val (.int cap), .val (.int sel), .val (.int t), .val (.ref b325), .unset, .unset] [(.int t), (.ref b325)])) (fun t₀ k₀ => XS.iload X376.here hx rfl (hb hby at_182) rfl k₀) ?_
        refine own_step (T376.setTop (mkF m 186 #[.val (.int pk), .val (.int qu), .val (.int fs0), .val (.int ls0), .val (.int cs0), .val (.int b0), .val (.int b1), .val (.int b2), .val (.int b3), .val (.int (4 : Int32)), .val (.int (5 : Int32)), .val (.int cap), .val (.int sel), .val (.int t), .val (.ref b325), .unset, .unset] [(.int (5 : Int32)), (.int t), (.ref b325)])) (fun t₀ k₀ => XS.iload X376.here hx rfl (hb hby at_184) rfl k₀) ?_
        obtain ⟨cq414, kq414, q414a, q414b, q414c⟩ := isOf hZ rfl f377
        obtain ⟨_, _, ⟨T414, L414, k414, n414⟩, -, X414, ⟨Lc414, hQ414, l414, y414, z414⟩, st414⟩ := X376.virtualBack hx (y := (⟨"com/example/notesmith/notesmith/report/LineBuffer", "indexOf", "(CI)I"⟩ : MethodName)) (z := (⟨"com/example/notesmith/notesmith/report/LineBuffer", "indexOf", "(CI)I"⟩ : MethodName)) hown (mvT hZ (hw _ (List.mem_of_getElem? (i := 44) rfl))) (mvT hZ (hw _ (List.mem_of_getElem? (i := 45) rfl))) (notFace_of_selects (args := #[]) (mvT hZ (hw _ (List.mem_of_getElem? (i := 47) rfl)))) (mvT hZ (hw _ (List.mem_of_getElem? (i := 47) rfl))) (mvT hZ (hw _ (List.mem_of_getElem? (i := 46) rfl))) (by decide) (backOf (W := 0) (rm9_5_4 l Z a0 hw [] b325 t nb367 kd368 M369 b0 b1 b2 b3 T376.heap n0 z376' f378 f379 f384 f371) hZ (hw _ (List.mem_of_getElem? (i := 48) rfl)) (hw _ (List.mem_of_getElem? (i := 3) rfl)) (by decide) (by decide)) q414a q414c (g := (mkF m 186 #[.val (.int pk), .val (.int qu), .val (.int fs0), .val (.int ls0), .val (.int cs0), .val (.int b0), .val (.int b1), .val (.int b2), .val (.int b3), .val (.int (4 : Int32)), .val (.int (5 : Int32)), .val (.int cap), .val (.int sel), .val (.int t), .val (.ref b325), .unset, .unset] [(.int (5 : Int32)), (.int t), (.ref b325)])) rfl (by rw [hml]; rfl) (Steps.refl _) (argsL := [(.int t), (.int (5 : Int32))]) (rest := []) (lenOf pd_6 rfl) rfl (by show 2 * 0 + _ ≤ _; exact Nat.le_of_eq rfl) (hb hby at_186) (fun _ _ => ⟨rfl, rfl, (by decide : 6 + 0 ≤ _), (by decide : 42 + 0 ≤ _)⟩)
        dsimp only [Pt.U, Pt.locs, Pt.cells, Pt.slots] at X414 l414 y414 z414 st414 hQ414
        subst l414 y414 z414
        obtain ⟨rfl, N414q, e414⟩ := hQ414
        have N414 := Fr.app N376 N414q
        refine own_comes (T414.setTop (mkF m 189 #[.val (.int pk), .val (.int qu), .val (.int fs0), .val (.int ls0), .val (.int cs0), .val (.int b0), .val (.int b1), .val (.int b2), .val (.int b3), .val (.int (4 : Int32)), .val (.int (5 : Int32)), .val (.int cap), .val (.int sel), .val (.int t), .val (.ref b325), .unset, .unset] [(.int (own_all 5 4 t b0 b1 b2 b3))])) st414 ?_
        exact cut189 b0 b1 b2 b3 (4 : Int32) (5 : Int32) cap sel t b325 (own_all 5 4 t b0 b1 b2 b3) _ z376' _ _ N414 X414 e414 f377 f379 rfl
  show own_Go p e below (fun s₂ o₉ => s₂.status = .running ∧ Ended s₂ below o₉ ∧ ∃ v L, o₉ = .returned v ∧ Q_rm0 Z pk qu fs0 ls0 cs0 h0 n0 v s₂.heap L ∧ FrameEnd s o₉ s₂ L room_1.cells room_1.slots) (s₁.setTop (entryFrame m #[(.int pk), (.int qu), (.int fs0), (.int ls0), (.int cs0)] maxLocals))
  rw [ef_rm0 m pk qu fs0 ls0 cs0]
  refine own_step (s₁.setTop (mkF m 1 #[.val (.int pk), .val (.int qu), .val (.int fs0), .val (.int ls0), .val (.int cs0), .unset, .unset, .unset, .unset, .unset, .unset, .unset, .unset, .unset, .unset, .unset, .unset] [(.int pk)])) (fun t₀ k₀ => XS.iloadN X0.here hx rfl (hb hby at_0) rfl k₀) ?_
  refine own_step (s₁.setTop (mkF m 3 #[.val (.int pk), .val (.int qu), .val (.int fs0), .val (.int ls0), .val (.int cs0), .unset, .unset, .unset, .unset, .unset, .unset, .unset, .unset, .unset, .unset, .unset, .unset] [(.int (127 : Int32)), (.int pk)])) (fun t₀ k₀ => XS.bipush X0.here hx rfl (hb hby at_1) k₀) ?_
  refine own_step (s₁.setTop (mkF m 4 #[.val (.int pk), .val (.int qu), .val (.int fs0), .val (.int ls0), .val (.int cs0), .unset, .unset, .unset, .unset, .unset, .unset, .unset, .unset, .unset, .unset, .unset, .unset] [(.int (pk &&& (127 : Int32)))])) (fun t₀ k₀ => XS.iand X0.here hx rfl (hb hby at_3) rfl k₀) ?_
  refine own_step (s₁.setTop (mkF m 5 #[.val (.int pk), .val (.int qu), .val (.int fs0), .val (.int ls0), .val (.int cs0), .unset, .unset, .unset, .unset, .unset, .unset, .unset, .unset, .unset, .unset, .unset, .unset] [(.int ((pk &&& (127 : Int32)).toUInt32.toUInt16.toUInt32.toInt32))])) (fun t₀ k₀ => XS.i2c X0.here hx rfl (hb hby at_4) rfl k₀) ?_
  refine own_step (s₁.setTop (mkF m 7 #[.val (.int pk), .val (.int qu), .val (.int fs0), .val (.int ls0), .val (.int cs0), .val (.int ((pk &&& (127 : Int32)).toUInt32.toUInt16.toUInt32.toInt32)), .unset, .unset, .unset, .unset, .unset, .unset, .unset, .unset, .unset, .unset, .unset] [])) (fun t₀ k₀ => XS.istore X0.here hx rfl (hb hby at_5) rfl (l' := #[.val (.int pk), .val (.int qu), .val (.int fs0), .val (.int ls0), .val (.int cs0), .val (.int ((pk &&& (127 : Int32)).toUInt32.toUInt16.toUInt32.toInt32)), .unset, .unset, .unset, .unset, .unset, .unset, .unset, .unset, .unset, .unset, .unset]) rfl k₀) ?_
  refine own_step (s₁.setTop (mkF m 8 #[.val (.int pk), .val (.int qu), .val (.int fs0), .val (.int ls0), .val (.int cs0), .val (.int ((pk &&& (127 : Int32)).toUInt32.toUInt16.toUInt32.toInt32)), .unset, .unset, .unset, .unset, .unset, .unset, .unset, .unset, .unset, .unset, .unset] [(.int pk)])) (fun t₀ k₀ => XS.iloadN X0.here hx rfl (hb hby at_7) rfl k₀) ?_
  refine own_step (s₁.setTop (mkF m 10 #[.val (.int pk), .val (.int qu), .val (.int fs0), .val (.int ls0), .val (.int cs0), .val (.int ((pk &&& (127 : Int32)).toUInt32.toUInt16.toUInt32.toInt32)), .unset, .unset, .unset, .unset, .unset, .unset, .unset, .unset, .unset, .unset, .unset] [(.int (8 : Int32)), (.int pk)])) (fun t₀ k₀ => XS.bipush X0.here hx rfl (hb hby at_8) k₀) ?_
  refine own_step (s₁.setTop (mkF m 11 #[.val (.int pk), .val (.int qu), .val (.int fs0), .val (.int ls0), .val (.int cs0), .val (.int ((pk &&& (127 : Int32)).toUInt32.toUInt16.toUInt32.toInt32)), .unset, .unset, .unset, .unset, .unset, .unset, .unset, .unset, .unset, .unset, .unset] [(.int ((pk.toUInt32 >>> ((8 : Int32) &&& 31).toUInt32).toInt32))])) (fun t₀ k₀ => XS.iushr X0.here hx rfl (hb hby at_10) rfl k₀) ?_
  refine own_step (s₁.setTop (mkF m 13 #[.val (.int pk), .val (.int qu), .val (.int fs0), .val (.int ls0), .val (.int cs0), .val (.int ((pk &&& (127 : Int32)).toUInt32.toUInt16.toUInt32.toInt32)), .unset, .unset, .unset, .unset, .unset, .unset, .unset, .unset, .unset, .unset, .unset] [(.int (127 : Int32)), (.int ((pk.toUInt32 >>> ((8 : Int32) &&& 31).toUInt32).toInt32))])) (fun t₀ k₀ => XS.bipush X0.here hx rfl (hb hby at_11) k₀) ?_
  refine own_step (s₁.setTop (mkF m 14 #[.val (.int pk), .val (.int qu), .val (.int fs0), .val (.int ls0), .val (.int cs0), .val (.int ((pk &&& (127 : Int32)).toUInt32.toUInt16.toUInt32.toInt32)), .unset, .unset, .unset, .unset, .unset, .unset, .unset, .unset, .unset, .unset, .unset] [(.int (((pk.toUInt32 >>> ((8 : Int32) &&& 31).toUInt32).toInt32) &&& (127 : Int32)))])) (fun t₀ k₀ => XS.iand X0.here hx rfl (hb hby at_13) rfl k₀) ?_
  refine own_step (s₁.setTop (mkF m 15 #[.val (.int pk), .val (.int qu), .val (.int fs0), .val (.int ls0), .val (.int cs0), .val (.int ((pk &&& (127 : Int32)).toUInt32.toUInt16.toUInt32.toInt32)), .unset, .unset, .unset, .unset, .unset, .unset, .unset, .unset, .unset, .unset, .unset] [(.int ((((pk.toUInt32 >>> ((8 : Int32) &&& 31).toUInt32).toInt32) &&& (127 : Int32)).toUInt32.toUInt16.toUInt32.toInt32))])) (fun t₀ k₀ => XS.i2c X0.here hx rfl (hb hby at_14) rfl k₀) ?_
  refine own_step (s₁.setTop (mkF m 17 #[.val (.int pk), .val (.int qu), .val (.int fs0), .val (.int ls0), .val (.int cs0), .val (.int ((pk &&& (127 : Int32)).toUInt32.toUInt16.toUInt32.toInt32)), .val (.int ((((pk.toUInt32 >>> ((8 : Int32) &&& 31).toUInt32).toInt32) &&& (127 : Int32)).toUInt32.toUInt16.toUInt32.toInt32)), .unset, .unset, .unset, .unset, .unset, .unset, .unset, .unset, .unset, .unset] [])) (fun t₀ k₀ => XS.istore X0.here hx rfl (hb hby at_15) rfl (l' := #[.val (.int pk), .val (.int qu), .val (.int fs0), .val (.int ls0), .val (.int cs0), .val (.int ((pk &&& (127 : Int32)).toUInt32.toUInt16.toUInt32.toInt32)), .val (.int ((((pk.toUInt32 >>> ((8 : Int32) &&& 31).toUInt32).toInt32) &&& (127 : Int32)).toUInt32.toUInt16.toUInt32.toInt32)), .unset, .unset, .unset, .unset, .unset, .unset, .unset, .unset, .unset, .unset]) rfl k₀) ?_
  refine own_step (s₁.setTop (mkF m 18 #[.val (.int pk), .val (.int qu), .val (.int fs0), .val (.int ls0), .val (.int cs0), .val (.int ((pk &&& (127 : Int32)).toUInt32.toUInt16.toUInt32.toInt32)), .val (.int ((((pk.toUInt32 >>> ((8 : Int32) &&& 31).toUInt32).toInt32) &&& (127 : Int32)).toUInt32.toUInt16.toUInt32.toInt32)), .unset, .unset, .unset, .unset, .unset, .unset, .unset, .unset, .unset, .unset] [(.int pk)])) (fun t₀ k₀ => XS.iloadN X0.here hx rfl (hb hby at_17) rfl k₀) ?_
  refine own_step (s₁.setTop (mkF m 20 #[.val (.int pk), .val (.int qu), .val (.int fs0), .val (.int ls0), .val (.int cs0), .val (.int ((pk &&& (127 : Int32)).toUInt32.toUInt16.toUInt32.toInt32)), .val (.int ((((pk.toUInt32 >>> ((8 : Int32) &&& 31).toUInt32).toInt32) &&& (127 : Int32)).toUInt32.toUInt16.toUInt32.toInt32)), .unset, .unset, .unset, .unset, .unset, .unset, .unset, .unset, .unset, .unset] [(.int (16 : Int32)), (.int pk)])) (fun t₀ k₀ => XS.bipush X0.here hx rfl (hb hby at_18) k₀) ?_
  refine own_step (s₁.setTop (mkF m 21 #[.val (.int pk), .val (.int qu), .val (.int fs0), .val (.int ls0), .val (.int cs0), .val (.int ((pk &&& (127 : Int32)).toUInt32.toUInt16.toUInt32.toInt32)), .val (.int ((((pk.toUInt32 >>> ((8 : Int32) &&& 31).toUInt32).toInt32) &&& (127 : Int32)).toUInt32.toUInt16.toUInt32.toInt32)), .unset, .unset, .unset, .unset, .unset, .unset, .unset, .unset, .unset, .unset] [(.int ((pk.toUInt32 >>> ((16 : Int32) &&& 31).toUInt32).toInt32))])) (fun t₀ k₀ => XS.iushr X0.here hx rfl (hb hby at_20) rfl k₀) ?_
  refine own_step (s₁.setTop (mkF m 23 #[.val (.int pk), .val (.int qu), .val (.int fs0), .val (.int ls0), .val (.int cs0), .val (.int ((pk &&& (127 : Int32)).toUInt32.toUInt16.toUInt32.toInt32)), .val (.int ((((pk.toUInt32 >>> ((8 : Int32) &&& 31).toUInt32).toInt32) &&& (127 : Int32)).toUInt32.toUInt16.toUInt32.toInt32)), .unset, .unset, .unset, .unset, .unset, .unset, .unset, .unset, .unset, .unset] [(.int (127 : Int32)), (.int ((pk.toUInt32 >>> ((16 : Int32) &&& 31).toUInt32).toInt32))])) (fun t₀ k₀ => XS.bipush X0.here hx rfl (hb hby at_21) k₀) ?_
  refine own_step (s₁.setTop (mkF m 24 #[.val (.int pk), .val (.int qu), .val (.int fs0), .val (.int ls0), .val (.int cs0), .val (.int ((pk &&& (127 : Int32)).toUInt32.toUInt16.toUInt32.toInt32)), .val (.int ((((pk.toUInt32 >>> ((8 : Int32) &&& 31).toUInt32).toInt32) &&& (127 : Int32)).toUInt32.toUInt16.toUInt32.toInt32)), .unset, .unset, .unset, .unset, .unset, .unset, .unset, .unset, .unset, .unset] [(.int (((pk.toUInt32 >>> ((16 : Int32) &&& 31).toUInt32).toInt32) &&& (127 : Int32)))])) (fun t₀ k₀ => XS.iand X0.here hx rfl (hb hby at_23) rfl k₀) ?_
  refine own_step (s₁.setTop (mkF m 25 #[.val (.int pk), .val (.int qu), .val (.int fs0), .val (.int ls0), .val (.int cs0), .val (.int ((pk &&& (127 : Int32)).toUInt32.toUInt16.toUInt32.toInt32)), .val (.int ((((pk.toUInt32 >>> ((8 : Int32) &&& 31).toUInt32).toInt32) &&& (127 : Int32)).toUInt32.toUInt16.toUInt32.toInt32)), .unset, .unset, .unset, .unset, .unset, .unset, .unset, .unset, .unset, .unset] [(.int ((((pk.toUInt32 >>> ((16 : Int32) &&& 31).toUInt32).toInt32) &&& (127 : Int32)).toUInt32.toUInt16.toUInt32.toInt32))])) (fun t₀ k₀ => XS.i2c X0.here hx rfl (hb hby at_24) rfl k₀) ?_
  refine own_step (s₁.setTop (mkF m 27 #[.val (.int pk), .val (.int qu), .val (.int fs0), .val (.int ls0), .val (.int cs0), .val (.int ((pk &&& (127 : Int32)).toUInt32.toUInt16.toUInt32.toInt32)), .val (.int ((((pk.toUInt32 >>> ((8 : Int32) &&& 31).toUInt32).toInt32) &&& (127 : Int32)).toUInt32.toUInt16.toUInt32.toInt32)), .val (.int ((((pk.toUInt32 >>> ((16 : Int32) &&& 31).toUInt32).toInt32) &&& (127 : Int32)).toUInt32.toUInt16.toUInt32.toInt32)), .unset, .unset, .unset, .unset, .unset, .unset, .unset, .unset, .unset] [])) (fun t₀ k₀ => XS.istore X0.here hx rfl (hb hby at_25) rfl (l' := #[.val (.int pk), .val (.int qu), .val (.int fs0), .val (.int ls0), .val (.int cs0), .val (.int ((pk &&& (127 : Int32)).toUInt32.toUInt16.toUInt32.toInt32)), .val (.int ((((pk.toUInt32 >>> ((8 : Int32) &&& 31).toUInt32).toInt32) &&& (127 : Int32)).toUInt32.toUInt16.toUInt32.toInt32)), .val (.int ((((pk.toUInt32 >>> ((16 : Int32) &&& 31).toUInt32).toInt32) &&& (127 : Int32)).toUInt32.toUInt16.toUInt32.toInt32)), .unset, .unset, .unset, .unset, .unset, .unset, .unset, .unset, .unset]) rfl k₀) ?_
  refine own_step (s₁.setTop (mkF m 28 #[.val (.int pk), .val (.int qu), .val (.int fs0), .val (.int ls0), .val (.int cs0), .val (.int ((pk &&& (127 : Int32)).toUInt32.toUInt16.toUInt32.toInt32)), .val (.int ((((pk.toUInt32 >>> ((8 : Int32) &&& 31).toUInt32).toInt32) &&& (127 : Int32)).toUInt32.toUInt16.toUInt32.toInt32)), .val (.int ((((pk.toUInt32 >>> ((16 : Int32) &&& 31).toUInt32).toInt32) &&& (127 : Int32)).toUInt32.toUInt16.toUInt32.toInt32)), .unset, .unset, .unset, .unset, .unset, .unset, .unset, .unset, .unset] [(.int pk)])) (fun t₀ k₀ => XS.iloadN X0.here hx rfl (hb hby at_27) rfl k₀) ?_
  refine own_step (s₁.setTop (mkF m 30 #[.val (.int pk), .val (.int qu), .val (.int fs0), .val (.int ls0), .val (.int cs0), .val (.int ((pk &&& (127 : Int32)).toUInt32.toUInt16.toUInt32.toInt32)), .val (.int ((((pk.toUInt32 >>> ((8 : Int32) &&& 31).toUInt32).toInt32) &&& (127 : Int32)).toUInt32.toUInt16.toUInt32.toInt32)), .val (.int ((((pk.toUInt32 >>> ((16 : Int32) &&& 31).toUInt32).toInt32) &&& (127 : Int32)).toUInt32.toUInt16.toUInt32.toInt32)), .unset, .unset, .unset, .unset, .unset, .unset, .unset, .unset, .unset] [(.int (24 : Int32)), (.int pk)])) (fun t₀ k₀ => XS.bipush X0.here hx rfl (hb hby at_28) k₀) ?_
  refine own_step (s₁.setTop (mkF m 31 #[.val (.int pk), .val (.int qu), .val (.int fs0), .val (.int ls0), .val (.int cs0), .val (.int ((pk &&& (127 : Int32)).toUInt32.toUInt16.toUInt32.toInt32)), .val (.int ((((pk.toUInt32 >>> ((8 : Int32) &&& 31).toUInt32).toInt32) &&& (127 : Int32)).toUInt32.toUInt16.toUInt32.toInt32)), .val (.int ((((pk.toUInt32 >>> ((16 : Int32) &&& 31).toUInt32).toInt32) &&& (127 : Int32)).toUInt32.toUInt16.toUInt32.toInt32)), .unset, .unset, .unset, .unset, .unset, .unset, .unset, .unset, .unset] [(.int ((pk.toUInt32 >>> ((24 : Int32) &&& 31).toUInt32).toInt32))])) (fun t₀ k₀ => XS.iushr X0.here hx rfl (hb hby at_30) rfl k₀) ?_
  refine own_step (s₁.setTop (mkF m 33 #[.val (.int pk), .val (.int qu), .val (.int fs0), .val (.int ls0), .val (.int cs0), .val (.int ((pk &&& (127 : Int32)).toUInt32.toUInt16.toUInt32.toInt32)), .val (.int ((((pk.toUInt32 >>> ((8 : Int32) &&& 31).toUInt32).toInt32) &&& (127 : Int32)).toUInt32.toUInt16.toUInt32.toInt32)), .val (.int ((((pk.toUInt32 >>> ((16 : Int32) &&& 31).toUInt32).toInt32) &&& (127 : Int32)).toUInt32.toUInt16.toUInt32.toInt32)), .unset, .unset, .unset, .unset, .unset, .unset, .unset, .unset, .unset] [(.int (127 : Int32)), (.int ((pk.toUInt32 >>> ((24 : Int32) &&& 31).toUInt32).toInt32))])) (fun t₀ k₀ => XS.bipush X0.here hx rfl (hb hby at_31) k₀) ?_
  refine own_step (s₁.setTop (mkF m 34 #[.val (.int pk), .val (.int qu), .val (.int fs0), .val (.int ls0), .val (.int cs0), .val (.int ((pk &&& (127 : Int32)).toUInt32.toUInt16.toUInt32.toInt32)), .val (.int ((((pk.toUInt32 >>> ((8 : Int32) &&& 31).toUInt32).toInt32) &&& (127 : Int32)).toUInt32.toUInt16.toUInt32.toInt32)), .val (.int ((((pk.toUInt32 >>> ((16 : Int32) &&& 31).toUInt32).toInt32) &&& (127 : Int32)).toUInt32.toUInt16.toUInt32.toInt32)), .unset, .unset, .unset, .unset, .unset, .unset, .unset, .unset, .unset] [(.int (((pk.toUInt32 >>> ((24 : Int32) &&& 31).toUInt32).toInt32) &&& (127 : Int32)))])) (fun t₀ k₀ => XS.iand X0.here hx rfl (hb hby at_33) rfl k₀) ?_
  refine own_step (s₁.setTop (mkF m 35 #[.val (.int pk), .val (.int qu), .val (.int fs0), .val (.int ls0), .val (.int cs0), .val (.int ((pk &&& (127 : Int32)).toUInt32.toUInt16.toUInt32.toInt32)), .val (.int ((((pk.toUInt32 >>> ((8 : Int32) &&& 31).toUInt32).toInt32) &&& (127 : Int32)).toUInt32.toUInt16.toUInt32.toInt32)), .val (.int ((((pk.toUInt32 >>> ((16 : Int32) &&& 31).toUInt32).toInt32) &&& (127 : Int32)).toUInt32.toUInt16.toUInt32.toInt32)), .unset, .unset, .unset, .unset, .unset, .unset, .unset, .unset, .unset] [(.int ((((pk.toUInt32 >>> ((24 : Int32) &&& 31).toUInt32).toInt32) &&& (127 : Int32)).toUInt32.toUInt16.toUInt32.toInt32))])) (fun t₀ k₀ => XS.i2c X0.here hx rfl (hb hby at_34) rfl k₀) ?_
  refine own_step (s₁.setTop (mkF m 37 #[.val (.int pk), .val (.int qu), .val (.int fs0), .val (.int ls0), .val (.int cs0), .val (.int ((pk &&& (127 : Int32)).toUInt32.toUInt16.toUInt32.toInt32)), .val (.int ((((pk.toUInt32 >>> ((8 : Int32) &&& 31).toUInt32).toInt32) &&& (127 : Int32)).toUInt32.toUInt16.toUInt32.toInt32)), .val (.int ((((pk.toUInt32 >>> ((16 : Int32) &&& 31).toUInt32).toInt32) &&& (127 : Int32)).toUInt32.toUInt16.toUInt32.toInt32)), .val (.int ((((pk.toUInt32 >>> ((24 : Int32) &&& 31).toUInt32).toInt32) &&& (127 : Int32)).toUInt32.toUInt16.toUInt32.toInt32)), .unset, .unset, .unset, .unset, .unset, .unset, .unset, .unset] [])) (fun t₀ k₀ => XS.istore X0.here hx rfl (hb hby at_35) rfl (l' := #[.val (.int pk), .val (.int qu), .val (.int fs0), .val (.int ls0), .val (.int cs0), .val (.int ((pk &&& (127 : Int32)).toUInt32.toUInt16.toUInt32.toInt32)), .val (.int ((((pk.toUInt32 >>> ((8 : Int32) &&& 31).toUInt32).toInt32) &&& (127 : Int32)).toUInt32.toUInt16.toUInt32.toInt32)), .val (.int ((((pk.toUInt32 >>> ((16 : Int32) &&& 31).toUInt32).toInt32) &&& (127 : Int32)).toUInt32.toUInt16.toUInt32.toInt32)), .val (.int ((((pk.toUInt32 >>> ((24 : Int32) &&& 31).toUInt32).toInt32) &&& (127 : Int32)).toUInt32.toUInt16.toUInt32.toInt32)), .unset, .unset, .unset, .unset, .unset, .unset, .unset, .unset]) rfl k₀) ?_
  refine own_step (s₁.setTop (mkF m 38 #[.val (.int pk), .val (.int qu), .val (.int fs0), .val (.int ls0), .val (.int cs0), .val (.int ((pk &&& (127 : Int32)).toUInt32.toUInt16.toUInt32.toInt32)), .val (.int ((((pk.toUInt32 >>> ((8 : Int32) &&& 31).toUInt32).toInt32) &&& (127 : Int32)).toUInt32.toUInt16.toUInt32.toInt32)), .val (.int ((((pk.toUInt32 >>> ((16 : Int32) &&& 31).toUInt32).toInt32) &&& (127 : Int32)).toUInt32.toUInt16.toUInt32.toInt32)), .val (.int ((((pk.toUInt32 >>> ((24 : Int32) &&& 31).toUInt32).toInt32) &&& (127 : Int32)).toUInt32.toUInt16.toUInt32.toInt32)), .unset, .unset, .unset, .unset, .unset, .unset, .unset, .unset] [(.int ls0)])) (fun t₀ k₀ => XS.iloadN X0.here hx rfl (hb hby at_37) rfl k₀) ?_
  refine own_step (s₁.setTop (mkF m 40 #[.val (.int pk), .val (.int qu), .val (.int fs0), .val (.int ls0), .val (.int cs0), .val (.int ((pk &&& (127 : Int32)).toUInt32.toUInt16.toUInt32.toInt32)), .val (.int ((((pk.toUInt32 >>> ((8 : Int32) &&& 31).toUInt32).toInt32) &&& (127 : Int32)).toUInt32.toUInt16.toUInt32.toInt32)), .val (.int ((((pk.toUInt32 >>> ((16 : Int32) &&& 31).toUInt32).toInt32) &&& (127 : Int32)).toUInt32.toUInt16.toUInt32.toInt32)), .val (.int ((((pk.toUInt32 >>> ((24 : Int32) &&& 31).toUInt32).toInt32) &&& (127 : Int32)).toUInt32.toUInt16.toUInt32.toInt32)), .unset, .unset, .unset, .unset, .unset, .unset, .unset, .unset] [(.int (7 : Int32)), (.int ls0)])) (fun t₀ k₀ => XS.bipush X0.here hx rfl (hb hby at_38) k₀) ?_
  refine own_step (s₁.setTop (mkF m 41 #[.val (.int pk), .val (.int qu), .val (.int fs0), .val (.int ls0), .val (.int cs0), .val (.int ((pk &&& (127 : Int32)).toUInt32.toUInt16.toUInt32.toInt32)), .val (.int ((((pk.toUInt32 >>> ((8 : Int32) &&& 31).toUInt32).toInt32) &&& (127 : Int32)).toUInt32.toUInt16.toUInt32.toInt32)), .val (.int ((((pk.toUInt32 >>> ((16 : Int32) &&& 31).toUInt32).toInt32) &&& (127 : Int32)).toUInt32.toUInt16.toUInt32.toInt32)), .val (.int ((((pk.toUInt32 >>> ((24 : Int32) &&& 31).toUInt32).toInt32) &&& (127 : Int32)).toUInt32.toUInt16.toUInt32.toInt32)), .unset, .unset, .unset, .unset, .unset, .unset, .unset, .unset] [(.int (ls0 &&& (7 : Int32)))])) (fun t₀ k₀ => XS.iand X0.here hx rfl (hb hby at_40) rfl k₀) ?_
  refine own_step (s₁.setTop (mkF m 42 #[.val (.int pk), .val (.int qu), .val (.int fs0), .val (.int ls0), .val (.int cs0), .val (.int ((pk &&& (127 : Int32)).toUInt32.toUInt16.toUInt32.toInt32)), .val (.int ((((pk.toUInt32 >>> ((8 : Int32) &&& 31).toUInt32).toInt32) &&& (127 : Int32)).toUInt32.toUInt16.toUInt32.toInt32)), .val (.int ((((pk.toUInt32 >>> ((16 : Int32) &&& 31).toUInt32).toInt32) &&& (127 : Int32)).toUInt32.toUInt16.toUInt32.toInt32)), .val (.int ((((pk.toUInt32 >>> ((24 : Int32) &&& 31).toUInt32).toInt32) &&& (127 : Int32)).toUInt32.toUInt16.toUInt32.toInt32)), .unset, .unset, .unset, .unset, .unset, .unset, .unset, .unset] [(.int (5 : Int32)), (.int (ls0 &&& (7 : Int32)))])) (fun t₀ k₀ => XS.iconst X0.here hx rfl (hb hby at_41) k₀) ?_
  refine own_step (s₁.setTop (mkF m 43 #[.val (.int pk), .val (.int qu), .val (.int fs0), .val (.int ls0), .val (.int cs0), .val (.int ((pk &&& (127 : Int32)).toUInt32.toUInt16.toUInt32.toInt32)), .val (.int ((((pk.toUInt32 >>> ((8 : Int32) &&& 31).toUInt32).toInt32) &&& (127 : Int32)).toUInt32.toUInt16.toUInt32.toInt32)), .val (.int ((((pk.toUInt32 >>> ((16 : Int32) &&& 31).toUInt32).toInt32) &&& (127 : Int32)).toUInt32.toUInt16.toUInt32.toInt32)), .val (.int ((((pk.toUInt32 >>> ((24 : Int32) &&& 31).toUInt32).toInt32) &&& (127 : Int32)).toUInt32.toUInt16.toUInt32.toInt32)), .unset, .unset, .unset, .unset, .unset, .unset, .unset, .unset] [(.int ((ls0 &&& (7 : Int32)) % (5 : Int32)))])) (fun t₀ k₀ => Jvm.RoadKit.iremM X0 hx rfl (hb hby at_42) rfl (by decide) k₀) ?_
  refine own_step (s₁.setTop (mkF m 45 #[.val (.int pk), .val (.int qu), .val (.int fs0), .val (.int ls0), .val (.int cs0), .val (.int ((pk &&& (127 : Int32)).toUInt32.toUInt16.toUInt32.toInt32)), .val (.int ((((pk.toUInt32 >>> ((8 : Int32) &&& 31).toUInt32).toInt32) &&& (127 : Int32)).toUInt32.toUInt16.toUInt32.toInt32)), .val (.int ((((pk.toUInt32 >>> ((16 : Int32) &&& 31).toUInt32).toInt32) &&& (127 : Int32)).toUInt32.toUInt16.toUInt32.toInt32)), .val (.int ((((pk.toUInt32 >>> ((24 : Int32) &&& 31).toUInt32).toInt32) &&& (127 : Int32)).toUInt32.toUInt16.toUInt32.toInt32)), .val (.int ((ls0 &&& (7 : Int32)) % (5 : Int32))), .unset, .unset, .unset, .unset, .unset, .unset, .unset] [])) (fun t₀ k₀ => XS.istore X0.here hx rfl (hb hby at_43) rfl (l' := #[.val (.int pk), .val (.int qu), .val (.int fs0), .val (.int ls0), .val (.int cs0), .val (.int ((pk &&& (127 : Int32)).toUInt32.toUInt16.toUInt32.toInt32)), .val (.int ((((pk.toUInt32 >>> ((8 : Int32) &&& 31).toUInt32).toInt32) &&& (127 : Int32)).toUInt32.toUInt16.toUInt32.toInt32)), .val (.int ((((pk.toUInt32 >>> ((16 : Int32) &&& 31).toUInt32).toInt32) &&& (127 : Int32)).toUInt32.toUInt16.toUInt32.toInt32)), .val (.int ((((pk.toUInt32 >>> ((24 : Int32) &&& 31).toUInt32).toInt32) &&& (127 : Int32)).toUInt32.toUInt16.toUInt32.toInt32)), .val (.int ((ls0 &&& (7 : Int32)) % (5 : Int32))), .unset, .unset, .unset, .unset, .unset, .unset, .unset]) rfl k₀) ?_
  refine own_step (s₁.setTop (mkF m 46 #[.val (.int pk), .val (.int qu), .val (.int fs0), .val (.int ls0), .val (.int cs0), .val (.int ((pk &&& (127 : Int32)).toUInt32.toUInt16.toUInt32.toInt32)), .val (.int ((((pk.toUInt32 >>> ((8 : Int32) &&& 31).toUInt32).toInt32) &&& (127 : Int32)).toUInt32.toUInt16.toUInt32.toInt32)), .val (.int ((((pk.toUInt32 >>> ((16 : Int32) &&& 31).toUInt32).toInt32) &&& (127 : Int32)).toUInt32.toUInt16.toUInt32.toInt32)), .val (.int ((((pk.toUInt32 >>> ((24 : Int32) &&& 31).toUInt32).toInt32) &&& (127 : Int32)).toUInt32.toUInt16.toUInt32.toInt32)), .val (.int ((ls0 &&& (7 : Int32)) % (5 : Int32))), .unset, .unset, .unset, .unset, .unset, .unset, .unset] [(.int fs0)])) (fun t₀ k₀ => XS.iloadN X0.here hx rfl (hb hby at_45) rfl k₀) ?_
  refine own_step (s₁.setTop (mkF m 48 #[.val (.int pk), .val (.int qu), .val (.int fs0), .val (.int ls0), .val (.int cs0), .val (.int ((pk &&& (127 : Int32)).toUInt32.toUInt16.toUInt32.toInt32)), .val (.int ((((pk.toUInt32 >>> ((8 : Int32) &&& 31).toUInt32).toInt32) &&& (127 : Int32)).toUInt32.toUInt16.toUInt32.toInt32)), .val (.int ((((pk.toUInt32 >>> ((16 : Int32) &&& 31).toUInt32).toInt32) &&& (127 : Int32)).toUInt32.toUInt16.toUInt32.toInt32)), .val (.int ((((pk.toUInt32 >>> ((24 : Int32) &&& 31).toUInt32).toInt32) &&& (127 : Int32)).toUInt32.toUInt16.toUInt32.toInt32)), .val (.int ((ls0 &&& (7 : Int32)) % (5 : Int32))), .unset, .unset, .unset, .unset, .unset, .unset, .unset] [(.int (2147483647 : Int32)), (.int fs0)])) (fun t₀ k₀ => X0.ldcInt hx hown (mvT hZ (hw _ (List.mem_of_getElem? (i := 0) rfl))) (g := (mkF m 46 #[.val (.int pk), .val (.int qu), .val (.int fs0), .val (.int ls0), .val (.int cs0), .val (.int ((pk &&& (127 : Int32)).toUInt32.toUInt16.toUInt32.toInt32)), .val (.int ((((pk.toUInt32 >>> ((8 : Int32) &&& 31).toUInt32).toInt32) &&& (127 : Int32)).toUInt32.toUInt16.toUInt32.toInt32)), .val (.int ((((pk.toUInt32 >>> ((16 : Int32) &&& 31).toUInt32).toInt32) &&& (127 : Int32)).toUInt32.toUInt16.toUInt32.toInt32)), .val (.int ((((pk.toUInt32 >>> ((24 : Int32) &&& 31).toUInt32).toInt32) &&& (127 : Int32)).toUInt32.toUInt16.toUInt32.toInt32)), .val (.int ((ls0 &&& (7 : Int32)) % (5 : Int32))), .unset, .unset, .unset, .unset, .unset, .unset, .unset] [(.int fs0)])) rfl (hb hby at_46) _ k₀) ?_
  refine own_step (s₁.setTop (mkF m 49 #[.val (.int pk), .val (.int qu), .val (.int fs0), .val (.int ls0), .val (.int cs0), .val (.int ((pk &&& (127 : Int32)).toUInt32.toUInt16.toUInt32.toInt32)), .val (.int ((((pk.toUInt32 >>> ((8 : Int32) &&& 31).toUInt32).toInt32) &&& (127 : Int32)).toUInt32.toUInt16.toUInt32.toInt32)), .val (.int ((((pk.toUInt32 >>> ((16 : Int32) &&& 31).toUInt32).toInt32) &&& (127 : Int32)).toUInt32.toUInt16.toUInt32.toInt32)), .val (.int ((((pk.toUInt32 >>> ((24 : Int32) &&& 31).toUInt32).toInt32) &&& (127 : Int32)).toUInt32.toUInt16.toUInt32.toInt32)), .val (.int ((ls0 &&& (7 : Int32)) % (5 : Int32))), .unset, .unset, .unset, .unset, .unset, .unset, .unset] [(.int (fs0 &&& (2147483647 : Int32)))])) (fun t₀ k₀ => XS.iand X0.here hx rfl (hb hby at_48) rfl k₀) ?_
  refine own_step (s₁.setTop (mkF m 51 #[.val (.int pk), .val (.int qu), .val (.int fs0), .val (.int ls0), .val (.int cs0), .val (.int ((pk &&& (127 : Int32)).toUInt32.toUInt16.toUInt32.toInt32)), .val (.int ((((pk.toUInt32 >>> ((8 : Int32) &&& 31).toUInt32).toInt32) &&& (127 : Int32)).toUInt32.toUInt16.toUInt32.toInt32)), .val (.int ((((pk.toUInt32 >>> ((16 : Int32) &&& 31).toUInt32).toInt32) &&& (127 : Int32)).toUInt32.toUInt16.toUInt32.toInt32)), .val (.int ((((pk.toUInt32 >>> ((24 : Int32) &&& 31).toUInt32).toInt32) &&& (127 : Int32)).toUInt32.toUInt16.toUInt32.toInt32)), .val (.int ((ls0 &&& (7 : Int32)) % (5 : Int32))), .unset, .unset, .unset, .unset, .unset, .unset, .unset] [(.int (6 : Int32)), (.int (fs0 &&& (2147483647 : Int32)))])) (fun t₀ k₀ => XS.bipush X0.here hx rfl (hb hby at_49) k₀) ?_
  refine own_step (s₁.setTop (mkF m 52 #[.val (.int pk), .val (.int qu), .val (.int fs0), .val (.int ls0), .val (.int cs0), .val (.int ((pk &&& (127 : Int32)).toUInt32.toUInt16.toUInt32.toInt32)), .val (.int ((((pk.toUInt32 >>> ((8 : Int32) &&& 31).toUInt32).toInt32) &&& (127 : Int32)).toUInt32.toUInt16.toUInt32.toInt32)), .val (.int ((((pk.toUInt32 >>> ((16 : Int32) &&& 31).toUInt32).toInt32) &&& (127 : Int32)).toUInt32.toUInt16.toUInt32.toInt32)), .val (.int ((((pk.toUInt32 >>> ((24 : Int32) &&& 31).toUInt32).toInt32) &&& (127 : Int32)).toUInt32.toUInt16.toUInt32.toInt32)), .val (.int ((ls0 &&& (7 : Int32)) % (5 : Int32))), .unset, .unset, .unset, .unset, .unset, .unset, .unset] [(.int ((fs0 &&& (2147483647 : Int32)) % (6 : Int32)))])) (fun t₀ k₀ => Jvm.RoadKit.iremM X0 hx rfl (hb hby at_51) rfl (by decide) k₀) ?_
  refine own_step (s₁.setTop (mkF m 54 #[.val (.int pk), .val (.int qu), .val (.int fs0), .val (.int ls0), .val (.int cs0), .val (.int ((pk &&& (127 : Int32)).toUInt32.toUInt16.toUInt32.toInt32)), .val (.int ((((pk.toUInt32 >>> ((8 : Int32) &&& 31).toUInt32).toInt32) &&& (127 : Int32)).toUInt32.toUInt16.toUInt32.toInt32)), .val (.int ((((pk.toUInt32 >>> ((16 : Int32) &&& 31).toUInt32).toInt32) &&& (127 : Int32)).toUInt32.toUInt16.toUInt32.toInt32)), .val (.int ((((pk.toUInt32 >>> ((24 : Int32) &&& 31).toUInt32).toInt32) &&& (127 : Int32)).toUInt32.toUInt16.toUInt32.toInt32)), .val (.int ((ls0 &&& (7 : Int32)) % (5 : Int32))), .val (.int ((fs0 &&& (2147483647 : Int32)) % (6 : Int32))), .unset, .unset, .unset, .unset, .unset, .unset] [])) (fun t₀ k₀ => XS.istore X0.here hx rfl (hb hby at_52) rfl (l' := #[.val (.int pk), .val (.int qu), .val (.int fs0), .val (.int ls0), .val (.int cs0), .val (.int ((pk &&& (127 : Int32)).toUInt32.toUInt16.toUInt32.toInt32)), .val (.int ((((pk.toUInt32 >>> ((8 : Int32) &&& 31).toUInt32).toInt32) &&& (127 : Int32)).toUInt32.toUInt16.toUInt32.toInt32)), .val (.int ((((pk.toUInt32 >>> ((16 : Int32) &&& 31).toUInt32).toInt32) &&& (127 : Int32)).toUInt32.toUInt16.toUInt32.toInt32)), .val (.int ((((pk.toUInt32 >>> ((24 : Int32) &&& 31).toUInt32).toInt32) &&& (127 : Int32)).toUInt32.toUInt16.toUInt32.toInt32)), .val (.int ((ls0 &&& (7 : Int32)) % (5 : Int32))), .val (.int ((fs0 &&& (2147483647 : Int32)) % (6 : Int32))), .unset, .unset, .unset, .unset, .unset, .unset]) rfl k₀) ?_
  refine own_step (s₁.setTop (mkF m 56 #[.val (.int pk), .val (.int qu), .val (.int fs0), .val (.int ls0), .val (.int cs0), .val (.int ((pk &&& (127 : Int32)).toUInt32.toUInt16.toUInt32.toInt32)), .val (.int ((((pk.toUInt32 >>> ((8 : Int32) &&& 31).toUInt32).toInt32) &&& (127 : Int32)).toUInt32.toUInt16.toUInt32.toInt32)), .val (.int ((((pk.toUInt32 >>> ((16 : Int32) &&& 31).toUInt32).toInt32) &&& (127 : Int32)).toUInt32.toUInt16.toUInt32.toInt32)), .val (.int ((((pk.toUInt32 >>> ((24 : Int32) &&& 31).toUInt32).toInt32) &&& (127 : Int32)).toUInt32.toUInt16.toUInt32.toInt32)), .val (.int ((ls0 &&& (7 : Int32)) % (5 : Int32))), .val (.int ((fs0 &&& (2147483647 : Int32)) % (6 : Int32))), .unset, .unset, .unset, .unset, .unset, .unset] [(.int cs0)])) (fun t₀ k₀ => XS.iload X0.here hx rfl (hb hby at_54) rfl k₀) ?_
  refine own_step (s₁.setTop (mkF m 58 #[.val (.int pk), .val (.int qu), .val (.int fs0), .val (.int ls0), .val (.int cs0), .val (.int ((pk &&& (127 : Int32)).toUInt32.toUInt16.toUInt32.toInt32)), .val (.int ((((pk.toUInt32 >>> ((8 : Int32) &&& 31).toUInt32).toInt32) &&& (127 : Int32)).toUInt32.toUInt16.toUInt32.toInt32)), .val (.int ((((pk.toUInt32 >>> ((16 : Int32) &&& 31).toUInt32).toInt32) &&& (127 : Int32)).toUInt32.toUInt16.toUInt32.toInt32)), .val (.int ((((pk.toUInt32 >>> ((24 : Int32) &&& 31).toUInt32).toInt32) &&& (127 : Int32)).toUInt32.toUInt16.toUInt32.toInt32)), .val (.int ((ls0 &&& (7 : Int32)) % (5 : Int32))), .val (.int ((fs0 &&& (2147483647 : Int32)) % (6 : Int32))), .unset, .unset, .unset, .unset, .unset, .unset] [(.int (7 : Int32)), (.int cs0)])) (fun t₀ k₀ => XS.bipush X0.here hx rfl (hb hby at_56) k₀) ?_
  refine own_step (s₁.setTop (mkF m 59 #[.val (.int pk), .val (.int qu), .val (.int fs0), .val (.int ls0), .val (.int cs0), .val (.int ((pk &&& (127 : Int32)).toUInt32.toUInt16.toUInt32.toInt32)), .val (.int ((((pk.toUInt32 >>> ((8 : Int32) &&& 31).toUInt32).toInt32) &&& (127 : Int32)).toUInt32.toUInt16.toUInt32.toInt32)), .val (.int ((((pk.toUInt32 >>> ((16 : Int32) &&& 31).toUInt32).toInt32) &&& (127 : Int32)).toUInt32.toUInt16.toUInt32.toInt32)), .val (.int ((((pk.toUInt32 >>> ((24 : Int32) &&& 31).toUInt32).toInt32) &&& (127 : Int32)).toUInt32.toUInt16.toUInt32.toInt32)), .val (.int ((ls0 &&& (7 : Int32)) % (5 : Int32))), .val (.int ((fs0 &&& (2147483647 : Int32)) % (6 : Int32))), .unset, .unset, .unset, .unset, .unset, .unset] [(.int (cs0 &&& (7 : Int32)))])) (fun t₀ k₀ => XS.iand X0.here hx rfl (hb hby at_58) rfl k₀) ?_
  refine own_step (s₁.setTop (mkF m 60 #[.val (.int pk), .val (.int qu), .val (.int fs0), .val (.int ls0), .val (.int cs0), .val (.int ((pk &&& (127 : Int32)).toUInt32.toUInt16.toUInt32.toInt32)), .val (.int ((((pk.toUInt32 >>> ((8 : Int32) &&& 31).toUInt32).toInt32) &&& (127 : Int32)).toUInt32.toUInt16.toUInt32.toInt32)), .val (.int ((((pk.toUInt32 >>> ((16 : Int32) &&& 31).toUInt32).toInt32) &&& (127 : Int32)).toUInt32.toUInt16.toUInt32.toInt32)), .val (.int ((((pk.toUInt32 >>> ((24 : Int32) &&& 31).toUInt32).toInt32) &&& (127 : Int32)).toUInt32.toUInt16.toUInt32.toInt32)), .val (.int ((ls0 &&& (7 : Int32)) % (5 : Int32))), .val (.int ((fs0 &&& (2147483647 : Int32)) % (6 : Int32))), .unset, .unset, .unset, .unset, .unset, .unset] [(.int (1 : Int32)), (.int (cs0 &&& (7 : Int32)))])) (fun t₀ k₀ => XS.iconst X0.here hx rfl (hb hby at_59) k₀) ?_
  refine own_step (s₁.setTop (mkF m 61 #[.val (.int pk), .val (.int qu), .val (.int fs0), .val (.int ls0), .val (.int cs0), .val (.int ((pk &&& (127 : Int32)).toUInt32.toUInt16.toUInt32.toInt32)), .val (.int ((((pk.toUInt32 >>> ((8 : Int32) &&& 31).toUInt32).toInt32) &&& (127 : Int32)).toUInt32.toUInt16.toUInt32.toInt32)), .val (.int ((((pk.toUInt32 >>> ((16 : Int32) &&& 31).toUInt32).toInt32) &&& (127 : Int32)).toUInt32.toUInt16.toUInt32.toInt32)), .val (.int ((((pk.toUInt32 >>> ((24 : Int32) &&& 31).toUInt32).toInt32) &&& (127 : Int32)).toUInt32.toUInt16.toUInt32.toInt32)), .val (.int ((ls0 &&& (7 : Int32)) % (5 : Int32))), .val (.int ((fs0 &&& (2147483647 : Int32)) % (6 : Int32))), .unset, .unset, .unset, .unset, .unset, .unset] [(.int ((cs0 &&& (7 : Int32)) + (1 : Int32)))])) (fun t₀ k₀ => XS.iadd X0.here hx rfl (hb hby at_60) rfl k₀) ?_
  refine own_step (s₁.setTop (mkF m 63 #[.val (.int pk), .val (.int qu), .val (.int fs0), .val (.int ls0), .val (.int cs0), .val (.int ((pk &&& (127 : Int32)).toUInt32.toUInt16.toUInt32.toInt32)), .val (.int ((((pk.toUInt32 >>> ((8 : Int32) &&& 31).toUInt32).toInt32) &&& (127 : Int32)).toUInt32.toUInt16.toUInt32.toInt32)), .val (.int ((((pk.toUInt32 >>> ((16 : Int32) &&& 31).toUInt32).toInt32) &&& (127 : Int32)).toUInt32.toUInt16.toUInt32.toInt32)), .val (.int ((((pk.toUInt32 >>> ((24 : Int32) &&& 31).toUInt32).toInt32) &&& (127 : Int32)).toUInt32.toUInt16.toUInt32.toInt32)), .val (.int ((ls0 &&& (7 : Int32)) % (5 : Int32))), .val (.int ((fs0 &&& (2147483647 : Int32)) % (6 : Int32))), .val (.int ((cs0 &&& (7 : Int32)) + (1 : Int32))), .unset, .unset, .unset, .unset, .unset] [])) (fun t₀ k₀ => XS.istore X0.here hx rfl (hb hby at_61) rfl (l' := #[.val (.int pk), .val (.int qu), .val (.int fs0), .val (.int ls0), .val (.int cs0), .val (.int ((pk &&& (127 : Int32)).toUInt32.toUInt16.toUInt32.toInt32)), .val (.int ((((pk.toUInt32 >>> ((8 : Int32) &&& 31).toUInt32).toInt32) &&& (127 : Int32)).toUInt32.toUInt16.toUInt32.toInt32)), .val (.int ((((pk.toUInt32 >>> ((16 : Int32) &&& 31).toUInt32).toInt32) &&& (127 : Int32)).toUInt32.toUInt16.toUInt32.toInt32)), .val (.int ((((pk.toUInt32 >>> ((24 : Int32) &&& 31).toUInt32).toInt32) &&& (127 : Int32)).toUInt32.toUInt16.toUInt32.toInt32)), .val (.int ((ls0 &&& (7 : Int32)) % (5 : Int32))), .val (.int ((fs0 &&& (2147483647 : Int32)) % (6 : Int32))), .val (.int ((cs0 &&& (7 : Int32)) + (1 : Int32))), .unset, .unset, .unset, .unset, .unset]) rfl k₀) ?_
  refine own_step (s₁.setTop (mkF m 64 #[.val (.int pk), .val (.int qu), .val (.int fs0), .val (.int ls0), .val (.int cs0), .val (.int ((pk &&& (127 : Int32)).toUInt32.toUInt16.toUInt32.toInt32)), .val (.int ((((pk.toUInt32 >>> ((8 : Int32) &&& 31).toUInt32).toInt32) &&& (127 : Int32)).toUInt32.toUInt16.toUInt32.toInt32)), .val (.int ((((pk.toUInt32 >>> ((16 : Int32) &&& 31).toUInt32).toInt32) &&& (127 : Int32)).toUInt32.toUInt16.toUInt32.toInt32)), .val (.int ((((pk.toUInt32 >>> ((24 : Int32) &&& 31).toUInt32).toInt32) &&& (127 : Int32)).toUInt32.toUInt16.toUInt32.toInt32)), .val (.int ((ls0 &&& (7 : Int32)) % (5 : Int32))), .val (.int ((fs0 &&& (2147483647 : Int32)) % (6 : Int32))), .val (.int ((cs0 &&& (7 : Int32)) + (1 : Int32))), .unset, .unset, .unset, .unset, .unset] [(.int qu)])) (fun t₀ k₀ => XS.iloadN X0.here hx rfl (hb hby at_63) rfl k₀) ?_
  refine own_step (s₁.setTop (mkF m 66 #[.val (.int pk), .val (.int qu), .val (.int fs0), .val (.int ls0), .val (.int cs0), .val (.int ((pk &&& (127 : Int32)).toUInt32.toUInt16.toUInt32.toInt32)), .val (.int ((((pk.toUInt32 >>> ((8 : Int32) &&& 31).toUInt32).toInt32) &&& (127 : Int32)).toUInt32.toUInt16.toUInt32.toInt32)), .val (.int ((((pk.toUInt32 >>> ((16 : Int32) &&& 31).toUInt32).toInt32) &&& (127 : Int32)).toUInt32.toUInt16.toUInt32.toInt32)), .val (.int ((((pk.toUInt32 >>> ((24 : Int32) &&& 31).toUInt32).toInt32) &&& (127 : Int32)).toUInt32.toUInt16.toUInt32.toInt32)), .val (.int ((ls0 &&& (7 : Int32)) % (5 : Int32))), .val (.int ((fs0 &&& (2147483647 : Int32)) % (6 : Int32))), .val (.int ((cs0 &&& (7 : Int32)) + (1 : Int32))), .unset, .unset, .unset, .unset, .unset] [(.int (7 : Int32)), (.int qu)])) (fun t₀ k₀ => XS.bipush X0.here hx rfl (hb hby at_64) k₀) ?_
  refine own_step (s₁.setTop (mkF m 67 #[.val (.int pk), .val (.int qu), .val (.int fs0), .val (.int ls0), .val (.int cs0), .val (.int ((pk &&& (127 : Int32)).toUInt32.toUInt16.toUInt32.toInt32)), .val (.int ((((pk.toUInt32 >>> ((8 : Int32) &&& 31).toUInt32).toInt32) &&& (127 : Int32)).toUInt32.toUInt16.toUInt32.toInt32)), .val (.int ((((pk.toUInt32 >>> ((16 : Int32) &&& 31).toUInt32).toInt32) &&& (127 : Int32)).toUInt32.toUInt16.toUInt32.toInt32)), .val (.int ((((pk.toUInt32 >>> ((24 : Int32) &&& 31).toUInt32).toInt32) &&& (127 : Int32)).toUInt32.toUInt16.toUInt32.toInt32)), .val (.int ((ls0 &&& (7 : Int32)) % (5 : Int32))), .val (.int ((fs0 &&& (2147483647 : Int32)) % (6 : Int32))), .val (.int ((cs0 &&& (7 : Int32)) + (1 : Int32))), .unset, .unset, .unset, .unset, .unset] [(.int ((qu.toUInt32 >>> ((7 : Int32) &&& 31).toUInt32).toInt32))])) (fun t₀ k₀ => XS.iushr X0.here hx rfl (hb hby at_66) rfl k₀) ?_
  refine own_step (s₁.setTop (mkF m 69 #[.val (.int pk), .val (.int qu), .val (.int fs0), .val (.int ls0), .val (.int cs0), .val (.int ((pk &&& (127 : Int32)).toUInt32.toUInt16.toUInt32.toInt32)), .val (.int ((((pk.toUInt32 >>> ((8 : Int32) &&& 31).toUInt32).toInt32) &&& (127 : Int32)).toUInt32.toUInt16.toUInt32.toInt32)), .val (.int ((((pk.toUInt32 >>> ((16 : Int32) &&& 31).toUInt32).toInt32) &&& (127 : Int32)).toUInt32.toUInt16.toUInt32.toInt32)), .val (.int ((((pk.toUInt32 >>> ((24 : Int32) &&& 31).toUInt32).toInt32) &&& (127 : Int32)).toUInt32.toUInt16.toUInt32.toInt32)), .val (.int ((ls0 &&& (7 : Int32)) % (5 : Int32))), .val (.int ((fs0 &&& (2147483647 : Int32)) % (6 : Int32))), .val (.int ((cs0 &&& (7 : Int32)) + (1 : Int32))), .unset, .unset, .unset, .unset, .unset] [(.int (7 : Int32)), (.int ((qu.toUInt32 >>> ((7 : Int32) &&& 31).toUInt32).toInt32))])) (fun t₀ k₀ => XS.bipush X0.here hx rfl (hb hby at_67) k₀) ?_
  refine own_step (s₁.setTop (mkF m 70 #[.val (.int pk), .val (.int qu), .val (.int fs0), .val (.int ls0), .val (.int cs0), .val (.int ((pk &&& (127 : Int32)).toUInt32.toUInt16.toUInt32.toInt32)), .val (.int ((((pk.toUInt32 >>> ((8 : Int32) &&& 31).toUInt32).toInt32) &&& (127 : Int32)).toUInt32.toUInt16.toUInt32.toInt32)), .val (.int ((((pk.toUInt32 >>> ((16 : Int32) &&& 31).toUInt32).toInt32) &&& (127 : Int32)).toUInt32.toUInt16.toUInt32.toInt32)), .val (.int ((((pk.toUInt32 >>> ((24 : Int32) &&& 31).toUInt32).toInt32) &&& (127 : Int32)).toUInt32.toUInt16.toUInt32.toInt32)), .val (.int ((ls0 &&& (7 : Int32)) % (5 : Int32))), .val (.int ((fs0 &&& (2147483647 : Int32)) % (6 : Int32))), .val (.int ((cs0 &&& (7 : Int32)) + (1 : Int32))), .unset, .unset, .unset, .unset, .unset] [(.int (((qu.toUInt32 >>> ((7 : Int32) &&& 31).toUInt32).toInt32) &&& (7 : Int32)))])) (fun t₀ k₀ => XS.iand X0.here hx rfl (hb hby at_69) rfl k₀) ?_
  refine own_step (s₁.setTop (mkF m 72 #[.val (.int pk), .val (.int qu), .val (.int fs0), .val (.int ls0), .val (.int cs0), .val (.int ((pk &&& (127 : Int32)).toUInt32.toUInt16.toUInt32.toInt32)), .val (.int ((((pk.toUInt32 >>> ((8 : Int32) &&& 31).toUInt32).toInt32) &&& (127 : Int32)).toUInt32.toUInt16.toUInt32.toInt32)), .val (.int ((((pk.toUInt32 >>> ((16 : Int32) &&& 31).toUInt32).toInt32) &&& (127 : Int32)).toUInt32.toUInt16.toUInt32.toInt32)), .val (.int ((((pk.toUInt32 >>> ((24 : Int32) &&& 31).toUInt32).toInt32) &&& (127 : Int32)).toUInt32.toUInt16.toUInt32.toInt32)), .val (.int ((ls0 &&& (7 : Int32)) % (5 : Int32))), .val (.int ((fs0 &&& (2147483647 : Int32)) % (6 : Int32))), .val (.int ((cs0 &&& (7 : Int32)) + (1 : Int32))), .val (.int (((qu.toUInt32 >>> ((7 : Int32) &&& 31).toUInt32).toInt32) &&& (7 : Int32))), .unset, .unset, .unset, .unset] [])) (fun t₀ k₀ => XS.istore X0.here hx rfl (hb hby at_70) rfl (l' := #[.val (.int pk), .val (.int qu), .val (.int fs0), .val (.int ls0), .val (.int cs0), .val (.int ((pk &&& (127 : Int32)).toUInt32.toUInt16.toUInt32.toInt32)), .val (.int ((((pk.toUInt32 >>> ((8 : Int32) &&& 31).toUInt32).toInt32) &&& (127 : Int32)).toUInt32.toUInt16.toUInt32.toInt32)), .val (.int ((((pk.toUInt32 >>> ((16 : Int32) &&& 31).toUInt32).toInt32) &&& (127 : Int32)).toUInt32.toUInt16.toUInt32.toInt32)), .val (.int ((((pk.toUInt32 >>> ((24 : Int32) &&& 31).toUInt32).toInt32) &&& (127 : Int32)).toUInt32.toUInt16.toUInt32.toInt32)), .val (.int ((ls0 &&& (7 : Int32)) % (5 : Int32))), .val (.int ((fs0 &&& (2147483647 : Int32)) % (6 : Int32))), .val (.int ((cs0 &&& (7 : Int32)) + (1 : Int32))), .val (.int (((qu.toUInt32 >>> ((7 : Int32) &&& 31).toUInt32).toInt32) &&& (7 : Int32))), .unset, .unset, .unset, .unset]) rfl k₀) ?_
  refine own_step (s₁.setTop (mkF m 74 #[.val (.int pk), .val (.int qu), .val (.int fs0), .val (.int ls0), .val (.int cs0), .val (.int ((pk &&& (127 : Int32)).toUInt32.toUInt16.toUInt32.toInt32)), .val (.int ((((pk.toUInt32 >>> ((8 : Int32) &&& 31).toUInt32).toInt32) &&& (127 : Int32)).toUInt32.toUInt16.toUInt32.toInt32)), .val (.int ((((pk.toUInt32 >>> ((16 : Int32) &&& 31).toUInt32).toInt32) &&& (127 : Int32)).toUInt32.toUInt16.toUInt32.toInt32)), .val (.int ((((pk.toUInt32 >>> ((24 : Int32) &&& 31).toUInt32).toInt32) &&& (127 : Int32)).toUInt32.toUInt16.toUInt32.toInt32)), .val (.int ((ls0 &&& (7 : Int32)) % (5 : Int32))), .val (.int ((fs0 &&& (2147483647 : Int32)) % (6 : Int32))), .val (.int ((cs0 &&& (7 : Int32)) + (1 : Int32))), .val (.int (((qu.toUInt32 >>> ((7 : Int32) &&& 31).toUInt32).toInt32) &&& (7 : Int32))), .unset, .unset, .unset, .unset] [(.int (((qu.toUInt32 >>> ((7 : Int32) &&& 31).toUInt32).toInt32) &&& (7 : Int32)))])) (fun t₀ k₀ => XS.iload X0.here hx rfl (hb hby at_72) rfl k₀) ?_
  by_cases hc74 : (((qu.toUInt32 >>> ((7 : Int32) &&& 31).toUInt32).toInt32) &&& (7 : Int32)) = (0 : Int32)
  · skip
    refine own_step (s₁.setTop (mkF m 77 #[.val (.int pk), .val (.int qu), .val (.int fs0), .val (.int ls0), .val (.int cs0), .val (.int ((pk &&& (127 : Int32)).toUInt32.toUInt16.toUInt32.toInt32)), .val (.int ((((pk.toUInt32 >>> ((8 : Int32) &&& 31).toUInt32).toInt32) &&& (127 : Int32)).toUInt32.toUInt16.toUInt32.toInt32)), .val (.int ((((pk.toUInt32 >>> ((16 : Int32) &&& 31).toUInt32).toInt32) &&& (127 : Int32)).toUInt32.toUInt16.toUInt32.toInt32)), .val (.int ((((pk.toUInt32 >>> ((24 : Int32) &&& 31).toUInt32).toInt32) &&& (127 : Int32)).toUInt32.toUInt16.toUInt32.toInt32)), .val (.int ((ls0 &&& (7 : Int32)) % (5 : Int32))), .val (.int ((fs0 &&& (2147483647 : Int32)) % (6 : Int32))), .val (.int ((cs0 &&& (7 : Int32)) + (1 : Int32))), .val (.int (((qu.toUInt32 >>> ((7 : Int32) &&& 31).toUInt32).toInt32) &&& (7 : Int32))), .unset, .unset, .unset, .unset] [])) (fun t₀ k₀ => XS.ifNo X0.here hx rfl (hb hby at_74) rfl ((if0 _ _).trans (teq hc74).2) k₀) ?_
    refine own_step (s₁.setTop (mkF m 79 #[.val (.int pk), .val (.int qu), .val (.int fs0), .val (.int ls0), .val (.int cs0), .val (.int ((pk &&& (127 : Int32)).toUInt32.toUInt16.toUInt32.toInt32)), .val (.int ((((pk.toUInt32 >>> ((8 : Int32) &&& 31).toUInt32).toInt32) &&& (127 : Int32)).toUInt32.toUInt16.toUInt32.toInt32)), .val (.int ((((pk.toUInt32 >>> ((16 : Int32) &&& 31).toUInt32).toInt32) &&& (127 : Int32)).toUInt32.toUInt16.toUInt32.toInt32)), .val (.int ((((pk.toUInt32 >>> ((24 : Int32) &&& 31).toUInt32).toInt32) &&& (127 : Int32)).toUInt32.toUInt16.toUInt32.toInt32)), .val (.int ((ls0 &&& (7 : Int32)) % (5 : Int32))), .val (.int ((fs0 &&& (2147483647 : Int32)) % (6 : Int32))), .val (.int ((cs0 &&& (7 : Int32)) + (1 : Int32))), .val (.int (((qu.toUInt32 >>> ((7 : Int32) &&& 31).toUInt32).toInt32) &&& (7 : Int32))), .unset, .unset, .unset, .unset] [(.int ((pk &&& (127 : Int32)).toUInt32.toUInt16.toUInt32.toInt32))])) (fun t₀ k₀ => XS.iload X0.here hx rfl (hb hby at_77) rfl k₀) ?_
    refine own_step (s₁.setTop (mkF m 81 #[.val (.int pk), .val (.int qu), .val (.int fs0), .val (.int ls0), .val (.int cs0), .val (.int ((pk &&& (127 : Int32)).toUInt32.toUInt16.toUInt32.toInt32)), .val (.int ((((pk.toUInt32 >>> ((8 : Int32) &&& 31).toUInt32).toInt32) &&& (127 : Int32)).toUInt32.toUInt16.toUInt32.toInt32)), .val (.int ((((pk.toUInt32 >>> ((16 : Int32) &&& 31).toUInt32).toInt32) &&& (127 : Int32)).toUInt32.toUInt16.toUInt32.toInt32)), .val (.int ((((pk.toUInt32 >>> ((24 : Int32) &&& 31).toUInt32).toInt32) &&& (127 : Int32)).toUInt32.toUInt16.toUInt32.toInt32)), .val (.int ((ls0 &&& (7 : Int32)) % (5 : Int32))), .val (.int ((fs0 &&& (2147483647 : Int32)) % (6 : Int32))), .val (.int ((cs0 &&& (7 : Int32)) + (1 : Int32))), .val (.int (((qu.toUInt32 >>> ((7 : Int32) &&& 31).toUInt32).toInt32) &&& (7 : Int32))), .val (.int ((pk &&& (127 : Int32)).toUInt32.toUInt16.toUInt32.toInt32)), .unset, .unset, .unset] [])) (fun t₀ k₀ => XS.istore X0.here hx rfl (hb hby at_79) rfl (l' := #[.val (.int pk), .val (.int qu), .val (.int fs0), .val (.int ls0), .val (.int cs0), .val (.int ((pk &&& (127 : Int32)).toUInt32.toUInt16.toUInt32.toInt32)), .val (.int ((((pk.toUInt32 >>> ((8 : Int32) &&& 31).toUInt32).toInt32) &&& (127 : Int32)).toUInt32.toUInt16.toUInt32.toInt32)), .val (.int ((((pk.toUInt32 >>> ((16 : Int32) &&& 31).toUInt32).toInt32) &&& (127 : Int32)).toUInt32.toUInt16.toUInt32.toInt32)), .val (.int ((((pk.toUInt32 >>> ((24 : Int32) &&& 31).toUInt32).toInt32) &&& (127 : Int32)).toUInt32.toUInt16.toUInt32.toInt32)), .val (.int ((ls0 &&& (7 : Int32)) % (5 : Int32))), .val (.int ((fs0 &&& (2147483647 : Int32)) % (6 : Int32))), .val (.int ((cs0 &&& (7 : Int32)) + (1 : Int32))), .val (.int (((qu.toUInt32 >>> ((7 : Int32) &&& 31).toUInt32).toInt32) &&& (7 : Int32))), .val (.int ((pk &&& (127 : Int32)).toUInt32.toUInt16.toUInt32.toInt32)), .unset, .unset, .unset]) rfl k₀) ?_
    refine own_step (s₁.setTop (mkF m 130 #[.val (.int pk), .val (.int qu), .val (.int fs0), .val (.int ls0), .val (.int cs0), .val (.int ((pk &&& (127 : Int32)).toUInt32.toUInt16.toUInt32.toInt32)), .val (.int ((((pk.toUInt32 >>> ((8 : Int32) &&& 31).toUInt32).toInt32) &&& (127 : Int32)).toUInt32.toUInt16.toUInt32.toInt32)), .val (.int ((((pk.toUInt32 >>> ((16 : Int32) &&& 31).toUInt32).toInt32) &&& (127 : Int32)).toUInt32.toUInt16.toUInt32.toInt32)), .val (.int ((((pk.toUInt32 >>> ((24 : Int32) &&& 31).toUInt32).toInt32) &&& (127 : Int32)).toUInt32.toUInt16.toUInt32.toInt32)), .val (.int ((ls0 &&& (7 : Int32)) % (5 : Int32))), .val (.int ((fs0 &&& (2147483647 : Int32)) % (6 : Int32))), .val (.int ((cs0 &&& (7 : Int32)) + (1 : Int32))), .val (.int (((qu.toUInt32 >>> ((7 : Int32) &&& 31).toUInt32).toInt32) &&& (7 : Int32))), .val (.int ((pk &&& (127 : Int32)).toUInt32.toUInt16.toUInt32.toInt32)), .unset, .unset, .unset] [])) (fun t₀ k₀ => XS.goto X0.here hx rfl (pc0 := 81) (pc' := 130) rfl (hb hby at_81) (by decide) (by decide) k₀) ?_
    exact cut130 ((pk &&& (127 : Int32)).toUInt32.toUInt16.toUInt32.toInt32) ((((pk.toUInt32 >>> ((8 : Int32) &&& 31).toUInt32).toInt32) &&& (127 : Int32)).toUInt32.toUInt16.toUInt32.toInt32) ((((pk.toUInt32 >>> ((16 : Int32) &&& 31).toUInt32).toInt32) &&& (127 : Int32)).toUInt32.toUInt16.toUInt32.toInt32) ((((pk.toUInt32 >>> ((24 : Int32) &&& 31).toUInt32).toInt32) &&& (127 : Int32)).toUInt32.toUInt16.toUInt32.toInt32) ((ls0 &&& (7 : Int32)) % (5 : Int32)) ((fs0 &&& (2147483647 : Int32)) % (6 : Int32)) ((cs0 &&& (7 : Int32)) + (1 : Int32)) (((qu.toUInt32 >>> ((7 : Int32) &&& 31).toUInt32).toInt32) &&& (7 : Int32)) ((pk &&& (127 : Int32)).toUInt32.toUInt16.toUInt32.toInt32) _ X0 e0 (own_hb _) (own_hb _) (own_hb _) (own_hb _) (own_caps _) (own_fn _ _)
  · skip
    refine own_step (s₁.setTop (mkF m 84 #[.val (.int pk), .val (.int qu), .val (.int fs0), .val (.int ls0), .val (.int cs0), .val (.int ((pk &&& (127 : Int32)).toUInt32.toUInt16.toUInt32.toInt32)), .val (.int ((((pk.toUInt32 >>> ((8 : Int32) &&& 31).toUInt32).toInt32) &&& (127 : Int32)).toUInt32.toUInt16.toUInt32.toInt32)), .val (.int ((((pk.toUInt32 >>> ((16 : Int32) &&& 31).toUInt32).toInt32) &&& (127 : Int32)).toUInt32.toUInt16.toUInt32.toInt32)), .val (.int ((((pk.toUInt32 >>> ((24 : Int32) &&& 31).toUInt32).toInt32) &&& (127 : Int32)).toUInt32.toUInt16.toUInt32.toInt32)), .val (.int ((ls0 &&& (7 : Int32)) % (5 : Int32))), .val (.int ((fs0 &&& (2147483647 : Int32)) % (6 : Int32))), .val (.int ((cs0 &&& (7 : Int32)) + (1 : Int32))), .val (.int (((qu.toUInt32 >>> ((7 : Int32) &&& 31).toUInt32).toInt32) &&& (7 : Int32))), .unset, .unset, .unset, .unset] [])) (fun t₀ k₀ => XS.ifYes X0.here hx rfl (pc0 := 74) (pc' := 84) rfl (hb hby at_74) rfl ((if0 _ _).trans (feq hc74).2) (by decide) (by decide) k₀) ?_
    refine own_step (s₁.setTop (mkF m 86 #[.val (.int pk), .val (.int qu), .val (.int fs0), .val (.int ls0), .val (.int cs0), .val (.int ((pk &&& (127 : Int32)).toUInt32.toUInt16.toUInt32.toInt32)), .val (.int ((((pk.toUInt32 >>> ((8 : Int32) &&& 31).toUInt32).toInt32) &&& (127 : Int32)).toUInt32.toUInt16.toUInt32.toInt32)), .val (.int ((((pk.toUInt32 >>> ((16 : Int32) &&& 31).toUInt32).toInt32) &&& (127 : Int32)).toUInt32.toUInt16.toUInt32.toInt32)), .val (.int ((((pk.toUInt32 >>> ((24 : Int32) &&& 31).toUInt32).toInt32) &&& (127 : Int32)).toUInt32.toUInt16.toUInt32.toInt32)), .val (.int ((ls0 &&& (7 : Int32)) % (5 : Int32))), .val (.int ((fs0 &&& (2147483647 : Int32)) % (6 : Int32))), .val (.int ((cs0 &&& (7 : Int32)) + (1 : Int32))), .val (.int (((qu.toUInt32 >>> ((7 : Int32) &&& 31).toUInt32).toInt32) &&& (7 : Int32))), .unset, .unset, .unset, .unset] [(.int (((qu.toUInt32 >>> ((7 : Int32) &&& 31).toUInt32).toInt32) &&& (7 : Int32)))])) (fun t₀ k₀ => XS.iload X0.here hx rfl (hb hby at_84) rfl k₀) ?_
    refine own_step (s₁.setTop (mkF m 87 #[.val (.int pk), .val (.int qu), .val (.int fs0), .val (.int ls0), .val (.int cs0), .val (.int ((pk &&& (127 : Int32)).toUInt32.toUInt16.toUInt32.toInt32)), .val (.int ((((pk.toUInt32 >>> ((8 : Int32) &&& 31).toUInt32).toInt32) &&& (127 : Int32)).toUInt32.toUInt16.toUInt32.toInt32)), .val (.int ((((pk.toUInt32 >>> ((16 : Int32) &&& 31).toUInt32).toInt32) &&& (127 : Int32)).toUInt32.toUInt16.toUInt32.toInt32)), .val (.int ((((pk.toUInt32 >>> ((24 : Int32) &&& 31).toUInt32).toInt32) &&& (127 : Int32)).toUInt32.toUInt16.toUInt32.toInt32)), .val (.int ((ls0 &&& (7 : Int32)) % (5 : Int32))), .val (.int ((fs0 &&& (2147483647 : Int32)) % (6 : Int32))), .val (.int ((cs0 &&& (7 : Int32)) + (1 : Int32))), .val (.int (((qu.toUInt32 >>> ((7 : Int32) &&& 31).toUInt32).toInt32) &&& (7 : Int32))), .unset, .unset, .unset, .unset] [(.int (1 : Int32)), (.int (((qu.toUInt32 >>> ((7 : Int32) &&& 31).toUInt32).toInt32) &&& (7 : Int32)))])) (fun t₀ k₀ => XS.iconst X0.here hx rfl (hb hby at_86) k₀) ?_
    by_cases hc87 : (((qu.toUInt32 >>> ((7 : Int32) &&& 31).toUInt32).toInt32) &&& (7 : Int32)) = (1 : Int32)
    · skip
      refine own_step (s₁.setTop (mkF m 90 #[.val (.int pk), .val (.int qu), .val (.int fs0), .val (.int ls0), .val (.int cs0), .val (.int ((pk &&& (127 : Int32)).toUInt32.toUInt16.toUInt32.toInt32)), .val (.int ((((pk.toUInt32 >>> ((8 : Int32) &&& 31).toUInt32).toInt32) &&& (127 : Int32)).toUInt32.toUInt16.toUInt32.toInt32)), .val (.int ((((pk.toUInt32 >>> ((16 : Int32) &&& 31).toUInt32).toInt32) &&& (127 : Int32)).toUInt32.toUInt16.toUInt32.toInt32)), .val (.int ((((pk.toUInt32 >>> ((24 : Int32) &&& 31).toUInt32).toInt32) &&& (127 : Int32)).toUInt32.toUInt16.toUInt32.toInt32)), .val (.int ((ls0 &&& (7 : Int32)) % (5 : Int32))), .val (.int ((fs0 &&& (2147483647 : Int32)) % (6 : Int32))), .val (.int ((cs0 &&& (7 : Int32)) + (1 : Int32))), .val (.int (((qu.toUInt32 >>> ((7 : Int32) &&& 31).toUInt32).toInt32) &&& (7 : Int32))), .unset, .unset, .unset, .unset] [])) (fun t₀ k₀ => XS.icmpNo X0.here hx rfl (hb hby at_87) rfl (teq hc87).2 k₀) ?_
      refine own_step (s₁.setTop (mkF m 92 #[.val (.int pk), .val (.int qu), .val (.int fs0), .val (.int ls0), .val (.int cs0), .val (.int ((pk &&& (127 : Int32)).toUInt32.toUInt16.toUInt32.toInt32)), .val (.int ((((pk.toUInt32 >>> ((8 : Int32) &&& 31).toUInt32).toInt32) &&& (127 : Int32)).toUInt32.toUInt16.toUInt32.toInt32)), .val (.int ((((pk.toUInt32 >>> ((16 : Int32) &&& 31).toUInt32).toInt32) &&& (127 : Int32)).toUInt32.toUInt16.toUInt32.toInt32)), .val (.int ((((pk.toUInt32 >>> ((24 : Int32) &&& 31).toUInt32).toInt32) &&& (127 : Int32)).toUInt32.toUInt16.toUInt32.toInt32)), .val (.int ((ls0 &&& (7 : Int32)) % (5 : Int32))), .val (.int ((fs0 &&& (2147483647 : Int32)) % (6 : Int32))), .val (.int ((cs0 &&& (7 : Int32)) + (1 : Int32))), .val (.int (((qu.toUInt32 >>> ((7 : Int32) &&& 31).toUInt32).toInt32) &&& (7 : Int32))), .unset, .unset, .unset, .unset] [(.int ((((pk.toUInt32 >>> ((8 : Int32) &&& 31).toUInt32).toInt32) &&& (127 : Int32)).toUInt32.toUInt16.toUInt32.toInt32))])) (fun t₀ k₀ => XS.iload X0.here hx rfl (hb hby at_90) rfl k₀) ?_
      refine own_step (s₁.setTop (mkF m 94 #[.val (.int pk), .val (.int qu), .val (.int fs0), .val (.int ls0), .val (.int cs0), .val (.int ((pk &&& (127 : Int32)).toUInt32.toUInt16.toUInt32.toInt32)), .val (.int ((((pk.toUInt32 >>> ((8 : Int32) &&& 31).toUInt32).toInt32) &&& (127 : Int32)).toUInt32.toUInt16.toUInt32.toInt32)), .val (.int ((((pk.toUInt32 >>> ((16 : Int32) &&& 31).toUInt32).toInt32) &&& (127 : Int32)).toUInt32.toUInt16.toUInt32.toInt32)), .val (.int ((((pk.toUInt32 >>> ((24 : Int32) &&& 31).toUInt32).toInt32) &&& (127 : Int32)).toUInt32.toUInt16.toUInt32.toInt32)), .val (.int ((ls0 &&& (7 : Int32)) % (5 : Int32))), .val (.int ((fs0 &&& (2147483647 : Int32)) % (6 : Int32))), .val (.int ((cs0 &&& (7 : Int32)) + (1 : Int32))), .val (.int (((qu.toUInt32 >>> ((7 : Int32) &&& 31).toUInt32).toInt32) &&& (7 : Int32))), .val (.int ((((pk.toUInt32 >>> ((8 : Int32) &&& 31).toUInt32).toInt32) &&& (127 : Int32)).toUInt32.toUInt16.toUInt32.toInt32)), .unset, .unset, .unset] [])) (fun t₀ k₀ => XS.istore X0.here hx rfl (hb hby at_92) rfl (l' := #[.val (.int pk), .val (.int qu), .val (.int fs0), .val (.int ls0), .val (.int cs0), .val (.int ((pk &&& (127 : Int32)).toUInt32.toUInt16.toUInt32.toInt32)), .val (.int ((((pk.toUInt32 >>> ((8 : Int32) &&& 31).toUInt32).toInt32) &&& (127 : Int32)).toUInt32.toUInt16.toUInt32.toInt32)), .val (.int ((((pk.toUInt32 >>> ((16 : Int32) &&& 31).toUInt32).toInt32) &&& (127 : Int32)).toUInt32.toUInt16.toUInt32.toInt32)), .val (.int ((((pk.toUInt32 >>> ((24 : Int32) &&& 31).toUInt32).toInt32) &&& (127 : Int32)).toUInt32.toUInt16.toUInt32.toInt32)), .val (.int ((ls0 &&& (7 : Int32)) % (5 : Int32))), .val (.int ((fs0 &&& (2147483647 : Int32)) % (6 : Int32))), .val (.int ((cs0 &&& (7 : Int32)) + (1 : Int32))), .val (.int (((qu.toUInt32 >>> ((7 : Int32) &&& 31).toUInt32).toInt32) &&& (7 : Int32))), .val (.int ((((pk.toUInt32 >>> ((8 : Int32) &&& 31).toUInt32).toInt32) &&& (127 : Int32)).toUInt32.toUInt16.toUInt32.toInt32)), .unset, .unset, .unset]) rfl k₀) ?_
      refine own_step (s₁.setTop (mkF m 130 #[.val (.int pk), .val (.int qu), .val (.int fs0), .val (.int ls0), .val (.int cs0), .val (.int ((pk &&& (127 : Int32)).toUInt32.toUInt16.toUInt32.toInt32)), .val (.int ((((pk.toUInt32 >>> ((8 : Int32) &&& 31).toUInt32).toInt32) &&& (127 : Int32)).toUInt32.toUInt16.toUInt32.toInt32)), .val (.int ((((pk.toUInt32 >>> ((16 : Int32) &&& 31).toUInt32).toInt32) &&& (127 : Int32)).toUInt32.toUInt16.toUInt32.toInt32)), .val (.int ((((pk.toUInt32 >>> ((24 : Int32) &&& 31).toUInt32).toInt32) &&& (127 : Int32)).toUInt32.toUInt16.toUInt32.toInt32)), .val (.int ((ls0 &&& (7 : Int32)) % (5 : Int32))), .val (.int ((fs0 &&& (2147483647 : Int32)) % (6 : Int32))), .val (.int ((cs0 &&& (7 : Int32)) + (1 : Int32))), .val (.int (((qu.toUInt32 >>> ((7 : Int32) &&& 31).toUInt32).toInt32) &&& (7 : Int32))), .val (.int ((((pk.toUInt32 >>> ((8 : Int32) &&& 31).toUInt32).toInt32) &&& (127 : Int32)).toUInt32.toUInt16.toUInt32.toInt32)), .unset, .unset, .unset] [])) (fun t₀ k₀ => XS.goto X0.here hx rfl (pc0 := 94) (pc' := 130) rfl (hb hby at_94) (by decide) (by decide) k₀) ?_
      exact cut130 ((pk &&& (127 : Int32)).toUInt32.toUInt16.toUInt32.toInt32) ((((pk.toUInt32 >>> ((8 : Int32) &&& 31).toUInt32).toInt32) &&& (127 : Int32)).toUInt32.toUInt16.toUInt32.toInt32) ((((pk.toUInt32 >>> ((16 : Int32) &&& 31).toUInt32).toInt32) &&& (127 : Int32)).toUInt32.toUInt16.toUInt32.toInt32) ((((pk.toUInt32 >>> ((24 : Int32) &&& 31).toUInt32).toInt32) &&& (127 : Int32)).toUInt32.toUInt16.toUInt32.toInt32) ((ls0 &&& (7 : Int32)) % (5 : Int32)) ((fs0 &&& (2147483647 : Int32)) % (6 : Int32)) ((cs0 &&& (7 : Int32)) + (1 : Int32)) (((qu.toUInt32 >>> ((7 : Int32) &&& 31).toUInt32).toInt32) &&& (7 : Int32)) ((((pk.toUInt32 >>> ((8 : Int32) &&& 31).toUInt32).toInt32) &&& (127 : Int32)).toUInt32.toUInt16.toUInt32.toInt32) _ X0 e0 (own_hb _) (own_hb _) (own_hb _) (own_hb _) (own_caps _) (own_fn _ _)
    · skip
      refine own_step (s₁.setTop (mkF m 97 #[.val (.int pk), .val (.int qu), .val (.int fs0), .val (.int ls0), .val (.int cs0), .val (.int ((pk &&& (127 : Int32)).toUInt32.toUInt16.toUInt32.toInt32)), .val (.int ((((pk.toUInt32 >>> ((8 : Int32) &&& 31).toUInt32).toInt32) &&& (127 : Int32)).toUInt32.toUInt16.toUInt32.toInt32)), .val (.int ((((pk.toUInt32 >>> ((16 : Int32) &&& 31).toUInt32).toInt32) &&& (127 : Int32)).toUInt32.toUInt16.toUInt32.toInt32)), .val (.int ((((pk.toUInt32 >>> ((24 : Int32) &&& 31).toUInt32).toInt32) &&& (127 : Int32)).toUInt32.toUInt16.toUInt32.toInt32)), .val (.int ((ls0 &&& (7 : Int32)) % (5 : Int32))), .val (.int ((fs0 &&& (2147483647 : Int32)) % (6 : Int32))), .val (.int ((cs0 &&& (7 : Int32)) + (1 : Int32))), .val (.int (((qu.toUInt32 >>> ((7 : Int32) &&& 31).toUInt32).toInt32) &&& (7 : Int32))), .unset, .unset, .unset, .unset] [])) (fun t₀ k₀ => XS.icmpYes X0.here hx rfl (pc0 := 87) (pc' := 97) rfl (hb hby at_87) rfl (feq hc87).2 (by decide) (by decide) k₀) ?_
      refine own_step (s₁.setTop (mkF m 99 #[.val (.int pk), .val (.int qu), .val (.int fs0), .val (.int ls0), .val (.int cs0), .val (.int ((pk &&& (127 : Int32)).toUInt32.toUInt16.toUInt32.toInt32)), .val (.int ((((pk.toUInt32 >>> ((8 : Int32) &&& 31).toUInt32).toInt32) &&& (127 : Int32)).toUInt32.toUInt16.toUInt32.toInt32)), .val (.int ((((pk.toUInt32 >>> ((16 : Int32) &&& 31).toUInt32).toInt32) &&& (127 : Int32)).toUInt32.toUInt16.toUInt32.toInt32)), .val (.int ((((pk.toUInt32 >>> ((24 : Int32) &&& 31).toUInt32).toInt32) &&& (127 : Int32)).toUInt32.toUInt16.toUInt32.toInt32)), .val (.int ((ls0 &&& (7 : Int32)) % (5 : Int32))), .val (.int ((fs0 &&& (2147483647 : Int32)) % (6 : Int32))), .val (.int ((cs0 &&& (7 : Int32)) + (1 : Int32))), .val (.int (((qu.toUInt32 >>> ((7 : Int32) &&& 31).toUInt32).toInt32) &&& (7 : Int32))), .unset, .unset, .unset, .unset] [(.int (((qu.toUInt32 >>> ((7 : Int32) &&& 31).toUInt32).toInt32) &&& (7 : Int32)))])) (fun t₀ k₀ => XS.iload X0.here hx rfl (hb hby at_97) rfl k₀) ?_
      refine own_step (s₁.setTop (mkF m 100 #[.val (.int pk), .val (.int qu), .val (.int fs0), .val (.int ls0), .val (.int cs0), .val (.int ((pk &&& (127 : Int32)).toUInt32.toUInt16.toUInt32.toInt32)), .val (.int ((((pk.toUInt32 >>> ((8 : Int32) &&& 31).toUInt32).toInt32) &&& (127 : Int32)).toUInt32.toUInt16.toUInt32.toInt32)), .val (.int ((((pk.toUInt32 >>> ((16 : Int32) &&& 31).toUInt32).toInt32) &&& (127 : Int32)).toUInt32.toUInt16.toUInt32.toInt32)), .val (.int ((((pk.toUInt32 >>> ((24 : Int32) &&& 31).toUInt32).toInt32) &&& (127 : Int32)).toUInt32.toUInt16.toUInt32.toInt32)), .val (.int ((ls0 &&& (7 : Int32)) % (5 : Int32))), .val (.int ((fs0 &&& (2147483647 : Int32)) % (6 : Int32))), .val (.int ((cs0 &&& (7 : Int32)) + (1 : Int32))), .val (.int (((qu.toUInt32 >>> ((7 : Int32) &&& 31).toUInt32).toInt32) &&& (7 : Int32))), .unset, .unset, .unset, .unset] [(.int (2 : Int32)), (.int (((qu.toUInt32 >>> ((7 : Int32) &&& 31).toUInt32).toInt32) &&& (7 : Int32)))])) (fun t₀ k₀ => XS.iconst X0.here hx rfl (hb hby at_99) k₀) ?_
      by_cases hc100 : (((qu.toUInt32 >>> ((7 : Int32) &&& 31).toUInt32).toInt32) &&& (7 : Int32)) = (2 : Int32)
      · skip
        refine own_step (s₁.setTop (mkF m 103 #[.val (.int pk), .val (.int qu), .val (.int fs0), .val (.int ls0), .val (.int cs0), .val (.int ((pk &&& (127 : Int32)).toUInt32.toUInt16.toUInt32.toInt32)), .val (.int ((((pk.toUInt32 >>> ((8 : Int32) &&& 31).toUInt32).toInt32) &&& (127 : Int32)).toUInt32.toUInt16.toUInt32.toInt32)), .val (.int ((((pk.toUInt32 >>> ((16 : Int32) &&& 31).toUInt32).toInt32) &&& (127 : Int32)).toUInt32.toUInt16.toUInt32.toInt32)), .val (.int ((((pk.toUInt32 >>> ((24 : Int32) &&& 31).toUInt32).toInt32) &&& (127 : Int32)).toUInt32.toUInt16.toUInt32.toInt32)), .val (.int ((ls0 &&& (7 : Int32)) % (5 : Int32))), .val (.int ((fs0 &&& (2147483647 : Int32)) % (6 : Int32))), .val (.int ((cs0 &&& (7 : Int32)) + (1 : Int32))), .val (.int (((qu.toUInt32 >>> ((7 : Int32) &&& 31).toUInt32).toInt32) &&& (7 : Int32))), .unset, .unset, .unset, .unset] [])) (fun t₀ k₀ => XS.icmpNo X0.here hx rfl (hb hby at_100) rfl (teq hc100).2 k₀) ?_
        refine own_step (s₁.setTop (mkF m 105 #[.val (.int pk), .val (.int qu), .val (.int fs0), .val (.int ls0), .val (.int cs0), .val (.int ((pk &&& (127 : Int32)).toUInt32.toUInt16.toUInt32.toInt32)), .val (.int ((((pk.toUInt32 >>> ((8 : Int32) &&& 31).toUInt32).toInt32) &&& (127 : Int32)).toUInt32.toUInt16.toUInt32.toInt32)), .val (.int ((((pk.toUInt32 >>> ((16 : Int32) &&& 31).toUInt32).toInt32) &&& (127 : Int32)).toUInt32.toUInt16.toUInt32.toInt32)), .val (.int ((((pk.toUInt32 >>> ((24 : Int32) &&& 31).toUInt32).toInt32) &&& (127 : Int32)).toUInt32.toUInt16.toUInt32.toInt32)), .val (.int ((ls0 &&& (7 : Int32)) % (5 : Int32))), .val (.int ((fs0 &&& (2147483647 : Int32)) % (6 : Int32))), .val (.int ((cs0 &&& (7 : Int32)) + (1 : Int32))), .val (.int (((qu.toUInt32 >>> ((7 : Int32) &&& 31).toUInt32).toInt32) &&& (7 : Int32))), .unset, .unset, .unset, .unset] [(.int ((((pk.toUInt32 >>> ((16 : Int32) &&& 31).toUInt32).toInt32) &&& (127 : Int32)).toUInt32.toUInt16.toUInt32.toInt32))])) (fun t₀ k₀ => XS.iload X0.here hx rfl (hb hby at_103) rfl k₀) ?_
        refine own_step (s₁.setTop (mkF m 107 #[.val (.int pk), .val (.int qu), .val (.int fs0), .val (.int ls0), .val (.int cs0), .val (.int ((pk &&& (127 : Int32)).toUInt32.toUInt16.toUInt32.toInt32)), .val (.int ((((pk.toUInt32 >>> ((8 : Int32) &&& 31).toUInt32).toInt32) &&& (127 : Int32)).toUInt32.toUInt16.toUInt32.toInt32)), .val (.int ((((pk.toUInt32 >>> ((16 : Int32) &&& 31).toUInt32).toInt32) &&& (127 : Int32)).toUInt32.toUInt16.toUInt32.toInt32)), .val (.int ((((pk.toUInt32 >>> ((24 : Int32) &&& 31).toUInt32).toInt32) &&& (127 : Int32)).toUInt32.toUInt16.toUInt32.toInt32)), .val (.int ((ls0 &&& (7 : Int32)) % (5 : Int32))), .val (.int ((fs0 &&& (2147483647 : Int32)) % (6 : Int32))), .val (.int ((cs0 &&& (7 : Int32)) + (1 : Int32))), .val (.int (((qu.toUInt32 >>> ((7 : Int32) &&& 31).toUInt32).toInt32) &&& (7 : Int32))), .val (.int ((((pk.toUInt32 >>> ((16 : Int32) &&& 31).toUInt32).toInt32) &&& (127 : Int32)).toUInt32.toUInt16.toUInt32.toInt32)), .unset, .unset, .unset] [])) (fun t₀ k₀ => XS.istore X0.here hx rfl (hb hby at_105) rfl (l' := #[.val (.int pk), .val (.int qu), .val (.int fs0), .val (.int ls0), .val (.int cs0), .val (.int ((pk &&& (127 : Int32)).toUInt32.toUInt16.toUInt32.toInt32)), .val (.int ((((pk.toUInt32 >>> ((8 : Int32) &&& 31).toUInt32).toInt32) &&& (127 : Int32)).toUInt32.toUInt16.toUInt32.toInt32)), .val (.int ((((pk.toUInt32 >>> ((16 : Int32) &&& 31).toUInt32).toInt32) &&& (127 : Int32)).toUInt32.toUInt16.toUInt32.toInt32)), .val (.int ((((pk.toUInt32 >>> ((24 : Int32) &&& 31).toUInt32).toInt32) &&& (127 : Int32)).toUInt32.toUInt16.toUInt32.toInt32)), .val (.int ((ls0 &&& (7 : Int32)) % (5 : Int32))), .val (.int ((fs0 &&& (2147483647 : Int32)) % (6 : Int32))), .val (.int ((cs0 &&& (7 : Int32)) + (1 : Int32))), .val (.int (((qu.toUInt32 >>> ((7 : Int32) &&& 31).toUInt32).toInt32) &&& (7 : Int32))), .val (.int ((((pk.toUInt32 >>> ((16 : Int32) &&& 31).toUInt32).toInt32) &&& (127 : Int32)).toUInt32.toUInt16.toUInt32.toInt32)), .unset, .unset, .unset]) rfl k₀) ?_
        refine own_step (s₁.setTop (mkF m 130 #[.val (.int pk), .val (.int qu), .val (.int fs0), .val (.int ls0), .val (.int cs0), .val (.int ((pk &&& (127 : Int32)).toUInt32.toUInt16.toUInt32.toInt32)), .val (.int ((((pk.toUInt32 >>> ((8 : Int32) &&& 31).toUInt32).toInt32) &&& (127 : Int32)).toUInt32.toUInt16.toUInt32.toInt32)), .val (.int ((((pk.toUInt32 >>> ((16 : Int32) &&& 31).toUInt32).toInt32) &&& (127 : Int32)).toUInt32.toUInt16.toUInt32.toInt32)), .val (.int ((((pk.toUInt32 >>> ((24 : Int32) &&& 31).toUInt32).toInt32) &&& (127 : Int32)).toUInt32.toUInt16.toUInt32.toInt32)), .val (.int ((ls0 &&& (7 : Int32)) % (5 : Int32))), .val (.int ((fs0 &&& (2147483647 : Int32)) % (6 : Int32))), .val (.int ((cs0 &&& (7 : Int32)) + (1 : Int32))), .val (.int (((qu.toUInt32 >>> ((7 : Int32) &&& 31).toUInt32).toInt32) &&& (7 : Int32))), .val (.int ((((pk.toUInt32 >>> ((16 : Int32) &&& 31).toUInt32).toInt32) &&& (127 : Int32)).toUInt32.toUInt16.toUInt32.toInt32)), .unset, .unset, .unset] [])) (fun t₀ k₀ => XS.goto X0.here hx rfl (pc0 := 107) (pc' := 130) rfl (hb hby at_107) (by decide) (by decide) k₀) ?_
        exact cut130 ((pk &&& (127 : Int32)).toUInt32.toUInt16.toUInt32.toInt32) ((((pk.toUInt32 >>> ((8 : Int32) &&& 31).toUInt32).toInt32) &&& (127 : Int32)).toUInt32.toUInt16.toUInt32.toInt32) ((((pk.toUInt32 >>> ((16 : Int32) &&& 31).toUInt32).toInt32) &&& (127 : Int32)).toUInt32.toUInt16.toUInt32.toInt32) ((((pk.toUInt32 >>> ((24 : Int32) &&& 31).toUInt32).toInt32) &&& (127 : Int32)).toUInt32.toUInt16.toUInt32.toInt32) ((ls0 &&& (7 : Int32)) % (5 : Int32)) ((fs0 &&& (2147483647 : Int32)) % (6 : Int32)) ((cs0 &&& (7 : Int32)) + (1 : Int32)) (((qu.toUInt32 >>> ((7 : Int32) &&& 31).toUInt32).toInt32) &&& (7 : Int32)) ((((pk.toUInt32 >>> ((16 : Int32) &&& 31).toUInt32).toInt32) &&& (127 : Int32)).toUInt32.toUInt16.toUInt32.toInt32) _ X0 e0 (own_hb _) (own_hb _) (own_hb _) (own_hb _) (own_caps _) (own_fn _ _)
      · skip
        refine own_step (s₁.setTop (mkF m 110 #[.val (.int pk), .val (.int qu), .val (.int fs0), .val (.int ls0), .val (.int cs0), .val (.int ((pk &&& (127 : Int32)).toUInt32.toUInt16.toUInt32.toInt32)), .val (.int ((((pk.toUInt32 >>> ((8 : Int32) &&& 31).toUInt32).toInt32) &&& (127 : Int32)).toUInt32.toUInt16.toUInt32.toInt32)), .val (.int ((((pk.toUInt32 >>> ((16 : Int32) &&& 31).toUInt32).toInt32) &&& (127 : Int32)).toUInt32.toUInt16.toUInt32.toInt32)), .val (.int ((((pk.toUInt32 >>> ((24 : Int32) &&& 31).toUInt32).toInt32) &&& (127 : Int32)).toUInt32.toUInt16.toUInt32.toInt32)), .val (.int ((ls0 &&& (7 : Int32)) % (5 : Int32))), .val (.int ((fs0 &&& (2147483647 : Int32)) % (6 : Int32))), .val (.int ((cs0 &&& (7 : Int32)) + (1 : Int32))), .val (.int (((qu.toUInt32 >>> ((7 : Int32) &&& 31).toUInt32).toInt32) &&& (7 : Int32))), .unset, .unset, .unset, .unset] [])) (fun t₀ k₀ => XS.icmpYes X0.here hx rfl (pc0 := 100) (pc' := 110) rfl (hb hby at_100) rfl (feq hc100).2 (by decide) (by decide) k₀) ?_
        refine own_step (s₁.setTop (mkF m 112 #[.val (.int pk), .val (.int qu), .val (.int fs0), .val (.int ls0), .val (.int cs0), .val (.int ((pk &&& (127 : Int32)).toUInt32.toUInt16.toUInt32.toInt32)), .val (.int ((((pk.toUInt32 >>> ((8 : Int32) &&& 31).toUInt32).toInt32) &&& (127 : Int32)).toUInt32.toUInt16.toUInt32.toInt32)), .val (.int ((((pk.toUInt32 >>> ((16 : Int32) &&& 31).toUInt32).toInt32) &&& (127 : Int32)).toUInt32.toUInt16.toUInt32.toInt32)), .val (.int ((((pk.toUInt32 >>> ((24 : Int32) &&& 31).toUInt32).toInt32) &&& (127 : Int32)).toUInt32.toUInt16.toUInt32.toInt32)), .val (.int ((ls0 &&& (7 : Int32)) % (5 : Int32))), .val (.int ((fs0 &&& (2147483647 : Int32)) % (6 : Int32))), .val (.int ((cs0 &&& (7 : Int32)) + (1 : Int32))), .val (.int (((qu.toUInt32 >>> ((7 : Int32) &&& 31).toUInt32).toInt32) &&& (7 : Int32))), .unset, .unset, .unset, .unset] [(.int (((qu.toUInt32 >>> ((7 : Int32) &&& 31).toUInt32).toInt32) &&& (7 : Int32)))])) (fun t₀ k₀ => XS.iload X0.here hx rfl (hb hby at_110) rfl k₀) ?_
        refine own_step (s₁.setTop (mkF m 113 #[.val (.int pk), .val (.int qu), .val (.int fs0), .val (.int ls0), .val (.int cs0), .val (.int ((pk &&& (127 : Int32)).toUInt32.toUInt16.toUInt32.toInt32)), .val (.int ((((pk.toUInt32 >>> ((8 : Int32) &&& 31).toUInt32).toInt32) &&& (127 : Int32)).toUInt32.toUInt16.toUInt32.toInt32)), .val (.int ((((pk.toUInt32 >>> ((16 : Int32) &&& 31).toUInt32).toInt32) &&& (127 : Int32)).toUInt32.toUInt16.toUInt32.toInt32)), .val (.int ((((pk.toUInt32 >>> ((24 : Int32) &&& 31).toUInt32).toInt32) &&& (127 : Int32)).toUInt32.toUInt16.toUInt32.toInt32)), .val (.int ((ls0 &&& (7 : Int32)) % (5 : Int32))), .val (.int ((fs0 &&& (2147483647 : Int32)) % (6 : Int32))), .val (.int ((cs0 &&& (7 : Int32)) + (1 : Int32))), .val (.int (((qu.toUInt32 >>> ((7 : Int32) &&& 31).toUInt32).toInt32) &&& (7 : Int32))), .unset, .unset, .unset, .unset] [(.int (3 : Int32)), (.int (((qu.toUInt32 >>> ((7 : Int32) &&& 31).toUInt32).toInt32) &&& (7 : Int32)))])) (fun t₀ k₀ => XS.iconst X0.here hx rfl (hb hby at_112) k₀) ?_
        by_cases hc113 : (((qu.toUInt32 >>> ((7 : Int32) &&& 31).toUInt32).toInt32) &&& (7 : Int32)) = (3 : Int32)
        · skip
          refine own_step (s₁.setTop (mkF m 116 #[.val (.int pk), .val (.int qu), .val (.int fs0), .val (.int ls0), .val (.int cs0), .val (.int ((pk &&& (127 : Int32)).toUInt32.toUInt16.toUInt32.toInt32)), .val (.int ((((pk.toUInt32 >>> ((8 : Int32) &&& 31).toUInt32).toInt32) &&& (127 : Int32)).toUInt32.toUInt16.toUInt32.toInt32)), .val (.int ((((pk.toUInt32 >>> ((16 : Int32) &&& 31).toUInt32).toInt32) &&& (127 : Int32)).toUInt32.toUInt16.toUInt32.toInt32)), .val (.int ((((pk.toUInt32 >>> ((24 : Int32) &&& 31).toUInt32).toInt32) &&& (127 : Int32)).toUInt32.toUInt16.toUInt32.toInt32)), .val (.int ((ls0 &&& (7 : Int32)) % (5 : Int32))), .val (.int ((fs0 &&& (2147483647 : Int32)) % (6 : Int32))), .val (.int ((cs0 &&& (7 : Int32)) + (1 : Int32))), .val (.int (((qu.toUInt32 >>> ((7 : Int32) &&& 31).toUInt32).toInt32) &&& (7 : Int32))), .unset, .unset, .unset, .unset] [])) (fun t₀ k₀ => XS.icmpNo X0.here hx rfl (hb hby at_113) rfl (teq hc113).2 k₀) ?_
          refine own_step (s₁.setTop (mkF m 118 #[.val (.int pk), .val (.int qu), .val (.int fs0), .val (.int ls0), .val (.int cs0), .val (.int ((pk &&& (127 : Int32)).toUInt32.toUInt16.toUInt32.toInt32)), .val (.int ((((pk.toUInt32 >>> ((8 : Int32) &&& 31).toUInt32).toInt32) &&& (127 : Int32)).toUInt32.toUInt16.toUInt32.toInt32)), .val (.int ((((pk.toUInt32 >>> ((16 : Int32) &&& 31).toUInt32).toInt32) &&& (127 : Int32)).toUInt32.toUInt16.toUInt32.toInt32)), .val (.int ((((pk.toUInt32 >>> ((24 : Int32) &&& 31).toUInt32).toInt32) &&& (127 : Int32)).toUInt32.toUInt16.toUInt32.toInt32)), .val (.int ((ls0 &&& (7 : Int32)) % (5 : Int32))), .val (.int ((fs0 &&& (2147483647 : Int32)) % (6 : Int32))), .val (.int ((cs0 &&& (7 : Int32)) + (1 : Int32))), .val (.int (((qu.toUInt32 >>> ((7 : Int32) &&& 31).toUInt32).toInt32) &&& (7 : Int32))), .unset, .unset, .unset, .unset] [(.int ((((pk.toUInt32 >>> ((24 : Int32) &&& 31).toUInt32).toInt32) &&& (127 : Int32)).toUInt32.toUInt16.toUInt32.toInt32))])) (fun t₀ k₀ => XS.iload X0.here hx rfl (hb hby at_116) rfl k₀) ?_
          refine own_step (s₁.setTop (mkF m 120 #[.val (.int pk), .val (.int qu), .val (.int fs0), .val (.int ls0), .val (.int cs0), .val (.int ((pk &&& (127 : Int32)).toUInt32.toUInt16.toUInt32.toInt32)), .val (.int ((((pk.toUInt32 >>> ((8 : Int32) &&& 31).toUInt32).toInt32) &&& (127 : Int32)).toUInt32.toUInt16.toUInt32.toInt32)), .val (.int ((((pk.toUInt32 >>> ((16 : Int32) &&& 31).toUInt32).toInt32) &&& (127 : Int32)).toUInt32.toUInt16.toUInt32.toInt32)), .val (.int ((((pk.toUInt32 >>> ((24 : Int32) &&& 31).toUInt32).toInt32) &&& (127 : Int32)).toUInt32.toUInt16.toUInt32.toInt32)), .val (.int ((ls0 &&& (7 : Int32)) % (5 : Int32))), .val (.int ((fs0 &&& (2147483647 : Int32)) % (6 : Int32))), .val (.int ((cs0 &&& (7 : Int32)) + (1 : Int32))), .val (.int (((qu.toUInt32 >>> ((7 : Int32) &&& 31).toUInt32).toInt32) &&& (7 : Int32))), .val (.int ((((pk.toUInt32 >>> ((24 : Int32) &&& 31).toUInt32).toInt32) &&& (127 : Int32)).toUInt32.toUInt16.toUInt32.toInt32)), .unset, .unset, .unset] [])) (fun t₀ k₀ => XS.istore X0.here hx rfl (hb hby at_118) rfl (l' := #[.val (.int pk), .val (.int qu), .val (.int fs0), .val (.int ls0), .val (.int cs0), .val (.int ((pk &&& (127 : Int32)).toUInt32.toUInt16.toUInt32.toInt32)), .val (.int ((((pk.toUInt32 >>> ((8 : Int32) &&& 31).toUInt32).toInt32) &&& (127 : Int32)).toUInt32.toUInt16.toUInt32.toInt32)), .val (.int ((((pk.toUInt32 >>> ((16 : Int32) &&& 31).toUInt32).toInt32) &&& (127 : Int32)).toUInt32.toUInt16.toUInt32.toInt32)), .val (.int ((((pk.toUInt32 >>> ((24 : Int32) &&& 31).toUInt32).toInt32) &&& (127 : Int32)).toUInt32.toUInt16.toUInt32.toInt32)), .val (.int ((ls0 &&& (7 : Int32)) % (5 : Int32))), .val (.int ((fs0 &&& (2147483647 : Int32)) % (6 : Int32))), .val (.int ((cs0 &&& (7 : Int32)) + (1 : Int32))), .val (.int (((qu.toUInt32 >>> ((7 : Int32) &&& 31).toUInt32).toInt32) &&& (7 : Int32))), .val (.int ((((pk.toUInt32 >>> ((24 : Int32) &&& 31).toUInt32).toInt32) &&& (127 : Int32)).toUInt32.toUInt16.toUInt32.toInt32)), .unset, .unset, .unset]) rfl k₀) ?_
          refine own_step (s₁.setTop (mkF m 130 #[.val (.int pk), .val (.int qu), .val (.int fs0), .val (.int ls0), .val (.int cs0), .val (.int ((pk &&& (127 : Int32)).toUInt32.toUInt16.toUInt32.toInt32)), .val (.int ((((pk.toUInt32 >>> ((8 : Int32) &&& 31).toUInt32).toInt32) &&& (127 : Int32)).toUInt32.toUInt16.toUInt32.toInt32)), .val (.int ((((pk.toUInt32 >>> ((16 : Int32) &&& 31).toUInt32).toInt32) &&& (127 : Int32)).toUInt32.toUInt16.toUInt32.toInt32)), .val (.int ((((pk.toUInt32 >>> ((24 : Int32) &&& 31).toUInt32).toInt32) &&& (127 : Int32)).toUInt32.toUInt16.toUInt32.toInt32)), .val (.int ((ls0 &&& (7 : Int32)) % (5 : Int32))), .val (.int ((fs0 &&& (2147483647 : Int32)) % (6 : Int32))), .val (.int ((cs0 &&& (7 : Int32)) + (1 : Int32))), .val (.int (((qu.toUInt32 >>> ((7 : Int32) &&& 31).toUInt32).toInt32) &&& (7 : Int32))), .val (.int ((((pk.toUInt32 >>> ((24 : Int32) &&& 31).toUInt32).toInt32) &&& (127 : Int32)).toUInt32.toUInt16.toUInt32.toInt32)), .unset, .unset, .unset] [])) (fun t₀ k₀ => XS.goto X0.here hx rfl (pc0 := 120) (pc' := 130) rfl (hb hby at_120) (by decide) (by decide) k₀) ?_
          exact cut130 ((pk &&& (127 : Int32)).toUInt32.toUInt16.toUInt32.toInt32) ((((pk.toUInt32 >>> ((8 : Int32) &&& 31).toUInt32).toInt32) &&& (127 : Int32)).toUInt32.toUInt16.toUInt32.toInt32) ((((pk.toUInt32 >>> ((16 : Int32) &&& 31).toUInt32).toInt32) &&& (127 : Int32)).toUInt32.toUInt16.toUInt32.toInt32) ((((pk.toUInt32 >>> ((24 : Int32) &&& 31).toUInt32).toInt32) &&& (127 : Int32)).toUInt32.toUInt16.toUInt32.toInt32) ((ls0 &&& (7 : Int32)) % (5 : Int32)) ((fs0 &&& (2147483647 : Int32)) % (6 : Int32)) ((cs0 &&& (7 : Int32)) + (1 : Int32)) (((qu.toUInt32 >>> ((7 : Int32) &&& 31).toUInt32).toInt32) &&& (7 : Int32)) ((((pk.toUInt32 >>> ((24 : Int32) &&& 31).toUInt32).toInt32) &&& (127 : Int32)).toUInt32.toUInt16.toUInt32.toInt32) _ X0 e0 (own_hb _) (own_hb _) (own_hb _) (own_hb _) (own_caps _) (own_fn _ _)
        · skip
          refine own_step (s₁.setTop (mkF m 123 #[.val (.int pk), .val (.int qu), .val (.int fs0), .val (.int ls0), .val (.int cs0), .val (.int ((pk &&& (127 : Int32)).toUInt32.toUInt16.toUInt32.toInt32)), .val (.int ((((pk.toUInt32 >>> ((8 : Int32) &&& 31).toUInt32).toInt32) &&& (127 : Int32)).toUInt32.toUInt16.toUInt32.toInt32)), .val (.int ((((pk.toUInt32 >>> ((16 : Int32) &&& 31).toUInt32).toInt32) &&& (127 : Int32)).toUInt32.toUInt16.toUInt32.toInt32)), .val (.int ((((pk.toUInt32 >>> ((24 : Int32) &&& 31).toUInt32).toInt32) &&& (127 : Int32)).toUInt32.toUInt16.toUInt32.toInt32)), .val (.int ((ls0 &&& (7 : Int32)) % (5 : Int32))), .val (.int ((fs0 &&& (2147483647 : Int32)) % (6 : Int32))), .val (.int ((cs0 &&& (7 : Int32)) + (1 : Int32))), .val (.int (((qu.toUInt32 >>> ((7 : Int32) &&& 31).toUInt32).toInt32) &&& (7 : Int32))), .unset, .unset, .unset, .unset] [])) (fun t₀ k₀ => XS.icmpYes X0.here hx rfl (pc0 := 113) (pc' := 123) rfl (hb hby at_113) rfl (feq hc113).2 (by decide) (by decide) k₀) ?_
          refine own_step (s₁.setTop (mkF m 124 #[.val (.int pk), .val (.int qu), .val (.int fs0), .val (.int ls0), .val (.int cs0), .val (.int ((pk &&& (127 : Int32)).toUInt32.toUInt16.toUInt32.toInt32)), .val (.int ((((pk.toUInt32 >>> ((8 : Int32) &&& 31).toUInt32).toInt32) &&& (127 : Int32)).toUInt32.toUInt16.toUInt32.toInt32)), .val (.int ((((pk.toUInt32 >>> ((16 : Int32) &&& 31).toUInt32).toInt32) &&& (127 : Int32)).toUInt32.toUInt16.toUInt32.toInt32)), .val (.int ((((pk.toUInt32 >>> ((24 : Int32) &&& 31).toUInt32).toInt32) &&& (127 : Int32)).toUInt32.toUInt16.toUInt32.toInt32)), .val (.int ((ls0 &&& (7 : Int32)) % (5 : Int32))), .val (.int ((fs0 &&& (2147483647 : Int32)) % (6 : Int32))), .val (.int ((cs0 &&& (7 : Int32)) + (1 : Int32))), .val (.int (((qu.toUInt32 >>> ((7 : Int32) &&& 31).toUInt32).toInt32) &&& (7 : Int32))), .unset, .unset, .unset, .unset] [(.int qu)])) (fun t₀ k₀ => XS.iloadN X0.here hx rfl (hb hby at_123) rfl k₀) ?_
          refine own_step (s₁.setTop (mkF m 126 #[.val (.int pk), .val (.int qu), .val (.int fs0), .val (.int ls0), .val (.int cs0), .val (.int ((pk &&& (127 : Int32)).toUInt32.toUInt16.toUInt32.toInt32)), .val (.int ((((pk.toUInt32 >>> ((8 : Int32) &&& 31).toUInt32).toInt32) &&& (127 : Int32)).toUInt32.toUInt16.toUInt32.toInt32)), .val (.int ((((pk.toUInt32 >>> ((16 : Int32) &&& 31).toUInt32).toInt32) &&& (127 : Int32)).toUInt32.toUInt16.toUInt32.toInt32)), .val (.int ((((pk.toUInt32 >>> ((24 : Int32) &&& 31).toUInt32).toInt32) &&& (127 : Int32)).toUInt32.toUInt16.toUInt32.toInt32)), .val (.int ((ls0 &&& (7 : Int32)) % (5 : Int32))), .val (.int ((fs0 &&& (2147483647 : Int32)) % (6 : Int32))), .val (.int ((cs0 &&& (7 : Int32)) + (1 : Int32))), .val (.int (((qu.toUInt32 >>> ((7 : Int32) &&& 31).toUInt32).toInt32) &&& (7 : Int32))), .unset, .unset, .unset, .unset] [(.int (127 : Int32)), (.int qu)])) (fun t₀ k₀ => XS.bipush X0.here hx rfl (hb hby at_124) k₀) ?_
          refine own_step (s₁.setTop (mkF m 127 #[.val (.int pk), .val (.int qu), .val (.int fs0), .val (.int ls0), .val (.int cs0), .val (.int ((pk &&& (127 : Int32)).toUInt32.toUInt16.toUInt32.toInt32)), .val (.int ((((pk.toUInt32 >>> ((8 : Int32) &&& 31).toUInt32).toInt32) &&& (127 : Int32)).toUInt32.toUInt16.toUInt32.toInt32)), .val (.int ((((pk.toUInt32 >>> ((16 : Int32) &&& 31).toUInt32).toInt32) &&& (127 : Int32)).toUInt32.toUInt16.toUInt32.toInt32)), .val (.int ((((pk.toUInt32 >>> ((24 : Int32) &&& 31).toUInt32).toInt32) &&& (127 : Int32)).toUInt32.toUInt16.toUInt32.toInt32)), .val (.int ((ls0 &&& (7 : Int32)) % (5 : Int32))), .val (.int ((fs0 &&& (2147483647 : Int32)) % (6 : Int32))), .val (.int ((cs0 &&& (7 : Int32)) + (1 : Int32))), .val (.int (((qu.toUInt32 >>> ((7 : Int32) &&& 31).toUInt32).toInt32) &&& (7 : Int32))), .unset, .unset, .unset, .unset] [(.int (qu &&& (127 : Int32)))])) (fun t₀ k₀ => XS.iand X0.here hx rfl (hb hby at_126) rfl k₀) ?_
          refine own_step (s₁.setTop (mkF m 128 #[.val (.int pk), .val (.int qu), .val (.int fs0), .val (.int ls0), .val (.int cs0), .val (.int ((pk &&& (127 : Int32)).toUInt32.toUInt16.toUInt32.toInt32)), .val (.int ((((pk.toUInt32 >>> ((8 : Int32) &&& 31).toUInt32).toInt32) &&& (127 : Int32)).toUInt32.toUInt16.toUInt32.toInt32)), .val (.int ((((pk.toUInt32 >>> ((16 : Int32) &&& 31).toUInt32).toInt32) &&& (127 : Int32)).toUInt32.toUInt16.toUInt32.toInt32)), .val (.int ((((pk.toUInt32 >>> ((24 : Int32) &&& 31).toUInt32).toInt32) &&& (127 : Int32)).toUInt32.toUInt16.toUInt32.toInt32)), .val (.int ((ls0 &&& (7 : Int32)) % (5 : Int32))), .val (.int ((fs0 &&& (2147483647 : Int32)) % (6 : Int32))), .val (.int ((cs0 &&& (7 : Int32)) + (1 : Int32))), .val (.int (((qu.toUInt32 >>> ((7 : Int32) &&& 31).toUInt32).toInt32) &&& (7 : Int32))), .unset, .unset, .unset, .unset] [(.int ((qu &&& (127 : Int32)).toUInt32.toUInt16.toUInt32.toInt32))])) (fun t₀ k₀ => XS.i2c X0.here hx rfl (hb hby at_127) rfl k₀) ?_
          refine own_step (s₁.setTop (mkF m 130 #[.val (.int pk), .val (.int qu), .val (.int fs0), .val (.int ls0), .val (.int cs0), .val (.int ((pk &&& (127 : Int32)).toUInt32.toUInt16.toUInt32.toInt32)), .val (.int ((((pk.toUInt32 >>> ((8 : Int32) &&& 31).toUInt32).toInt32) &&& (127 : Int32)).toUInt32.toUInt16.toUInt32.toInt32)), .val (.int ((((pk.toUInt32 >>> ((16 : Int32) &&& 31).toUInt32).toInt32) &&& (127 : Int32)).toUInt32.toUInt16.toUInt32.toInt32)), .val (.int ((((pk.toUInt32 >>> ((24 : Int32) &&& 31).toUInt32).toInt32) &&& (127 : Int32)).toUInt32.toUInt16.toUInt32.toInt32)), .val (.int ((ls0 &&& (7 : Int32)) % (5 : Int32))), .val (.int ((fs0 &&& (2147483647 : Int32)) % (6 : Int32))), .val (.int ((cs0 &&& (7 : Int32)) + (1 : Int32))), .val (.int (((qu.toUInt32 >>> ((7 : Int32) &&& 31).toUInt32).toInt32) &&& (7 : Int32))), .val (.int ((qu &&& (127 : Int32)).toUInt32.toUInt16.toUInt32.toInt32)), .unset, .unset, .unset] [])) (fun t₀ k₀ => XS.istore X0.here hx rfl (hb hby at_128) rfl (l' := #[.val (.int pk), .val (.int qu), .val (.int fs0), .val (.int ls0), .val (.int cs0), .val (.int ((pk &&& (127 : Int32)).toUInt32.toUInt16.toUInt32.toInt32)), .val (.int ((((pk.toUInt32 >>> ((8 : Int32) &&& 31).toUInt32).toInt32) &&& (127 : Int32)).toUInt32.toUInt16.toUInt32.toInt32)), .val (.int ((((pk.toUInt32 >>> ((16 : Int32) &&& 31).toUInt32).toInt32) &&& (127 : Int32)).toUInt32.toUInt16.toUInt32.toInt32)), .val (.int ((((pk.toUInt32 >>> ((24 : Int32) &&& 31).toUInt32).toInt32) &&& (127 : Int32)).toUInt32.toUInt16.toUInt32.toInt32)), .val (.int ((ls0 &&& (7 : Int32)) % (5 : Int32))), .val (.int ((fs0 &&& (2147483647 : Int32)) % (6 : Int32))), .val (.int ((cs0 &&& (7 : Int32)) + (1 : Int32))), .val (.int (((qu.toUInt32 >>> ((7 : Int32) &&& 31).toUInt32).toInt32) &&& (7 : Int32))), .val (.int ((qu &&& (127 : Int32)).toUInt32.toUInt16.toUInt32.toInt32)), .unset, .unset, .unset]) rfl k₀) ?_
          exact cut130 ((pk &&& (127 : Int32)).toUInt32.toUInt16.toUInt32.toInt32) ((((pk.toUInt32 >>> ((8 : Int32) &&& 31).toUInt32).toInt32) &&& (127 : Int32)).toUInt32.toUInt16.toUInt32.toInt32) ((((pk.toUInt32 >>> ((16 : Int32) &&& 31).toUInt32).toInt32) &&& (127 : Int32)).toUInt32.toUInt16.toUInt32.toInt32) ((((pk.toUInt32 >>> ((24 : Int32) &&& 31).toUInt32).toInt32) &&& (127 : Int32)).toUInt32.toUInt16.toUInt32.toInt32) ((ls0 &&& (7 : Int32)) % (5 : Int32)) ((fs0 &&& (2147483647 : Int32)) % (6 : Int32)) ((cs0 &&& (7 : Int32)) + (1 : Int32)) (((qu.toUInt32 >>> ((7 : Int32) &&& 31).toUInt32).toInt32) &&& (7 : Int32)) ((qu &&& (127 : Int32)).toUInt32.toUInt16.toUInt32.toInt32) _ X0 e0 (own_hb _) (own_hb _) (own_hb _) (own_hb _) (own_caps _) (own_fn _ _)
set_option maxRecDepth 65536 in
set_option maxHeartbeats 40000000 in
theorem comes_1 {Post : Tables → Env → Array Value → State → Outcome → State → Prop} (hpost : ∀ tb e args s v u, (limb_1_1.after args s (.returned v) u = true ∧ limb_1_2.after args s (.returned v) u = true ∧ True) → FrameEnd s (.returned v) u (Jvm.fieldLocs frame_1_writes args s ++ Jvm.arrayLocs frame_1_arrays args s ++ Jvm.staticLocs frame_1_statics s) 16 128 → Post tb e args s (.returned v) u) :
    ArmFor flags0 classFile x code maxLocals ret World_1 tables_1 room_1 Calls_1 rest_1 Pre_1 Post := by
  intro l hfl _ _ p e ha hc hk s m args below hf hA hF happ hP
  obtain ⟨hcalls, hrest, hpre⟩ := hP
  obtain ⟨-, -, -, hnamed, -, -, -, hat⟩ := (Spec.applies_iff hf).mp happ
  obtain ⟨hg, hn⟩ := and_e (Cond.before_iff.mp (show (Jvm.Cond.and given_1 narrow_1).before args s = true from hpre))
  obtain ⟨hcount, hg0⟩ := and_e hg
  obtain ⟨ga0, hg1⟩ := and_e hg0
  obtain ⟨ga1, hg2⟩ := and_e hg1
  obtain ⟨ga2, hg3⟩ := and_e hg2
  obtain ⟨ga3, hg4⟩ := and_e hg3
  have ga4 := hg4
  obtain ⟨w0, w1, w2, w3, w4, rfl⟩ : ∃ w0 w1 w2 w3 w4 : Value, args = #[w0, w1, w2, w3, w4] := by
    have hs : args.size = 5 := by simpa [Cond.value, given_1] using hcount
    obtain ⟨L⟩ := args
    match L, hs with
    | [w0, w1, w2, w3, w4], _ => exact ⟨w0, w1, w2, w3, w4, rfl⟩
  have hw := fun d (hd : d ∈ tables_1) => atoms_spec (ws := Jvm.Cond.code x code maxLocals ret :: tables_1) hat d (List.mem_cons_of_mem _ hd)
  have hfit : Fit s := fun {y c} hc i hi => by
    obtain ⟨ha, rfl⟩ := Array.getElem?_eq_some_iff.mp hc
    have q := List.all_eq_true.mp ((Array.all_eq_true_iff_forall_mem.mp hF) _ (Array.getElem_mem ha)) i (List.mem_range.mpr hi)
    simpa [Array.getElem?_eq_getElem hi] using q
  obtain ⟨i0, ei0⟩ := is_v ga0
  obtain rfl : w0 = (.int i0) := Option.some.inj ei0
  obtain ⟨i1, ei1⟩ := is_v ga1
  obtain rfl : w1 = (.int i1) := Option.some.inj ei1
  obtain ⟨i2, ei2⟩ := is_v ga2
  obtain rfl : w2 = (.int i2) := Option.some.inj ei2
  obtain ⟨i3, ei3⟩ := is_v ga3
  obtain rfl : w3 = (.int i3) := Option.some.inj ei3
  obtain ⟨i4, ei4⟩ := is_v ga4
  obtain rfl : w4 = (.int i4) := Option.some.inj ei4
  obtain ⟨n, o, h1, h2, h3, _, L, rfl, ⟨rfl, N⟩, hq⟩ := rm0 l s _ hw tables_1 i0 i1 i2 i3 i4 s.heap s.heap.size (Nat.le_refl _) p e ha hc hk s m _ below hf ((Spec.applies_iff_loose hf).mp happ).1 ⟨rfl, State.Warmed39.refl s, rfl⟩ trivial
  refine ⟨n, _, h1, h2, h3, hpost _ _ _ _ _ _ ⟨Cond.after_iff.mpr rfl, Cond.after_iff.mpr (eq_i res_at (Term.int_eval (1)) rfl), trivial⟩ ⟨hq.1, hq.2.1, (hq.2.2.sift fun y hy => Or.inr (N y hy)).mono (by decide) (by decide)⟩⟩
theorem main_1_1 : Claimed_1_1 := comes_1 fun _ _ _ _ _ _ h hF => ⟨h.1, hF⟩
theorem main_1_2 : Claimed_1_2 := comes_1 fun _ _ _ _ _ _ h hF => ⟨h.2.1, hF⟩
end Jvm.Pilot.@@N@@
namespace Jvm.Pilot.@@N@@
open Jvm Jvm.ClassFile Sem Op Lib Jvm.Free Jvm.Stand Jvm.Pilot.@@N@@.Jvm.D
/-! MADE BY PROGRAM (witnessworld.py) out of the Statement's table words and the real class files: 12 classes; the members and pool entries that the words name. The judged class is class 1, her method 1. -/
namespace start1
open Jvm.ClassFile
def u (s : String) : CpInfo := .utf8 (stringToUtf16 s)
/-- a pool by its gaps: so many unusable entries, then the entry; so many at the end -/
def gap : Nat → List CpInfo → List CpInfo
  | 0, r => r
  | n + 1, r => .unusable :: gap n r
def poolList (es : List (Nat × CpInfo)) (last : Nat) : List CpInfo := es.foldr (fun e r => gap e.1 (e.2 :: r)) (gap last [])
def pool (es : List (Nat × CpInfo)) (last : Nat) : Array CpInfo := ⟨poolList es last⟩
def fileOf (pool : Array CpInfo) (this : Nat) (attrs : Array Attribute := #[]) (ms : Array MethodInfo := #[]) (fl : Nat := 33) (sup : Nat := 0) (ifs : Array Nat := #[]) (fds : Array FieldInfo := #[]) : ClassFile where
  minorVersion := 0
  majorVersion := 65
  constantPool := pool
  accessFlags := fl
  thisClass := this
  superClass := sup
  interfaces := ifs
  fields := fds
  methods := ms
  attributes := attrs
def plain (name : String) (sup : Option ClassId) : Class where
  name := name
  kind := .ordinary
  loader := none
  accessFlags := 33
  super := sup
  interfaces := #[]
  cf := none
  fields := #[]
  methods := #[]
  instanceTypes := #[]
  staticTypes := #[]
  resolved := #[]
  callSites := []
  init := .initialized
  statics := none
  mirror := none

def pool0 : Array CpInfo := pool [(5, u "<init>"), (0, u "()V"), (1, .class_ 10), (1, u "java/lang/Object")] 113

def k0c0 : Code := { maxStack := 0, maxLocals := 1, code := object_method_1_code, exceptionTable := #[], attributes := #[] }
def k0m0 : Method := { name := "<init>", desc := "()V", sig := { parameters := [], returnType := none }, accessFlags := 1, code := some k0c0 }
/-- java/lang/Object -/
def k0 : Class := { plain "java/lang/Object" none with
  accessFlags := 33
  interfaces := #[]
  cf := some (fileOf pool0 8 #[] #[{ accessFlags := 1, nameIndex := 5, descriptorIndex := 6, attributes := #[] }] 33 0 #[] #[])
  fields := #[]
  methods := #[k0m0]
  instanceTypes := #[]
  staticTypes := #[]
  resolved := Array.replicate 124 none
  statics := none }

def pool1 : Array CpInfo := pool [(2, .class_ 4), (1, u "java/lang/Object"), (0, u "<init>"), (0, u "()V"), (0, .integer 2147483647), (0, .class_ 9), (0, u "com/example/notesmith/notesmith/report/LineBuffer"), (0, .methodref 8 11), (0, .nameAndType 5 12), (0, u "(I)V"), (0, .methodref 8 14), (0, .nameAndType 15 16), (0, u "append"), (0, u "(C)Lcom/example/notesmith/notesmith/report/LineBuffer;"), (0, .methodref 8 18), (0, .nameAndType 19 12), (0, u "setLength"), (0, .methodref 8 21), (0, .nameAndType 22 23), (0, u "indexOf"), (0, u "(CI)I"), (0, .methodref 8 25), (0, .nameAndType 26 27), (0, u "length"), (0, u "()I"), (0, .class_ 29), (0, u "com/example/notesmith/notesmith/report/LineBufferIndexOfPinLaw"), (2, u "law"), (0, u "(IIIII)Z")] 3

def k1m0 : Method := { name := "<init>", desc := "()V", sig := { parameters := [], returnType := none }, accessFlags := 1, code := none }
def k1c1 : Code := { maxStack := 3, maxLocals := 17, code := code, exceptionTable := #[], attributes := #[] }
def k1m1 : Method := { name := "law", desc := "(IIIII)Z", sig := { parameters := [.int, .int, .int, .int, .int], returnType := some .boolean }, accessFlags := 9, code := some k1c1 }
/-- com/example/notesmith/notesmith/report/LineBufferIndexOfPinLaw -/
def k1 : Class := { plain "com/example/notesmith/notesmith/report/LineBufferIndexOfPinLaw" (some 0) with
  accessFlags := 49
  interfaces := #[]
  cf := some (fileOf pool1 28 #[] #[{ accessFlags := 1, nameIndex := 5, descriptorIndex := 6, attributes := #[] }, { accessFlags := 9, nameIndex := 32, descriptorIndex := 33, attributes := #[] }] 49 2 #[] #[])
  fields := #[]
  methods := #[k1m0, k1m1]
  instanceTypes := #[]
  staticTypes := #[]
  resolved := Array.replicate 37 none
  statics := none }

def pool2 : Array CpInfo := pool [(1, .methodref 2 3), (0, .class_ 4), (0, .nameAndType 5 6), (0, u "java/lang/Object"), (0, u "<init>"), (0, u "()V"), (0, .fieldref 8 9), (0, .class_ 10), (0, .nameAndType 11 12), (0, u "com/example/notesmith/notesmith/report/LineBuffer"), (0, u "bytes"), (0, u "[B"), (0, .fieldref 8 14), (0, .nameAndType 15 16), (0, u "length"), (0, u "I"), (0, .methodref 8 18), (0, .nameAndType 19 20), (0, u "ensureRoom"), (0, u "(I)V"), (1, .class_ 24), (1, u "java/util/Arrays"), (7, .class_ 34), (1, u "java/lang/Math"), (12, u "()I"), (20, u "append"), (10, .methodref 32 80), (0, .nameAndType 81 82), (0, u "max"), (0, u "(II)I"), (0, .methodref 22 84), (0, .nameAndType 85 86), (0, u "copyOf"), (0, u "([BI)[B"), (2, u "setLength"), (2, u "indexOf"), (0, u "(CI)I"), (1, u "(C)Lcom/example/notesmith/notesmith/report/LineBuffer;")] 17

def k2c0 : Code := { maxStack := 2, maxLocals := 2, code := prog_104_method_1_code, exceptionTable := #[], attributes := #[] }
def k2m0 : Method := { name := "<init>", desc := "(I)V", sig := { parameters := [.int], returnType := none }, accessFlags := 0, code := some k2c0 }
def k2c1 : Code := { maxStack := 1, maxLocals := 1, code := prog_104_method_2_code, exceptionTable := #[], attributes := #[] }
def k2m1 : Method := { name := "length", desc := "()I", sig := { parameters := [], returnType := some .int }, accessFlags := 0, code := some k2c1 }
def k2c2 : Code := { maxStack := 2, maxLocals := 2, code := prog_104_method_3_code, exceptionTable := #[], attributes := #[] }
def k2m2 : Method := { name := "setLength", desc := "(I)V", sig := { parameters := [.int], returnType := none }, accessFlags := 0, code := some k2c2 }
def k2c3 : Code := { maxStack := 2, maxLocals := 5, code := prog_104_method_6_code, exceptionTable := #[], attributes := #[] }
def k2m3 : Method := { name := "indexOf", desc := "(CI)I", sig := { parameters := [.char, .int], returnType := some .int }, accessFlags := 0, code := some k2c3 }
def k2c4 : Code := { maxStack := 3, maxLocals := 2, code := prog_104_method_7_code, exceptionTable := #[], attributes := #[] }
def k2m4 : Method := { name := "append", desc := "(C)Lcom/example/notesmith/notesmith/report/LineBuffer;", sig := { parameters := [.char], returnType := some (.object "com/example/notesmith/notesmith/report/LineBuffer") }, accessFlags := 0, code := some k2c4 }
def k2c5 : Code := { maxStack := 5, maxLocals := 2, code := prog_104_method_17_code, exceptionTable := #[], attributes := #[] }
def k2m5 : Method := { name := "ensureRoom", desc := "(I)V", sig := { parameters := [.int], returnType := none }, accessFlags := 2, code := some k2c5 }
/-- com/example/notesmith/notesmith/report/LineBuffer -/
def k2 : Class := { plain "com/example/notesmith/notesmith/report/LineBuffer" (some 0) with
  accessFlags := 48
  interfaces := #[]
  cf := some (fileOf pool2 8 #[] #[{ accessFlags := 0, nameIndex := 5, descriptorIndex := 20, attributes := #[] }, { accessFlags := 0, nameIndex := 15, descriptorIndex := 47, attributes := #[] }, { accessFlags := 0, nameIndex := 89, descriptorIndex := 20, attributes := #[] }, { accessFlags := 0, nameIndex := 92, descriptorIndex := 93, attributes := #[] }, { accessFlags := 0, nameIndex := 68, descriptorIndex := 95, attributes := #[] }, { accessFlags := 2, nameIndex := 19, descriptorIndex := 20, attributes := #[] }] 48 2 #[] #[{ accessFlags := 2, nameIndex := 11, descriptorIndex := 12, attributes := #[] }, { accessFlags := 2, nameIndex := 15, descriptorIndex := 16, attributes := #[] }])
  fields := #[{ name := "bytes", type := (.array .byte), accessFlags := 2, slot := 0, constantValue := 0 }, { name := "length", type := .int, accessFlags := 2, slot := 1, constantValue := 0 }]
  methods := #[k2m0, k2m1, k2m2, k2m3, k2m4, k2m5]
  instanceTypes := #[(.array .byte), .int]
  staticTypes := #[]
  resolved := Array.replicate 113 none
  statics := none }

def pool3 : Array CpInfo := pool [(1, .class_ 2), (0, u "java/lang/Math"), (1, .class_ 6), (1, u "java/lang/Object"), (0, u "<init>"), (0, u "()V"), (89, .class_ 100), (1, u "java/lang/Math$RandomNumberGeneratorHolder"), (71, u "negativeZeroFloatBits"), (0, u "J"), (2, u "negativeZeroDoubleBits"), (21, u "max"), (2, u "min"), (43, u "$assertionsDisabled"), (0, u "Z"), (88, u "(II)I"), (2, u "twoToTheDoubleScaleDown"), (0, u "D"), (4, u "twoToTheDoubleScaleUp"), (9, u "E"), (3, u "PI"), (2, u "TAU"), (2, u "DEGREES_TO_RADIANS"), (0, u "RADIANS_TO_DEGREES")] 94

def k3m0 : Method := { name := "<init>", desc := "()V", sig := { parameters := [], returnType := none }, accessFlags := 2, code := none }
def k3c1 : Code := { maxStack := 2, maxLocals := 2, code := jdk_29_method_65_code, exceptionTable := #[], attributes := #[] }
def k3m1 : Method := { name := "max", desc := "(II)I", sig := { parameters := [.int, .int], returnType := some .int }, accessFlags := 9, code := some k3c1 }
def k3c2 : Code := { maxStack := 2, maxLocals := 2, code := jdk_29_method_69_code, exceptionTable := #[], attributes := #[] }
def k3m2 : Method := { name := "min", desc := "(II)I", sig := { parameters := [.int, .int], returnType := some .int }, accessFlags := 9, code := some k3c2 }
/-- java/lang/Math -/
def k3 : Class := { plain "java/lang/Math" (some 0) with
  accessFlags := 49
  interfaces := #[]
  cf := some (fileOf pool3 1 #[.nestMembers #[98]] #[{ accessFlags := 2, nameIndex := 7, descriptorIndex := 8, attributes := #[] }, { accessFlags := 9, nameIndex := 198, descriptorIndex := 335, attributes := #[] }, { accessFlags := 9, nameIndex := 201, descriptorIndex := 335, attributes := #[] }] 49 4 #[] #[{ accessFlags := 25, nameIndex := 354, descriptorIndex := 339, attributes := #[] }, { accessFlags := 25, nameIndex := 358, descriptorIndex := 339, attributes := #[] }, { accessFlags := 25, nameIndex := 361, descriptorIndex := 339, attributes := #[] }, { accessFlags := 26, nameIndex := 364, descriptorIndex := 339, attributes := #[] }, { accessFlags := 26, nameIndex := 365, descriptorIndex := 339, attributes := #[] }, { accessFlags := 26, nameIndex := 172, descriptorIndex := 173, attributes := #[] }, { accessFlags := 26, nameIndex := 176, descriptorIndex := 173, attributes := #[] }, { accessFlags := 8, nameIndex := 344, descriptorIndex := 339, attributes := #[] }, { accessFlags := 8, nameIndex := 338, descriptorIndex := 339, attributes := #[] }, { accessFlags := 4120, nameIndex := 245, descriptorIndex := 246, attributes := #[] }])
  fields := #[{ name := "E", type := .double, accessFlags := 25, slot := 0, constantValue := 0 }, { name := "PI", type := .double, accessFlags := 25, slot := 1, constantValue := 0 }, { name := "TAU", type := .double, accessFlags := 25, slot := 2, constantValue := 0 }, { name := "DEGREES_TO_RADIANS", type := .double, accessFlags := 26, slot := 3, constantValue := 0 }, { name := "RADIANS_TO_DEGREES", type := .double, accessFlags := 26, slot := 4, constantValue := 0 }, { name := "negativeZeroFloatBits", type := .long, accessFlags := 26, slot := 5, constantValue := 0 }, { name := "negativeZeroDoubleBits", type := .long, accessFlags := 26, slot := 6, constantValue := 0 }, { name := "twoToTheDoubleScaleUp", type := .double, accessFlags := 8, slot := 7, constantValue := 0 }, { name := "twoToTheDoubleScaleDown", type := .double, accessFlags := 8, slot := 8, constantValue := 0 }, { name := "$assertionsDisabled", type := .boolean, accessFlags := 4120, slot := 9, constantValue := 0 }]
  methods := #[k3m0, k3m1, k3m2]
  instanceTypes := #[]
  staticTypes := #[.double, .double, .double, .double, .double, .long, .long, .double, .double, .boolean]
  resolved := Array.replicate 460 none
  statics := none }

def pool4 : Array CpInfo := pool [(2, .class_ 4), (1, u "java/lang/Object"), (0, u "<init>"), (0, u "()V"), (7, .class_ 16), (1, u "java/util/Arrays"), (57, .class_ 76), (1, u "java/util/Arrays$NaturalOrder"), (36, .class_ 115), (1, u "java/util/Arrays$LegacyMergeSort"), (1, u "Z"), (32, .methodref 151 152), (0, .class_ 153), (0, .nameAndType 154 155), (0, u "java/lang/System"), (0, u "arraycopy"), (0, u "(Ljava/lang/Object;ILjava/lang/Object;II)V"), (146, u "copyOf"), (1, .methodref 305 306), (0, .class_ 307), (0, .nameAndType 308 309), (0, u "java/lang/Math"), (0, u "min"), (0, u "(II)I"), (65, .class_ 376), (0, u "java/util/Arrays$ArrayList"), (68, u "$assertionsDisabled"), (269, u "MIN_ARRAY_SORT_GRAN"), (0, u "I"), (2, u "INSERTIONSORT_THRESHOLD"), (149, u "([BI)[B"), (105, .class_ 976), (0, u "java/util/Arrays$ArrayItr")] 52

def k4m0 : Method := { name := "<init>", desc := "()V", sig := { parameters := [], returnType := none }, accessFlags := 2, code := none }
def k4c1 : Code := { maxStack := 6, maxLocals := 3, code := jdk_65_method_121_code, exceptionTable := #[], attributes := #[] }
def k4m1 : Method := { name := "copyOf", desc := "([BI)[B", sig := { parameters := [(.array .byte), .int], returnType := some (.array .byte) }, accessFlags := 9, code := some k4c1 }
/-- java/util/Arrays -/
def k4 : Class := { plain "java/util/Arrays" (some 0) with
  accessFlags := 49
  interfaces := #[]
  cf := some (fileOf pool4 14 #[.nestMembers #[975, 375, 113, 74]] #[{ accessFlags := 2, nameIndex := 5, descriptorIndex := 6, attributes := #[] }, { accessFlags := 9, nameIndex := 302, descriptorIndex := 869, attributes := #[] }] 49 2 #[] #[{ accessFlags := 26, nameIndex := 715, descriptorIndex := 716, attributes := #[] }, { accessFlags := 26, nameIndex := 719, descriptorIndex := 716, attributes := #[] }, { accessFlags := 4120, nameIndex := 445, descriptorIndex := 117, attributes := #[] }])
  fields := #[{ name := "MIN_ARRAY_SORT_GRAN", type := .int, accessFlags := 26, slot := 0, constantValue := 0 }, { name := "INSERTIONSORT_THRESHOLD", type := .int, accessFlags := 26, slot := 1, constantValue := 0 }, { name := "$assertionsDisabled", type := .boolean, accessFlags := 4120, slot := 2, constantValue := 0 }]
  methods := #[k4m0, k4m1]
  instanceTypes := #[]
  staticTypes := #[.int, .int, .boolean]
  resolved := Array.replicate 1029 none
  statics := none }

def pool5 : Array CpInfo := pool [(2, .class_ 4), (1, u "java/lang/Object"), (0, u "<init>"), (0, u "()V"), (1, .class_ 10), (1, u "java/lang/System"), (0, u "allowSecurityManager"), (0, u "I"), (16, u "cons"), (0, u "Ljava/io/Console;"), (77, .class_ 110), (1, u "java/lang/System$CallersHolder"), (43, u "initialErrStream"), (0, u "Ljava/io/PrintStream;"), (19, u "security"), (0, u "Ljava/lang/SecurityManager;"), (31, .class_ 209), (0, u "java/lang/System$1"), (7, u "props"), (0, u "Ljava/util/Properties;"), (2, u "lineSeparator"), (0, u "Ljava/lang/String;"), (96, .class_ 321), (1, u "java/lang/System$LoggerFinder"), (5, .class_ 328), (0, u "java/lang/System$Logger"), (67, u "err"), (2, u "out"), (91, u "notSupportedJnuEncoding"), (15, u "in"), (17, u "initialIn"), (0, u "Ljava/io/InputStream;"), (35, u "bootLayer"), (0, u "Ljava/lang/ModuleLayer;"), (99, .class_ 664), (0, u "java/lang/System$2"), (9, u "NEVER"), (2, u "MAYBE"), (49, u "arraycopy"), (0, u "(Ljava/lang/Object;ILjava/lang/Object;II)V"), (72, .class_ 802), (0, u "java/lang/System$Logger$Level")] 31

def k5m0 : Method := { name := "<init>", desc := "()V", sig := { parameters := [], returnType := none }, accessFlags := 2, code := none }
def k5m1 : Method := { name := "arraycopy", desc := "(Ljava/lang/Object;ILjava/lang/Object;II)V", sig := { parameters := [(.object "java/lang/Object"), .int, (.object "java/lang/Object"), .int, .int], returnType := none }, accessFlags := 265, code := none }
/-- java/lang/System -/
def k5 : Class := { plain "java/lang/System" (some 0) with
  accessFlags := 49
  interfaces := #[]
  cf := some (fileOf pool5 8 #[.nestMembers #[319, 327, 801, 108, 663, 208]] #[{ accessFlags := 2, nameIndex := 5, descriptorIndex := 6, attributes := #[] }, { accessFlags := 265, nameIndex := 727, descriptorIndex := 728, attributes := #[] }] 49 2 #[] #[{ accessFlags := 25, nameIndex := 507, descriptorIndex := 526, attributes := #[] }, { accessFlags := 25, nameIndex := 399, descriptorIndex := 155, attributes := #[] }, { accessFlags := 25, nameIndex := 396, descriptorIndex := 155, attributes := #[] }, { accessFlags := 10, nameIndex := 525, descriptorIndex := 526, attributes := #[] }, { accessFlags := 26, nameIndex := 674, descriptorIndex := 12, attributes := #[] }, { accessFlags := 26, nameIndex := 677, descriptorIndex := 12, attributes := #[] }, { accessFlags := 10, nameIndex := 11, descriptorIndex := 12, attributes := #[] }, { accessFlags := 74, nameIndex := 175, descriptorIndex := 176, attributes := #[] }, { accessFlags := 10, nameIndex := 491, descriptorIndex := 222, attributes := #[] }, { accessFlags := 74, nameIndex := 29, descriptorIndex := 30, attributes := #[] }, { accessFlags := 74, nameIndex := 154, descriptorIndex := 155, attributes := #[] }, { accessFlags := 10, nameIndex := 217, descriptorIndex := 218, attributes := #[] }, { accessFlags := 10, nameIndex := 221, descriptorIndex := 222, attributes := #[] }, { accessFlags := 8, nameIndex := 562, descriptorIndex := 563, attributes := #[] }])
  fields := #[{ name := "in", type := (.object "java/io/InputStream"), accessFlags := 25, slot := 0, constantValue := 0 }, { name := "out", type := (.object "java/io/PrintStream"), accessFlags := 25, slot := 1, constantValue := 0 }, { name := "err", type := (.object "java/io/PrintStream"), accessFlags := 25, slot := 2, constantValue := 0 }, { name := "initialIn", type := (.object "java/io/InputStream"), accessFlags := 10, slot := 3, constantValue := 0 }, { name := "NEVER", type := .int, accessFlags := 26, slot := 4, constantValue := 0 }, { name := "MAYBE", type := .int, accessFlags := 26, slot := 5, constantValue := 0 }, { name := "allowSecurityManager", type := .int, accessFlags := 10, slot := 6, constantValue := 0 }, { name := "security", type := (.object "java/lang/SecurityManager"), accessFlags := 74, slot := 7, constantValue := 0 }, { name := "notSupportedJnuEncoding", type := (.object "java/lang/String"), accessFlags := 10, slot := 8, constantValue := 0 }, { name := "cons", type := (.object "java/io/Console"), accessFlags := 74, slot := 9, constantValue := 0 }, { name := "initialErrStream", type := (.object "java/io/PrintStream"), accessFlags := 74, slot := 10, constantValue := 0 }, { name := "props", type := (.object "java/util/Properties"), accessFlags := 10, slot := 11, constantValue := 0 }, { name := "lineSeparator", type := (.object "java/lang/String"), accessFlags := 10, slot := 12, constantValue := 0 }, { name := "bootLayer", type := (.object "java/lang/ModuleLayer"), accessFlags := 8, slot := 13, constantValue := 0 }]
  methods := #[k5m0, k5m1]
  instanceTypes := #[]
  staticTypes := #[(.object "java/io/InputStream"), (.object "java/io/PrintStream"), (.object "java/io/PrintStream"), (.object "java/io/InputStream"), .int, .int, .int, (.object "java/lang/SecurityManager"), (.object "java/lang/String"), (.object "java/io/Console"), (.object "java/io/PrintStream"), (.object "java/util/Properties"), (.object "java/lang/String"), (.object "java/lang/ModuleLayer")]
  resolved := Array.replicate 834 none
  statics := none }

def pool6 : Array CpInfo := pool [(1, u "java/lang/Cloneable"), (0, .class_ 1), (0, u "java/lang/Object"), (0, .class_ 3)] 3

/-- java/lang/Cloneable -/
def k6 : Class := { plain "java/lang/Cloneable" (some 0) with
  accessFlags := 1537
  interfaces := #[]
  cf := some (fileOf pool6 2 #[] #[] 1537 4 #[] #[])
  fields := #[]
  methods := #[]
  instanceTypes := #[]
  staticTypes := #[]
  resolved := Array.replicate 8 none
  statics := none }

def pool7 : Array CpInfo := pool [(1, u "java/io/Serializable"), (0, .class_ 1), (0, u "java/lang/Object"), (0, .class_ 3)] 3

/-- java/io/Serializable -/
def k7 : Class := { plain "java/io/Serializable" (some 0) with
  accessFlags := 1537
  interfaces := #[]
  cf := some (fileOf pool7 2 #[] #[] 1537 4 #[] #[])
  fields := #[]
  methods := #[]
  instanceTypes := #[]
  staticTypes := #[]
  resolved := Array.replicate 8 none
  statics := none }

/-- the primitive byte -/
def k8 : Class := { plain "byte" none with kind := .primitive 'B', accessFlags := 0x411 }
/-- [B -/
def k9 : Class := { plain "[B" (some 0) with kind := .array 8 .byte, interfaces := #[6, 7], accessFlags := 1041 }

/-- the primitive int -/
def k10 : Class := { plain "int" none with kind := .primitive 'I', accessFlags := 0x411 }
/-- [I -/
def k11 : Class := { plain "[I" (some 0) with kind := .array 10 .int, interfaces := #[6, 7], accessFlags := 1041 }

def heap : Heap := #[]
def classes : Array Class := #[k0, k1, k2, k3, k4, k5, k6, k7, k8, k9, k10, k11]
def interned : List (Array UInt16 × Addr) := []
def slotsUsed : Nat := 0
def theMethod : MethodId := ⟨1, 1⟩
def args0 : Array Value := #[.int 5, .int 7, .int 1, .int 3, .int 2]
def aboutOver (below : List Frame) : State where
  vm := { classes := classes, interned := interned.toArray }
  heap := heap
  slotsUsed := slotsUsed
  threads := #[{ frames := .invoking theMethod args0 :: below }]
def below0 : List Frame := [.native { method := ⟨0, 0⟩, args := #[] }]
def about1 : State := aboutOver below0
def p0 : Program := .bare "" "" ""
def e0 : Env := launch0.env 0 0 0
theorem w_frames : about1.frames = Frame.invoking theMethod args0 :: below0 := rfl
set_option maxRecDepth 65536 in
theorem w_args : argsFit about1.vm theMethod args0 = true := by decide +kernel
set_option maxRecDepth 65536 in
theorem w_heap : heapFits about1 = true := by decide +kernel
set_option maxRecDepth 65536 in
theorem w_runnable : about1.curStatus? = some .runnable := by decide +kernel
set_option maxRecDepth 65536 in
theorem w_alone : about1.alone = true := by decide +kernel
set_option maxRecDepth 65536 in
theorem w_named : about1.methodNamed? x = some theMethod := by decide +kernel
set_option maxRecDepth 65536 in
theorem w_hears : about1.hears theMethod below0 = true := by decide +kernel
set_option maxRecDepth 65536 in
theorem w_ripe : about1.ripe theMethod args0 below0 = true := by decide +kernel
theorem w_running : about1.status = .running := rfl
set_option maxRecDepth 65536 in
theorem w_room : about1.hasRoom e0.platform room_1 = true :=
  launch0.hasRoom_least _ room_1 (by decide +kernel) (by decide +kernel) (by decide +kernel) (by decide +kernel) (by decide +kernel) (by decide +kernel)
theorem allAtoms_all (ts : List Jvm.Cond) (a : Array Jvm.Value) (st : Jvm.State) : (allAtoms ts).before a st = ts.all (fun c => c.before a st) := by
  induction ts with
  | nil => rfl
  | cons c t ih =>
    show (Jvm.Cond.and c (allAtoms t)).before a st = _
    rw [Jvm.Cond.before_and, ih, List.all_cons]
def words1 : List Jvm.Cond := Jvm.Cond.code x code maxLocals ret :: tables_1
/-- a 'code' word, met by the world's own term for the bytes: nothing is compared byte by byte -/
theorem code_word {y : MethodName} {bytes : ByteArray} {mx : Nat} {rt : Option FieldType} {a : Array Value} {s : State} {m : MethodId} {meth : Method} {c : Code} (h1 : s.methodNamed? y = some m) (h2 : s.vm.method? m = some meth) (h3 : meth.code = some c) (h4 : c.code = bytes)
    (h5 : (c.maxLocals == mx && c.exceptionTable.isEmpty && decide (c.maxStack ≤ mostOperands) && decide (meth.sig.returnType = rt) && !meth.locks && decide (parseMethodDescriptor y.desc = some meth.sig)) = true) : (Jvm.Cond.code y bytes mx rt).before a s = true := by
  simp only [Bool.and_eq_true, beq_iff_eq, Bool.not_eq_true', decide_eq_true_eq] at h5
  obtain ⟨⟨⟨⟨⟨g1, g2⟩, g3⟩, g4⟩, g5⟩, g6⟩ := h5
  simp [Cond.before, Cond.holds, Cond.value, h1, h2, h3, h4, g1, g2, g3, g4, g5, g6]
def isCode : Jvm.Cond → Bool
  | .code _ _ _ _ => true
  | _ => false
theorem all_split {L : List Jvm.Cond} {P : Jvm.Cond → Bool} (h1 : L.all (fun c => isCode c || P c) = true) (h2 : ∀ c ∈ L.filter isCode, P c = true) : L.all P = true := by
  refine List.all_eq_true.mpr fun c hc => ?_
  have h := List.all_eq_true.mp h1 c hc
  rcases Bool.eq_false_or_eq_true (isCode c) with hi | hi
  · exact h2 c (List.mem_filter.mpr ⟨hc, hi⟩)
  · simpa [hi] using h
set_option maxRecDepth 65536 in
theorem w_c0 : (Jvm.Cond.code x code maxLocals ret).before args0 about1 = true := code_word (m := ⟨1, 1⟩) (meth := k1m1) (c := k1c1) (by decide +kernel) rfl rfl rfl (by decide +kernel)
set_option maxRecDepth 65536 in
theorem w_c1 : (Jvm.Cond.code ({ cls := "com/example/notesmith/notesmith/report/LineBuffer", name := "<init>", desc := "(I)V" } : Jvm.MethodName) prog_104_method_1_code (2 : Nat) (Option.none : Option Jvm.ClassFile.FieldType)).before args0 about1 = true := code_word (m := ⟨2, 0⟩) (meth := k2m0) (c := k2c0) (by decide +kernel) rfl rfl rfl (by decide +kernel)
set_option maxRecDepth 65536 in
theorem w_c2 : (Jvm.Cond.code ({ cls := "java/lang/Object", name := "<init>", desc := "()V" } : Jvm.MethodName) object_method_1_code (1 : Nat) (Option.none : Option Jvm.ClassFile.FieldType)).before args0 about1 = true := code_word (m := ⟨0, 0⟩) (meth := k0m0) (c := k0c0) (by decide +kernel) rfl rfl rfl (by decide +kernel)
set_option maxRecDepth 65536 in
theorem w_c3 : (Jvm.Cond.code ({ cls := "com/example/notesmith/notesmith/report/LineBuffer", name := "append", desc := "(C)Lcom/example/notesmith/notesmith/report/LineBuffer;" } : Jvm.MethodName) prog_104_method_7_code (2 : Nat) (Option.some (Jvm.ClassFile.FieldType.object "com/example/notesmith/notesmith/report/LineBuffer"))).before args0 about1 = true := code_word (m := ⟨2, 4⟩) (meth := k2m4) (c := k2c4) (by decide +kernel) rfl rfl rfl (by decide +kernel)
set_option maxRecDepth 65536 in
theorem w_c4 : (Jvm.Cond.code ({ cls := "com/example/notesmith/notesmith/report/LineBuffer", name := "ensureRoom", desc := "(I)V" } : Jvm.MethodName) prog_104_method_17_code (2 : Nat) (Option.none : Option Jvm.ClassFile.FieldType)).before args0 about1 = true := code_word (m := ⟨2, 5⟩) (meth := k2m5) (c := k2c5) (by decide +kernel) rfl rfl rfl (by decide +kernel)
set_option maxRecDepth 65536 in
theorem w_c5 : (Jvm.Cond.code ({ cls := "java/lang/Math", name := "max", desc := "(II)I" } : Jvm.MethodName) jdk_29_method_65_code (2 : Nat) (Option.some Jvm.ClassFile.FieldType.int)).before args0 about1 = true := code_word (m := ⟨3, 1⟩) (meth := k3m1) (c := k3c1) (by decide +kernel) rfl rfl rfl (by decide +kernel)
set_option maxRecDepth 65536 in
theorem w_c6 : (Jvm.Cond.code ({ cls := "java/util/Arrays", name := "copyOf", desc := "([BI)[B" } : Jvm.MethodName) jdk_65_method_121_code (3 : Nat) (Option.some (Jvm.ClassFile.FieldType.array Jvm.ClassFile.FieldType.byte))).before args0 about1 = true := code_word (m := ⟨4, 1⟩) (meth := k4m1) (c := k4c1) (by decide +kernel) rfl rfl rfl (by decide +kernel)
set_option maxRecDepth 65536 in
theorem w_c7 : (Jvm.Cond.code ({ cls := "java/lang/Math", name := "min", desc := "(II)I" } : Jvm.MethodName) jdk_29_method_69_code (2 : Nat) (Option.some Jvm.ClassFile.FieldType.int)).before args0 about1 = true := code_word (m := ⟨3, 2⟩) (meth := k3m2) (c := k3c2) (by decide +kernel) rfl rfl rfl (by decide +kernel)
set_option maxRecDepth 65536 in
theorem w_c8 : (Jvm.Cond.code ({ cls := "com/example/notesmith/notesmith/report/LineBuffer", name := "setLength", desc := "(I)V" } : Jvm.MethodName) prog_104_method_3_code (2 : Nat) (Option.none : Option Jvm.ClassFile.FieldType)).before args0 about1 = true := code_word (m := ⟨2, 2⟩) (meth := k2m2) (c := k2c2) (by decide +kernel) rfl rfl rfl (by decide +kernel)
set_option maxRecDepth 65536 in
theorem w_c9 : (Jvm.Cond.code ({ cls := "com/example/notesmith/notesmith/report/LineBuffer", name := "indexOf", desc := "(CI)I" } : Jvm.MethodName) prog_104_method_6_code (5 : Nat) (Option.some Jvm.ClassFile.FieldType.int)).before args0 about1 = true := code_word (m := ⟨2, 3⟩) (meth := k2m3) (c := k2c3) (by decide +kernel) rfl rfl rfl (by decide +kernel)
set_option maxRecDepth 65536 in
theorem w_c10 : (Jvm.Cond.code ({ cls := "com/example/notesmith/notesmith/report/LineBuffer", name := "length", desc := "()I" } : Jvm.MethodName) prog_104_method_2_code (1 : Nat) (Option.some Jvm.ClassFile.FieldType.int)).before args0 about1 = true := code_word (m := ⟨2, 1⟩) (meth := k2m1) (c := k2c1) (by decide +kernel) rfl rfl rfl (by decide +kernel)
def codes1 : List Jvm.Cond := [Jvm.Cond.code x code maxLocals ret, Jvm.Cond.code ({ cls := "com/example/notesmith/notesmith/report/LineBuffer", name := "<init>", desc := "(I)V" } : Jvm.MethodName) prog_104_method_1_code (2 : Nat) (Option.none : Option Jvm.ClassFile.FieldType), Jvm.Cond.code ({ cls := "java/lang/Object", name := "<init>", desc := "()V" } : Jvm.MethodName) object_method_1_code (1 : Nat) (Option.none : Option Jvm.ClassFile.FieldType), Jvm.Cond.code ({ cls := "com/example/notesmith/notesmith/report/LineBuffer", name := "append", desc := "(C)Lcom/example/notesmith/notesmith/report/LineBuffer;" } : Jvm.MethodName) prog_104_method_7_code (2 : Nat) (Option.some (Jvm.ClassFile.FieldType.object "com/example/notesmith/notesmith/report/LineBuffer")), Jvm.Cond.code ({ cls := "com/example/notesmith/notesmith/report/LineBuffer", name := "ensureRoom", desc := "(I)V" } : Jvm.MethodName) prog_104_method_17_code (2 : Nat) (Option.none : Option Jvm.ClassFile.FieldType), Jvm.Cond.code ({ cls := "java/lang/Math", name := "max", desc := "(II)I" } : Jvm.MethodName) jdk_29_method_65_code (2 : Nat) (Option.some Jvm.ClassFile.FieldType.int), Jvm.Cond.code ({ cls := "java/util/Arrays", name := "copyOf", desc := "([BI)[B" } : Jvm.MethodName) jdk_65_method_121_code (3 : Nat) (Option.some (Jvm.ClassFile.FieldType.array Jvm.ClassFile.FieldType.byte)), Jvm.Cond.code ({ cls := "java/lang/Math", name := "min", desc := "(II)I" } : Jvm.MethodName) jdk_29_method_69_code (2 : Nat) (Option.some Jvm.ClassFile.FieldType.int), Jvm.Cond.code ({ cls := "com/example/notesmith/notesmith/report/LineBuffer", name := "setLength", desc := "(I)V" } : Jvm.MethodName) prog_104_method_3_code (2 : Nat) (Option.none : Option Jvm.ClassFile.FieldType), Jvm.Cond.code ({ cls := "com/example/notesmith/notesmith/report/LineBuffer", name := "indexOf", desc := "(CI)I" } : Jvm.MethodName) prog_104_method_6_code (5 : Nat) (Option.some Jvm.ClassFile.FieldType.int), Jvm.Cond.code ({ cls := "com/example/notesmith/notesmith/report/LineBuffer", name := "length", desc := "()I" } : Jvm.MethodName) prog_104_method_2_code (1 : Nat) (Option.some Jvm.ClassFile.FieldType.int)]
set_option maxRecDepth 65536 in
theorem codes_eq : words1.filter isCode = codes1 := rfl
theorem w_codes : ∀ c ∈ words1.filter isCode, c.before args0 about1 = true := by
  rw [codes_eq]
  intro c hc
  simp only [codes1, List.mem_cons, List.not_mem_nil, or_false] at hc
  rcases hc with rfl | rfl | rfl | rfl | rfl | rfl | rfl | rfl | rfl | rfl | rfl
  · exact w_c0
  · exact w_c1
  · exact w_c2
  · exact w_c3
  · exact w_c4
  · exact w_c5
  · exact w_c6
  · exact w_c7
  · exact w_c8
  · exact w_c9
  · exact w_c10
set_option maxRecDepth 65536 in
theorem w_t1 : (words1.take 24).all (fun c => isCode c || c.before args0 about1) = true := by decide +kernel
set_option maxRecDepth 65536 in
theorem w_t2 : ((words1.drop 24).take 24).all (fun c => isCode c || c.before args0 about1) = true := by decide +kernel
set_option maxRecDepth 65536 in
theorem w_t3 : ((words1.drop 24).drop 24).all (fun c => isCode c || c.before args0 about1) = true := by decide +kernel
theorem w_tables : (allAtoms (Jvm.Cond.code x code maxLocals ret :: tables_1)).before args0 about1 = true := by
  rw [allAtoms_all]
  show words1.all (fun c => c.before args0 about1) = true
  refine all_split ?_ w_codes
  rw [← List.take_append_drop 24 words1, List.all_append, w_t1, ← List.take_append_drop 24 (words1.drop 24), List.all_append, w_t2, w_t3]
  rfl
set_option maxRecDepth 65536 in
theorem w_case : (Jvm.Cond.and given_1 narrow_1).before args0 about1 = true := by decide +kernel
theorem w_applies : (headSpec (Jvm.Cond.code x code maxLocals ret :: tables_1) room_1).applies x e0.platform about1 = true :=
  (Spec.applies_iff w_frames).mpr ⟨w_running, w_runnable, w_alone, w_named, w_hears, w_ripe, w_room, w_tables⟩
theorem atStart : AtStart classFile x code maxLocals ret World_1 tables_1 room_1 Calls_1 rest_1 Pre_1 launch0 p0 e0 about1 theMethod args0 below0 :=
  ⟨lists_1, trivial, launch0.admits_env _ _ _, launch0.least_env, fairChoices_fair.cas, fairChoices_fair.clock, w_frames, w_args, w_heap, w_applies, trivial, trivial, w_case⟩
end start1
theorem witness_1 : WitnessClaimed_1 := ⟨start1.p0, start1.e0, start1.about1, start1.theMethod, start1.args0, start1.below0, start1.atStart⟩
end Jvm.Pilot.@@N@@
