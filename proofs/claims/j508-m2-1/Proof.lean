import JvmDerived
import JvmDerived.Pilot.@@N@@Statement
import JvmDerived.Pilot.@@N@@Code
set_option linter.unusedVariables false
set_option linter.unusedSimpArgs false
namespace Jvm.RoadKit
open Sem ClassFile Op Lib Jvm.Stand Jvm.Free Jvm.LawKit
section New
variable {p : Program} {l : Launch} {e : Env} {R : Room} {s : State} {m : MethodId} {args : Array Value} {below : List Frame} {meth : Method} {c : Code} {T : State} {locs : List Loc} {cells slots : Nat}
theorem retI (X : Stand p l e R s m args below meth c T locs cells slots) (hx : p.tables.exec = Jvm.exec) {pc : Nat} {Ls : Array Slot} {z : Int32} {rest : List Value} (hret : meth.sig.returnType = some .int) (hd : decode c.code pc = .ok (.ireturn, 1)) {fs : List Frame}
    (hl : ∀ (f : JFrame) (acts : List Action), f.method = m → f.locked = none → f.entered = [] → (doReturn e (T.setTop f) acts (some (.int z))).1 = T.setFrames fs) : Steps p.tables e below (T.setTop (mkF m pc Ls (.int z :: rest))) (T.setFrames fs) := by
  have hm' : T.vm.method? m = some meth := X.method'
  have hn : narrow .int (.int z) = .int z := rfl
  show Steps p.tables e below (T.setTop { method := m, pc := pc, locals := Ls, stack := _ :: rest, locked := none }) _
  jvm_step X.here [X.here.top, hx, hd, hm', hret, hn]
  first | (intro acts; rw [hl _ acts rfl rfl rfl]) | rw [hl _ _ rfl rfl rfl]
  exact Steps.refl _
end New
end Jvm.RoadKit
namespace Jvm.Pilot.@@N@@
open Jvm Jvm.ClassFile Sem Op Lib Jvm.Free Jvm.Stand Jvm.LawKit Jvm.RoadKit Bundle Jvm.Pilot.@@N@@.Jvm.D
/-- from A the run comes to an end of which P is said -/
def own_Go (p : Program) (e : Env) (below : List Frame) (P : State → Outcome → Prop) (A : State) : Prop := ∃ s₂ o, Steps p.tables e below A s₂ ∧ P s₂ o
theorem own_step {p : Program} {e : Env} {below : List Frame} {P : State → Outcome → Prop} {A : State} (B : State) (h : ∀ t, Steps p.tables e below B t → Steps p.tables e below A t) (g : own_Go p e below P B) : own_Go p e below P A := by
  obtain ⟨s₂, o, h1, h2⟩ := g; exact ⟨s₂, o, h s₂ h1, h2⟩
theorem own_comes {p : Program} {e : Env} {below : List Frame} {P : State → Outcome → Prop} {A : State} (B : State) (h : Steps p.tables e below A B) (g : own_Go p e below P B) : own_Go p e below P A := by
  obtain ⟨s₂, o, h1, h2⟩ := g; exact ⟨s₂, o, h.trans h1, h2⟩
theorem own_sta_keep {Z : State} {h h' : Heap} {C n d : String} {w : Value} {ws : List Addr} (F : Sta Z h C n d w) (K : Keep h h' ws) (hw : ∀ x ∈ ws, ∀ cell : Cell, h[x]? = some cell → cell.vm.isStatics = false) : Sta Z h' C n d w := by
  obtain ⟨cf, i, k, f, st, cell, h1, h2, h3, h4, h5, h6, r⟩ := F
  exact ⟨cf, i, k, f, st, cell, h1, h2, h3, h4, K.2.1 _ _ h5 (fun q => by rw [hw _ q _ h5] at h6; cases h6), h6, r⟩
theorem own_sel {s : State} {args : Array Value} {y : MethodName} {n : Nat} (w : (Cond.instantiable y.cls n).before args s = true) (hp : (Cond.privateMethod y).before args s = true) (hi : (Cond.instanceMethod y).before args s = true) (hy : y.cls ≠ "java/lang/invoke/MethodHandle" ∧ y.cls ≠ "java/lang/invoke/VarHandle") : (Cond.selects y.cls y y).before args s = true := by
  obtain ⟨c, k, h1, h2, -, h4, -, -⟩ := Cond.instantiable_spec w
  simp only [Bool.or_eq_false_iff] at h4
  exact Jvm.Stand.selects_self_of_private h1 h2 h4.1 (Cond.privateMethod_at hp) hi hy
theorem own_vne {a b : Int32} (h : a ≠ b) : Value.int a ≠ Value.int b := fun q => h (Value.int.inj q)
theorem own_lgtT {x y : Int64} (h : y < x) : ifCond.holds .gt (lcmpW x y) = true := (if0 _ _).trans (tlt ((lw_gt x y).mpr h)).2.2.1
theorem own_lgtF {x y : Int64} (h : ¬ y < x) : ifCond.holds .gt (lcmpW x y) = false := (if0 _ _).trans (flt (fun q => h ((lw_gt x y).mp q))).2.2.1
theorem own_lleT {x y : Int64} (h : ¬ y < x) : ifCond.holds .le (lcmpW x y) = true := (if0 _ _).trans (flt (fun q => h ((lw_gt x y).mp q))).2.2.2
theorem own_lleF {x y : Int64} (h : y < x) : ifCond.holds .le (lcmpW x y) = false := (if0 _ _).trans (tlt ((lw_gt x y).mpr h)).2.2.2
theorem own_lltT {x y : Int64} (h : x < y) : ifCond.holds .lt (lcmpW x y) = true := (if0 _ _).trans (tlt ((lw_lt x y).mpr h)).1
theorem own_lltF {x y : Int64} (h : ¬ x < y) : ifCond.holds .lt (lcmpW x y) = false := (if0 _ _).trans (flt (fun q => h ((lw_lt x y).mp q))).1
theorem own_lgeT {x y : Int64} (h : ¬ x < y) : ifCond.holds .ge (lcmpW x y) = true := (if0 _ _).trans (flt (fun q => h ((lw_lt x y).mp q))).2.1
theorem own_lgeF {x y : Int64} (h : x < y) : ifCond.holds .ge (lcmpW x y) = false := (if0 _ _).trans (tlt ((lw_lt x y).mpr h)).2.1
theorem own_leqT {x y : Int64} (h : x = y) : ifCond.holds .eq (lcmpW x y) = true := (if0 _ _).trans (teq ((lw_eq x y).mpr h)).1
theorem own_leqF {x y : Int64} (h : ¬ x = y) : ifCond.holds .eq (lcmpW x y) = false := (if0 _ _).trans (feq (fun q => h ((lw_eq x y).mp q))).1
theorem own_lneT {x y : Int64} (h : ¬ x = y) : ifCond.holds .ne (lcmpW x y) = true := (if0 _ _).trans (feq (fun q => h ((lw_eq x y).mp q))).2
theorem own_lneF {x y : Int64} (h : x = y) : ifCond.holds .ne (lcmpW x y) = false := (if0 _ _).trans (teq ((lw_eq x y).mpr h)).2
def own_in (lo t hi : Int32) : Int32 := if ¬ t < lo ∧ ¬ hi < t then 1 else 0
theorem own_sub (x y : Int32) : (x.toInt64 - y.toInt64).toInt = x.toInt - y.toInt := by
  have c := c_lsub x.toInt64 y.toInt64; have r1 := rng32 x; have r2 := rng32 y; have r3 := rng64 (x.toInt64 - y.toInt64)
  rw [Int32.toInt_toInt64, Int32.toInt_toInt64] at c
  omega
theorem own_sub0 (x y : Int32) : ((x.toInt64 - y.toInt64) < (0 : Int64)) ↔ x < y := by
  rw [Int64.lt_iff_toInt_lt, own_sub, Int32.lt_iff_toInt_lt]
  have : (0 : Int64).toInt = 0 := rfl
  omega
theorem own_w0 {f t l : Int32} (h1 : (t.toInt64 - f.toInt64) < (0 : Int64)) : own_in f t l = 0 := by
  rw [own_sub0] at h1; simp [own_in, h1]
theorem own_w1 {f t l : Int32} (h2 : (l.toInt64 - t.toInt64) < (0 : Int64)) : own_in f t l = 0 := by
  rw [own_sub0] at h2; simp [own_in, h2]
theorem own_w2 {f t l : Int32} (h1 : ¬ (t.toInt64 - f.toInt64) < (0 : Int64)) (h2 : ¬ (l.toInt64 - t.toInt64) < (0 : Int64)) : own_in f t l = 1 := by
  rw [own_sub0] at h1 h2; simp [own_in, h1, h2]
theorem own_n0 {x : Int32} (h : x = 1) : ¬ x = 0 := by subst h; decide
theorem own_ff {f t l : Int32} (h1 : ¬ (t.toInt64 - f.toInt64) < (0 : Int64)) (h2 : ¬ (l.toInt64 - t.toInt64) < (0 : Int64)) : ¬ own_in f f l = 0 := by
  rw [own_sub0] at h1 h2
  have : ¬ f < f ∧ ¬ l < f := by rw [Int32.lt_iff_toInt_lt] at *; rw [Int32.lt_iff_toInt_lt]; omega
  simp [own_in, this]
theorem own_ll {f t l : Int32} (h1 : ¬ (t.toInt64 - f.toInt64) < (0 : Int64)) (h2 : ¬ (l.toInt64 - t.toInt64) < (0 : Int64)) : ¬ own_in f l l = 0 := by
  rw [own_sub0] at h1 h2
  have : ¬ l < f ∧ ¬ l < l := by rw [Int32.lt_iff_toInt_lt] at *; rw [Int32.lt_iff_toInt_lt]; omega
  simp [own_in, this]
theorem pd_0 : parseMethodDescriptor "(IIII)I" = some ⟨[.int, .int, .int, .int], some .int⟩ := by decide +kernel
theorem pd_1 : parseMethodDescriptor "(Lcom/example/labrelay/labrelay/model/Finding;II)V" = some ⟨[(.object "com/example/labrelay/labrelay/model/Finding"), .int, .int], none⟩ := by decide +kernel
theorem pd_2 : parseMethodDescriptor "()V" = some ⟨[], none⟩ := by decide +kernel
theorem pd_3 : parseMethodDescriptor "(I)Z" = some ⟨[.int], some .boolean⟩ := by decide +kernel
theorem d1_0 : decode method_2_code 0 = .ok (.iload_n 3, 1) := by decide +kernel
theorem d1_1 : decode method_2_code 1 = .ok (.iconst 3, 1) := by decide +kernel
theorem d1_2 : decode method_2_code 2 = .ok (.iand, 1) := by decide +kernel
theorem d1_3 : decode method_2_code 3 = .ok (.istore 4, 2) := by decide +kernel
theorem d1_5 : decode method_2_code 5 = .ok (.iload_n 3, 1) := by decide +kernel
theorem d1_6 : decode method_2_code 6 = .ok (.iconst 2, 1) := by decide +kernel
theorem d1_7 : decode method_2_code 7 = .ok (.ishr, 1) := by decide +kernel
theorem d1_8 : decode method_2_code 8 = .ok (.bipush 7, 2) := by decide +kernel
theorem d1_10 : decode method_2_code 10 = .ok (.iand, 1) := by decide +kernel
theorem d1_11 : decode method_2_code 11 = .ok (.iconst 4, 1) := by decide +kernel
theorem d1_12 : decode method_2_code 12 = .ok (.isub, 1) := by decide +kernel
theorem d1_13 : decode method_2_code 13 = .ok (.istore 5, 2) := by decide +kernel
theorem d1_15 : decode method_2_code 15 = .ok (.iload 4, 2) := by decide +kernel
theorem d1_17 : decode method_2_code 17 = .ok (.ifCond .ne 5, 3) := by decide +kernel
theorem d1_20 : decode method_2_code 20 = .ok (.iload_n 2, 1) := by decide +kernel
theorem d1_21 : decode method_2_code 21 = .ok (.ireturn, 1) := by decide +kernel
theorem d1_22 : decode method_2_code 22 = .ok (.iload 4, 2) := by decide +kernel
theorem d1_24 : decode method_2_code 24 = .ok (.iconst 1, 1) := by decide +kernel
theorem d1_25 : decode method_2_code 25 = .ok (.if_icmp .ne 8, 3) := by decide +kernel
theorem d1_28 : decode method_2_code 28 = .ok (.iload_n 0, 1) := by decide +kernel
theorem d1_29 : decode method_2_code 29 = .ok (.iload 5, 2) := by decide +kernel
theorem d1_31 : decode method_2_code 31 = .ok (.iadd, 1) := by decide +kernel
theorem d1_32 : decode method_2_code 32 = .ok (.ireturn, 1) := by decide +kernel
theorem d1_33 : decode method_2_code 33 = .ok (.iload 4, 2) := by decide +kernel
theorem d1_35 : decode method_2_code 35 = .ok (.iconst 2, 1) := by decide +kernel
theorem d1_36 : decode method_2_code 36 = .ok (.if_icmp .ne 8, 3) := by decide +kernel
theorem d1_39 : decode method_2_code 39 = .ok (.iload_n 1, 1) := by decide +kernel
theorem d1_40 : decode method_2_code 40 = .ok (.iload 5, 2) := by decide +kernel
theorem d1_42 : decode method_2_code 42 = .ok (.iadd, 1) := by decide +kernel
theorem d1_43 : decode method_2_code 43 = .ok (.ireturn, 1) := by decide +kernel
theorem d1_44 : decode method_2_code 44 = .ok (.iload 5, 2) := by decide +kernel
theorem d1_46 : decode method_2_code 46 = .ok (.ifCond .ge 8, 3) := by decide +kernel
theorem d1_49 : decode method_2_code 49 = .ok (.ldc 9, 2) := by decide +kernel
theorem d1_51 : decode method_2_code 51 = .ok (.goto 5, 3) := by decide +kernel
theorem d1_54 : decode method_2_code 54 = .ok (.ldc 10, 2) := by decide +kernel
theorem d1_56 : decode method_2_code 56 = .ok (.ireturn, 1) := by decide +kernel
theorem pn_1 : plainName "com/example/labrelay/labrelay/rules/EnvelopeFindingStandsForPinLaw" = true := by first | (simp [plainName, overriddenIn]; done) | decide +kernel
theorem ef_rm1 (m : MethodId) (f : Int32) (l2 : Int32) (mm : Int32) (mode : Int32) : entryFrame m #[(.int f), (.int l2), (.int mm), (.int mode)] 6 = mkF m 0 #[.val (.int f), .val (.int l2), .val (.int mm), .val (.int mode), .unset, .unset] [] := by first | (simp [entryFrame, mkF, argsToLocals, Value.category]; done) | rfl
def Q_rm1 (Z : State) (f : Int32) (l2 : Int32) (mm : Int32) (mode : Int32) (h0 : Heap) (n0 : Nat) (v : Option Value) (h : Heap) (L : List Loc) : Prop := ∃ t : Int32, v = some (.int t) ∧ Fr n0 L ∧ h = h0
set_option maxRecDepth 65536 in
set_option maxHeartbeats 40000000 in
theorem rm1 (l : Launch) (Z : State) (a0 : Array Value) (hw : ∀ d ∈ tables_1, d.before a0 Z = true) (ws : List Jvm.Cond) (f : Int32) (l2 : Int32) (mm : Int32) (mode : Int32) (h0 : Heap) (n0 : Nat) (Z0 : n0 ≤ h0.size) :
    MetFree l (⟨"com/example/labrelay/labrelay/rules/EnvelopeFindingStandsForPinLaw", "pick", "(IIII)I"⟩ : MethodName) (head1 (Jvm.Cond.code (⟨"com/example/labrelay/labrelay/rules/EnvelopeFindingStandsForPinLaw", "pick", "(IIII)I"⟩ : MethodName) method_2_code 6 (some .int) :: ws) ({ frames := 0, cells := 0, slots := 0, locals := 0 } : Room)) (fun as₉ U => as₉ = #[(.int f), (.int l2), (.int mm), (.int mode)] ∧ Z.Warmed39 U.vm ∧ U.heap = h0) (fun _ _ _ _ _ => True) (fun _ U o U' => ∃ v L, o = .returned v ∧ Q_rm1 Z f l2 mm mode h0 n0 v U'.heap L ∧ FrameEnd U o U' L ({ frames := 0, cells := 0, slots := 0, locals := 0 } : Room).cells ({ frames := 0, cells := 0, slots := 0, locals := 0 } : Room).slots) := by
  refine MetFree.of_bodySF (plainFor_of_name pn_1) hisR ?_
  intro p e s m args below meth c s₁ Bd hml0 hP hK
  obtain ⟨rfl, hZ, hh⟩ := hP
  have hx := Bd.exec
  have hby := Bd.bytes
  have hml : c.maxLocals = 6 := hml0
  have hown : s.vm.findClass "com/example/labrelay/labrelay/rules/EnvelopeFindingStandsForPinLaw" = some m.cls := findClass_of_methodNamed Bd.named
  have hnm := (name_of_methodNamed Bd.named Bd.method).1
  have X0 : Stand p l e ({ frames := 0, cells := 0, slots := 0, locals := 0 } : Room) s m #[(.int f), (.int l2), (.int mm), (.int mode)] below meth c s₁ [] 0 0 := Stand.of_body Bd
  have e0 : s₁.heap = h0 := by rw [← hh, Bd.state]; rfl
  have N0 := Fr.nil n0
  show own_Go p e below (fun s₂ o => s₂.status = .running ∧ Ended s₂ below o ∧ ∃ v L, o = .returned v ∧ Q_rm1 Z f l2 mm mode h0 n0 v s₂.heap L ∧ FrameEnd s o s₂ L ({ frames := 0, cells := 0, slots := 0, locals := 0 } : Room).cells ({ frames := 0, cells := 0, slots := 0, locals := 0 } : Room).slots) (s₁.setTop (entryFrame m #[(.int f), (.int l2), (.int mm), (.int mode)] 6))
  rw [ef_rm1 m f l2 mm mode]
  refine own_step (s₁.setTop (mkF m 1 #[.val (.int f), .val (.int l2), .val (.int mm), .val (.int mode), .unset, .unset] [(.int mode)])) (fun t₀ k₀ => XS.iloadN X0.here hx rfl (hb hby d1_0) rfl k₀) ?_
  refine own_step (s₁.setTop (mkF m 2 #[.val (.int f), .val (.int l2), .val (.int mm), .val (.int mode), .unset, .unset] [(.int (3 : Int32)), (.int mode)])) (fun t₀ k₀ => XS.iconst X0.here hx rfl (hb hby d1_1) k₀) ?_
  refine own_step (s₁.setTop (mkF m 3 #[.val (.int f), .val (.int l2), .val (.int mm), .val (.int mode), .unset, .unset] [(.int (mode &&& (3 : Int32)))])) (fun t₀ k₀ => XS.iand X0.here hx rfl (hb hby d1_2) rfl k₀) ?_
  refine own_step (s₁.setTop (mkF m 5 #[.val (.int f), .val (.int l2), .val (.int mm), .val (.int mode), .val (.int (mode &&& (3 : Int32))), .unset] [])) (fun t₀ k₀ => XS.istore X0.here hx rfl (hb hby d1_3) rfl (l' := #[.val (.int f), .val (.int l2), .val (.int mm), .val (.int mode), .val (.int (mode &&& (3 : Int32))), .unset]) rfl k₀) ?_
  refine own_step (s₁.setTop (mkF m 6 #[.val (.int f), .val (.int l2), .val (.int mm), .val (.int mode), .val (.int (mode &&& (3 : Int32))), .unset] [(.int mode)])) (fun t₀ k₀ => XS.iloadN X0.here hx rfl (hb hby d1_5) rfl k₀) ?_
  refine own_step (s₁.setTop (mkF m 7 #[.val (.int f), .val (.int l2), .val (.int mm), .val (.int mode), .val (.int (mode &&& (3 : Int32))), .unset] [(.int (2 : Int32)), (.int mode)])) (fun t₀ k₀ => XS.iconst X0.here hx rfl (hb hby d1_6) k₀) ?_
  refine own_step (s₁.setTop (mkF m 8 #[.val (.int f), .val (.int l2), .val (.int mm), .val (.int mode), .val (.int (mode &&& (3 : Int32))), .unset] [(.int (mode >>> ((2 : Int32) &&& 31)))])) (fun t₀ k₀ => XS.ishr X0.here hx rfl (hb hby d1_7) rfl k₀) ?_
  refine own_step (s₁.setTop (mkF m 10 #[.val (.int f), .val (.int l2), .val (.int mm), .val (.int mode), .val (.int (mode &&& (3 : Int32))), .unset] [(.int (7 : Int32)), (.int (mode >>> ((2 : Int32) &&& 31)))])) (fun t₀ k₀ => XS.bipush X0.here hx rfl (hb hby d1_8) k₀) ?_
  refine own_step (s₁.setTop (mkF m 11 #[.val (.int f), .val (.int l2), .val (.int mm), .val (.int mode), .val (.int (mode &&& (3 : Int32))), .unset] [(.int ((mode >>> ((2 : Int32) &&& 31)) &&& (7 : Int32)))])) (fun t₀ k₀ => XS.iand X0.here hx rfl (hb hby d1_10) rfl k₀) ?_
  refine own_step (s₁.setTop (mkF m 12 #[.val (.int f), .val (.int l2), .val (.int mm), .val (.int mode), .val (.int (mode &&& (3 : Int32))), .unset] [(.int (4 : Int32)), (.int ((mode >>> ((2 : Int32) &&& 31)) &&& (7 : Int32)))])) (fun t₀ k₀ => XS.iconst X0.here hx rfl (hb hby d1_11) k₀) ?_
  refine own_step (s₁.setTop (mkF m 13 #[.val (.int f), .val (.int l2), .val (.int mm), .val (.int mode), .val (.int (mode &&& (3 : Int32))), .unset] [(.int (((mode >>> ((2 : Int32) &&& 31)) &&& (7 : Int32)) - (4 : Int32)))])) (fun t₀ k₀ => XS.isub X0.here hx rfl (hb hby d1_12) rfl k₀) ?_
  refine own_step (s₁.setTop (mkF m 15 #[.val (.int f), .val (.int l2), .val (.int mm), .val (.int mode), .val (.int (mode &&& (3 : Int32))), .val (.int (((mode >>> ((2 : Int32) &&& 31)) &&& (7 : Int32)) - (4 : Int32)))] [])) (fun t₀ k₀ => XS.istore X0.here hx rfl (hb hby d1_13) rfl (l' := #[.val (.int f), .val (.int l2), .val (.int mm), .val (.int mode), .val (.int (mode &&& (3 : Int32))), .val (.int (((mode >>> ((2 : Int32) &&& 31)) &&& (7 : Int32)) - (4 : Int32)))]) rfl k₀) ?_
  refine own_step (s₁.setTop (mkF m 17 #[.val (.int f), .val (.int l2), .val (.int mm), .val (.int mode), .val (.int (mode &&& (3 : Int32))), .val (.int (((mode >>> ((2 : Int32) &&& 31)) &&& (7 : Int32)) - (4 : Int32)))] [(.int (mode &&& (3 : Int32)))])) (fun t₀ k₀ => XS.iload X0.here hx rfl (hb hby d1_15) rfl k₀) ?_
  by_cases hc17 : (mode &&& (3 : Int32)) = (0 : Int32)
  · skip
    refine own_step (s₁.setTop (mkF m 20 #[.val (.int f), .val (.int l2), .val (.int mm), .val (.int mode), .val (.int (mode &&& (3 : Int32))), .val (.int (((mode >>> ((2 : Int32) &&& 31)) &&& (7 : Int32)) - (4 : Int32)))] [])) (fun t₀ k₀ => XS.ifNo X0.here hx rfl (hb hby d1_17) rfl ((if0 _ _).trans (teq hc17).2) k₀) ?_
    refine own_step (s₁.setTop (mkF m 21 #[.val (.int f), .val (.int l2), .val (.int mm), .val (.int mode), .val (.int (mode &&& (3 : Int32))), .val (.int (((mode >>> ((2 : Int32) &&& 31)) &&& (7 : Int32)) - (4 : Int32)))] [(.int mm)])) (fun t₀ k₀ => XS.iloadN X0.here hx rfl (hb hby d1_20) rfl k₀) ?_
    obtain ⟨fs, hr, hrun, hended, hW, hsame⟩ := X0.leave (v := some (.int mm)) (fun h => by rw [Bd.returns] at h; cases h)
    refine ⟨_, _, ?_, hrun, hended, _, _, rfl, ?_, ⟨_, rfl⟩, hW, hsame.mono (by decide) (by decide)⟩
    · exact retI X0 hx Bd.returns (hb hby d1_21) hr
    · show Q_rm1 Z f l2 mm mode h0 n0 _ s₁.heap _
      rw [e0]
      exact ⟨_, rfl, N0, rfl⟩
  · skip
    refine own_step (s₁.setTop (mkF m 22 #[.val (.int f), .val (.int l2), .val (.int mm), .val (.int mode), .val (.int (mode &&& (3 : Int32))), .val (.int (((mode >>> ((2 : Int32) &&& 31)) &&& (7 : Int32)) - (4 : Int32)))] [])) (fun t₀ k₀ => XS.ifYes X0.here hx rfl (pc0 := 17) (pc' := 22) rfl (hb hby d1_17) rfl ((if0 _ _).trans (feq hc17).2) (by decide) (by decide) k₀) ?_
    refine own_step (s₁.setTop (mkF m 24 #[.val (.int f), .val (.int l2), .val (.int mm), .val (.int mode), .val (.int (mode &&& (3 : Int32))), .val (.int (((mode >>> ((2 : Int32) &&& 31)) &&& (7 : Int32)) - (4 : Int32)))] [(.int (mode &&& (3 : Int32)))])) (fun t₀ k₀ => XS.iload X0.here hx rfl (hb hby d1_22) rfl k₀) ?_
    refine own_step (s₁.setTop (mkF m 25 #[.val (.int f), .val (.int l2), .val (.int mm), .val (.int mode), .val (.int (mode &&& (3 : Int32))), .val (.int (((mode >>> ((2 : Int32) &&& 31)) &&& (7 : Int32)) - (4 : Int32)))] [(.int (1 : Int32)), (.int (mode &&& (3 : Int32)))])) (fun t₀ k₀ => XS.iconst X0.here hx rfl (hb hby d1_24) k₀) ?_
    by_cases hc25 : (mode &&& (3 : Int32)) = (1 : Int32)
    · skip
      refine own_step (s₁.setTop (mkF m 28 #[.val (.int f), .val (.int l2), .val (.int mm), .val (.int mode), .val (.int (mode &&& (3 : Int32))), .val (.int (((mode >>> ((2 : Int32) &&& 31)) &&& (7 : Int32)) - (4 : Int32)))] [])) (fun t₀ k₀ => XS.icmpNo X0.here hx rfl (hb hby d1_25) rfl (teq hc25).2 k₀) ?_
      refine own_step (s₁.setTop (mkF m 29 #[.val (.int f), .val (.int l2), .val (.int mm), .val (.int mode), .val (.int (mode &&& (3 : Int32))), .val (.int (((mode >>> ((2 : Int32) &&& 31)) &&& (7 : Int32)) - (4 : Int32)))] [(.int f)])) (fun t₀ k₀ => XS.iloadN X0.here hx rfl (hb hby d1_28) rfl k₀) ?_
      refine own_step (s₁.setTop (mkF m 31 #[.val (.int f), .val (.int l2), .val (.int mm), .val (.int mode), .val (.int (mode &&& (3 : Int32))), .val (.int (((mode >>> ((2 : Int32) &&& 31)) &&& (7 : Int32)) - (4 : Int32)))] [(.int (((mode >>> ((2 : Int32) &&& 31)) &&& (7 : Int32)) - (4 : Int32))), (.int f)])) (fun t₀ k₀ => XS.iload X0.here hx rfl (hb hby d1_29) rfl k₀) ?_
      refine own_step (s₁.setTop (mkF m 32 #[.val (.int f), .val (.int l2), .val (.int mm), .val (.int mode), .val (.int (mode &&& (3 : Int32))), .val (.int (((mode >>> ((2 : Int32) &&& 31)) &&& (7 : Int32)) - (4 : Int32)))] [(.int (f + (((mode >>> ((2 : Int32) &&& 31)) &&& (7 : Int32)) - (4 : Int32))))])) (fun t₀ k₀ => XS.iadd X0.here hx rfl (hb hby d1_31) rfl k₀) ?_
      obtain ⟨fs, hr, hrun, hended, hW, hsame⟩ := X0.leave (v := some (.int (f + (((mode >>> ((2 : Int32) &&& 31)) &&& (7 : Int32)) - (4 : Int32))))) (fun h => by rw [Bd.returns] at h; cases h)
      refine ⟨_, _, ?_, hrun, hended, _, _, rfl, ?_, ⟨_, rfl⟩, hW, hsame.mono (by decide) (by decide)⟩
      · exact retI X0 hx Bd.returns (hb hby d1_32) hr
      · show Q_rm1 Z f l2 mm mode h0 n0 _ s₁.heap _
        rw [e0]
        exact ⟨_, rfl, N0, rfl⟩
    · skip
      refine own_step (s₁.setTop (mkF m 33 #[.val (.int f), .val (.int l2), .val (.int mm), .val (.int mode), .val (.int (mode &&& (3 : Int32))), .val (.int (((mode >>> ((2 : Int32) &&& 31)) &&& (7 : Int32)) - (4 : Int32)))] [])) (fun t₀ k₀ => XS.icmpYes X0.here hx rfl (pc0 := 25) (pc' := 33) rfl (hb hby d1_25) rfl (feq hc25).2 (by decide) (by decide) k₀) ?_
      refine own_step (s₁.setTop (mkF m 35 #[.val (.int f), .val (.int l2), .val (.int mm), .val (.int mode), .val (.int (mode &&& (3 : Int32))), .val (.int (((mode >>> ((2 : Int32) &&& 31)) &&& (7 : Int32)) - (4 : Int32)))] [(.int (mode &&& (3 : Int32)))])) (fun t₀ k₀ => XS.iload X0.here hx rfl (hb hby d1_33) rfl k₀) ?_
      refine own_step (s₁.setTop (mkF m 36 #[.val (.int f), .val (.int l2), .val (.int mm), .val (.int mode), .val (.int (mode &&& (3 : Int32))), .val (.int (((mode >>> ((2 : Int32) &&& 31)) &&& (7 : Int32)) - (4 : Int32)))] [(.int (2 : Int32)), (.int (mode &&& (3 : Int32)))])) (fun t₀ k₀ => XS.iconst X0.here hx rfl (hb hby d1_35) k₀) ?_
      by_cases hc36 : (mode &&& (3 : Int32)) = (2 : Int32)
      · skip
        refine own_step (s₁.setTop (mkF m 39 #[.val (.int f), .val (.int l2), .val (.int mm), .val (.int mode), .val (.int (mode &&& (3 : Int32))), .val (.int (((mode >>> ((2 : Int32) &&& 31)) &&& (7 : Int32)) - (4 : Int32)))] [])) (fun t₀ k₀ => XS.icmpNo X0.here hx rfl (hb hby d1_36) rfl (teq hc36).2 k₀) ?_
        refine own_step (s₁.setTop (mkF m 40 #[.val (.int f), .val (.int l2), .val (.int mm), .val (.int mode), .val (.int (mode &&& (3 : Int32))), .val (.int (((mode >>> ((2 : Int32) &&& 31)) &&& (7 : Int32)) - (4 : Int32)))] [(.int l2)])) (fun t₀ k₀ => XS.iloadN X0.here hx rfl (hb hby d1_39) rfl k₀) ?_
        refine own_step (s₁.setTop (mkF m 42 #[.val (.int f), .val (.int l2), .val (.int mm), .val (.int mode), .val (.int (mode &&& (3 : Int32))), .val (.int (((mode >>> ((2 : Int32) &&& 31)) &&& (7 : Int32)) - (4 : Int32)))] [(.int (((mode >>> ((2 : Int32) &&& 31)) &&& (7 : Int32)) - (4 : Int32))), (.int l2)])) (fun t₀ k₀ => XS.iload X0.here hx rfl (hb hby d1_40) rfl k₀) ?_
        refine own_step (s₁.setTop (mkF m 43 #[.val (.int f), .val (.int l2), .val (.int mm), .val (.int mode), .val (.int (mode &&& (3 : Int32))), .val (.int (((mode >>> ((2 : Int32) &&& 31)) &&& (7 : Int32)) - (4 : Int32)))] [(.int (l2 + (((mode >>> ((2 : Int32) &&& 31)) &&& (7 : Int32)) - (4 : Int32))))])) (fun t₀ k₀ => XS.iadd X0.here hx rfl (hb hby d1_42) rfl k₀) ?_
        obtain ⟨fs, hr, hrun, hended, hW, hsame⟩ := X0.leave (v := some (.int (l2 + (((mode >>> ((2 : Int32) &&& 31)) &&& (7 : Int32)) - (4 : Int32))))) (fun h => by rw [Bd.returns] at h; cases h)
        refine ⟨_, _, ?_, hrun, hended, _, _, rfl, ?_, ⟨_, rfl⟩, hW, hsame.mono (by decide) (by decide)⟩
        · exact retI X0 hx Bd.returns (hb hby d1_43) hr
        · show Q_rm1 Z f l2 mm mode h0 n0 _ s₁.heap _
          rw [e0]
          exact ⟨_, rfl, N0, rfl⟩
      · skip
        refine own_step (s₁.setTop (mkF m 44 #[.val (.int f), .val (.int l2), .val (.int mm), .val (.int mode), .val (.int (mode &&& (3 : Int32))), .val (.int (((mode >>> ((2 : Int32) &&& 31)) &&& (7 : Int32)) - (4 : Int32)))] [])) (fun t₀ k₀ => XS.icmpYes X0.here hx rfl (pc0 := 36) (pc' := 44) rfl (hb hby d1_36) rfl (feq hc36).2 (by decide) (by decide) k₀) ?_
        refine own_step (s₁.setTop (mkF m 46 #[.val (.int f), .val (.int l2), .val (.int mm), .val (.int mode), .val (.int (mode &&& (3 : Int32))), .val (.int (((mode >>> ((2 : Int32) &&& 31)) &&& (7 : Int32)) - (4 : Int32)))] [(.int (((mode >>> ((2 : Int32) &&& 31)) &&& (7 : Int32)) - (4 : Int32)))])) (fun t₀ k₀ => XS.iload X0.here hx rfl (hb hby d1_44) rfl k₀) ?_
        by_cases hc46 : (((mode >>> ((2 : Int32) &&& 31)) &&& (7 : Int32)) - (4 : Int32)) < (0 : Int32)
        · skip
          refine own_step (s₁.setTop (mkF m 49 #[.val (.int f), .val (.int l2), .val (.int mm), .val (.int mode), .val (.int (mode &&& (3 : Int32))), .val (.int (((mode >>> ((2 : Int32) &&& 31)) &&& (7 : Int32)) - (4 : Int32)))] [])) (fun t₀ k₀ => XS.ifNo X0.here hx rfl (hb hby d1_46) rfl ((if0 _ _).trans (tlt hc46).2.1) k₀) ?_
          refine own_step (s₁.setTop (mkF m 51 #[.val (.int f), .val (.int l2), .val (.int mm), .val (.int mode), .val (.int (mode &&& (3 : Int32))), .val (.int (((mode >>> ((2 : Int32) &&& 31)) &&& (7 : Int32)) - (4 : Int32)))] [(.int (-2147483648 : Int32))])) (fun t₀ k₀ => X0.ldcInt hx hown (mvT hZ (hw _ (List.mem_of_getElem? (i := 30) rfl))) (g := (mkF m 49 #[.val (.int f), .val (.int l2), .val (.int mm), .val (.int mode), .val (.int (mode &&& (3 : Int32))), .val (.int (((mode >>> ((2 : Int32) &&& 31)) &&& (7 : Int32)) - (4 : Int32)))] [])) rfl (hb hby d1_49) _ k₀) ?_
          refine own_step (s₁.setTop (mkF m 56 #[.val (.int f), .val (.int l2), .val (.int mm), .val (.int mode), .val (.int (mode &&& (3 : Int32))), .val (.int (((mode >>> ((2 : Int32) &&& 31)) &&& (7 : Int32)) - (4 : Int32)))] [(.int (-2147483648 : Int32))])) (fun t₀ k₀ => XS.goto X0.here hx rfl (pc0 := 51) (pc' := 56) rfl (hb hby d1_51) (by decide) (by decide) k₀) ?_
          obtain ⟨fs, hr, hrun, hended, hW, hsame⟩ := X0.leave (v := some (.int (-2147483648 : Int32))) (fun h => by rw [Bd.returns] at h; cases h)
          refine ⟨_, _, ?_, hrun, hended, _, _, rfl, ?_, ⟨_, rfl⟩, hW, hsame.mono (by decide) (by decide)⟩
          · exact retI X0 hx Bd.returns (hb hby d1_56) hr
          · show Q_rm1 Z f l2 mm mode h0 n0 _ s₁.heap _
            rw [e0]
            exact ⟨_, rfl, N0, rfl⟩
        · skip
          refine own_step (s₁.setTop (mkF m 54 #[.val (.int f), .val (.int l2), .val (.int mm), .val (.int mode), .val (.int (mode &&& (3 : Int32))), .val (.int (((mode >>> ((2 : Int32) &&& 31)) &&& (7 : Int32)) - (4 : Int32)))] [])) (fun t₀ k₀ => XS.ifYes X0.here hx rfl (pc0 := 46) (pc' := 54) rfl (hb hby d1_46) rfl ((if0 _ _).trans (flt hc46).2.1) (by decide) (by decide) k₀) ?_
          refine own_step (s₁.setTop (mkF m 56 #[.val (.int f), .val (.int l2), .val (.int mm), .val (.int mode), .val (.int (mode &&& (3 : Int32))), .val (.int (((mode >>> ((2 : Int32) &&& 31)) &&& (7 : Int32)) - (4 : Int32)))] [(.int (2147483647 : Int32))])) (fun t₀ k₀ => X0.ldcInt hx hown (mvT hZ (hw _ (List.mem_of_getElem? (i := 29) rfl))) (g := (mkF m 54 #[.val (.int f), .val (.int l2), .val (.int mm), .val (.int mode), .val (.int (mode &&& (3 : Int32))), .val (.int (((mode >>> ((2 : Int32) &&& 31)) &&& (7 : Int32)) - (4 : Int32)))] [])) rfl (hb hby d1_54) _ k₀) ?_
          obtain ⟨fs, hr, hrun, hended, hW, hsame⟩ := X0.leave (v := some (.int (2147483647 : Int32))) (fun h => by rw [Bd.returns] at h; cases h)
          refine ⟨_, _, ?_, hrun, hended, _, _, rfl, ?_, ⟨_, rfl⟩, hW, hsame.mono (by decide) (by decide)⟩
          · exact retI X0 hx Bd.returns (hb hby d1_56) hr
          · show Q_rm1 Z f l2 mm mode h0 n0 _ s₁.heap _
            rw [e0]
            exact ⟨_, rfl, N0, rfl⟩
theorem d3_0 : decode jdk_30_method_1_code 0 = .ok (.aload_n 0, 1) := by decide +kernel
theorem d3_1 : decode jdk_30_method_1_code 1 = .ok (.invokespecial 1, 3) := by decide +kernel
theorem d3_4 : decode jdk_30_method_1_code 4 = .ok (.return_, 1) := by decide +kernel
theorem pn_3 : plainName "java/lang/Record" = true := by first | (simp [plainName, overriddenIn]; done) | decide +kernel
theorem ef_rm3 (m : MethodId) (a : Addr) : entryFrame m #[(.ref a)] 1 = mkF m 0 #[.val (.ref a)] [] := by first | (simp [entryFrame, mkF, argsToLocals, Value.category]; done) | rfl
def Q_rm3 (Z : State) (a : Addr) (h0 : Heap) (n0 : Nat) (v : Option Value) (h : Heap) (L : List Loc) : Prop := v = none ∧ Fr n0 L ∧ h = h0
set_option maxRecDepth 65536 in
set_option maxHeartbeats 40000000 in
theorem rm3 (l : Launch) (Z : State) (a0 : Array Value) (hw : ∀ d ∈ tables_1, d.before a0 Z = true) (ws : List Jvm.Cond) (a : Addr) (h0 : Heap) (n0 : Nat) (Z0 : n0 ≤ h0.size) :
    MetFree l (⟨"java/lang/Record", "<init>", "()V"⟩ : MethodName) (head1 (Jvm.Cond.code (⟨"java/lang/Record", "<init>", "()V"⟩ : MethodName) jdk_30_method_1_code 1 none :: ws) ({ frames := 1, cells := 0, slots := 0, locals := 12 } : Room)) (fun as₉ U => as₉ = #[(.ref a)] ∧ Z.Warmed39 U.vm ∧ U.heap = h0) (fun _ _ _ _ _ => True) (fun _ U o U' => ∃ v L, o = .returned v ∧ Q_rm3 Z a h0 n0 v U'.heap L ∧ FrameEnd U o U' L ({ frames := 1, cells := 0, slots := 0, locals := 12 } : Room).cells ({ frames := 1, cells := 0, slots := 0, locals := 12 } : Room).slots) := by
  refine MetFree.of_bodySF (plainFor_of_name pn_3) hisR ?_
  intro p e s m args below meth c s₁ Bd hml0 hP hK
  obtain ⟨rfl, hZ, hh⟩ := hP
  have hx := Bd.exec
  have hby := Bd.bytes
  have hml : c.maxLocals = 1 := hml0
  have hown : s.vm.findClass "java/lang/Record" = some m.cls := findClass_of_methodNamed Bd.named
  have hnm := (name_of_methodNamed Bd.named Bd.method).1
  have X0 : Stand p l e ({ frames := 1, cells := 0, slots := 0, locals := 12 } : Room) s m #[(.ref a)] below meth c s₁ [] 0 0 := Stand.of_body Bd
  have e0 : s₁.heap = h0 := by rw [← hh, Bd.state]; rfl
  have N0 := Fr.nil n0
  show own_Go p e below (fun s₂ o => s₂.status = .running ∧ Ended s₂ below o ∧ ∃ v L, o = .returned v ∧ Q_rm3 Z a h0 n0 v s₂.heap L ∧ FrameEnd s o s₂ L ({ frames := 1, cells := 0, slots := 0, locals := 12 } : Room).cells ({ frames := 1, cells := 0, slots := 0, locals := 12 } : Room).slots) (s₁.setTop (entryFrame m #[(.ref a)] 1))
  rw [ef_rm3 m a]
  refine own_step (s₁.setTop (mkF m 1 #[.val (.ref a)] [(.ref a)])) (fun t₀ k₀ => XS.aloadN X0.here hx rfl (hb hby d3_0) rfl rfl k₀) ?_
  obtain ⟨T1, X1, e1, st1⟩ := initO X0 hx hZ hown (hw _ (List.mem_of_getElem? (i := 15) rfl)) (hw _ (List.mem_of_getElem? (i := 16) rfl)) (hw _ (List.mem_of_getElem? (i := 17) rfl)) e0 (g := (mkF m 1 #[.val (.ref a)] [(.ref a)])) rfl (by rw [hml]; rfl) rfl (hb hby d3_1) (by decide) (W := 0) (by show 2 * 0 + _ ≤ _; exact Nat.le_of_eq rfl) (by decide)
  refine own_step (T1.setTop (mkF m 4 #[.val (.ref a)] [])) (fun t₀ k₀ => st1 t₀ k₀) ?_
  obtain ⟨fs, hr, hrun, hended, hW, hsame⟩ := X1.leave (v := none) (fun _ => rfl)
  refine ⟨_, _, ?_, hrun, hended, _, _, rfl, ?_, ⟨_, rfl⟩, hW, hsame.mono (by decide) (by decide)⟩
  · exact X1.returnOut hx Bd.returns (hb hby d3_4) hr
  · show Q_rm3 Z a h0 n0 _ T1.heap _
    rw [e1]
    exact ⟨rfl, N0, rfl⟩
theorem d2_0 : decode prog_86_method_1_code 0 = .ok (.aload_n 0, 1) := by decide +kernel
theorem d2_1 : decode prog_86_method_1_code 1 = .ok (.invokespecial 1, 3) := by decide +kernel
theorem d2_4 : decode prog_86_method_1_code 4 = .ok (.aload_n 0, 1) := by decide +kernel
theorem d2_5 : decode prog_86_method_1_code 5 = .ok (.aload_n 1, 1) := by decide +kernel
theorem d2_6 : decode prog_86_method_1_code 6 = .ok (.putfield 7, 3) := by decide +kernel
theorem d2_9 : decode prog_86_method_1_code 9 = .ok (.aload_n 0, 1) := by decide +kernel
theorem d2_10 : decode prog_86_method_1_code 10 = .ok (.iload_n 2, 1) := by decide +kernel
theorem d2_11 : decode prog_86_method_1_code 11 = .ok (.putfield 13, 3) := by decide +kernel
theorem d2_14 : decode prog_86_method_1_code 14 = .ok (.aload_n 0, 1) := by decide +kernel
theorem d2_15 : decode prog_86_method_1_code 15 = .ok (.iload_n 3, 1) := by decide +kernel
theorem d2_16 : decode prog_86_method_1_code 16 = .ok (.putfield 17, 3) := by decide +kernel
theorem d2_19 : decode prog_86_method_1_code 19 = .ok (.return_, 1) := by decide +kernel
theorem pn_2 : plainName "com/example/labrelay/labrelay/rules/EnvelopeFinding" = true := by first | (simp [plainName, overriddenIn]; done) | decide +kernel
theorem ef_rm2 (m : MethodId) (a : Addr) (f : Int32) (l2 : Int32) : entryFrame m #[(.ref a), .null, (.int f), (.int l2)] 4 = mkF m 0 #[.val (.ref a), .val .null, .val (.int f), .val (.int l2)] [] := by first | (simp [entryFrame, mkF, argsToLocals, Value.category]; done) | rfl
def Q_rm2 (Z : State) (a : Addr) (f : Int32) (l2 : Int32) (u1 : Int32) (u2 : Int32) (h0 : Heap) (n0 : Nat) (v : Option Value) (h : Heap) (L : List Loc) : Prop := v = none ∧ Fr n0 L ∧ Keep h0 h [a] ∧ Exa Z h a "com/example/labrelay/labrelay/rules/EnvelopeFinding" ∧ Fld Z h a "com/example/labrelay/labrelay/rules/EnvelopeFinding" "first" "I" (.int f) ∧ Fld Z h a "com/example/labrelay/labrelay/rules/EnvelopeFinding" "last" "I" (.int l2)
set_option maxRecDepth 65536 in
set_option maxHeartbeats 40000000 in
theorem rm2 (l : Launch) (Z : State) (a0 : Array Value) (hw : ∀ d ∈ tables_1, d.before a0 Z = true) (ws : List Jvm.Cond) (a : Addr) (f : Int32) (l2 : Int32) (u1 : Int32) (u2 : Int32) (h0 : Heap) (n0 : Nat) (Z0 : n0 ≤ h0.size) (Ea : Exa Z h0 a "com/example/labrelay/labrelay/rules/EnvelopeFinding") (Fa0 : Fld Z h0 a "com/example/labrelay/labrelay/rules/EnvelopeFinding" "finding" "Lcom/example/labrelay/labrelay/model/Finding;" .null) (Fa1 : Fld Z h0 a "com/example/labrelay/labrelay/rules/EnvelopeFinding" "first" "I" (.int u1)) (Fa2 : Fld Z h0 a "com/example/labrelay/labrelay/rules/EnvelopeFinding" "last" "I" (.int u2)) (ga : n0 ≤ a) :
    MetFree l (⟨"com/example/labrelay/labrelay/rules/EnvelopeFinding", "<init>", "(Lcom/example/labrelay/labrelay/model/Finding;II)V"⟩ : MethodName) (head1 (Jvm.Cond.code (⟨"com/example/labrelay/labrelay/rules/EnvelopeFinding", "<init>", "(Lcom/example/labrelay/labrelay/model/Finding;II)V"⟩ : MethodName) prog_86_method_1_code 4 none :: ws) ({ frames := 2, cells := 0, slots := 0, locals := 24 } : Room)) (fun as₉ U => as₉ = #[(.ref a), .null, (.int f), (.int l2)] ∧ Z.Warmed39 U.vm ∧ U.heap = h0) (fun _ _ _ _ _ => True) (fun _ U o U' => ∃ v L, o = .returned v ∧ Q_rm2 Z a f l2 u1 u2 h0 n0 v U'.heap L ∧ FrameEnd U o U' L ({ frames := 2, cells := 0, slots := 0, locals := 24 } : Room).cells ({ frames := 2, cells := 0, slots := 0, locals := 24 } : Room).slots) := by
  refine MetFree.of_bodySF (plainFor_of_name pn_2) hisR ?_
  intro p e s m args below meth c s₁ Bd hml0 hP hK
  obtain ⟨rfl, hZ, hh⟩ := hP
  have hx := Bd.exec
  have hby := Bd.bytes
  have hml : c.maxLocals = 4 := hml0
  have hown : s.vm.findClass "com/example/labrelay/labrelay/rules/EnvelopeFinding" = some m.cls := findClass_of_methodNamed Bd.named
  have hnm := (name_of_methodNamed Bd.named Bd.method).1
  have X0 : Stand p l e ({ frames := 2, cells := 0, slots := 0, locals := 24 } : Room) s m #[(.ref a), .null, (.int f), (.int l2)] below meth c s₁ [] 0 0 := Stand.of_body Bd
  have e0 : s₁.heap = h0 := by rw [← hh, Bd.state]; rfl
  have N0 := Fr.nil n0
  show own_Go p e below (fun s₂ o => s₂.status = .running ∧ Ended s₂ below o ∧ ∃ v L, o = .returned v ∧ Q_rm2 Z a f l2 u1 u2 h0 n0 v s₂.heap L ∧ FrameEnd s o s₂ L ({ frames := 2, cells := 0, slots := 0, locals := 24 } : Room).cells ({ frames := 2, cells := 0, slots := 0, locals := 24 } : Room).slots) (s₁.setTop (entryFrame m #[(.ref a), .null, (.int f), (.int l2)] 4))
  rw [ef_rm2 m a f l2]
  refine own_step (s₁.setTop (mkF m 1 #[.val (.ref a), .val .null, .val (.int f), .val (.int l2)] [(.ref a)])) (fun t₀ k₀ => XS.aloadN X0.here hx rfl (hb hby d2_0) rfl rfl k₀) ?_
  obtain ⟨_, _, ⟨T2, L2, k2, n2⟩, -, X2, ⟨Lc2, hQ2, l2, y2, z2⟩, st2⟩ := X0.specialBack hx (y := (⟨"java/lang/Record", "<init>", "()V"⟩ : MethodName)) rfl hown (mvT hZ (hw _ (List.mem_of_getElem? (i := 10) rfl))) (mvT hZ (hw _ (List.mem_of_getElem? (i := 11) rfl))) (mvT hZ (hw _ (List.mem_of_getElem? (i := 14) rfl))) (by decide) (backOf (W := 0) (rm3 l Z a0 hw [] a h0 n0 Z0) hZ (hw _ (List.mem_of_getElem? (i := 14) rfl)) (hw _ (List.mem_of_getElem? (i := 13) rfl)) (by decide) (by decide)) (g := (mkF m 1 #[.val (.ref a), .val .null, .val (.int f), .val (.int l2)] [(.ref a)])) rfl (by rw [hml]; rfl) (Steps.refl _) (a := a) (argsL := []) (rest := []) (lenOf pd_2 rfl) rfl (by show 2 * 0 + _ ≤ _; exact Nat.le_of_eq rfl) (hb hby d2_1) (fun _ _ => ⟨rfl, e0, (by decide : 0 + 0 ≤ _), (by decide : 0 + 0 ≤ _)⟩)
  dsimp only [Pt.U, Pt.locs, Pt.cells, Pt.slots] at X2 l2 y2 z2 st2 hQ2
  subst l2 y2 z2
  obtain ⟨rfl, N2q, e2⟩ := hQ2
  have N2 := Fr.app N0 N2q
  refine own_comes (T2.setTop (mkF m 4 #[.val (.ref a), .val .null, .val (.int f), .val (.int l2)] [])) st2 ?_
  refine own_step (T2.setTop (mkF m 5 #[.val (.ref a), .val .null, .val (.int f), .val (.int l2)] [(.ref a)])) (fun t₀ k₀ => XS.aloadN X2.here hx rfl (hb hby d2_4) rfl rfl k₀) ?_
  refine own_step (T2.setTop (mkF m 6 #[.val (.ref a), .val .null, .val (.int f), .val (.int l2)] [.null, (.ref a)])) (fun t₀ k₀ => XS.aloadN X2.here hx rfl (hb hby d2_5) rfl rfl k₀) ?_
  obtain ⟨T3, h3, X3, e3, W3, st3⟩ := putF X2 hx hZ hown (host := "") (Or.inl (hw _ (List.mem_of_getElem? (i := 18) rfl))) Via.refl e2 Fa0 Ea (Or.inr ⟨(hw _ (List.mem_of_getElem? (i := 19) rfl)), rfl, hnm⟩) (hw _ (List.mem_of_getElem? (i := 5) rfl)) (ty := (.object "com/example/labrelay/labrelay/model/Finding")) (by decide) rfl rfl (g := (mkF m 6 #[.val (.ref a), .val .null, .val (.int f), .val (.int l2)] [.null, (.ref a)])) rfl rfl (hb hby d2_6)
  have f4 : Fld Z h3 a "com/example/labrelay/labrelay/rules/EnvelopeFinding" "finding" "Lcom/example/labrelay/labrelay/model/Finding;" .null := Fa0.same W3
  have f5 : Exa Z h3 a "com/example/labrelay/labrelay/rules/EnvelopeFinding" := Ea.wr W3
  have f6 : Fld Z h3 a "com/example/labrelay/labrelay/rules/EnvelopeFinding" "first" "I" (.int u1) := Fa1.other W3 (Or.inr (slot_ne (Or.inr (hw _ (List.mem_of_getElem? (i := 21) rfl))) (Or.inr (hw _ (List.mem_of_getElem? (i := 19) rfl))) (by decide) (t := .int) (t' := (.object "com/example/labrelay/labrelay/model/Finding")) (by decide) (by decide)))
  have f7 : Fld Z h3 a "com/example/labrelay/labrelay/rules/EnvelopeFinding" "last" "I" (.int u2) := Fa2.other W3 (Or.inr (slot_ne (Or.inr (hw _ (List.mem_of_getElem? (i := 23) rfl))) (Or.inr (hw _ (List.mem_of_getElem? (i := 19) rfl))) (by decide) (t := .int) (t' := (.object "com/example/labrelay/labrelay/model/Finding")) (by decide) (by decide)))
  have N3 := Fr.snoc X3 N2 ga
  have z3 : n0 ≤ h3.size := Nat.le_trans Z0 (Keep.of_wr W3).1
  have K3 : Keep h0 h3 [a] := (Keep.refl h0 [a]).wr W3 (Or.inl (List.mem_of_getElem? (i := 0) rfl))
  refine own_step (T3.setTop (mkF m 9 #[.val (.ref a), .val .null, .val (.int f), .val (.int l2)] [])) (fun t₀ k₀ => st3 t₀ k₀) ?_
  refine own_step (T3.setTop (mkF m 10 #[.val (.ref a), .val .null, .val (.int f), .val (.int l2)] [(.ref a)])) (fun t₀ k₀ => XS.aloadN X3.here hx rfl (hb hby d2_9) rfl rfl k₀) ?_
  refine own_step (T3.setTop (mkF m 11 #[.val (.ref a), .val .null, .val (.int f), .val (.int l2)] [(.int f), (.ref a)])) (fun t₀ k₀ => XS.iloadN X3.here hx rfl (hb hby d2_10) rfl k₀) ?_
  obtain ⟨T8, h8, X8, e8, W8, st8⟩ := putF X3 hx hZ hown (host := "") (Or.inl (hw _ (List.mem_of_getElem? (i := 20) rfl))) Via.refl e3 f6 f5 (Or.inr ⟨(hw _ (List.mem_of_getElem? (i := 21) rfl)), rfl, hnm⟩) (hw _ (List.mem_of_getElem? (i := 5) rfl)) (ty := .int) (by decide) rfl rfl (g := (mkF m 11 #[.val (.ref a), .val .null, .val (.int f), .val (.int l2)] [(.int f), (.ref a)])) rfl rfl (hb hby d2_11)
  have f9 : Fld Z h8 a "com/example/labrelay/labrelay/rules/EnvelopeFinding" "first" "I" (.int f) := f6.same W8
  have f10 : Exa Z h8 a "com/example/labrelay/labrelay/rules/EnvelopeFinding" := f5.wr W8
  have f11 : Fld Z h8 a "com/example/labrelay/labrelay/rules/EnvelopeFinding" "finding" "Lcom/example/labrelay/labrelay/model/Finding;" .null := f4.other W8 (Or.inr (slot_ne (Or.inr (hw _ (List.mem_of_getElem? (i := 19) rfl))) (Or.inr (hw _ (List.mem_of_getElem? (i := 21) rfl))) (by decide) (t := (.object "com/example/labrelay/labrelay/model/Finding")) (t' := .int) (by decide) (by decide)))
  have f12 : Fld Z h8 a "com/example/labrelay/labrelay/rules/EnvelopeFinding" "last" "I" (.int u2) := f7.other W8 (Or.inr (slot_ne (Or.inr (hw _ (List.mem_of_getElem? (i := 23) rfl))) (Or.inr (hw _ (List.mem_of_getElem? (i := 21) rfl))) (by decide) (t := .int) (t' := .int) (by decide) (by decide)))
  have N8 := Fr.snoc X8 N3 ga
  have z8 : n0 ≤ h8.size := Nat.le_trans z3 (Keep.of_wr W8).1
  have K8 : Keep h0 h8 [a] := K3.wr W8 (Or.inl (List.mem_of_getElem? (i := 0) rfl))
  refine own_step (T8.setTop (mkF m 14 #[.val (.ref a), .val .null, .val (.int f), .val (.int l2)] [])) (fun t₀ k₀ => st8 t₀ k₀) ?_
  refine own_step (T8.setTop (mkF m 15 #[.val (.ref a), .val .null, .val (.int f), .val (.int l2)] [(.ref a)])) (fun t₀ k₀ => XS.aloadN X8.here hx rfl (hb hby d2_14) rfl rfl k₀) ?_
  refine own_step (T8.setTop (mkF m 16 #[.val (.ref a), .val .null, .val (.int f), .val (.int l2)] [(.int l2), (.ref a)])) (fun t₀ k₀ => XS.iloadN X8.here hx rfl (hb hby d2_15) rfl k₀) ?_
  obtain ⟨T13, h13, X13, e13, W13, st13⟩ := putF X8 hx hZ hown (host := "") (Or.inl (hw _ (List.mem_of_getElem? (i := 22) rfl))) Via.refl e8 f12 f10 (Or.inr ⟨(hw _ (List.mem_of_getElem? (i := 23) rfl)), rfl, hnm⟩) (hw _ (List.mem_of_getElem? (i := 5) rfl)) (ty := .int) (by decide) rfl rfl (g := (mkF m 16 #[.val (.ref a), .val .null, .val (.int f), .val (.int l2)] [(.int l2), (.ref a)])) rfl rfl (hb hby d2_16)
  have f14 : Fld Z h13 a "com/example/labrelay/labrelay/rules/EnvelopeFinding" "last" "I" (.int l2) := f12.same W13
  have f15 : Exa Z h13 a "com/example/labrelay/labrelay/rules/EnvelopeFinding" := f10.wr W13
  have f16 : Fld Z h13 a "com/example/labrelay/labrelay/rules/EnvelopeFinding" "finding" "Lcom/example/labrelay/labrelay/model/Finding;" .null := f11.other W13 (Or.inr (slot_ne (Or.inr (hw _ (List.mem_of_getElem? (i := 19) rfl))) (Or.inr (hw _ (List.mem_of_getElem? (i := 23) rfl))) (by decide) (t := (.object "com/example/labrelay/labrelay/model/Finding")) (t' := .int) (by decide) (by decide)))
  have f17 : Fld Z h13 a "com/example/labrelay/labrelay/rules/EnvelopeFinding" "first" "I" (.int f) := f9.other W13 (Or.inr (slot_ne (Or.inr (hw _ (List.mem_of_getElem? (i := 21) rfl))) (Or.inr (hw _ (List.mem_of_getElem? (i := 23) rfl))) (by decide) (t := .int) (t' := .int) (by decide) (by decide)))
  have N13 := Fr.snoc X13 N8 ga
  have z13 : n0 ≤ h13.size := Nat.le_trans z8 (Keep.of_wr W13).1
  have K13 : Keep h0 h13 [a] := K8.wr W13 (Or.inl (List.mem_of_getElem? (i := 0) rfl))
  refine own_step (T13.setTop (mkF m 19 #[.val (.ref a), .val .null, .val (.int f), .val (.int l2)] [])) (fun t₀ k₀ => st13 t₀ k₀) ?_
  obtain ⟨fs, hr, hrun, hended, hW, hsame⟩ := X13.leave (v := none) (fun _ => rfl)
  refine ⟨_, _, ?_, hrun, hended, _, _, rfl, ?_, ⟨_, rfl⟩, hW, hsame.mono (by decide) (by decide)⟩
  · exact X13.returnOut hx Bd.returns (hb hby d2_19) hr
  · show Q_rm2 Z a f l2 u1 u2 h0 n0 _ T13.heap _
    rw [e13]
    exact ⟨rfl, N13, K13, f15, f17, f14⟩
theorem d5_0 : decode prog_86_method_2_code 0 = .ok (.aload_n 0, 1) := by decide +kernel
theorem d5_1 : decode prog_86_method_2_code 1 = .ok (.getfield 13, 3) := by decide +kernel
theorem d5_4 : decode prog_86_method_2_code 4 = .ok (.iload_n 1, 1) := by decide +kernel
theorem d5_5 : decode prog_86_method_2_code 5 = .ok (.if_icmp .gt 15, 3) := by decide +kernel
theorem d5_8 : decode prog_86_method_2_code 8 = .ok (.iload_n 1, 1) := by decide +kernel
theorem d5_9 : decode prog_86_method_2_code 9 = .ok (.aload_n 0, 1) := by decide +kernel
theorem d5_10 : decode prog_86_method_2_code 10 = .ok (.getfield 17, 3) := by decide +kernel
theorem d5_13 : decode prog_86_method_2_code 13 = .ok (.if_icmp .gt 7, 3) := by decide +kernel
theorem d5_16 : decode prog_86_method_2_code 16 = .ok (.iconst 1, 1) := by decide +kernel
theorem d5_17 : decode prog_86_method_2_code 17 = .ok (.goto 4, 3) := by decide +kernel
theorem d5_20 : decode prog_86_method_2_code 20 = .ok (.iconst 0, 1) := by decide +kernel
theorem d5_21 : decode prog_86_method_2_code 21 = .ok (.ireturn, 1) := by decide +kernel
theorem ef_rm5 (m : MethodId) (a : Addr) (t : Int32) : entryFrame m #[(.ref a), (.int t)] 2 = mkF m 0 #[.val (.ref a), .val (.int t)] [] := by first | (simp [entryFrame, mkF, argsToLocals, Value.category]; done) | rfl
def Q_rm5 (Z : State) (a : Addr) (t : Int32) (lo : Int32) (hi : Int32) (h0 : Heap) (n0 : Nat) (v : Option Value) (h : Heap) (L : List Loc) : Prop := v = some (.int (own_in lo t hi)) ∧ Fr n0 L ∧ h = h0
set_option maxRecDepth 65536 in
set_option maxHeartbeats 40000000 in
theorem rm5 (l : Launch) (Z : State) (a0 : Array Value) (hw : ∀ d ∈ tables_1, d.before a0 Z = true) (ws : List Jvm.Cond) (a : Addr) (t : Int32) (lo : Int32) (hi : Int32) (h0 : Heap) (n0 : Nat) (Z0 : n0 ≤ h0.size) (Fa1 : Fld Z h0 a "com/example/labrelay/labrelay/rules/EnvelopeFinding" "first" "I" (.int lo)) (Fa2 : Fld Z h0 a "com/example/labrelay/labrelay/rules/EnvelopeFinding" "last" "I" (.int hi)) :
    MetFree l (⟨"com/example/labrelay/labrelay/rules/EnvelopeFinding", "standsFor", "(I)Z"⟩ : MethodName) (head1 (Jvm.Cond.code (⟨"com/example/labrelay/labrelay/rules/EnvelopeFinding", "standsFor", "(I)Z"⟩ : MethodName) prog_86_method_2_code 2 (some .boolean) :: ws) ({ frames := 0, cells := 0, slots := 0, locals := 0 } : Room)) (fun as₉ U => as₉ = #[(.ref a), (.int t)] ∧ Z.Warmed39 U.vm ∧ U.heap = h0) (fun _ _ _ _ _ => True) (fun _ U o U' => ∃ v L, o = .returned v ∧ Q_rm5 Z a t lo hi h0 n0 v U'.heap L ∧ FrameEnd U o U' L ({ frames := 0, cells := 0, slots := 0, locals := 0 } : Room).cells ({ frames := 0, cells := 0, slots := 0, locals := 0 } : Room).slots) := by
  refine MetFree.of_bodySF (plainFor_of_name pn_2) hisR ?_
  intro p e s m args below meth c s₁ Bd hml0 hP hK
  obtain ⟨rfl, hZ, hh⟩ := hP
  have hx := Bd.exec
  have hby := Bd.bytes
  have hml : c.maxLocals = 2 := hml0
  have hown : s.vm.findClass "com/example/labrelay/labrelay/rules/EnvelopeFinding" = some m.cls := findClass_of_methodNamed Bd.named
  have hnm := (name_of_methodNamed Bd.named Bd.method).1
  have X0 : Stand p l e ({ frames := 0, cells := 0, slots := 0, locals := 0 } : Room) s m #[(.ref a), (.int t)] below meth c s₁ [] 0 0 := Stand.of_body Bd
  have e0 : s₁.heap = h0 := by rw [← hh, Bd.state]; rfl
  have N0 := Fr.nil n0
  show own_Go p e below (fun s₂ o => s₂.status = .running ∧ Ended s₂ below o ∧ ∃ v L, o = .returned v ∧ Q_rm5 Z a t lo hi h0 n0 v s₂.heap L ∧ FrameEnd s o s₂ L ({ frames := 0, cells := 0, slots := 0, locals := 0 } : Room).cells ({ frames := 0, cells := 0, slots := 0, locals := 0 } : Room).slots) (s₁.setTop (entryFrame m #[(.ref a), (.int t)] 2))
  rw [ef_rm5 m a t]
  refine own_step (s₁.setTop (mkF m 1 #[.val (.ref a), .val (.int t)] [(.ref a)])) (fun t₀ k₀ => XS.aloadN X0.here hx rfl (hb hby d5_0) rfl rfl k₀) ?_
  obtain ⟨T18, X18, e18, st18⟩ := getF X0 hx hZ hown (host := "") (Or.inl (hw _ (List.mem_of_getElem? (i := 20) rfl))) Via.refl e0 Fa1 (g := (mkF m 1 #[.val (.ref a), .val (.int t)] [(.ref a)])) rfl rfl (hb hby d5_1)
  refine own_step (T18.setTop (mkF m 4 #[.val (.ref a), .val (.int t)] [(.int lo)])) (fun t₀ k₀ => st18 t₀ k₀) ?_
  refine own_step (T18.setTop (mkF m 5 #[.val (.ref a), .val (.int t)] [(.int t), (.int lo)])) (fun t₀ k₀ => XS.iloadN X18.here hx rfl (hb hby d5_4) rfl k₀) ?_
  by_cases hc5 : t < lo
  · skip
    refine own_step (T18.setTop (mkF m 20 #[.val (.ref a), .val (.int t)] [])) (fun t₀ k₀ => XS.icmpYes X18.here hx rfl (pc0 := 5) (pc' := 20) rfl (hb hby d5_5) rfl (tlt hc5).2.2.1 (by decide) (by decide) k₀) ?_
    refine own_step (T18.setTop (mkF m 21 #[.val (.ref a), .val (.int t)] [(.int (0 : Int32))])) (fun t₀ k₀ => XS.iconst X18.here hx rfl (hb hby d5_20) k₀) ?_
    obtain ⟨fs, hr, hrun, hended, hW, hsame⟩ := X18.leave (v := some (.int (0 : Int32))) (fun h => by rw [Bd.returns] at h; cases h)
    refine ⟨_, _, ?_, hrun, hended, _, _, rfl, ?_, ⟨_, rfl⟩, hW, hsame.mono (by decide) (by decide)⟩
    · exact retN X18 hx (t := .boolean) Bd.returns (by simp) (hb hby d5_21) hr
    · show Q_rm5 Z a t lo hi h0 n0 _ T18.heap _
      rw [e18]
      exact ⟨by simp [own_in, hc5], N0, rfl⟩
  · skip
    refine own_step (T18.setTop (mkF m 8 #[.val (.ref a), .val (.int t)] [])) (fun t₀ k₀ => XS.icmpNo X18.here hx rfl (hb hby d5_5) rfl (flt hc5).2.2.1 k₀) ?_
    refine own_step (T18.setTop (mkF m 9 #[.val (.ref a), .val (.int t)] [(.int t)])) (fun t₀ k₀ => XS.iloadN X18.here hx rfl (hb hby d5_8) rfl k₀) ?_
    refine own_step (T18.setTop (mkF m 10 #[.val (.ref a), .val (.int t)] [(.ref a), (.int t)])) (fun t₀ k₀ => XS.aloadN X18.here hx rfl (hb hby d5_9) rfl rfl k₀) ?_
    obtain ⟨T19, X19, e19, st19⟩ := getF X18 hx hZ hown (host := "") (Or.inl (hw _ (List.mem_of_getElem? (i := 22) rfl))) Via.refl e18 Fa2 (g := (mkF m 10 #[.val (.ref a), .val (.int t)] [(.ref a), (.int t)])) rfl rfl (hb hby d5_10)
    refine own_step (T19.setTop (mkF m 13 #[.val (.ref a), .val (.int t)] [(.int hi), (.int t)])) (fun t₀ k₀ => st19 t₀ k₀) ?_
    by_cases hc13 : hi < t
    · skip
      refine own_step (T19.setTop (mkF m 20 #[.val (.ref a), .val (.int t)] [])) (fun t₀ k₀ => XS.icmpYes X19.here hx rfl (pc0 := 13) (pc' := 20) rfl (hb hby d5_13) rfl (tlt hc13).2.2.1 (by decide) (by decide) k₀) ?_
      refine own_step (T19.setTop (mkF m 21 #[.val (.ref a), .val (.int t)] [(.int (0 : Int32))])) (fun t₀ k₀ => XS.iconst X19.here hx rfl (hb hby d5_20) k₀) ?_
      obtain ⟨fs, hr, hrun, hended, hW, hsame⟩ := X19.leave (v := some (.int (0 : Int32))) (fun h => by rw [Bd.returns] at h; cases h)
      refine ⟨_, _, ?_, hrun, hended, _, _, rfl, ?_, ⟨_, rfl⟩, hW, hsame.mono (by decide) (by decide)⟩
      · exact retN X19 hx (t := .boolean) Bd.returns (by simp) (hb hby d5_21) hr
      · show Q_rm5 Z a t lo hi h0 n0 _ T19.heap _
        rw [e19]
        exact ⟨by simp [own_in, hc5, hc13], N0, rfl⟩
    · skip
      refine own_step (T19.setTop (mkF m 16 #[.val (.ref a), .val (.int t)] [])) (fun t₀ k₀ => XS.icmpNo X19.here hx rfl (hb hby d5_13) rfl (flt hc13).2.2.1 k₀) ?_
      refine own_step (T19.setTop (mkF m 17 #[.val (.ref a), .val (.int t)] [(.int (1 : Int32))])) (fun t₀ k₀ => XS.iconst X19.here hx rfl (hb hby d5_16) k₀) ?_
      refine own_step (T19.setTop (mkF m 21 #[.val (.ref a), .val (.int t)] [(.int (1 : Int32))])) (fun t₀ k₀ => XS.goto X19.here hx rfl (pc0 := 17) (pc' := 21) rfl (hb hby d5_17) (by decide) (by decide) k₀) ?_
      obtain ⟨fs, hr, hrun, hended, hW, hsame⟩ := X19.leave (v := some (.int (1 : Int32))) (fun h => by rw [Bd.returns] at h; cases h)
      refine ⟨_, _, ?_, hrun, hended, _, _, rfl, ?_, ⟨_, rfl⟩, hW, hsame.mono (by decide) (by decide)⟩
      · exact retN X19 hx (t := .boolean) Bd.returns (by simp) (hb hby d5_21) hr
      · show Q_rm5 Z a t lo hi h0 n0 _ T19.heap _
        rw [e19]
        exact ⟨by simp [own_in, hc5, hc13], N0, rfl⟩
theorem ef_rm0 (m : MethodId) (f : Int32) (l2 : Int32) (mm : Int32) (mode : Int32) : entryFrame m #[(.int f), (.int l2), (.int mm), (.int mode)] maxLocals = mkF m 0 #[.val (.int f), .val (.int l2), .val (.int mm), .val (.int mode), .unset, .unset, .unset, .unset, .unset, .unset, .unset, .unset, .unset, .unset, .unset] [] := by first | (simp [entryFrame, mkF, argsToLocals, Value.category, maxLocals]; done) | rfl
def Q_rm0 (Z : State) (f : Int32) (l2 : Int32) (mm : Int32) (mode : Int32) (h0 : Heap) (n0 : Nat) (v : Option Value) (h : Heap) (L : List Loc) : Prop := v = some (.int 1) ∧ Fr n0 L
set_option maxRecDepth 65536 in
set_option maxHeartbeats 40000000 in
theorem rm0 (l : Launch) (Z : State) (a0 : Array Value) (hw : ∀ d ∈ tables_1, d.before a0 Z = true) (ws : List Jvm.Cond) (f : Int32) (l2 : Int32) (mm : Int32) (mode : Int32) (h0 : Heap) (n0 : Nat) (Z0 : n0 ≤ h0.size) :
    MetFree l x (head1 (Jvm.Cond.code x code maxLocals ret :: ws) room_1) (fun as₉ U => as₉ = #[(.int f), (.int l2), (.int mm), (.int mode)] ∧ Z.Warmed39 U.vm ∧ U.heap = h0) (fun _ _ _ _ _ => True) (fun _ U o U' => ∃ v L, o = .returned v ∧ Q_rm0 Z f l2 mm mode h0 n0 v U'.heap L ∧ FrameEnd U o U' L room_1.cells room_1.slots) := by
  refine MetFree.of_bodySF (plainFor_of_name pn_1) hisR ?_
  intro p e s m args below meth c s₁ Bd hml0 hP hK
  obtain ⟨rfl, hZ, hh⟩ := hP
  have hx := Bd.exec
  have hby := Bd.bytes
  have hml : c.maxLocals = 15 := hml0
  have hown : s.vm.findClass "com/example/labrelay/labrelay/rules/EnvelopeFindingStandsForPinLaw" = some m.cls := findClass_of_methodNamed Bd.named
  have hnm := (name_of_methodNamed Bd.named Bd.method).1
  have X0 : Stand p l e room_1 s m #[(.int f), (.int l2), (.int mm), (.int mode)] below meth c s₁ [] 0 0 := Stand.of_body Bd
  have e0 : s₁.heap = h0 := by rw [← hh, Bd.state]; rfl
  have N0 := Fr.nil n0
  show own_Go p e below (fun s₂ o => s₂.status = .running ∧ Ended s₂ below o ∧ ∃ v L, o = .returned v ∧ Q_rm0 Z f l2 mm mode h0 n0 v s₂.heap L ∧ FrameEnd s o s₂ L room_1.cells room_1.slots) (s₁.setTop (entryFrame m #[(.int f), (.int l2), (.int mm), (.int mode)] maxLocals))
  rw [ef_rm0 m f l2 mm mode]
  refine own_step (s₁.setTop (mkF m 1 #[.val (.int f), .val (.int l2), .val (.int mm), .val (.int mode), .unset, .unset, .unset, .unset, .unset, .unset, .unset, .unset, .unset, .unset, .unset] [(.int f)])) (fun t₀ k₀ => XS.iloadN X0.here hx rfl (hb hby at_0) rfl k₀) ?_
  refine own_step (s₁.setTop (mkF m 2 #[.val (.int f), .val (.int l2), .val (.int mm), .val (.int mode), .unset, .unset, .unset, .unset, .unset, .unset, .unset, .unset, .unset, .unset, .unset] [(.int l2), (.int f)])) (fun t₀ k₀ => XS.iloadN X0.here hx rfl (hb hby at_1) rfl k₀) ?_
  refine own_step (s₁.setTop (mkF m 3 #[.val (.int f), .val (.int l2), .val (.int mm), .val (.int mode), .unset, .unset, .unset, .unset, .unset, .unset, .unset, .unset, .unset, .unset, .unset] [(.int mm), (.int l2), (.int f)])) (fun t₀ k₀ => XS.iloadN X0.here hx rfl (hb hby at_2) rfl k₀) ?_
  refine own_step (s₁.setTop (mkF m 4 #[.val (.int f), .val (.int l2), .val (.int mm), .val (.int mode), .unset, .unset, .unset, .unset, .unset, .unset, .unset, .unset, .unset, .unset, .unset] [(.int mode), (.int mm), (.int l2), (.int f)])) (fun t₀ k₀ => XS.iloadN X0.here hx rfl (hb hby at_3) rfl k₀) ?_
  obtain ⟨_, _, ⟨T20, L20, k20, n20⟩, -, X20, ⟨Lc20, hQ20, l20, y20, z20⟩, st20⟩ := Jvm.LawKit.callS X0 hx (y := (⟨"com/example/labrelay/labrelay/rules/EnvelopeFindingStandsForPinLaw", "pick", "(IIII)I"⟩ : MethodName)) hown (mvT hZ (hw _ (List.mem_of_getElem? (i := 0) rfl))) (mvT hZ (hw _ (List.mem_of_getElem? (i := 1) rfl))) (mvT hZ (hw _ (List.mem_of_getElem? (i := 2) rfl))) (mvT hZ (hw _ (List.mem_of_getElem? (i := 3) rfl))) (by decide) (backOf (W := 0) (rm1 l Z a0 hw [] f l2 mm mode h0 n0 Z0) hZ (hw _ (List.mem_of_getElem? (i := 3) rfl)) (hw _ (List.mem_of_getElem? (i := 2) rfl)) (by decide) (by decide)) (g := (mkF m 4 #[.val (.int f), .val (.int l2), .val (.int mm), .val (.int mode), .unset, .unset, .unset, .unset, .unset, .unset, .unset, .unset, .unset, .unset, .unset] [(.int mode), (.int mm), (.int l2), (.int f)])) rfl (by rw [hml]; rfl) (argsL := [(.int f), (.int l2), (.int mm), (.int mode)]) (rest := []) (lenOf pd_0 rfl) rfl (by show 2 * 0 + _ ≤ _; exact Nat.le_of_eq rfl) (hb hby at_4) (fun _ _ => ⟨rfl, e0, (by decide : 0 + 0 ≤ _), (by decide : 0 + 0 ≤ _)⟩)
  dsimp only [Pt.U, Pt.locs, Pt.cells, Pt.slots] at X20 l20 y20 z20 st20 hQ20
  subst l20 y20 z20
  obtain ⟨t21, rfl, N20q, e20⟩ := hQ20
  have N20 := Fr.app N0 N20q
  refine own_step (T20.setTop (mkF m 7 #[.val (.int f), .val (.int l2), .val (.int mm), .val (.int mode), .unset, .unset, .unset, .unset, .unset, .unset, .unset, .unset, .unset, .unset, .unset] [(.int t21)])) (fun t₀ k₀ => st20 t₀ k₀) ?_
  refine own_step (T20.setTop (mkF m 9 #[.val (.int f), .val (.int l2), .val (.int mm), .val (.int mode), .val (.int t21), .unset, .unset, .unset, .unset, .unset, .unset, .unset, .unset, .unset, .unset] [])) (fun t₀ k₀ => XS.istore X20.here hx rfl (hb hby at_7) rfl (l' := #[.val (.int f), .val (.int l2), .val (.int mm), .val (.int mode), .val (.int t21), .unset, .unset, .unset, .unset, .unset, .unset, .unset, .unset, .unset, .unset]) rfl k₀) ?_
  obtain ⟨T22, h22, X22, e22, E22, A22, D22, -, st22⟩ := newO X20 hx hZ hown (hw _ (List.mem_of_getElem? (i := 4) rfl)) (hw _ (List.mem_of_getElem? (i := 5) rfl)) (hw _ (List.mem_of_getElem? (i := 6) rfl)) e20 (g := (mkF m 9 #[.val (.int f), .val (.int l2), .val (.int mm), .val (.int mode), .val (.int t21), .unset, .unset, .unset, .unset, .unset, .unset, .unset, .unset, .unset, .unset] [])) rfl (hb hby at_9) (by decide) (by decide)
  obtain ⟨b22, g22⟩ : ∃ z, z = h0.size := ⟨_, rfl⟩
  rw [← g22] at A22 D22 st22
  have fr_b22 : n0 ≤ b22 := Nat.le_trans Z0 (Nat.le_of_eq g22.symm)
  have f23 : Fld Z h22 b22 "com/example/labrelay/labrelay/rules/EnvelopeFinding" "finding" "Lcom/example/labrelay/labrelay/model/Finding;" .null := D22 (Or.inr (hw _ (List.mem_of_getElem? (i := 19) rfl))) (ty := (.object "com/example/labrelay/labrelay/model/Finding")) (by decide)
  have f24 : Fld Z h22 b22 "com/example/labrelay/labrelay/rules/EnvelopeFinding" "first" "I" (.int (0 : Int32)) := D22 (Or.inr (hw _ (List.mem_of_getElem? (i := 21) rfl))) (ty := .int) (by decide)
  have f25 : Fld Z h22 b22 "com/example/labrelay/labrelay/rules/EnvelopeFinding" "last" "I" (.int (0 : Int32)) := D22 (Or.inr (hw _ (List.mem_of_getElem? (i := 23) rfl))) (ty := .int) (by decide)
  have z22 : n0 ≤ h22.size := Nat.le_trans Z0 E22.1
  refine own_step (T22.setTop (mkF m 12 #[.val (.int f), .val (.int l2), .val (.int mm), .val (.int mode), .val (.int t21), .unset, .unset, .unset, .unset, .unset, .unset, .unset, .unset, .unset, .unset] [(.ref b22)])) (fun t₀ k₀ => st22 t₀ k₀) ?_
  refine own_step (T22.setTop (mkF m 13 #[.val (.int f), .val (.int l2), .val (.int mm), .val (.int mode), .val (.int t21), .unset, .unset, .unset, .unset, .unset, .unset, .unset, .unset, .unset, .unset] [(.ref b22), (.ref b22)])) (fun t₀ k₀ => XS.dup X22.here hx rfl (hb hby at_12) rfl rfl k₀) ?_
  refine own_step (T22.setTop (mkF m 14 #[.val (.int f), .val (.int l2), .val (.int mm), .val (.int mode), .val (.int t21), .unset, .unset, .unset, .unset, .unset, .unset, .unset, .unset, .unset, .unset] [.null, (.ref b22), (.ref b22)])) (fun t₀ k₀ => XS.aconstNull X22.here hx rfl (hb hby at_13) k₀) ?_
  refine own_step (T22.setTop (mkF m 15 #[.val (.int f), .val (.int l2), .val (.int mm), .val (.int mode), .val (.int t21), .unset, .unset, .unset, .unset, .unset, .unset, .unset, .unset, .unset, .unset] [(.int f), .null, (.ref b22), (.ref b22)])) (fun t₀ k₀ => XS.iloadN X22.here hx rfl (hb hby at_14) rfl k₀) ?_
  refine own_step (T22.setTop (mkF m 16 #[.val (.int f), .val (.int l2), .val (.int mm), .val (.int mode), .val (.int t21), .unset, .unset, .unset, .unset, .unset, .unset, .unset, .unset, .unset, .unset] [(.int l2), (.int f), .null, (.ref b22), (.ref b22)])) (fun t₀ k₀ => XS.iloadN X22.here hx rfl (hb hby at_15) rfl k₀) ?_
  obtain ⟨_, _, ⟨T26, L26, k26, n26⟩, -, X26, ⟨Lc26, hQ26, l26, y26, z26⟩, st26⟩ := X22.specialBack hx (y := (⟨"com/example/labrelay/labrelay/rules/EnvelopeFinding", "<init>", "(Lcom/example/labrelay/labrelay/model/Finding;II)V"⟩ : MethodName)) rfl hown (mvT hZ (hw _ (List.mem_of_getElem? (i := 7) rfl))) (mvT hZ (hw _ (List.mem_of_getElem? (i := 8) rfl))) (mvT hZ (hw _ (List.mem_of_getElem? (i := 9) rfl))) (by decide) (backOf (W := 1) (rm2 l Z a0 hw [] b22 f l2 (0 : Int32) (0 : Int32) h22 n0 z22 A22 f23 f24 f25 fr_b22) hZ (hw _ (List.mem_of_getElem? (i := 9) rfl)) (hw _ (List.mem_of_getElem? (i := 6) rfl)) (by decide) (by decide)) (g := (mkF m 16 #[.val (.int f), .val (.int l2), .val (.int mm), .val (.int mode), .val (.int t21), .unset, .unset, .unset, .unset, .unset, .unset, .unset, .unset, .unset, .unset] [(.int l2), (.int f), .null, (.ref b22), (.ref b22)])) rfl (by rw [hml]; rfl) (Steps.refl _) (a := b22) (argsL := [.null, (.int f), (.int l2)]) (rest := [(.ref b22)]) (lenOf pd_1 rfl) rfl (by show 2 * 0 + _ ≤ _; exact Nat.le_of_eq rfl) (hb hby at_16) (fun _ _ => ⟨rfl, e22, (by decide : 1 + 0 ≤ _), (by decide : 3 + 0 ≤ _)⟩)
  dsimp only [Pt.U, Pt.locs, Pt.cells, Pt.slots] at X26 l26 y26 z26 st26 hQ26
  subst l26 y26 z26
  obtain ⟨rfl, N26q, K26, f27, f28, f29⟩ := hQ26
  have N26 := Fr.app N20 N26q
  have f30 : Exa Z T26.heap b22 "com/example/labrelay/labrelay/rules/EnvelopeFinding" := A22.keep K26
  have z26' : n0 ≤ T26.heap.size := Nat.le_trans z22 K26.1
  refine own_comes (T26.setTop (mkF m 19 #[.val (.int f), .val (.int l2), .val (.int mm), .val (.int mode), .val (.int t21), .unset, .unset, .unset, .unset, .unset, .unset, .unset, .unset, .unset, .unset] [(.ref b22)])) st26 ?_
  refine own_step (T26.setTop (mkF m 21 #[.val (.int f), .val (.int l2), .val (.int mm), .val (.int mode), .val (.int t21), .val (.ref b22), .unset, .unset, .unset, .unset, .unset, .unset, .unset, .unset, .unset] [])) (fun t₀ k₀ => XS.astore X26.here hx rfl (hb hby at_19) rfl rfl (l' := #[.val (.int f), .val (.int l2), .val (.int mm), .val (.int mode), .val (.int t21), .val (.ref b22), .unset, .unset, .unset, .unset, .unset, .unset, .unset, .unset, .unset]) rfl k₀) ?_
  refine own_step (T26.setTop (mkF m 23 #[.val (.int f), .val (.int l2), .val (.int mm), .val (.int mode), .val (.int t21), .val (.ref b22), .unset, .unset, .unset, .unset, .unset, .unset, .unset, .unset, .unset] [(.ref b22)])) (fun t₀ k₀ => XS.aload X26.here hx rfl (hb hby at_21) rfl rfl k₀) ?_
  refine own_step (T26.setTop (mkF m 25 #[.val (.int f), .val (.int l2), .val (.int mm), .val (.int mode), .val (.int t21), .val (.ref b22), .unset, .unset, .unset, .unset, .unset, .unset, .unset, .unset, .unset] [(.int t21), (.ref b22)])) (fun t₀ k₀ => XS.iload X26.here hx rfl (hb hby at_23) rfl k₀) ?_
  obtain ⟨cq34, kq34, q34a, q34b, q34c⟩ := isOf hZ rfl f27
  obtain ⟨_, _, ⟨T34, L34, k34, n34⟩, -, X34, ⟨Lc34, hQ34, l34, y34, z34⟩, st34⟩ := X26.virtualBack hx (y := (⟨"com/example/labrelay/labrelay/rules/EnvelopeFinding", "standsFor", "(I)Z"⟩ : MethodName)) (z := (⟨"com/example/labrelay/labrelay/rules/EnvelopeFinding", "standsFor", "(I)Z"⟩ : MethodName)) hown (mvT hZ (hw _ (List.mem_of_getElem? (i := 24) rfl))) (mvT hZ (hw _ (List.mem_of_getElem? (i := 25) rfl))) (notFace_of_selects (args := #[]) (mvT hZ (hw _ (List.mem_of_getElem? (i := 27) rfl)))) (mvT hZ (hw _ (List.mem_of_getElem? (i := 27) rfl))) (mvT hZ (hw _ (List.mem_of_getElem? (i := 26) rfl))) (by decide) (backOf (W := 0) (rm5 l Z a0 hw [] b22 t21 f l2 T26.heap n0 z26' f28 f29) hZ (hw _ (List.mem_of_getElem? (i := 28) rfl)) (hw _ (List.mem_of_getElem? (i := 6) rfl)) (by decide) (by decide)) q34a q34c (g := (mkF m 25 #[.val (.int f), .val (.int l2), .val (.int mm), .val (.int mode), .val (.int t21), .val (.ref b22), .unset, .unset, .unset, .unset, .unset, .unset, .unset, .unset, .unset] [(.int t21), (.ref b22)])) rfl (by rw [hml]; rfl) (Steps.refl _) (argsL := [(.int t21)]) (rest := []) (lenOf pd_3 rfl) rfl (by show 2 * 0 + _ ≤ _; exact Nat.le_of_eq rfl) (hb hby at_25) (fun _ _ => ⟨rfl, rfl, (by decide : 1 + 0 ≤ _), (by decide : 3 + 0 ≤ _)⟩)
  dsimp only [Pt.U, Pt.locs, Pt.cells, Pt.slots] at X34 l34 y34 z34 st34 hQ34
  subst l34 y34 z34
  obtain ⟨rfl, N34q, e34⟩ := hQ34
  have N34 := Fr.app N26 N34q
  refine own_comes (T34.setTop (mkF m 28 #[.val (.int f), .val (.int l2), .val (.int mm), .val (.int mode), .val (.int t21), .val (.ref b22), .unset, .unset, .unset, .unset, .unset, .unset, .unset, .unset, .unset] [(.int (own_in f t21 l2))])) st34 ?_
  refine own_step (T34.setTop (mkF m 30 #[.val (.int f), .val (.int l2), .val (.int mm), .val (.int mode), .val (.int t21), .val (.ref b22), .val (.int (own_in f t21 l2)), .unset, .unset, .unset, .unset, .unset, .unset, .unset, .unset] [])) (fun t₀ k₀ => XS.istore X34.here hx rfl (hb hby at_28) rfl (l' := #[.val (.int f), .val (.int l2), .val (.int mm), .val (.int mode), .val (.int t21), .val (.ref b22), .val (.int (own_in f t21 l2)), .unset, .unset, .unset, .unset, .unset, .unset, .unset, .unset]) rfl k₀) ?_
  refine own_step (T34.setTop (mkF m 31 #[.val (.int f), .val (.int l2), .val (.int mm), .val (.int mode), .val (.int t21), .val (.ref b22), .val (.int (own_in f t21 l2)), .unset, .unset, .unset, .unset, .unset, .unset, .unset, .unset] [(.int f)])) (fun t₀ k₀ => XS.iloadN X34.here hx rfl (hb hby at_30) rfl k₀) ?_
  refine own_step (T34.setTop (mkF m 32 #[.val (.int f), .val (.int l2), .val (.int mm), .val (.int mode), .val (.int t21), .val (.ref b22), .val (.int (own_in f t21 l2)), .unset, .unset, .unset, .unset, .unset, .unset, .unset, .unset] [(.long (f.toInt64))])) (fun t₀ k₀ => XS.i2l X34.here hx rfl (hb hby at_31) rfl k₀) ?_
  refine own_step (T34.setTop (mkF m 34 #[.val (.int f), .val (.int l2), .val (.int mm), .val (.int mode), .val (.int t21), .val (.ref b22), .val (.int (own_in f t21 l2)), .val (.long (f.toInt64)), .second, .unset, .unset, .unset, .unset, .unset, .unset] [])) (fun t₀ k₀ => XS.lstore X34.here hx rfl (hb hby at_32) rfl (l' := #[.val (.int f), .val (.int l2), .val (.int mm), .val (.int mode), .val (.int t21), .val (.ref b22), .val (.int (own_in f t21 l2)), .val (.long (f.toInt64)), .second, .unset, .unset, .unset, .unset, .unset, .unset]) rfl k₀) ?_
  refine own_step (T34.setTop (mkF m 35 #[.val (.int f), .val (.int l2), .val (.int mm), .val (.int mode), .val (.int t21), .val (.ref b22), .val (.int (own_in f t21 l2)), .val (.long (f.toInt64)), .second, .unset, .unset, .unset, .unset, .unset, .unset] [(.int l2)])) (fun t₀ k₀ => XS.iloadN X34.here hx rfl (hb hby at_34) rfl k₀) ?_
  refine own_step (T34.setTop (mkF m 36 #[.val (.int f), .val (.int l2), .val (.int mm), .val (.int mode), .val (.int t21), .val (.ref b22), .val (.int (own_in f t21 l2)), .val (.long (f.toInt64)), .second, .unset, .unset, .unset, .unset, .unset, .unset] [(.long (l2.toInt64))])) (fun t₀ k₀ => XS.i2l X34.here hx rfl (hb hby at_35) rfl k₀) ?_
  refine own_step (T34.setTop (mkF m 38 #[.val (.int f), .val (.int l2), .val (.int mm), .val (.int mode), .val (.int t21), .val (.ref b22), .val (.int (own_in f t21 l2)), .val (.long (f.toInt64)), .second, .val (.long (l2.toInt64)), .second, .unset, .unset, .unset, .unset] [])) (fun t₀ k₀ => XS.lstore X34.here hx rfl (hb hby at_36) rfl (l' := #[.val (.int f), .val (.int l2), .val (.int mm), .val (.int mode), .val (.int t21), .val (.ref b22), .val (.int (own_in f t21 l2)), .val (.long (f.toInt64)), .second, .val (.long (l2.toInt64)), .second, .unset, .unset, .unset, .unset]) rfl k₀) ?_
  refine own_step (T34.setTop (mkF m 40 #[.val (.int f), .val (.int l2), .val (.int mm), .val (.int mode), .val (.int t21), .val (.ref b22), .val (.int (own_in f t21 l2)), .val (.long (f.toInt64)), .second, .val (.long (l2.toInt64)), .second, .unset, .unset, .unset, .unset] [(.int t21)])) (fun t₀ k₀ => XS.iload X34.here hx rfl (hb hby at_38) rfl k₀) ?_
  refine own_step (T34.setTop (mkF m 41 #[.val (.int f), .val (.int l2), .val (.int mm), .val (.int mode), .val (.int t21), .val (.ref b22), .val (.int (own_in f t21 l2)), .val (.long (f.toInt64)), .second, .val (.long (l2.toInt64)), .second, .unset, .unset, .unset, .unset] [(.long (t21.toInt64))])) (fun t₀ k₀ => XS.i2l X34.here hx rfl (hb hby at_40) rfl k₀) ?_
  refine own_step (T34.setTop (mkF m 43 #[.val (.int f), .val (.int l2), .val (.int mm), .val (.int mode), .val (.int t21), .val (.ref b22), .val (.int (own_in f t21 l2)), .val (.long (f.toInt64)), .second, .val (.long (l2.toInt64)), .second, .val (.long (t21.toInt64)), .second, .unset, .unset] [])) (fun t₀ k₀ => XS.lstore X34.here hx rfl (hb hby at_41) rfl (l' := #[.val (.int f), .val (.int l2), .val (.int mm), .val (.int mode), .val (.int t21), .val (.ref b22), .val (.int (own_in f t21 l2)), .val (.long (f.toInt64)), .second, .val (.long (l2.toInt64)), .second, .val (.long (t21.toInt64)), .second, .unset, .unset]) rfl k₀) ?_
  refine own_step (T34.setTop (mkF m 45 #[.val (.int f), .val (.int l2), .val (.int mm), .val (.int mode), .val (.int t21), .val (.ref b22), .val (.int (own_in f t21 l2)), .val (.long (f.toInt64)), .second, .val (.long (l2.toInt64)), .second, .val (.long (t21.toInt64)), .second, .unset, .unset] [(.long (t21.toInt64))])) (fun t₀ k₀ => XS.lload X34.here hx rfl (hb hby at_43) rfl k₀) ?_
  refine own_step (T34.setTop (mkF m 47 #[.val (.int f), .val (.int l2), .val (.int mm), .val (.int mode), .val (.int t21), .val (.ref b22), .val (.int (own_in f t21 l2)), .val (.long (f.toInt64)), .second, .val (.long (l2.toInt64)), .second, .val (.long (t21.toInt64)), .second, .unset, .unset] [(.long (f.toInt64)), (.long (t21.toInt64))])) (fun t₀ k₀ => XS.lload X34.here hx rfl (hb hby at_45) rfl k₀) ?_
  refine own_step (T34.setTop (mkF m 48 #[.val (.int f), .val (.int l2), .val (.int mm), .val (.int mode), .val (.int t21), .val (.ref b22), .val (.int (own_in f t21 l2)), .val (.long (f.toInt64)), .second, .val (.long (l2.toInt64)), .second, .val (.long (t21.toInt64)), .second, .unset, .unset] [(.long ((t21.toInt64) - (f.toInt64)))])) (fun t₀ k₀ => XS.lsub X34.here hx rfl (hb hby at_47) rfl k₀) ?_
  refine own_step (T34.setTop (mkF m 49 #[.val (.int f), .val (.int l2), .val (.int mm), .val (.int mode), .val (.int t21), .val (.ref b22), .val (.int (own_in f t21 l2)), .val (.long (f.toInt64)), .second, .val (.long (l2.toInt64)), .second, .val (.long (t21.toInt64)), .second, .unset, .unset] [(.long (0 : Int64)), (.long ((t21.toInt64) - (f.toInt64)))])) (fun t₀ k₀ => XS.lconst X34.here hx rfl (hb hby at_48) k₀) ?_
  refine own_step (T34.setTop (mkF m 50 #[.val (.int f), .val (.int l2), .val (.int mm), .val (.int mode), .val (.int t21), .val (.ref b22), .val (.int (own_in f t21 l2)), .val (.long (f.toInt64)), .second, .val (.long (l2.toInt64)), .second, .val (.long (t21.toInt64)), .second, .unset, .unset] [(.int (lcmpW ((t21.toInt64) - (f.toInt64)) (0 : Int64)))])) (fun t₀ k₀ => XS.lcmp X34.here hx rfl (hb hby at_49) rfl k₀) ?_
  by_cases hc50 : ((t21.toInt64) - (f.toInt64)) < (0 : Int64)
  · skip
    refine own_step (T34.setTop (mkF m 67 #[.val (.int f), .val (.int l2), .val (.int mm), .val (.int mode), .val (.int t21), .val (.ref b22), .val (.int (own_in f t21 l2)), .val (.long (f.toInt64)), .second, .val (.long (l2.toInt64)), .second, .val (.long (t21.toInt64)), .second, .unset, .unset] [])) (fun t₀ k₀ => XS.ifYes X34.here hx rfl (pc0 := 50) (pc' := 67) rfl (hb hby at_50) rfl (own_lltT hc50) (by decide) (by decide) k₀) ?_
    refine own_step (T34.setTop (mkF m 68 #[.val (.int f), .val (.int l2), .val (.int mm), .val (.int mode), .val (.int t21), .val (.ref b22), .val (.int (own_in f t21 l2)), .val (.long (f.toInt64)), .second, .val (.long (l2.toInt64)), .second, .val (.long (t21.toInt64)), .second, .unset, .unset] [(.int (0 : Int32))])) (fun t₀ k₀ => XS.iconst X34.here hx rfl (hb hby at_67) k₀) ?_
    refine own_step (T34.setTop (mkF m 70 #[.val (.int f), .val (.int l2), .val (.int mm), .val (.int mode), .val (.int t21), .val (.ref b22), .val (.int (own_in f t21 l2)), .val (.long (f.toInt64)), .second, .val (.long (l2.toInt64)), .second, .val (.long (t21.toInt64)), .second, .val (.int (0 : Int32)), .unset] [])) (fun t₀ k₀ => XS.istore X34.here hx rfl (hb hby at_68) rfl (l' := #[.val (.int f), .val (.int l2), .val (.int mm), .val (.int mode), .val (.int t21), .val (.ref b22), .val (.int (own_in f t21 l2)), .val (.long (f.toInt64)), .second, .val (.long (l2.toInt64)), .second, .val (.long (t21.toInt64)), .second, .val (.int (0 : Int32)), .unset]) rfl k₀) ?_
    refine own_step (T34.setTop (mkF m 72 #[.val (.int f), .val (.int l2), .val (.int mm), .val (.int mode), .val (.int t21), .val (.ref b22), .val (.int (own_in f t21 l2)), .val (.long (f.toInt64)), .second, .val (.long (l2.toInt64)), .second, .val (.long (t21.toInt64)), .second, .val (.int (0 : Int32)), .unset] [(.int (own_in f t21 l2))])) (fun t₀ k₀ => XS.iload X34.here hx rfl (hb hby at_70) rfl k₀) ?_
    refine own_step (T34.setTop (mkF m 74 #[.val (.int f), .val (.int l2), .val (.int mm), .val (.int mode), .val (.int t21), .val (.ref b22), .val (.int (own_in f t21 l2)), .val (.long (f.toInt64)), .second, .val (.long (l2.toInt64)), .second, .val (.long (t21.toInt64)), .second, .val (.int (0 : Int32)), .unset] [(.int (0 : Int32)), (.int (own_in f t21 l2))])) (fun t₀ k₀ => XS.iload X34.here hx rfl (hb hby at_72) rfl k₀) ?_
    have hk35 : (own_in f t21 l2) = (0 : Int32) := own_w0 hc50
    refine own_step (T34.setTop (mkF m 77 #[.val (.int f), .val (.int l2), .val (.int mm), .val (.int mode), .val (.int t21), .val (.ref b22), .val (.int (own_in f t21 l2)), .val (.long (f.toInt64)), .second, .val (.long (l2.toInt64)), .second, .val (.long (t21.toInt64)), .second, .val (.int (0 : Int32)), .unset] [])) (fun t₀ k₀ => XS.icmpNo X34.here hx rfl (hb hby at_74) rfl (teq hk35).2 k₀) ?_
    refine own_step (T34.setTop (mkF m 78 #[.val (.int f), .val (.int l2), .val (.int mm), .val (.int mode), .val (.int t21), .val (.ref b22), .val (.int (own_in f t21 l2)), .val (.long (f.toInt64)), .second, .val (.long (l2.toInt64)), .second, .val (.long (t21.toInt64)), .second, .val (.int (0 : Int32)), .unset] [(.int (1 : Int32))])) (fun t₀ k₀ => XS.iconst X34.here hx rfl (hb hby at_77) k₀) ?_
    refine own_step (T34.setTop (mkF m 82 #[.val (.int f), .val (.int l2), .val (.int mm), .val (.int mode), .val (.int t21), .val (.ref b22), .val (.int (own_in f t21 l2)), .val (.long (f.toInt64)), .second, .val (.long (l2.toInt64)), .second, .val (.long (t21.toInt64)), .second, .val (.int (0 : Int32)), .unset] [(.int (1 : Int32))])) (fun t₀ k₀ => XS.goto X34.here hx rfl (pc0 := 78) (pc' := 82) rfl (hb hby at_78) (by decide) (by decide) k₀) ?_
    refine own_step (T34.setTop (mkF m 84 #[.val (.int f), .val (.int l2), .val (.int mm), .val (.int mode), .val (.int t21), .val (.ref b22), .val (.int (own_in f t21 l2)), .val (.long (f.toInt64)), .second, .val (.long (l2.toInt64)), .second, .val (.long (t21.toInt64)), .second, .val (.int (0 : Int32)), .val (.int (1 : Int32))] [])) (fun t₀ k₀ => XS.istore X34.here hx rfl (hb hby at_82) rfl (l' := #[.val (.int f), .val (.int l2), .val (.int mm), .val (.int mode), .val (.int t21), .val (.ref b22), .val (.int (own_in f t21 l2)), .val (.long (f.toInt64)), .second, .val (.long (l2.toInt64)), .second, .val (.long (t21.toInt64)), .second, .val (.int (0 : Int32)), .val (.int (1 : Int32))]) rfl k₀) ?_
    refine own_step (T34.setTop (mkF m 86 #[.val (.int f), .val (.int l2), .val (.int mm), .val (.int mode), .val (.int t21), .val (.ref b22), .val (.int (own_in f t21 l2)), .val (.long (f.toInt64)), .second, .val (.long (l2.toInt64)), .second, .val (.long (t21.toInt64)), .second, .val (.int (0 : Int32)), .val (.int (1 : Int32))] [(.int (own_in f t21 l2))])) (fun t₀ k₀ => XS.iload X34.here hx rfl (hb hby at_84) rfl k₀) ?_
    have hk36 : (own_in f t21 l2) = (0 : Int32) := own_w0 hc50
    refine own_step (T34.setTop (mkF m 119 #[.val (.int f), .val (.int l2), .val (.int mm), .val (.int mode), .val (.int t21), .val (.ref b22), .val (.int (own_in f t21 l2)), .val (.long (f.toInt64)), .second, .val (.long (l2.toInt64)), .second, .val (.long (t21.toInt64)), .second, .val (.int (0 : Int32)), .val (.int (1 : Int32))] [])) (fun t₀ k₀ => XS.ifYes X34.here hx rfl (pc0 := 86) (pc' := 119) rfl (hb hby at_86) rfl ((if0 _ _).trans (teq hk36).1) (by decide) (by decide) k₀) ?_
    refine own_step (T34.setTop (mkF m 121 #[.val (.int f), .val (.int l2), .val (.int mm), .val (.int mode), .val (.int t21), .val (.ref b22), .val (.int (own_in f t21 l2)), .val (.long (f.toInt64)), .second, .val (.long (l2.toInt64)), .second, .val (.long (t21.toInt64)), .second, .val (.int (0 : Int32)), .val (.int (1 : Int32))] [(.int (1 : Int32))])) (fun t₀ k₀ => XS.iload X34.here hx rfl (hb hby at_119) rfl k₀) ?_
    obtain ⟨fs, hr, hrun, hended, hW, hsame⟩ := X34.leave (v := some (.int (1 : Int32))) (fun h => by rw [Bd.returns] at h; cases h)
    refine ⟨_, _, ?_, hrun, hended, _, _, rfl, ?_, ⟨_, rfl⟩, hW, hsame.mono (by decide) (by decide)⟩
    · exact retN X34 hx (t := .boolean) Bd.returns (by simp) (hb hby at_121) hr
    · show Q_rm0 Z f l2 mm mode h0 n0 _ T34.heap _
      rw [e34]
      exact ⟨rfl, N34⟩
  · skip
    refine own_step (T34.setTop (mkF m 53 #[.val (.int f), .val (.int l2), .val (.int mm), .val (.int mode), .val (.int t21), .val (.ref b22), .val (.int (own_in f t21 l2)), .val (.long (f.toInt64)), .second, .val (.long (l2.toInt64)), .second, .val (.long (t21.toInt64)), .second, .unset, .unset] [])) (fun t₀ k₀ => XS.ifNo X34.here hx rfl (hb hby at_50) rfl (own_lltF hc50) k₀) ?_
    refine own_step (T34.setTop (mkF m 55 #[.val (.int f), .val (.int l2), .val (.int mm), .val (.int mode), .val (.int t21), .val (.ref b22), .val (.int (own_in f t21 l2)), .val (.long (f.toInt64)), .second, .val (.long (l2.toInt64)), .second, .val (.long (t21.toInt64)), .second, .unset, .unset] [(.long (l2.toInt64))])) (fun t₀ k₀ => XS.lload X34.here hx rfl (hb hby at_53) rfl k₀) ?_
    refine own_step (T34.setTop (mkF m 57 #[.val (.int f), .val (.int l2), .val (.int mm), .val (.int mode), .val (.int t21), .val (.ref b22), .val (.int (own_in f t21 l2)), .val (.long (f.toInt64)), .second, .val (.long (l2.toInt64)), .second, .val (.long (t21.toInt64)), .second, .unset, .unset] [(.long (t21.toInt64)), (.long (l2.toInt64))])) (fun t₀ k₀ => XS.lload X34.here hx rfl (hb hby at_55) rfl k₀) ?_
    refine own_step (T34.setTop (mkF m 58 #[.val (.int f), .val (.int l2), .val (.int mm), .val (.int mode), .val (.int t21), .val (.ref b22), .val (.int (own_in f t21 l2)), .val (.long (f.toInt64)), .second, .val (.long (l2.toInt64)), .second, .val (.long (t21.toInt64)), .second, .unset, .unset] [(.long ((l2.toInt64) - (t21.toInt64)))])) (fun t₀ k₀ => XS.lsub X34.here hx rfl (hb hby at_57) rfl k₀) ?_
    refine own_step (T34.setTop (mkF m 59 #[.val (.int f), .val (.int l2), .val (.int mm), .val (.int mode), .val (.int t21), .val (.ref b22), .val (.int (own_in f t21 l2)), .val (.long (f.toInt64)), .second, .val (.long (l2.toInt64)), .second, .val (.long (t21.toInt64)), .second, .unset, .unset] [(.long (0 : Int64)), (.long ((l2.toInt64) - (t21.toInt64)))])) (fun t₀ k₀ => XS.lconst X34.here hx rfl (hb hby at_58) k₀) ?_
    refine own_step (T34.setTop (mkF m 60 #[.val (.int f), .val (.int l2), .val (.int mm), .val (.int mode), .val (.int t21), .val (.ref b22), .val (.int (own_in f t21 l2)), .val (.long (f.toInt64)), .second, .val (.long (l2.toInt64)), .second, .val (.long (t21.toInt64)), .second, .unset, .unset] [(.int (lcmpW ((l2.toInt64) - (t21.toInt64)) (0 : Int64)))])) (fun t₀ k₀ => XS.lcmp X34.here hx rfl (hb hby at_59) rfl k₀) ?_
    by_cases hc60 : ((l2.toInt64) - (t21.toInt64)) < (0 : Int64)
    · skip
      refine own_step (T34.setTop (mkF m 67 #[.val (.int f), .val (.int l2), .val (.int mm), .val (.int mode), .val (.int t21), .val (.ref b22), .val (.int (own_in f t21 l2)), .val (.long (f.toInt64)), .second, .val (.long (l2.toInt64)), .second, .val (.long (t21.toInt64)), .second, .unset, .unset] [])) (fun t₀ k₀ => XS.ifYes X34.here hx rfl (pc0 := 60) (pc' := 67) rfl (hb hby at_60) rfl (own_lltT hc60) (by decide) (by decide) k₀) ?_
      refine own_step (T34.setTop (mkF m 68 #[.val (.int f), .val (.int l2), .val (.int mm), .val (.int mode), .val (.int t21), .val (.ref b22), .val (.int (own_in f t21 l2)), .val (.long (f.toInt64)), .second, .val (.long (l2.toInt64)), .second, .val (.long (t21.toInt64)), .second, .unset, .unset] [(.int (0 : Int32))])) (fun t₀ k₀ => XS.iconst X34.here hx rfl (hb hby at_67) k₀) ?_
      refine own_step (T34.setTop (mkF m 70 #[.val (.int f), .val (.int l2), .val (.int mm), .val (.int mode), .val (.int t21), .val (.ref b22), .val (.int (own_in f t21 l2)), .val (.long (f.toInt64)), .second, .val (.long (l2.toInt64)), .second, .val (.long (t21.toInt64)), .second, .val (.int (0 : Int32)), .unset] [])) (fun t₀ k₀ => XS.istore X34.here hx rfl (hb hby at_68) rfl (l' := #[.val (.int f), .val (.int l2), .val (.int mm), .val (.int mode), .val (.int t21), .val (.ref b22), .val (.int (own_in f t21 l2)), .val (.long (f.toInt64)), .second, .val (.long (l2.toInt64)), .second, .val (.long (t21.toInt64)), .second, .val (.int (0 : Int32)), .unset]) rfl k₀) ?_
      refine own_step (T34.setTop (mkF m 72 #[.val (.int f), .val (.int l2), .val (.int mm), .val (.int mode), .val (.int t21), .val (.ref b22), .val (.int (own_in f t21 l2)), .val (.long (f.toInt64)), .second, .val (.long (l2.toInt64)), .second, .val (.long (t21.toInt64)), .second, .val (.int (0 : Int32)), .unset] [(.int (own_in f t21 l2))])) (fun t₀ k₀ => XS.iload X34.here hx rfl (hb hby at_70) rfl k₀) ?_
      refine own_step (T34.setTop (mkF m 74 #[.val (.int f), .val (.int l2), .val (.int mm), .val (.int mode), .val (.int t21), .val (.ref b22), .val (.int (own_in f t21 l2)), .val (.long (f.toInt64)), .second, .val (.long (l2.toInt64)), .second, .val (.long (t21.toInt64)), .second, .val (.int (0 : Int32)), .unset] [(.int (0 : Int32)), (.int (own_in f t21 l2))])) (fun t₀ k₀ => XS.iload X34.here hx rfl (hb hby at_72) rfl k₀) ?_
      have hk37 : (own_in f t21 l2) = (0 : Int32) := own_w1 hc60
      refine own_step (T34.setTop (mkF m 77 #[.val (.int f), .val (.int l2), .val (.int mm), .val (.int mode), .val (.int t21), .val (.ref b22), .val (.int (own_in f t21 l2)), .val (.long (f.toInt64)), .second, .val (.long (l2.toInt64)), .second, .val (.long (t21.toInt64)), .second, .val (.int (0 : Int32)), .unset] [])) (fun t₀ k₀ => XS.icmpNo X34.here hx rfl (hb hby at_74) rfl (teq hk37).2 k₀) ?_
      refine own_step (T34.setTop (mkF m 78 #[.val (.int f), .val (.int l2), .val (.int mm), .val (.int mode), .val (.int t21), .val (.ref b22), .val (.int (own_in f t21 l2)), .val (.long (f.toInt64)), .second, .val (.long (l2.toInt64)), .second, .val (.long (t21.toInt64)), .second, .val (.int (0 : Int32)), .unset] [(.int (1 : Int32))])) (fun t₀ k₀ => XS.iconst X34.here hx rfl (hb hby at_77) k₀) ?_
      refine own_step (T34.setTop (mkF m 82 #[.val (.int f), .val (.int l2), .val (.int mm), .val (.int mode), .val (.int t21), .val (.ref b22), .val (.int (own_in f t21 l2)), .val (.long (f.toInt64)), .second, .val (.long (l2.toInt64)), .second, .val (.long (t21.toInt64)), .second, .val (.int (0 : Int32)), .unset] [(.int (1 : Int32))])) (fun t₀ k₀ => XS.goto X34.here hx rfl (pc0 := 78) (pc' := 82) rfl (hb hby at_78) (by decide) (by decide) k₀) ?_
      refine own_step (T34.setTop (mkF m 84 #[.val (.int f), .val (.int l2), .val (.int mm), .val (.int mode), .val (.int t21), .val (.ref b22), .val (.int (own_in f t21 l2)), .val (.long (f.toInt64)), .second, .val (.long (l2.toInt64)), .second, .val (.long (t21.toInt64)), .second, .val (.int (0 : Int32)), .val (.int (1 : Int32))] [])) (fun t₀ k₀ => XS.istore X34.here hx rfl (hb hby at_82) rfl (l' := #[.val (.int f), .val (.int l2), .val (.int mm), .val (.int mode), .val (.int t21), .val (.ref b22), .val (.int (own_in f t21 l2)), .val (.long (f.toInt64)), .second, .val (.long (l2.toInt64)), .second, .val (.long (t21.toInt64)), .second, .val (.int (0 : Int32)), .val (.int (1 : Int32))]) rfl k₀) ?_
      refine own_step (T34.setTop (mkF m 86 #[.val (.int f), .val (.int l2), .val (.int mm), .val (.int mode), .val (.int t21), .val (.ref b22), .val (.int (own_in f t21 l2)), .val (.long (f.toInt64)), .second, .val (.long (l2.toInt64)), .second, .val (.long (t21.toInt64)), .second, .val (.int (0 : Int32)), .val (.int (1 : Int32))] [(.int (own_in f t21 l2))])) (fun t₀ k₀ => XS.iload X34.here hx rfl (hb hby at_84) rfl k₀) ?_
      have hk38 : (own_in f t21 l2) = (0 : Int32) := own_w1 hc60
      refine own_step (T34.setTop (mkF m 119 #[.val (.int f), .val (.int l2), .val (.int mm), .val (.int mode), .val (.int t21), .val (.ref b22), .val (.int (own_in f t21 l2)), .val (.long (f.toInt64)), .second, .val (.long (l2.toInt64)), .second, .val (.long (t21.toInt64)), .second, .val (.int (0 : Int32)), .val (.int (1 : Int32))] [])) (fun t₀ k₀ => XS.ifYes X34.here hx rfl (pc0 := 86) (pc' := 119) rfl (hb hby at_86) rfl ((if0 _ _).trans (teq hk38).1) (by decide) (by decide) k₀) ?_
      refine own_step (T34.setTop (mkF m 121 #[.val (.int f), .val (.int l2), .val (.int mm), .val (.int mode), .val (.int t21), .val (.ref b22), .val (.int (own_in f t21 l2)), .val (.long (f.toInt64)), .second, .val (.long (l2.toInt64)), .second, .val (.long (t21.toInt64)), .second, .val (.int (0 : Int32)), .val (.int (1 : Int32))] [(.int (1 : Int32))])) (fun t₀ k₀ => XS.iload X34.here hx rfl (hb hby at_119) rfl k₀) ?_
      obtain ⟨fs, hr, hrun, hended, hW, hsame⟩ := X34.leave (v := some (.int (1 : Int32))) (fun h => by rw [Bd.returns] at h; cases h)
      refine ⟨_, _, ?_, hrun, hended, _, _, rfl, ?_, ⟨_, rfl⟩, hW, hsame.mono (by decide) (by decide)⟩
      · exact retN X34 hx (t := .boolean) Bd.returns (by simp) (hb hby at_121) hr
      · show Q_rm0 Z f l2 mm mode h0 n0 _ T34.heap _
        rw [e34]
        exact ⟨rfl, N34⟩
    · skip
      refine own_step (T34.setTop (mkF m 63 #[.val (.int f), .val (.int l2), .val (.int mm), .val (.int mode), .val (.int t21), .val (.ref b22), .val (.int (own_in f t21 l2)), .val (.long (f.toInt64)), .second, .val (.long (l2.toInt64)), .second, .val (.long (t21.toInt64)), .second, .unset, .unset] [])) (fun t₀ k₀ => XS.ifNo X34.here hx rfl (hb hby at_60) rfl (own_lltF hc60) k₀) ?_
      refine own_step (T34.setTop (mkF m 64 #[.val (.int f), .val (.int l2), .val (.int mm), .val (.int mode), .val (.int t21), .val (.ref b22), .val (.int (own_in f t21 l2)), .val (.long (f.toInt64)), .second, .val (.long (l2.toInt64)), .second, .val (.long (t21.toInt64)), .second, .unset, .unset] [(.int (1 : Int32))])) (fun t₀ k₀ => XS.iconst X34.here hx rfl (hb hby at_63) k₀) ?_
      refine own_step (T34.setTop (mkF m 68 #[.val (.int f), .val (.int l2), .val (.int mm), .val (.int mode), .val (.int t21), .val (.ref b22), .val (.int (own_in f t21 l2)), .val (.long (f.toInt64)), .second, .val (.long (l2.toInt64)), .second, .val (.long (t21.toInt64)), .second, .unset, .unset] [(.int (1 : Int32))])) (fun t₀ k₀ => XS.goto X34.here hx rfl (pc0 := 64) (pc' := 68) rfl (hb hby at_64) (by decide) (by decide) k₀) ?_
      refine own_step (T34.setTop (mkF m 70 #[.val (.int f), .val (.int l2), .val (.int mm), .val (.int mode), .val (.int t21), .val (.ref b22), .val (.int (own_in f t21 l2)), .val (.long (f.toInt64)), .second, .val (.long (l2.toInt64)), .second, .val (.long (t21.toInt64)), .second, .val (.int (1 : Int32)), .unset] [])) (fun t₀ k₀ => XS.istore X34.here hx rfl (hb hby at_68) rfl (l' := #[.val (.int f), .val (.int l2), .val (.int mm), .val (.int mode), .val (.int t21), .val (.ref b22), .val (.int (own_in f t21 l2)), .val (.long (f.toInt64)), .second, .val (.long (l2.toInt64)), .second, .val (.long (t21.toInt64)), .second, .val (.int (1 : Int32)), .unset]) rfl k₀) ?_
      refine own_step (T34.setTop (mkF m 72 #[.val (.int f), .val (.int l2), .val (.int mm), .val (.int mode), .val (.int t21), .val (.ref b22), .val (.int (own_in f t21 l2)), .val (.long (f.toInt64)), .second, .val (.long (l2.toInt64)), .second, .val (.long (t21.toInt64)), .second, .val (.int (1 : Int32)), .unset] [(.int (own_in f t21 l2))])) (fun t₀ k₀ => XS.iload X34.here hx rfl (hb hby at_70) rfl k₀) ?_
      refine own_step (T34.setTop (mkF m 74 #[.val (.int f), .val (.int l2), .val (.int mm), .val (.int mode), .val (.int t21), .val (.ref b22), .val (.int (own_in f t21 l2)), .val (.long (f.toInt64)), .second, .val (.long (l2.toInt64)), .second, .val (.long (t21.toInt64)), .second, .val (.int (1 : Int32)), .unset] [(.int (1 : Int32)), (.int (own_in f t21 l2))])) (fun t₀ k₀ => XS.iload X34.here hx rfl (hb hby at_72) rfl k₀) ?_
      have hk39 : (own_in f t21 l2) = (1 : Int32) := own_w2 hc50 hc60
      refine own_step (T34.setTop (mkF m 77 #[.val (.int f), .val (.int l2), .val (.int mm), .val (.int mode), .val (.int t21), .val (.ref b22), .val (.int (own_in f t21 l2)), .val (.long (f.toInt64)), .second, .val (.long (l2.toInt64)), .second, .val (.long (t21.toInt64)), .second, .val (.int (1 : Int32)), .unset] [])) (fun t₀ k₀ => XS.icmpNo X34.here hx rfl (hb hby at_74) rfl (teq hk39).2 k₀) ?_
      refine own_step (T34.setTop (mkF m 78 #[.val (.int f), .val (.int l2), .val (.int mm), .val (.int mode), .val (.int t21), .val (.ref b22), .val (.int (own_in f t21 l2)), .val (.long (f.toInt64)), .second, .val (.long (l2.toInt64)), .second, .val (.long (t21.toInt64)), .second, .val (.int (1 : Int32)), .unset] [(.int (1 : Int32))])) (fun t₀ k₀ => XS.iconst X34.here hx rfl (hb hby at_77) k₀) ?_
      refine own_step (T34.setTop (mkF m 82 #[.val (.int f), .val (.int l2), .val (.int mm), .val (.int mode), .val (.int t21), .val (.ref b22), .val (.int (own_in f t21 l2)), .val (.long (f.toInt64)), .second, .val (.long (l2.toInt64)), .second, .val (.long (t21.toInt64)), .second, .val (.int (1 : Int32)), .unset] [(.int (1 : Int32))])) (fun t₀ k₀ => XS.goto X34.here hx rfl (pc0 := 78) (pc' := 82) rfl (hb hby at_78) (by decide) (by decide) k₀) ?_
      refine own_step (T34.setTop (mkF m 84 #[.val (.int f), .val (.int l2), .val (.int mm), .val (.int mode), .val (.int t21), .val (.ref b22), .val (.int (own_in f t21 l2)), .val (.long (f.toInt64)), .second, .val (.long (l2.toInt64)), .second, .val (.long (t21.toInt64)), .second, .val (.int (1 : Int32)), .val (.int (1 : Int32))] [])) (fun t₀ k₀ => XS.istore X34.here hx rfl (hb hby at_82) rfl (l' := #[.val (.int f), .val (.int l2), .val (.int mm), .val (.int mode), .val (.int t21), .val (.ref b22), .val (.int (own_in f t21 l2)), .val (.long (f.toInt64)), .second, .val (.long (l2.toInt64)), .second, .val (.long (t21.toInt64)), .second, .val (.int (1 : Int32)), .val (.int (1 : Int32))]) rfl k₀) ?_
      refine own_step (T34.setTop (mkF m 86 #[.val (.int f), .val (.int l2), .val (.int mm), .val (.int mode), .val (.int t21), .val (.ref b22), .val (.int (own_in f t21 l2)), .val (.long (f.toInt64)), .second, .val (.long (l2.toInt64)), .second, .val (.long (t21.toInt64)), .second, .val (.int (1 : Int32)), .val (.int (1 : Int32))] [(.int (own_in f t21 l2))])) (fun t₀ k₀ => XS.iload X34.here hx rfl (hb hby at_84) rfl k₀) ?_
      have hk40 : ¬ ((own_in f t21 l2) = (0 : Int32)) := own_n0 (own_w2 hc50 hc60)
      refine own_step (T34.setTop (mkF m 89 #[.val (.int f), .val (.int l2), .val (.int mm), .val (.int mode), .val (.int t21), .val (.ref b22), .val (.int (own_in f t21 l2)), .val (.long (f.toInt64)), .second, .val (.long (l2.toInt64)), .second, .val (.long (t21.toInt64)), .second, .val (.int (1 : Int32)), .val (.int (1 : Int32))] [])) (fun t₀ k₀ => XS.ifNo X34.here hx rfl (hb hby at_86) rfl ((if0 _ _).trans (feq hk40).1) k₀) ?_
      refine own_step (T34.setTop (mkF m 91 #[.val (.int f), .val (.int l2), .val (.int mm), .val (.int mode), .val (.int t21), .val (.ref b22), .val (.int (own_in f t21 l2)), .val (.long (f.toInt64)), .second, .val (.long (l2.toInt64)), .second, .val (.long (t21.toInt64)), .second, .val (.int (1 : Int32)), .val (.int (1 : Int32))] [(.int (1 : Int32))])) (fun t₀ k₀ => XS.iload X34.here hx rfl (hb hby at_89) rfl k₀) ?_
      refine own_step (T34.setTop (mkF m 94 #[.val (.int f), .val (.int l2), .val (.int mm), .val (.int mode), .val (.int t21), .val (.ref b22), .val (.int (own_in f t21 l2)), .val (.long (f.toInt64)), .second, .val (.long (l2.toInt64)), .second, .val (.long (t21.toInt64)), .second, .val (.int (1 : Int32)), .val (.int (1 : Int32))] [])) (fun t₀ k₀ => XS.ifNo X34.here hx rfl (hb hby at_91) rfl (by decide) k₀) ?_
      refine own_step (T34.setTop (mkF m 96 #[.val (.int f), .val (.int l2), .val (.int mm), .val (.int mode), .val (.int t21), .val (.ref b22), .val (.int (own_in f t21 l2)), .val (.long (f.toInt64)), .second, .val (.long (l2.toInt64)), .second, .val (.long (t21.toInt64)), .second, .val (.int (1 : Int32)), .val (.int (1 : Int32))] [(.ref b22)])) (fun t₀ k₀ => XS.aload X34.here hx rfl (hb hby at_94) rfl rfl k₀) ?_
      refine own_step (T34.setTop (mkF m 97 #[.val (.int f), .val (.int l2), .val (.int mm), .val (.int mode), .val (.int t21), .val (.ref b22), .val (.int (own_in f t21 l2)), .val (.long (f.toInt64)), .second, .val (.long (l2.toInt64)), .second, .val (.long (t21.toInt64)), .second, .val (.int (1 : Int32)), .val (.int (1 : Int32))] [(.int f), (.ref b22)])) (fun t₀ k₀ => XS.iloadN X34.here hx rfl (hb hby at_96) rfl k₀) ?_
      obtain ⟨cq41, kq41, q41a, q41b, q41c⟩ := isOf hZ e34 f27
      obtain ⟨_, _, ⟨T41, L41, k41, n41⟩, -, X41, ⟨Lc41, hQ41, l41, y41, z41⟩, st41⟩ := X34.virtualBack hx (y := (⟨"com/example/labrelay/labrelay/rules/EnvelopeFinding", "standsFor", "(I)Z"⟩ : MethodName)) (z := (⟨"com/example/labrelay/labrelay/rules/EnvelopeFinding", "standsFor", "(I)Z"⟩ : MethodName)) hown (mvT hZ (hw _ (List.mem_of_getElem? (i := 24) rfl))) (mvT hZ (hw _ (List.mem_of_getElem? (i := 25) rfl))) (notFace_of_selects (args := #[]) (mvT hZ (hw _ (List.mem_of_getElem? (i := 27) rfl)))) (mvT hZ (hw _ (List.mem_of_getElem? (i := 27) rfl))) (mvT hZ (hw _ (List.mem_of_getElem? (i := 26) rfl))) (by decide) (backOf (W := 0) (rm5 l Z a0 hw [] b22 f f l2 T26.heap n0 z26' f28 f29) hZ (hw _ (List.mem_of_getElem? (i := 28) rfl)) (hw _ (List.mem_of_getElem? (i := 6) rfl)) (by decide) (by decide)) q41a q41c (g := (mkF m 97 #[.val (.int f), .val (.int l2), .val (.int mm), .val (.int mode), .val (.int t21), .val (.ref b22), .val (.int (own_in f t21 l2)), .val (.long (f.toInt64)), .second, .val (.long (l2.toInt64)), .second, .val (.long (t21.toInt64)), .second, .val (.int (1 : Int32)), .val (.int (1 : Int32))] [(.int f), (.ref b22)])) rfl (by rw [hml]; rfl) (Steps.refl _) (argsL := [(.int f)]) (rest := []) (lenOf pd_3 rfl) rfl (by show 2 * 0 + _ ≤ _; exact Nat.le_of_eq rfl) (hb hby at_97) (fun _ _ => ⟨rfl, e34, (by decide : 1 + 0 ≤ _), (by decide : 3 + 0 ≤ _)⟩)
      dsimp only [Pt.U, Pt.locs, Pt.cells, Pt.slots] at X41 l41 y41 z41 st41 hQ41
      subst l41 y41 z41
      obtain ⟨rfl, N41q, e41⟩ := hQ41
      have N41 := Fr.app N34 N41q
      refine own_comes (T41.setTop (mkF m 100 #[.val (.int f), .val (.int l2), .val (.int mm), .val (.int mode), .val (.int t21), .val (.ref b22), .val (.int (own_in f t21 l2)), .val (.long (f.toInt64)), .second, .val (.long (l2.toInt64)), .second, .val (.long (t21.toInt64)), .second, .val (.int (1 : Int32)), .val (.int (1 : Int32))] [(.int (own_in f f l2))])) st41 ?_
      have hk42 : ¬ ((own_in f f l2) = (0 : Int32)) := own_ff hc50 hc60
      refine own_step (T41.setTop (mkF m 103 #[.val (.int f), .val (.int l2), .val (.int mm), .val (.int mode), .val (.int t21), .val (.ref b22), .val (.int (own_in f t21 l2)), .val (.long (f.toInt64)), .second, .val (.long (l2.toInt64)), .second, .val (.long (t21.toInt64)), .second, .val (.int (1 : Int32)), .val (.int (1 : Int32))] [])) (fun t₀ k₀ => XS.ifNo X41.here hx rfl (hb hby at_100) rfl ((if0 _ _).trans (feq hk42).1) k₀) ?_
      refine own_step (T41.setTop (mkF m 105 #[.val (.int f), .val (.int l2), .val (.int mm), .val (.int mode), .val (.int t21), .val (.ref b22), .val (.int (own_in f t21 l2)), .val (.long (f.toInt64)), .second, .val (.long (l2.toInt64)), .second, .val (.long (t21.toInt64)), .second, .val (.int (1 : Int32)), .val (.int (1 : Int32))] [(.ref b22)])) (fun t₀ k₀ => XS.aload X41.here hx rfl (hb hby at_103) rfl rfl k₀) ?_
      refine own_step (T41.setTop (mkF m 106 #[.val (.int f), .val (.int l2), .val (.int mm), .val (.int mode), .val (.int t21), .val (.ref b22), .val (.int (own_in f t21 l2)), .val (.long (f.toInt64)), .second, .val (.long (l2.toInt64)), .second, .val (.long (t21.toInt64)), .second, .val (.int (1 : Int32)), .val (.int (1 : Int32))] [(.int l2), (.ref b22)])) (fun t₀ k₀ => XS.iloadN X41.here hx rfl (hb hby at_105) rfl k₀) ?_
      obtain ⟨cq43, kq43, q43a, q43b, q43c⟩ := isOf hZ e41 f27
      obtain ⟨_, _, ⟨T43, L43, k43, n43⟩, -, X43, ⟨Lc43, hQ43, l43, y43, z43⟩, st43⟩ := X41.virtualBack hx (y := (⟨"com/example/labrelay/labrelay/rules/EnvelopeFinding", "standsFor", "(I)Z"⟩ : MethodName)) (z := (⟨"com/example/labrelay/labrelay/rules/EnvelopeFinding", "standsFor", "(I)Z"⟩ : MethodName)) hown (mvT hZ (hw _ (List.mem_of_getElem? (i := 24) rfl))) (mvT hZ (hw _ (List.mem_of_getElem? (i := 25) rfl))) (notFace_of_selects (args := #[]) (mvT hZ (hw _ (List.mem_of_getElem? (i := 27) rfl)))) (mvT hZ (hw _ (List.mem_of_getElem? (i := 27) rfl))) (mvT hZ (hw _ (List.mem_of_getElem? (i := 26) rfl))) (by decide) (backOf (W := 0) (rm5 l Z a0 hw [] b22 l2 f l2 T26.heap n0 z26' f28 f29) hZ (hw _ (List.mem_of_getElem? (i := 28) rfl)) (hw _ (List.mem_of_getElem? (i := 6) rfl)) (by decide) (by decide)) q43a q43c (g := (mkF m 106 #[.val (.int f), .val (.int l2), .val (.int mm), .val (.int mode), .val (.int t21), .val (.ref b22), .val (.int (own_in f t21 l2)), .val (.long (f.toInt64)), .second, .val (.long (l2.toInt64)), .second, .val (.long (t21.toInt64)), .second, .val (.int (1 : Int32)), .val (.int (1 : Int32))] [(.int l2), (.ref b22)])) rfl (by rw [hml]; rfl) (Steps.refl _) (argsL := [(.int l2)]) (rest := []) (lenOf pd_3 rfl) rfl (by show 2 * 0 + _ ≤ _; exact Nat.le_of_eq rfl) (hb hby at_106) (fun _ _ => ⟨rfl, e41, (by decide : 1 + 0 ≤ _), (by decide : 3 + 0 ≤ _)⟩)
      dsimp only [Pt.U, Pt.locs, Pt.cells, Pt.slots] at X43 l43 y43 z43 st43 hQ43
      subst l43 y43 z43
      obtain ⟨rfl, N43q, e43⟩ := hQ43
      have N43 := Fr.app N41 N43q
      refine own_comes (T43.setTop (mkF m 109 #[.val (.int f), .val (.int l2), .val (.int mm), .val (.int mode), .val (.int t21), .val (.ref b22), .val (.int (own_in f t21 l2)), .val (.long (f.toInt64)), .second, .val (.long (l2.toInt64)), .second, .val (.long (t21.toInt64)), .second, .val (.int (1 : Int32)), .val (.int (1 : Int32))] [(.int (own_in f l2 l2))])) st43 ?_
      have hk44 : ¬ ((own_in f l2 l2) = (0 : Int32)) := own_ll hc50 hc60
      refine own_step (T43.setTop (mkF m 112 #[.val (.int f), .val (.int l2), .val (.int mm), .val (.int mode), .val (.int t21), .val (.ref b22), .val (.int (own_in f t21 l2)), .val (.long (f.toInt64)), .second, .val (.long (l2.toInt64)), .second, .val (.long (t21.toInt64)), .second, .val (.int (1 : Int32)), .val (.int (1 : Int32))] [])) (fun t₀ k₀ => XS.ifNo X43.here hx rfl (hb hby at_109) rfl ((if0 _ _).trans (feq hk44).1) k₀) ?_
      refine own_step (T43.setTop (mkF m 113 #[.val (.int f), .val (.int l2), .val (.int mm), .val (.int mode), .val (.int t21), .val (.ref b22), .val (.int (own_in f t21 l2)), .val (.long (f.toInt64)), .second, .val (.long (l2.toInt64)), .second, .val (.long (t21.toInt64)), .second, .val (.int (1 : Int32)), .val (.int (1 : Int32))] [(.int (1 : Int32))])) (fun t₀ k₀ => XS.iconst X43.here hx rfl (hb hby at_112) k₀) ?_
      refine own_step (T43.setTop (mkF m 117 #[.val (.int f), .val (.int l2), .val (.int mm), .val (.int mode), .val (.int t21), .val (.ref b22), .val (.int (own_in f t21 l2)), .val (.long (f.toInt64)), .second, .val (.long (l2.toInt64)), .second, .val (.long (t21.toInt64)), .second, .val (.int (1 : Int32)), .val (.int (1 : Int32))] [(.int (1 : Int32))])) (fun t₀ k₀ => XS.goto X43.here hx rfl (pc0 := 113) (pc' := 117) rfl (hb hby at_113) (by decide) (by decide) k₀) ?_
      refine own_step (T43.setTop (mkF m 119 #[.val (.int f), .val (.int l2), .val (.int mm), .val (.int mode), .val (.int t21), .val (.ref b22), .val (.int (own_in f t21 l2)), .val (.long (f.toInt64)), .second, .val (.long (l2.toInt64)), .second, .val (.long (t21.toInt64)), .second, .val (.int (1 : Int32)), .val (.int (1 : Int32))] [])) (fun t₀ k₀ => XS.istore X43.here hx rfl (hb hby at_117) rfl (l' := #[.val (.int f), .val (.int l2), .val (.int mm), .val (.int mode), .val (.int t21), .val (.ref b22), .val (.int (own_in f t21 l2)), .val (.long (f.toInt64)), .second, .val (.long (l2.toInt64)), .second, .val (.long (t21.toInt64)), .second, .val (.int (1 : Int32)), .val (.int (1 : Int32))]) rfl k₀) ?_
      refine own_step (T43.setTop (mkF m 121 #[.val (.int f), .val (.int l2), .val (.int mm), .val (.int mode), .val (.int t21), .val (.ref b22), .val (.int (own_in f t21 l2)), .val (.long (f.toInt64)), .second, .val (.long (l2.toInt64)), .second, .val (.long (t21.toInt64)), .second, .val (.int (1 : Int32)), .val (.int (1 : Int32))] [(.int (1 : Int32))])) (fun t₀ k₀ => XS.iload X43.here hx rfl (hb hby at_119) rfl k₀) ?_
      obtain ⟨fs, hr, hrun, hended, hW, hsame⟩ := X43.leave (v := some (.int (1 : Int32))) (fun h => by rw [Bd.returns] at h; cases h)
      refine ⟨_, _, ?_, hrun, hended, _, _, rfl, ?_, ⟨_, rfl⟩, hW, hsame.mono (by decide) (by decide)⟩
      · exact retN X43 hx (t := .boolean) Bd.returns (by simp) (hb hby at_121) hr
      · show Q_rm0 Z f l2 mm mode h0 n0 _ T43.heap _
        rw [e43]
        exact ⟨rfl, N43⟩
set_option maxRecDepth 65536 in
set_option maxHeartbeats 40000000 in
theorem comes_1 {Post : Tables → Env → Array Value → State → Outcome → State → Prop} (hpost : ∀ tb e args s v u, (limb_1_1.after args s (.returned v) u = true ∧ limb_1_2.after args s (.returned v) u = true ∧ True) → FrameEnd s (.returned v) u (Jvm.fieldLocs frame_1_writes args s ++ Jvm.arrayLocs frame_1_arrays args s ++ Jvm.staticLocs frame_1_statics s) 16 128 → Post tb e args s (.returned v) u) :
    ArmFor flags0 classFile x code maxLocals ret World_1 tables_1 room_1 Calls_1 rest_1 Pre_1 Post := by
  intro l hfl _ _ p e ha hc hk s m args below hf hA hF happ hP
  obtain ⟨hcalls, hrest, hpre⟩ := hP
  obtain ⟨-, -, -, hnamed, -, -, -, hat⟩ := (Spec.applies_iff hf).mp happ
  obtain ⟨hg, hn⟩ := and_e (Cond.before_iff.mp (show (Jvm.Cond.and given_1 narrow_1).before args s = true from hpre))
  obtain ⟨hcount, hg0⟩ := and_e hg
  obtain ⟨ga0, hg1⟩ := and_e hg0
  obtain ⟨ga1, hg2⟩ := and_e hg1
  obtain ⟨ga2, hg3⟩ := and_e hg2
  have ga3 := hg3
  obtain ⟨w0, w1, w2, w3, rfl⟩ : ∃ w0 w1 w2 w3 : Value, args = #[w0, w1, w2, w3] := by
    have hs : args.size = 4 := by simpa [Cond.value, given_1] using hcount
    obtain ⟨L⟩ := args
    match L, hs with
    | [w0, w1, w2, w3], _ => exact ⟨w0, w1, w2, w3, rfl⟩
  have hw := fun d (hd : d ∈ tables_1) => atoms_spec (ws := Jvm.Cond.code x code maxLocals ret :: tables_1) hat d (List.mem_cons_of_mem _ hd)
  have hfit : Fit s := fun {y c} hc i hi => by
    obtain ⟨ha, rfl⟩ := Array.getElem?_eq_some_iff.mp hc
    have q := List.all_eq_true.mp ((Array.all_eq_true_iff_forall_mem.mp hF) _ (Array.getElem_mem ha)) i (List.mem_range.mpr hi)
    simpa [Array.getElem?_eq_getElem hi] using q
  obtain ⟨i0, ei0⟩ := is_v ga0
  obtain rfl : w0 = (.int i0) := Option.some.inj ei0
  obtain ⟨i1, ei1⟩ := is_v ga1
  obtain rfl : w1 = (.int i1) := Option.some.inj ei1
  obtain ⟨i2, ei2⟩ := is_v ga2
  obtain rfl : w2 = (.int i2) := Option.some.inj ei2
  obtain ⟨i3, ei3⟩ := is_v ga3
  obtain rfl : w3 = (.int i3) := Option.some.inj ei3
  obtain ⟨n, o, h1, h2, h3, _, L, rfl, ⟨rfl, N⟩, hq⟩ := rm0 l s _ hw tables_1 i0 i1 i2 i3 s.heap s.heap.size (Nat.le_refl _) p e ha hc hk s m _ below hf ((Spec.applies_iff_loose hf).mp happ).1 ⟨rfl, State.Warmed39.refl s, rfl⟩ trivial
  refine ⟨n, _, h1, h2, h3, hpost _ _ _ _ _ _ ⟨Cond.after_iff.mpr rfl, Cond.after_iff.mpr (eq_i res_at (Term.int_eval (1)) rfl), trivial⟩ ⟨hq.1, hq.2.1, (hq.2.2.sift fun y hy => Or.inr (N y hy)).mono (by decide) (by decide)⟩⟩
theorem main_1_1 : Claimed_1_1 := comes_1 fun _ _ _ _ _ _ h hF => ⟨h.1, hF⟩
theorem main_1_2 : Claimed_1_2 := comes_1 fun _ _ _ _ _ _ h hF => ⟨h.2.1, hF⟩
end Jvm.Pilot.@@N@@
namespace Jvm.Pilot.@@N@@
open Jvm Jvm.ClassFile Sem Op Lib Jvm.Free Jvm.Stand Jvm.Pilot.@@N@@.Jvm.D
/-! MADE BY PROGRAM (witnessworld.py) out of the Statement's table words and the real class files: 10 classes; the members and pool entries that the words name. The judged class is class 1, her method 2. -/
namespace start1
open Jvm.ClassFile
def u (s : String) : CpInfo := .utf8 (stringToUtf16 s)
/-- a pool by its gaps: so many unusable entries, then the entry; so many at the end -/
def gap : Nat → List CpInfo → List CpInfo
  | 0, r => r
  | n + 1, r => .unusable :: gap n r
def poolList (es : List (Nat × CpInfo)) (last : Nat) : List CpInfo := es.foldr (fun e r => gap e.1 (e.2 :: r)) (gap last [])
def pool (es : List (Nat × CpInfo)) (last : Nat) : Array CpInfo := ⟨poolList es last⟩
def fileOf (pool : Array CpInfo) (this : Nat) (attrs : Array Attribute := #[]) (ms : Array MethodInfo := #[]) (fl : Nat := 33) (sup : Nat := 0) (ifs : Array Nat := #[]) (fds : Array FieldInfo := #[]) : ClassFile where
  minorVersion := 0
  majorVersion := 65
  constantPool := pool
  accessFlags := fl
  thisClass := this
  superClass := sup
  interfaces := ifs
  fields := fds
  methods := ms
  attributes := attrs
def plain (name : String) (sup : Option ClassId) : Class where
  name := name
  kind := .ordinary
  loader := none
  accessFlags := 33
  super := sup
  interfaces := #[]
  cf := none
  fields := #[]
  methods := #[]
  instanceTypes := #[]
  staticTypes := #[]
  resolved := #[]
  callSites := []
  init := .initialized
  statics := none
  mirror := none

def pool0 : Array CpInfo := pool [(5, u "<init>"), (0, u "()V"), (1, .class_ 10), (1, u "java/lang/Object")] 113

def k0c0 : Code := { maxStack := 0, maxLocals := 1, code := object_method_1_code, exceptionTable := #[], attributes := #[] }
def k0m0 : Method := { name := "<init>", desc := "()V", sig := { parameters := [], returnType := none }, accessFlags := 1, code := some k0c0 }
/-- java/lang/Object -/
def k0 : Class := { plain "java/lang/Object" none with
  accessFlags := 33
  interfaces := #[]
  cf := some (fileOf pool0 8 #[] #[{ accessFlags := 1, nameIndex := 5, descriptorIndex := 6, attributes := #[] }] 33 0 #[] #[])
  fields := #[]
  methods := #[k0m0]
  instanceTypes := #[]
  staticTypes := #[]
  resolved := Array.replicate 124 none
  statics := none }

def pool1 : Array CpInfo := pool [(2, .class_ 4), (1, u "java/lang/Object"), (0, u "<init>"), (0, u "()V"), (2, .integer 2147483648), (0, .integer 2147483647), (0, .methodref 12 13), (0, .class_ 14), (0, .nameAndType 15 16), (0, u "com/example/labrelay/labrelay/rules/EnvelopeFindingStandsForPinLaw"), (0, u "pick"), (0, u "(IIII)I"), (0, .class_ 18), (0, u "com/example/labrelay/labrelay/rules/EnvelopeFinding"), (0, .methodref 17 20), (0, .nameAndType 5 21), (0, u "(Lcom/example/labrelay/labrelay/model/Finding;II)V"), (0, .methodref 17 23), (0, .nameAndType 24 25), (0, u "standsFor"), (0, u "(I)Z"), (3, u "law"), (0, u "(IIII)Z")] 2

def k1m0 : Method := { name := "<init>", desc := "()V", sig := { parameters := [], returnType := none }, accessFlags := 1, code := none }
def k1c1 : Code := { maxStack := 2, maxLocals := 6, code := method_2_code, exceptionTable := #[], attributes := #[] }
def k1m1 : Method := { name := "pick", desc := "(IIII)I", sig := { parameters := [.int, .int, .int, .int], returnType := some .int }, accessFlags := 10, code := some k1c1 }
def k1c2 : Code := { maxStack := 5, maxLocals := 15, code := code, exceptionTable := #[], attributes := #[] }
def k1m2 : Method := { name := "law", desc := "(IIII)Z", sig := { parameters := [.int, .int, .int, .int], returnType := some .boolean }, accessFlags := 9, code := some k1c2 }
/-- com/example/labrelay/labrelay/rules/EnvelopeFindingStandsForPinLaw -/
def k1 : Class := { plain "com/example/labrelay/labrelay/rules/EnvelopeFindingStandsForPinLaw" (some 0) with
  accessFlags := 49
  interfaces := #[]
  cf := some (fileOf pool1 12 #[] #[{ accessFlags := 1, nameIndex := 5, descriptorIndex := 6, attributes := #[] }, { accessFlags := 10, nameIndex := 15, descriptorIndex := 16, attributes := #[] }, { accessFlags := 9, nameIndex := 29, descriptorIndex := 30, attributes := #[] }] 49 2 #[] #[])
  fields := #[]
  methods := #[k1m0, k1m1, k1m2]
  instanceTypes := #[]
  staticTypes := #[]
  resolved := Array.replicate 33 none
  statics := none }

def pool2 : Array CpInfo := pool [(1, .methodref 2 3), (0, .class_ 4), (0, .nameAndType 5 6), (0, u "java/lang/Object"), (0, u "<init>"), (0, u "()V"), (0, .class_ 8), (0, u "java/lang/Record")] 13

def k2c0 : Code := { maxStack := 1, maxLocals := 1, code := jdk_30_method_1_code, exceptionTable := #[], attributes := #[] }
def k2m0 : Method := { name := "<init>", desc := "()V", sig := { parameters := [], returnType := none }, accessFlags := 4, code := some k2c0 }
/-- java/lang/Record -/
def k2 : Class := { plain "java/lang/Record" (some 0) with
  accessFlags := 1057
  interfaces := #[]
  cf := some (fileOf pool2 7 #[] #[{ accessFlags := 4, nameIndex := 5, descriptorIndex := 6, attributes := #[] }] 1057 2 #[] #[])
  fields := #[]
  methods := #[k2m0]
  instanceTypes := #[]
  staticTypes := #[]
  resolved := Array.replicate 22 none
  statics := none }

def pool3 : Array CpInfo := pool [(1, .methodref 2 3), (0, .class_ 4), (0, .nameAndType 5 6), (0, u "java/lang/Record"), (0, u "<init>"), (0, u "()V"), (0, .fieldref 8 9), (0, .class_ 10), (0, .nameAndType 11 12), (0, u "com/example/labrelay/labrelay/rules/EnvelopeFinding"), (0, u "finding"), (0, u "Lcom/example/labrelay/labrelay/model/Finding;"), (0, .fieldref 8 14), (0, .nameAndType 15 16), (0, u "first"), (0, u "I"), (0, .fieldref 8 18), (0, .nameAndType 19 16), (0, u "last"), (12, u "(Lcom/example/labrelay/labrelay/model/Finding;II)V"), (3, u "standsFor"), (0, u "(I)Z")] 27

def k3c0 : Code := { maxStack := 2, maxLocals := 4, code := prog_86_method_1_code, exceptionTable := #[], attributes := #[] }
def k3m0 : Method := { name := "<init>", desc := "(Lcom/example/labrelay/labrelay/model/Finding;II)V", sig := { parameters := [(.object "com/example/labrelay/labrelay/model/Finding"), .int, .int], returnType := none }, accessFlags := 1, code := some k3c0 }
def k3c1 : Code := { maxStack := 2, maxLocals := 2, code := prog_86_method_2_code, exceptionTable := #[], attributes := #[] }
def k3m1 : Method := { name := "standsFor", desc := "(I)Z", sig := { parameters := [.int], returnType := some .boolean }, accessFlags := 1, code := some k3c1 }
/-- com/example/labrelay/labrelay/rules/EnvelopeFinding -/
def k3 : Class := { plain "com/example/labrelay/labrelay/rules/EnvelopeFinding" (some 2) with
  accessFlags := 49
  interfaces := #[]
  cf := some (fileOf pool3 8 #[] #[{ accessFlags := 1, nameIndex := 5, descriptorIndex := 32, attributes := #[] }, { accessFlags := 1, nameIndex := 36, descriptorIndex := 37, attributes := #[] }] 49 2 #[] #[{ accessFlags := 18, nameIndex := 11, descriptorIndex := 12, attributes := #[] }, { accessFlags := 18, nameIndex := 15, descriptorIndex := 16, attributes := #[] }, { accessFlags := 18, nameIndex := 19, descriptorIndex := 16, attributes := #[] }])
  fields := #[{ name := "finding", type := (.object "com/example/labrelay/labrelay/model/Finding"), accessFlags := 18, slot := 0, constantValue := 0 }, { name := "first", type := .int, accessFlags := 18, slot := 1, constantValue := 0 }, { name := "last", type := .int, accessFlags := 18, slot := 2, constantValue := 0 }]
  methods := #[k3m0, k3m1]
  instanceTypes := #[(.object "com/example/labrelay/labrelay/model/Finding"), .int, .int]
  staticTypes := #[]
  resolved := Array.replicate 65 none
  statics := none }

def pool4 : Array CpInfo := pool [(1, u "java/lang/Cloneable"), (0, .class_ 1), (0, u "java/lang/Object"), (0, .class_ 3)] 3

/-- java/lang/Cloneable -/
def k4 : Class := { plain "java/lang/Cloneable" (some 0) with
  accessFlags := 1537
  interfaces := #[]
  cf := some (fileOf pool4 2 #[] #[] 1537 4 #[] #[])
  fields := #[]
  methods := #[]
  instanceTypes := #[]
  staticTypes := #[]
  resolved := Array.replicate 8 none
  statics := none }

def pool5 : Array CpInfo := pool [(1, u "java/io/Serializable"), (0, .class_ 1), (0, u "java/lang/Object"), (0, .class_ 3)] 3

/-- java/io/Serializable -/
def k5 : Class := { plain "java/io/Serializable" (some 0) with
  accessFlags := 1537
  interfaces := #[]
  cf := some (fileOf pool5 2 #[] #[] 1537 4 #[] #[])
  fields := #[]
  methods := #[]
  instanceTypes := #[]
  staticTypes := #[]
  resolved := Array.replicate 8 none
  statics := none }

/-- the primitive byte -/
def k6 : Class := { plain "byte" none with kind := .primitive 'B', accessFlags := 0x411 }
/-- [B -/
def k7 : Class := { plain "[B" (some 0) with kind := .array 6 .byte, interfaces := #[4, 5], accessFlags := 1041 }

/-- the primitive int -/
def k8 : Class := { plain "int" none with kind := .primitive 'I', accessFlags := 0x411 }
/-- [I -/
def k9 : Class := { plain "[I" (some 0) with kind := .array 8 .int, interfaces := #[4, 5], accessFlags := 1041 }

def heap : Heap := #[]
def classes : Array Class := #[k0, k1, k2, k3, k4, k5, k6, k7, k8, k9]
def interned : List (Array UInt16 × Addr) := []
def slotsUsed : Nat := 0
def theMethod : MethodId := ⟨1, 2⟩
def args0 : Array Value := #[.int 5, .int 7, .int 6, .int 0]
def aboutOver (below : List Frame) : State where
  vm := { classes := classes, interned := interned.toArray }
  heap := heap
  slotsUsed := slotsUsed
  threads := #[{ frames := .invoking theMethod args0 :: below }]
def below0 : List Frame := [.native { method := ⟨0, 0⟩, args := #[] }]
def about1 : State := aboutOver below0
def p0 : Program := .bare "" "" ""
def e0 : Env := launch0.env 0 0 0
theorem w_frames : about1.frames = Frame.invoking theMethod args0 :: below0 := rfl
set_option maxRecDepth 65536 in
theorem w_args : argsFit about1.vm theMethod args0 = true := by decide +kernel
set_option maxRecDepth 65536 in
theorem w_heap : heapFits about1 = true := by decide +kernel
set_option maxRecDepth 65536 in
theorem w_runnable : about1.curStatus? = some .runnable := by decide +kernel
set_option maxRecDepth 65536 in
theorem w_alone : about1.alone = true := by decide +kernel
set_option maxRecDepth 65536 in
theorem w_named : about1.methodNamed? x = some theMethod := by decide +kernel
set_option maxRecDepth 65536 in
theorem w_hears : about1.hears theMethod below0 = true := by decide +kernel
set_option maxRecDepth 65536 in
theorem w_ripe : about1.ripe theMethod args0 below0 = true := by decide +kernel
theorem w_running : about1.status = .running := rfl
set_option maxRecDepth 65536 in
theorem w_room : about1.hasRoom e0.platform room_1 = true :=
  launch0.hasRoom_least _ room_1 (by decide +kernel) (by decide +kernel) (by decide +kernel) (by decide +kernel) (by decide +kernel) (by decide +kernel)
theorem allAtoms_all (ts : List Jvm.Cond) (a : Array Jvm.Value) (st : Jvm.State) : (allAtoms ts).before a st = ts.all (fun c => c.before a st) := by
  induction ts with
  | nil => rfl
  | cons c t ih =>
    show (Jvm.Cond.and c (allAtoms t)).before a st = _
    rw [Jvm.Cond.before_and, ih, List.all_cons]
def words1 : List Jvm.Cond := Jvm.Cond.code x code maxLocals ret :: tables_1
/-- a 'code' word, met by the world's own term for the bytes: nothing is compared byte by byte -/
theorem code_word {y : MethodName} {bytes : ByteArray} {mx : Nat} {rt : Option FieldType} {a : Array Value} {s : State} {m : MethodId} {meth : Method} {c : Code} (h1 : s.methodNamed? y = some m) (h2 : s.vm.method? m = some meth) (h3 : meth.code = some c) (h4 : c.code = bytes)
    (h5 : (c.maxLocals == mx && c.exceptionTable.isEmpty && decide (c.maxStack ≤ mostOperands) && decide (meth.sig.returnType = rt) && !meth.locks && decide (parseMethodDescriptor y.desc = some meth.sig)) = true) : (Jvm.Cond.code y bytes mx rt).before a s = true := by
  simp only [Bool.and_eq_true, beq_iff_eq, Bool.not_eq_true', decide_eq_true_eq] at h5
  obtain ⟨⟨⟨⟨⟨g1, g2⟩, g3⟩, g4⟩, g5⟩, g6⟩ := h5
  simp [Cond.before, Cond.holds, Cond.value, h1, h2, h3, h4, g1, g2, g3, g4, g5, g6]
def isCode : Jvm.Cond → Bool
  | .code _ _ _ _ => true
  | _ => false
theorem all_split {L : List Jvm.Cond} {P : Jvm.Cond → Bool} (h1 : L.all (fun c => isCode c || P c) = true) (h2 : ∀ c ∈ L.filter isCode, P c = true) : L.all P = true := by
  refine List.all_eq_true.mpr fun c hc => ?_
  have h := List.all_eq_true.mp h1 c hc
  rcases Bool.eq_false_or_eq_true (isCode c) with hi | hi
  · exact h2 c (List.mem_filter.mpr ⟨hc, hi⟩)
  · simpa [hi] using h
set_option maxRecDepth 65536 in
theorem w_c0 : (Jvm.Cond.code x code maxLocals ret).before args0 about1 = true := code_word (m := ⟨1, 2⟩) (meth := k1m2) (c := k1c2) (by decide +kernel) rfl rfl rfl (by decide +kernel)
set_option maxRecDepth 65536 in
theorem w_c1 : (Jvm.Cond.code ({ cls := "com/example/labrelay/labrelay/rules/EnvelopeFindingStandsForPinLaw", name := "pick", desc := "(IIII)I" } : Jvm.MethodName) method_2_code (6 : Nat) (Option.some Jvm.ClassFile.FieldType.int)).before args0 about1 = true := code_word (m := ⟨1, 1⟩) (meth := k1m1) (c := k1c1) (by decide +kernel) rfl rfl rfl (by decide +kernel)
set_option maxRecDepth 65536 in
theorem w_c2 : (Jvm.Cond.code ({ cls := "com/example/labrelay/labrelay/rules/EnvelopeFinding", name := "<init>", desc := "(Lcom/example/labrelay/labrelay/model/Finding;II)V" } : Jvm.MethodName) prog_86_method_1_code (4 : Nat) (Option.none : Option Jvm.ClassFile.FieldType)).before args0 about1 = true := code_word (m := ⟨3, 0⟩) (meth := k3m0) (c := k3c0) (by decide +kernel) rfl rfl rfl (by decide +kernel)
set_option maxRecDepth 65536 in
theorem w_c3 : (Jvm.Cond.code ({ cls := "java/lang/Record", name := "<init>", desc := "()V" } : Jvm.MethodName) jdk_30_method_1_code (1 : Nat) (Option.none : Option Jvm.ClassFile.FieldType)).before args0 about1 = true := code_word (m := ⟨2, 0⟩) (meth := k2m0) (c := k2c0) (by decide +kernel) rfl rfl rfl (by decide +kernel)
set_option maxRecDepth 65536 in
theorem w_c4 : (Jvm.Cond.code ({ cls := "java/lang/Object", name := "<init>", desc := "()V" } : Jvm.MethodName) object_method_1_code (1 : Nat) (Option.none : Option Jvm.ClassFile.FieldType)).before args0 about1 = true := code_word (m := ⟨0, 0⟩) (meth := k0m0) (c := k0c0) (by decide +kernel) rfl rfl rfl (by decide +kernel)
set_option maxRecDepth 65536 in
theorem w_c5 : (Jvm.Cond.code ({ cls := "com/example/labrelay/labrelay/rules/EnvelopeFinding", name := "standsFor", desc := "(I)Z" } : Jvm.MethodName) prog_86_method_2_code (2 : Nat) (Option.some Jvm.ClassFile.FieldType.boolean)).before args0 about1 = true := code_word (m := ⟨3, 1⟩) (meth := k3m1) (c := k3c1) (by decide +kernel) rfl rfl rfl (by decide +kernel)
def codes1 : List Jvm.Cond := [Jvm.Cond.code x code maxLocals ret, Jvm.Cond.code ({ cls := "com/example/labrelay/labrelay/rules/EnvelopeFindingStandsForPinLaw", name := "pick", desc := "(IIII)I" } : Jvm.MethodName) method_2_code (6 : Nat) (Option.some Jvm.ClassFile.FieldType.int), Jvm.Cond.code ({ cls := "com/example/labrelay/labrelay/rules/EnvelopeFinding", name := "<init>", desc := "(Lcom/example/labrelay/labrelay/model/Finding;II)V" } : Jvm.MethodName) prog_86_method_1_code (4 : Nat) (Option.none : Option Jvm.ClassFile.FieldType), Jvm.Cond.code ({ cls := "java/lang/Record", name := "<init>", desc := "()V" } : Jvm.MethodName) jdk_30_method_1_code (1 : Nat) (Option.none : Option Jvm.ClassFile.FieldType), Jvm.Cond.code ({ cls := "java/lang/Object", name := "<init>", desc := "()V" } : Jvm.MethodName) object_method_1_code (1 : Nat) (Option.none : Option Jvm.ClassFile.FieldType), Jvm.Cond.code ({ cls := "com/example/labrelay/labrelay/rules/EnvelopeFinding", name := "standsFor", desc := "(I)Z" } : Jvm.MethodName) prog_86_method_2_code (2 : Nat) (Option.some Jvm.ClassFile.FieldType.boolean)]
set_option maxRecDepth 65536 in
theorem codes_eq : words1.filter isCode = codes1 := rfl
theorem w_codes : ∀ c ∈ words1.filter isCode, c.before args0 about1 = true := by
  rw [codes_eq]
  intro c hc
  simp only [codes1, List.mem_cons, List.not_mem_nil, or_false] at hc
  rcases hc with rfl | rfl | rfl | rfl | rfl | rfl
  · exact w_c0
  · exact w_c1
  · exact w_c2
  · exact w_c3
  · exact w_c4
  · exact w_c5
set_option maxRecDepth 65536 in
theorem w_t1 : (words1.take 24).all (fun c => isCode c || c.before args0 about1) = true := by decide +kernel
set_option maxRecDepth 65536 in
theorem w_t2 : (words1.drop 24).all (fun c => isCode c || c.before args0 about1) = true := by decide +kernel
theorem w_tables : (allAtoms (Jvm.Cond.code x code maxLocals ret :: tables_1)).before args0 about1 = true := by
  rw [allAtoms_all]
  show words1.all (fun c => c.before args0 about1) = true
  refine all_split ?_ w_codes
  rw [← List.take_append_drop 24 words1, List.all_append, w_t1, w_t2]
  rfl
set_option maxRecDepth 65536 in
theorem w_case : (Jvm.Cond.and given_1 narrow_1).before args0 about1 = true := by decide +kernel
theorem w_applies : (headSpec (Jvm.Cond.code x code maxLocals ret :: tables_1) room_1).applies x e0.platform about1 = true :=
  (Spec.applies_iff w_frames).mpr ⟨w_running, w_runnable, w_alone, w_named, w_hears, w_ripe, w_room, w_tables⟩
theorem atStart : AtStart classFile x code maxLocals ret World_1 tables_1 room_1 Calls_1 rest_1 Pre_1 launch0 p0 e0 about1 theMethod args0 below0 :=
  ⟨lists_1, trivial, launch0.admits_env _ _ _, launch0.least_env, fairChoices_fair.cas, fairChoices_fair.clock, w_frames, w_args, w_heap, w_applies, trivial, trivial, w_case⟩
end start1
theorem witness_1 : WitnessClaimed_1 := ⟨start1.p0, start1.e0, start1.about1, start1.theMethod, start1.args0, start1.below0, start1.atStart⟩
end Jvm.Pilot.@@N@@
