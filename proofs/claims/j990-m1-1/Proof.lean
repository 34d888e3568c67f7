import JvmDerived
import JvmDerived.Pilot.@@N@@Statement
import JvmDerived.Pilot.@@N@@Code
set_option linter.unusedVariables false
set_option linter.unusedSimpArgs false
namespace Jvm.RoadKit
open Sem ClassFile Op Lib Jvm.Stand Jvm.Free Jvm.LawKit
section New
variable {p : Program} {l : Launch} {e : Env} {R : Room} {s : State} {m : MethodId} {args : Array Value} {below : List Frame} {meth : Method} {c : Code} {T : State} {locs : List Loc} {cells slots : Nat}
theorem retI (X : Stand p l e R s m args below meth c T locs cells slots) (hx : p.tables.exec = Jvm.exec) {pc : Nat} {Ls : Array Slot} {z : Int32} {rest : List Value} (hret : meth.sig.returnType = some .int) (hd : decode c.code pc = .ok (.ireturn, 1)) {fs : List Frame}
    (hl : ∀ (f : JFrame) (acts : List Action), f.method = m → f.locked = none → f.entered = [] → (doReturn e (T.setTop f) acts (some (.int z))).1 = T.setFrames fs) : Steps p.tables e below (T.setTop (mkF m pc Ls (.int z :: rest))) (T.setFrames fs) := by
  have hm' : T.vm.method? m = some meth := X.method'
  have hn : narrow .int (.int z) = .int z := rfl
  show Steps p.tables e below (T.setTop { method := m, pc := pc, locals := Ls, stack := _ :: rest, locked := none }) _
  jvm_step X.here [X.here.top, hx, hd, hm', hret, hn]
  first | (intro acts; rw [hl _ acts rfl rfl rfl]) | rw [hl _ _ rfl rfl rfl]
  exact Steps.refl _
end New
end Jvm.RoadKit
namespace Jvm.Pilot.@@N@@
open Jvm Jvm.ClassFile Sem Op Lib Jvm.Free Jvm.Stand Jvm.LawKit Jvm.RoadKit Bundle Jvm.Pilot.@@N@@.Jvm.D
/-- from A the run comes to an end of which P is said -/
def own_Go (p : Program) (e : Env) (below : List Frame) (P : State → Outcome → Prop) (A : State) : Prop := ∃ s₂ o, Steps p.tables e below A s₂ ∧ P s₂ o
theorem own_step {p : Program} {e : Env} {below : List Frame} {P : State → Outcome → Prop} {A : State} (B : State) (h : ∀ t, Steps p.tables e below B t → Steps p.tables e below A t) (g : own_Go p e below P B) : own_Go p e below P A := by
  obtain ⟨s₂, o, h1, h2⟩ := g; exact ⟨s₂, o, h s₂ h1, h2⟩
theorem own_comes {p : Program} {e : Env} {below : List Frame} {P : State → Outcome → Prop} {A : State} (B : State) (h : Steps p.tables e below A B) (g : own_Go p e below P B) : own_Go p e below P A := by
  obtain ⟨s₂, o, h1, h2⟩ := g; exact ⟨s₂, o, h.trans h1, h2⟩
theorem own_sta_keep {Z : State} {h h' : Heap} {C n d : String} {w : Value} {ws : List Addr} (F : Sta Z h C n d w) (K : Keep h h' ws) (hw : ∀ x ∈ ws, ∀ cell : Cell, h[x]? = some cell → cell.vm.isStatics = false) : Sta Z h' C n d w := by
  obtain ⟨cf, i, k, f, st, cell, h1, h2, h3, h4, h5, h6, r⟩ := F
  exact ⟨cf, i, k, f, st, cell, h1, h2, h3, h4, K.2.1 _ _ h5 (fun q => by rw [hw _ q _ h5] at h6; cases h6), h6, r⟩
theorem own_sel {s : State} {args : Array Value} {y : MethodName} {n : Nat} (w : (Cond.instantiable y.cls n).before args s = true) (hp : (Cond.privateMethod y).before args s = true) (hi : (Cond.instanceMethod y).before args s = true) (hy : y.cls ≠ "java/lang/invoke/MethodHandle" ∧ y.cls ≠ "java/lang/invoke/VarHandle") : (Cond.selects y.cls y y).before args s = true := by
  obtain ⟨c, k, h1, h2, -, h4, -, -⟩ := Cond.instantiable_spec w
  simp only [Bool.or_eq_false_iff] at h4
  exact Jvm.Stand.selects_self_of_private h1 h2 h4.1 (Cond.privateMethod_at hp) hi hy
theorem own_vne {a b : Int32} (h : a ≠ b) : Value.int a ≠ Value.int b := fun q => h (Value.int.inj q)
theorem own_lgtT {x y : Int64} (h : y < x) : ifCond.holds .gt (lcmpW x y) = true := (if0 _ _).trans (tlt ((lw_gt x y).mpr h)).2.2.1
theorem own_lgtF {x y : Int64} (h : ¬ y < x) : ifCond.holds .gt (lcmpW x y) = false := (if0 _ _).trans (flt (fun q => h ((lw_gt x y).mp q))).2.2.1
theorem own_lleT {x y : Int64} (h : ¬ y < x) : ifCond.holds .le (lcmpW x y) = true := (if0 _ _).trans (flt (fun q => h ((lw_gt x y).mp q))).2.2.2
theorem own_lleF {x y : Int64} (h : y < x) : ifCond.holds .le (lcmpW x y) = false := (if0 _ _).trans (tlt ((lw_gt x y).mpr h)).2.2.2
theorem own_lltT {x y : Int64} (h : x < y) : ifCond.holds .lt (lcmpW x y) = true := (if0 _ _).trans (tlt ((lw_lt x y).mpr h)).1
theorem own_lltF {x y : Int64} (h : ¬ x < y) : ifCond.holds .lt (lcmpW x y) = false := (if0 _ _).trans (flt (fun q => h ((lw_lt x y).mp q))).1
theorem own_lgeT {x y : Int64} (h : ¬ x < y) : ifCond.holds .ge (lcmpW x y) = true := (if0 _ _).trans (flt (fun q => h ((lw_lt x y).mp q))).2.1
theorem own_lgeF {x y : Int64} (h : x < y) : ifCond.holds .ge (lcmpW x y) = false := (if0 _ _).trans (tlt ((lw_lt x y).mpr h)).2.1
theorem own_leqT {x y : Int64} (h : x = y) : ifCond.holds .eq (lcmpW x y) = true := (if0 _ _).trans (teq ((lw_eq x y).mpr h)).1
theorem own_leqF {x y : Int64} (h : ¬ x = y) : ifCond.holds .eq (lcmpW x y) = false := (if0 _ _).trans (feq (fun q => h ((lw_eq x y).mp q))).1
theorem own_lneT {x y : Int64} (h : ¬ x = y) : ifCond.holds .ne (lcmpW x y) = true := (if0 _ _).trans (feq (fun q => h ((lw_eq x y).mp q))).2
theorem own_lneF {x y : Int64} (h : x = y) : ifCond.holds .ne (lcmpW x y) = false := (if0 _ _).trans (teq ((lw_eq x y).mpr h)).2
def own_first (d : Int32) (s t c : Int64) : Int64 := if d = 0 then s + t else s - t - c + 1
theorem own_d (s t c : Int64) : own_first (nar .boolean 1) s t c = s - t - c + 1 := rfl
theorem own_u (s t c : Int64) : own_first (nar .boolean 0) s t c = s + t := rfl
theorem own_one : (1 : Int64).toInt = 1 := rfl
theorem own_zero : (0 : Int64).toInt = 0 := rfl
theorem own_base1 (s : Int64) : own_first (nar .boolean 1) s 0 1 = s := by
  rw [own_d, ← Int64.toInt_inj]
  have c1 := c_lsub s 0; have c2 := c_lsub (s - 0) 1; have c3 := c_ladd (s - 0 - 1) 1
  have r0 := rng64 s; have r3 := rng64 (s - 0 - 1 + 1)
  rw [own_zero] at c1; rw [own_one] at c2 c3
  omega
theorem own_base0 (s : Int64) : own_first (nar .boolean 0) s 0 1 = s := by
  rw [own_u, ← Int64.toInt_inj]
  have c1 := c_ladd s 0
  have r0 := rng64 s; have r3 := rng64 (s + 0)
  rw [own_zero] at c1
  omega
theorem own_d1 (s t c : Int64) : own_first (nar .boolean 1) s t c + (c - 1) = s - t := by
  rw [own_d, ← Int64.toInt_inj]
  have c1 := c_lsub s t; have c2 := c_lsub (s - t) c; have c3 := c_ladd (s - t - c) 1; have c4 := c_lsub c 1; have c5 := c_ladd (s - t - c + 1) (c - 1)
  have r0 := rng64 (s - t); have r3 := rng64 (s - t - c + 1 + (c - 1))
  rw [own_one] at c3 c4
  omega
theorem own_d2 (s t c : Int64) : own_first (nar .boolean 1) s (t + 1) c = own_first (nar .boolean 1) s t c - 1 := by
  rw [own_d, own_d, ← Int64.toInt_inj]
  have c0 := c_ladd t 1
  have c1 := c_lsub s (t + 1); have c2 := c_lsub (s - (t + 1)) c; have c3 := c_ladd (s - (t + 1) - c) 1
  have d1 := c_lsub s t; have d2 := c_lsub (s - t) c; have d3 := c_ladd (s - t - c) 1; have d4 := c_lsub (s - t - c + 1) 1
  have r0 := rng64 (s - (t + 1) - c + 1); have r3 := rng64 (s - t - c + 1 - 1)
  rw [own_one] at c0 c3 d3 d4
  omega
theorem own_d3 (s t c : Int64) : own_first (nar .boolean 1) s t (c + 1) = own_first (nar .boolean 1) s t c - 1 := by
  rw [own_d, own_d, ← Int64.toInt_inj]
  have c0 := c_ladd c 1
  have c2 := c_lsub (s - t) (c + 1); have c3 := c_ladd (s - t - (c + 1)) 1
  have d2 := c_lsub (s - t) c; have d3 := c_ladd (s - t - c) 1; have d4 := c_lsub (s - t - c + 1) 1
  have r0 := rng64 (s - t - (c + 1) + 1); have r3 := rng64 (s - t - c + 1 - 1)
  rw [own_one] at c0 c3 d3 d4
  omega
theorem own_u1 (s t c : Int64) : own_first (nar .boolean 0) s t c = s + t := rfl
theorem own_u2 (s t c : Int64) : own_first (nar .boolean 0) s (t + 1) c = own_first (nar .boolean 0) s t c + 1 := by
  rw [own_u, own_u, ← Int64.toInt_inj]
  have c0 := c_ladd t 1; have c1 := c_ladd s (t + 1); have d1 := c_ladd s t; have d2 := c_ladd (s + t) 1
  have r0 := rng64 (s + (t + 1)); have r3 := rng64 (s + t + 1)
  rw [own_one] at c0 d2
  omega
theorem own_u3 (s t c : Int64) : own_first (nar .boolean 0) s t (c + 1) = own_first (nar .boolean 0) s t c := rfl
theorem pd_0 : parseMethodDescriptor "()V" = some ⟨[], none⟩ := by decide +kernel
theorem pd_1 : parseMethodDescriptor "(JJZLjava/util/List;)V" = some ⟨[.long, .long, .boolean, (.object "java/util/List")], none⟩ := by decide +kernel
theorem pd_2 : parseMethodDescriptor "(JJ)J" = some ⟨[.long, .long], some .long⟩ := by decide +kernel
theorem d3_0 : decode jdk_22_method_1_code 0 = .ok (.aload_n 0, 1) := by decide +kernel
theorem d3_1 : decode jdk_22_method_1_code 1 = .ok (.invokespecial 1, 3) := by decide +kernel
theorem d3_4 : decode jdk_22_method_1_code 4 = .ok (.return_, 1) := by decide +kernel
theorem pn_3 : plainName "java/util/AbstractCollection" = true := by first | (simp [plainName, overriddenIn]; done) | decide +kernel
theorem ef_rm3 (m : MethodId) (a : Addr) : entryFrame m #[(.ref a)] 1 = mkF m 0 #[.val (.ref a)] [] := by first | (simp [entryFrame, mkF, argsToLocals, Value.category]; done) | rfl
def Q_rm3 (Z : State) (a : Addr) (h0 : Heap) (n0 : Nat) (v : Option Value) (h : Heap) (L : List Loc) : Prop := v = none ∧ Fr n0 L ∧ h = h0
set_option maxRecDepth 65536 in
set_option maxHeartbeats 40000000 in
theorem rm3 (l : Launch) (Z : State) (a0 : Array Value) (hw : ∀ d ∈ tables_1, d.before a0 Z = true) (ws : List Jvm.Cond) (a : Addr) (h0 : Heap) (n0 : Nat) (Z0 : n0 ≤ h0.size) :
    MetFree l (⟨"java/util/AbstractCollection", "<init>", "()V"⟩ : MethodName) (head1 (Jvm.Cond.code (⟨"java/util/AbstractCollection", "<init>", "()V"⟩ : MethodName) jdk_22_method_1_code 1 none :: ws) ({ frames := 1, cells := 0, slots := 0, locals := 12 } : Room)) (fun as₉ U => as₉ = #[(.ref a)] ∧ Z.Warmed39 U.vm ∧ U.heap = h0) (fun _ _ _ _ _ => True) (fun _ U o U' => ∃ v L, o = .returned v ∧ Q_rm3 Z a h0 n0 v U'.heap L ∧ FrameEnd U o U' L ({ frames := 1, cells := 0, slots := 0, locals := 12 } : Room).cells ({ frames := 1, cells := 0, slots := 0, locals := 12 } : Room).slots) := by
  refine MetFree.of_bodySF (plainFor_of_name pn_3) hisR ?_
  intro p e s m args below meth c s₁ Bd hml0 hP hK
  obtain ⟨rfl, hZ, hh⟩ := hP
  have hx := Bd.exec
  have hby := Bd.bytes
  have hml : c.maxLocals = 1 := hml0
  have hown : s.vm.findClass "java/util/AbstractCollection" = some m.cls := findClass_of_methodNamed Bd.named
  have hnm := (name_of_methodNamed Bd.named Bd.method).1
  have X0 : Stand p l e ({ frames := 1, cells := 0, slots := 0, locals := 12 } : Room) s m #[(.ref a)] below meth c s₁ [] 0 0 := Stand.of_body Bd
  have e0 : s₁.heap = h0 := by rw [← hh, Bd.state]; rfl
  have N0 := Fr.nil n0
  show own_Go p e below (fun s₂ o => s₂.status = .running ∧ Ended s₂ below o ∧ ∃ v L, o = .returned v ∧ Q_rm3 Z a h0 n0 v s₂.heap L ∧ FrameEnd s o s₂ L ({ frames := 1, cells := 0, slots := 0, locals := 12 } : Room).cells ({ frames := 1, cells := 0, slots := 0, locals := 12 } : Room).slots) (s₁.setTop (entryFrame m #[(.ref a)] 1))
  rw [ef_rm3 m a]
  refine own_step (s₁.setTop (mkF m 1 #[.val (.ref a)] [(.ref a)])) (fun t₀ k₀ => XS.aloadN X0.here hx rfl (hb hby d3_0) rfl rfl k₀) ?_
  obtain ⟨T1, X1, e1, st1⟩ := initO X0 hx hZ hown (hw _ (List.mem_of_getElem? (i := 18) rfl)) (hw _ (List.mem_of_getElem? (i := 19) rfl)) (hw _ (List.mem_of_getElem? (i := 20) rfl)) e0 (g := (mkF m 1 #[.val (.ref a)] [(.ref a)])) rfl (by rw [hml]; rfl) rfl (hb hby d3_1) (by decide) (W := 0) (by show 2 * 0 + _ ≤ _; exact Nat.le_of_eq rfl) (by decide)
  refine own_step (T1.setTop (mkF m 4 #[.val (.ref a)] [])) (fun t₀ k₀ => st1 t₀ k₀) ?_
  obtain ⟨fs, hr, hrun, hended, hW, hsame⟩ := X1.leave (v := none) (fun _ => rfl)
  refine ⟨_, _, ?_, hrun, hended, _, _, rfl, ?_, ⟨_, rfl⟩, hW, hsame.mono (by decide) (by decide)⟩
  · exact X1.returnOut hx Bd.returns (hb hby d3_4) hr
  · show Q_rm3 Z a h0 n0 _ T1.heap _
    rw [e1]
    exact ⟨rfl, N0, rfl⟩
theorem d2_0 : decode jdk_39_method_1_code 0 = .ok (.aload_n 0, 1) := by decide +kernel
theorem d2_1 : decode jdk_39_method_1_code 1 = .ok (.invokespecial 1, 3) := by decide +kernel
theorem d2_4 : decode jdk_39_method_1_code 4 = .ok (.aload_n 0, 1) := by decide +kernel
theorem d2_5 : decode jdk_39_method_1_code 5 = .ok (.iconst 0, 1) := by decide +kernel
theorem d2_6 : decode jdk_39_method_1_code 6 = .ok (.putfield 7, 3) := by decide +kernel
theorem d2_9 : decode jdk_39_method_1_code 9 = .ok (.return_, 1) := by decide +kernel
theorem pn_2 : plainName "java/util/AbstractList" = true := by first | (simp [plainName, overriddenIn]; done) | decide +kernel
theorem ef_rm2 (m : MethodId) (a : Addr) : entryFrame m #[(.ref a)] 1 = mkF m 0 #[.val (.ref a)] [] := by first | (simp [entryFrame, mkF, argsToLocals, Value.category]; done) | rfl
def Q_rm2 (Z : State) (a : Addr) (u1 : Int32) (h0 : Heap) (n0 : Nat) (v : Option Value) (h : Heap) (L : List Loc) : Prop := v = none ∧ Fr n0 L ∧ Keep h0 h [a] ∧ Exa Z h a "java/util/ArrayList" ∧ Fld Z h a "java/util/ArrayList" "elementData" "[Ljava/lang/Object;" .null
set_option maxRecDepth 65536 in
set_option maxHeartbeats 40000000 in
theorem rm2 (l : Launch) (Z : State) (a0 : Array Value) (hw : ∀ d ∈ tables_1, d.before a0 Z = true) (ws : List Jvm.Cond) (a : Addr) (u1 : Int32) (h0 : Heap) (n0 : Nat) (Z0 : n0 ≤ h0.size) (Ea : Exa Z h0 a "java/util/ArrayList") (Fm : Fld Z h0 a "java/util/AbstractList" "modCount" "I" (.int u1)) (Fe : Fld Z h0 a "java/util/ArrayList" "elementData" "[Ljava/lang/Object;" .null) (ga : n0 ≤ a) :
    MetFree l (⟨"java/util/AbstractList", "<init>", "()V"⟩ : MethodName) (head1 (Jvm.Cond.code (⟨"java/util/AbstractList", "<init>", "()V"⟩ : MethodName) jdk_39_method_1_code 1 none :: ws) ({ frames := 2, cells := 0, slots := 0, locals := 24 } : Room)) (fun as₉ U => as₉ = #[(.ref a)] ∧ Z.Warmed39 U.vm ∧ U.heap = h0) (fun _ _ _ _ _ => True) (fun _ U o U' => ∃ v L, o = .returned v ∧ Q_rm2 Z a u1 h0 n0 v U'.heap L ∧ FrameEnd U o U' L ({ frames := 2, cells := 0, slots := 0, locals := 24 } : Room).cells ({ frames := 2, cells := 0, slots := 0, locals := 24 } : Room).slots) := by
  refine MetFree.of_bodySF (plainFor_of_name pn_2) hisR ?_
  intro p e s m args below meth c s₁ Bd hml0 hP hK
  obtain ⟨rfl, hZ, hh⟩ := hP
  have hx := Bd.exec
  have hby := Bd.bytes
  have hml : c.maxLocals = 1 := hml0
  have hown : s.vm.findClass "java/util/AbstractList" = some m.cls := findClass_of_methodNamed Bd.named
  have hnm := (name_of_methodNamed Bd.named Bd.method).1
  have X0 : Stand p l e ({ frames := 2, cells := 0, slots := 0, locals := 24 } : Room) s m #[(.ref a)] below meth c s₁ [] 0 0 := Stand.of_body Bd
  have e0 : s₁.heap = h0 := by rw [← hh, Bd.state]; rfl
  have N0 := Fr.nil n0
  show own_Go p e below (fun s₂ o => s₂.status = .running ∧ Ended s₂ below o ∧ ∃ v L, o = .returned v ∧ Q_rm2 Z a u1 h0 n0 v s₂.heap L ∧ FrameEnd s o s₂ L ({ frames := 2, cells := 0, slots := 0, locals := 24 } : Room).cells ({ frames := 2, cells := 0, slots := 0, locals := 24 } : Room).slots) (s₁.setTop (entryFrame m #[(.ref a)] 1))
  rw [ef_rm2 m a]
  refine own_step (s₁.setTop (mkF m 1 #[.val (.ref a)] [(.ref a)])) (fun t₀ k₀ => XS.aloadN X0.here hx rfl (hb hby d2_0) rfl rfl k₀) ?_
  obtain ⟨_, _, ⟨T2, L2, k2, n2⟩, -, X2, ⟨Lc2, hQ2, l2, y2, z2⟩, st2⟩ := X0.specialBack hx (y := (⟨"java/util/AbstractCollection", "<init>", "()V"⟩ : MethodName)) rfl hown (mvT hZ (hw _ (List.mem_of_getElem? (i := 12) rfl))) (mvT hZ (hw _ (List.mem_of_getElem? (i := 13) rfl))) (mvT hZ (hw _ (List.mem_of_getElem? (i := 17) rfl))) (by decide) (backOf (W := 0) (rm3 l Z a0 hw [] a h0 n0 Z0) hZ (hw _ (List.mem_of_getElem? (i := 17) rfl)) (hw _ (List.mem_of_getElem? (i := 16) rfl)) (by decide) (by decide)) (g := (mkF m 1 #[.val (.ref a)] [(.ref a)])) rfl (by rw [hml]; rfl) (Steps.refl _) (a := a) (argsL := []) (rest := []) (lenOf pd_0 rfl) rfl (by show 2 * 0 + _ ≤ _; exact Nat.le_of_eq rfl) (hb hby d2_1) (fun _ _ => ⟨rfl, e0, (by decide : 0 + 0 ≤ _), (by decide : 0 + 0 ≤ _)⟩)
  dsimp only [Pt.U, Pt.locs, Pt.cells, Pt.slots] at X2 l2 y2 z2 st2 hQ2
  subst l2 y2 z2
  obtain ⟨rfl, N2q, e2⟩ := hQ2
  have N2 := Fr.app N0 N2q
  refine own_comes (T2.setTop (mkF m 4 #[.val (.ref a)] [])) st2 ?_
  refine own_step (T2.setTop (mkF m 5 #[.val (.ref a)] [(.ref a)])) (fun t₀ k₀ => XS.aloadN X2.here hx rfl (hb hby d2_4) rfl rfl k₀) ?_
  refine own_step (T2.setTop (mkF m 6 #[.val (.ref a)] [(.int (0 : Int32)), (.ref a)])) (fun t₀ k₀ => XS.iconst X2.here hx rfl (hb hby d2_5) k₀) ?_
  obtain ⟨T3, h3, X3, e3, W3, st3⟩ := putF X2 hx hZ hown (host := "") (Or.inl (hw _ (List.mem_of_getElem? (i := 21) rfl))) Via.refl e2 Fm Ea (Or.inl (hw _ (List.mem_of_getElem? (i := 22) rfl))) (hw _ (List.mem_of_getElem? (i := 1) rfl)) (ty := .int) (by decide) rfl rfl (g := (mkF m 6 #[.val (.ref a)] [(.int (0 : Int32)), (.ref a)])) rfl rfl (hb hby d2_6)
  have f4 : Fld Z h3 a "java/util/AbstractList" "modCount" "I" (.int (0 : Int32)) := Fm.same W3
  have f5 : Exa Z h3 a "java/util/ArrayList" := Ea.wr W3
  have f6 : Fld Z h3 a "java/util/ArrayList" "elementData" "[Ljava/lang/Object;" .null := Fe.other W3 (Or.inr (slot_ne (Or.inl (hw _ (List.mem_of_getElem? (i := 25) rfl))) (Or.inl (hw _ (List.mem_of_getElem? (i := 22) rfl))) (by decide) (t := (.array (.object "java/lang/Object"))) (t' := .int) (by decide) (by decide)))
  have N3 := Fr.snoc X3 N2 ga
  have z3 : n0 ≤ h3.size := Nat.le_trans Z0 (Keep.of_wr W3).1
  have K3 : Keep h0 h3 [a] := (Keep.refl h0 [a]).wr W3 (Or.inl (List.mem_of_getElem? (i := 0) rfl))
  refine own_step (T3.setTop (mkF m 9 #[.val (.ref a)] [])) (fun t₀ k₀ => st3 t₀ k₀) ?_
  obtain ⟨fs, hr, hrun, hended, hW, hsame⟩ := X3.leave (v := none) (fun _ => rfl)
  refine ⟨_, _, ?_, hrun, hended, _, _, rfl, ?_, ⟨_, rfl⟩, hW, hsame.mono (by decide) (by decide)⟩
  · exact X3.returnOut hx Bd.returns (hb hby d2_9) hr
  · show Q_rm2 Z a u1 h0 n0 _ T3.heap _
    rw [e3]
    exact ⟨rfl, N3, K3, f5, f6⟩
theorem d1_0 : decode jdk_38_method_2_code 0 = .ok (.aload_n 0, 1) := by decide +kernel
theorem d1_1 : decode jdk_38_method_2_code 1 = .ok (.invokespecial 1, 3) := by decide +kernel
theorem d1_4 : decode jdk_38_method_2_code 4 = .ok (.aload_n 0, 1) := by decide +kernel
theorem d1_5 : decode jdk_38_method_2_code 5 = .ok (.getstatic 39, 3) := by decide +kernel
theorem d1_8 : decode jdk_38_method_2_code 8 = .ok (.putfield 9, 3) := by decide +kernel
theorem d1_11 : decode jdk_38_method_2_code 11 = .ok (.return_, 1) := by decide +kernel
theorem pn_1 : plainName "java/util/ArrayList" = true := by first | (simp [plainName, overriddenIn]; done) | decide +kernel
theorem ef_rm1 (m : MethodId) (a : Addr) : entryFrame m #[(.ref a)] 1 = mkF m 0 #[.val (.ref a)] [] := by first | (simp [entryFrame, mkF, argsToLocals, Value.category]; done) | rfl
def Q_rm1 (Z : State) (a : Addr) (u1 : Int32) (ed : Addr) (h0 : Heap) (n0 : Nat) (v : Option Value) (h : Heap) (L : List Loc) : Prop := v = none ∧ Fr n0 L ∧ Keep h0 h [a]
set_option maxRecDepth 65536 in
set_option maxHeartbeats 40000000 in
theorem rm1 (l : Launch) (Z : State) (a0 : Array Value) (hw : ∀ d ∈ tables_1, d.before a0 Z = true) (ws : List Jvm.Cond) (a : Addr) (u1 : Int32) (ed : Addr) (h0 : Heap) (n0 : Nat) (Z0 : n0 ≤ h0.size) (Ea : Exa Z h0 a "java/util/ArrayList") (Fm : Fld Z h0 a "java/util/AbstractList" "modCount" "I" (.int u1)) (Fe : Fld Z h0 a "java/util/ArrayList" "elementData" "[Ljava/lang/Object;" .null) (Se : Sta Z h0 "java/util/ArrayList" "DEFAULTCAPACITY_EMPTY_ELEMENTDATA" "[Ljava/lang/Object;" (.ref ed)) (ga : n0 ≤ a) :
    MetFree l (⟨"java/util/ArrayList", "<init>", "()V"⟩ : MethodName) (head1 (Jvm.Cond.code (⟨"java/util/ArrayList", "<init>", "()V"⟩ : MethodName) jdk_38_method_2_code 1 none :: ws) ({ frames := 3, cells := 0, slots := 0, locals := 36 } : Room)) (fun as₉ U => as₉ = #[(.ref a)] ∧ Z.Warmed39 U.vm ∧ U.heap = h0) (fun _ _ _ _ _ => True) (fun _ U o U' => ∃ v L, o = .returned v ∧ Q_rm1 Z a u1 ed h0 n0 v U'.heap L ∧ FrameEnd U o U' L ({ frames := 3, cells := 0, slots := 0, locals := 36 } : Room).cells ({ frames := 3, cells := 0, slots := 0, locals := 36 } : Room).slots) := by
  refine MetFree.of_bodySF (plainFor_of_name pn_1) hisR ?_
  intro p e s m args below meth c s₁ Bd hml0 hP hK
  obtain ⟨rfl, hZ, hh⟩ := hP
  have hx := Bd.exec
  have hby := Bd.bytes
  have hml : c.maxLocals = 1 := hml0
  have hown : s.vm.findClass "java/util/ArrayList" = some m.cls := findClass_of_methodNamed Bd.named
  have hnm := (name_of_methodNamed Bd.named Bd.method).1
  have X0 : Stand p l e ({ frames := 3, cells := 0, slots := 0, locals := 36 } : Room) s m #[(.ref a)] below meth c s₁ [] 0 0 := Stand.of_body Bd
  have e0 : s₁.heap = h0 := by rw [← hh, Bd.state]; rfl
  have N0 := Fr.nil n0
  show own_Go p e below (fun s₂ o => s₂.status = .running ∧ Ended s₂ below o ∧ ∃ v L, o = .returned v ∧ Q_rm1 Z a u1 ed h0 n0 v s₂.heap L ∧ FrameEnd s o s₂ L ({ frames := 3, cells := 0, slots := 0, locals := 36 } : Room).cells ({ frames := 3, cells := 0, slots := 0, locals := 36 } : Room).slots) (s₁.setTop (entryFrame m #[(.ref a)] 1))
  rw [ef_rm1 m a]
  refine own_step (s₁.setTop (mkF m 1 #[.val (.ref a)] [(.ref a)])) (fun t₀ k₀ => XS.aloadN X0.here hx rfl (hb hby d1_0) rfl rfl k₀) ?_
  obtain ⟨_, _, ⟨T7, L7, k7, n7⟩, -, X7, ⟨Lc7, hQ7, l7, y7, z7⟩, st7⟩ := X0.specialBack hx (y := (⟨"java/util/AbstractList", "<init>", "()V"⟩ : MethodName)) rfl hown (mvT hZ (hw _ (List.mem_of_getElem? (i := 6) rfl))) (mvT hZ (hw _ (List.mem_of_getElem? (i := 7) rfl))) (mvT hZ (hw _ (List.mem_of_getElem? (i := 11) rfl))) (by decide) (backOf (W := 0) (rm2 l Z a0 hw [] a u1 h0 n0 Z0 Ea Fm Fe ga) hZ (hw _ (List.mem_of_getElem? (i := 11) rfl)) (hw _ (List.mem_of_getElem? (i := 10) rfl)) (by decide) (by decide)) (g := (mkF m 1 #[.val (.ref a)] [(.ref a)])) rfl (by rw [hml]; rfl) (Steps.refl _) (a := a) (argsL := []) (rest := []) (lenOf pd_0 rfl) rfl (by show 2 * 0 + _ ≤ _; exact Nat.le_of_eq rfl) (hb hby d1_1) (fun _ _ => ⟨rfl, e0, (by decide : 0 + 0 ≤ _), (by decide : 0 + 0 ≤ _)⟩)
  dsimp only [Pt.U, Pt.locs, Pt.cells, Pt.slots] at X7 l7 y7 z7 st7 hQ7
  subst l7 y7 z7
  obtain ⟨rfl, N7q, K7, f8, f9⟩ := hQ7
  have N7 := Fr.app N0 N7q
  have f10 : Exa Z T7.heap a "java/util/ArrayList" := Ea.keep K7
  have f13 : Sta Z T7.heap "java/util/ArrayList" "DEFAULTCAPACITY_EMPTY_ELEMENTDATA" "[Ljava/lang/Object;" (.ref ed) := own_sta_keep Se K7 (nsS Ea.nostat ns0)
  have z7' : n0 ≤ T7.heap.size := Nat.le_trans Z0 K7.1
  have K7' : Keep h0 T7.heap [a] := (Keep.refl h0 [a]).trans K7 (allS (Or.inl (List.mem_of_getElem? (i := 0) rfl)) all0)
  refine own_comes (T7.setTop (mkF m 4 #[.val (.ref a)] [])) st7 ?_
  refine own_step (T7.setTop (mkF m 5 #[.val (.ref a)] [(.ref a)])) (fun t₀ k₀ => XS.aloadN X7.here hx rfl (hb hby d1_4) rfl rfl k₀) ?_
  obtain ⟨T14, X14, e14, st14⟩ := getS2 X7 hx hZ hown (host := "") (Or.inl (hw _ (List.mem_of_getElem? (i := 23) rfl))) Via.refl rfl f13 (g := (mkF m 5 #[.val (.ref a)] [(.ref a)])) rfl (hb hby d1_5)
  refine own_step (T14.setTop (mkF m 8 #[.val (.ref a)] [(.ref ed), (.ref a)])) (fun t₀ k₀ => st14 t₀ k₀) ?_
  obtain ⟨T15, h15, X15, e15, W15, st15⟩ := putF X14 hx hZ hown (host := "") (Or.inl (hw _ (List.mem_of_getElem? (i := 24) rfl))) Via.refl e14 f9 f8 (Or.inl (hw _ (List.mem_of_getElem? (i := 25) rfl))) (hw _ (List.mem_of_getElem? (i := 1) rfl)) (ty := (.array (.object "java/lang/Object"))) (by decide) rfl rfl (g := (mkF m 8 #[.val (.ref a)] [(.ref ed), (.ref a)])) rfl rfl (hb hby d1_8)
  have f16 : Fld Z h15 a "java/util/ArrayList" "elementData" "[Ljava/lang/Object;" (.ref ed) := f9.same W15
  have f17 : Exa Z h15 a "java/util/ArrayList" := f8.wr W15
  have f18 : Sta Z h15 "java/util/ArrayList" "DEFAULTCAPACITY_EMPTY_ELEMENTDATA" "[Ljava/lang/Object;" (.ref ed) := f13.wr W15
  have N15 := Fr.snoc X15 N7 ga
  have z15 : n0 ≤ h15.size := Nat.le_trans z7' (Keep.of_wr W15).1
  have K15 : Keep h0 h15 [a] := K7'.wr W15 (Or.inl (List.mem_of_getElem? (i := 0) rfl))
  refine own_step (T15.setTop (mkF m 11 #[.val (.ref a)] [])) (fun t₀ k₀ => st15 t₀ k₀) ?_
  obtain ⟨fs, hr, hrun, hended, hW, hsame⟩ := X15.leave (v := none) (fun _ => rfl)
  refine ⟨_, _, ?_, hrun, hended, _, _, rfl, ?_, ⟨_, rfl⟩, hW, hsame.mono (by decide) (by decide)⟩
  · exact X15.returnOut hx Bd.returns (hb hby d1_11) hr
  · show Q_rm1 Z a u1 ed h0 n0 _ T15.heap _
    rw [e15]
    exact ⟨rfl, N15, K15⟩
theorem d6_0 : decode jdk_30_method_1_code 0 = .ok (.aload_n 0, 1) := by decide +kernel
theorem d6_1 : decode jdk_30_method_1_code 1 = .ok (.invokespecial 1, 3) := by decide +kernel
theorem d6_4 : decode jdk_30_method_1_code 4 = .ok (.return_, 1) := by decide +kernel
theorem pn_6 : plainName "java/lang/Record" = true := by first | (simp [plainName, overriddenIn]; done) | decide +kernel
theorem ef_rm6 (m : MethodId) (a : Addr) : entryFrame m #[(.ref a)] 1 = mkF m 0 #[.val (.ref a)] [] := by first | (simp [entryFrame, mkF, argsToLocals, Value.category]; done) | rfl
def Q_rm6 (Z : State) (a : Addr) (h0 : Heap) (n0 : Nat) (v : Option Value) (h : Heap) (L : List Loc) : Prop := v = none ∧ Fr n0 L ∧ h = h0
set_option maxRecDepth 65536 in
set_option maxHeartbeats 40000000 in
theorem rm6 (l : Launch) (Z : State) (a0 : Array Value) (hw : ∀ d ∈ tables_1, d.before a0 Z = true) (ws : List Jvm.Cond) (a : Addr) (h0 : Heap) (n0 : Nat) (Z0 : n0 ≤ h0.size) :
    MetFree l (⟨"java/lang/Record", "<init>", "()V"⟩ : MethodName) (head1 (Jvm.Cond.code (⟨"java/lang/Record", "<init>", "()V"⟩ : MethodName) jdk_30_method_1_code 1 none :: ws) ({ frames := 1, cells := 0, slots := 0, locals := 12 } : Room)) (fun as₉ U => as₉ = #[(.ref a)] ∧ Z.Warmed39 U.vm ∧ U.heap = h0) (fun _ _ _ _ _ => True) (fun _ U o U' => ∃ v L, o = .returned v ∧ Q_rm6 Z a h0 n0 v U'.heap L ∧ FrameEnd U o U' L ({ frames := 1, cells := 0, slots := 0, locals := 12 } : Room).cells ({ frames := 1, cells := 0, slots := 0, locals := 12 } : Room).slots) := by
  refine MetFree.of_bodySF (plainFor_of_name pn_6) hisR ?_
  intro p e s m args below meth c s₁ Bd hml0 hP hK
  obtain ⟨rfl, hZ, hh⟩ := hP
  have hx := Bd.exec
  have hby := Bd.bytes
  have hml : c.maxLocals = 1 := hml0
  have hown : s.vm.findClass "java/lang/Record" = some m.cls := findClass_of_methodNamed Bd.named
  have hnm := (name_of_methodNamed Bd.named Bd.method).1
  have X0 : Stand p l e ({ frames := 1, cells := 0, slots := 0, locals := 12 } : Room) s m #[(.ref a)] below meth c s₁ [] 0 0 := Stand.of_body Bd
  have e0 : s₁.heap = h0 := by rw [← hh, Bd.state]; rfl
  have N0 := Fr.nil n0
  show own_Go p e below (fun s₂ o => s₂.status = .running ∧ Ended s₂ below o ∧ ∃ v L, o = .returned v ∧ Q_rm6 Z a h0 n0 v s₂.heap L ∧ FrameEnd s o s₂ L ({ frames := 1, cells := 0, slots := 0, locals := 12 } : Room).cells ({ frames := 1, cells := 0, slots := 0, locals := 12 } : Room).slots) (s₁.setTop (entryFrame m #[(.ref a)] 1))
  rw [ef_rm6 m a]
  refine own_step (s₁.setTop (mkF m 1 #[.val (.ref a)] [(.ref a)])) (fun t₀ k₀ => XS.aloadN X0.here hx rfl (hb hby d6_0) rfl rfl k₀) ?_
  obtain ⟨T19, X19, e19, st19⟩ := initO X0 hx hZ hown (hw _ (List.mem_of_getElem? (i := 37) rfl)) (hw _ (List.mem_of_getElem? (i := 19) rfl)) (hw _ (List.mem_of_getElem? (i := 20) rfl)) e0 (g := (mkF m 1 #[.val (.ref a)] [(.ref a)])) rfl (by rw [hml]; rfl) rfl (hb hby d6_1) (by decide) (W := 0) (by show 2 * 0 + _ ≤ _; exact Nat.le_of_eq rfl) (by decide)
  refine own_step (T19.setTop (mkF m 4 #[.val (.ref a)] [])) (fun t₀ k₀ => st19 t₀ k₀) ?_
  obtain ⟨fs, hr, hrun, hended, hW, hsame⟩ := X19.leave (v := none) (fun _ => rfl)
  refine ⟨_, _, ?_, hrun, hended, _, _, rfl, ?_, ⟨_, rfl⟩, hW, hsame.mono (by decide) (by decide)⟩
  · exact X19.returnOut hx Bd.returns (hb hby d6_4) hr
  · show Q_rm6 Z a h0 n0 _ T19.heap _
    rw [e19]
    exact ⟨rfl, N0, rfl⟩
theorem d5_0 : decode prog_23_method_2_code 0 = .ok (.aload_n 0, 1) := by decide +kernel
theorem d5_1 : decode prog_23_method_2_code 1 = .ok (.invokespecial 1, 3) := by decide +kernel
theorem d5_4 : decode prog_23_method_2_code 4 = .ok (.aload_n 0, 1) := by decide +kernel
theorem d5_5 : decode prog_23_method_2_code 5 = .ok (.lload_n 1, 1) := by decide +kernel
theorem d5_6 : decode prog_23_method_2_code 6 = .ok (.putfield 7, 3) := by decide +kernel
theorem d5_9 : decode prog_23_method_2_code 9 = .ok (.aload_n 0, 1) := by decide +kernel
theorem d5_10 : decode prog_23_method_2_code 10 = .ok (.lload_n 3, 1) := by decide +kernel
theorem d5_11 : decode prog_23_method_2_code 11 = .ok (.putfield 13, 3) := by decide +kernel
theorem d5_14 : decode prog_23_method_2_code 14 = .ok (.aload_n 0, 1) := by decide +kernel
theorem d5_15 : decode prog_23_method_2_code 15 = .ok (.iload 5, 2) := by decide +kernel
theorem d5_17 : decode prog_23_method_2_code 17 = .ok (.putfield 16, 3) := by decide +kernel
theorem d5_20 : decode prog_23_method_2_code 20 = .ok (.aload_n 0, 1) := by decide +kernel
theorem d5_21 : decode prog_23_method_2_code 21 = .ok (.aload 6, 2) := by decide +kernel
theorem d5_23 : decode prog_23_method_2_code 23 = .ok (.putfield 20, 3) := by decide +kernel
theorem d5_26 : decode prog_23_method_2_code 26 = .ok (.return_, 1) := by decide +kernel
theorem pn_5 : plainName "com/example/cardinal_echo/cardinalecho/DistinctRange" = true := by first | (simp [plainName, overriddenIn]; done) | decide +kernel
theorem ef_rm5 (m : MethodId) (a : Addr) (s1 : Int64) (s2 : Int64) (d : Int32) (w : Addr) : entryFrame m #[(.ref a), (.long s1), (.long s2), (.int d), (.ref w)] 7 = mkF m 0 #[.val (.ref a), .val (.long s1), .second, .val (.long s2), .second, .val (.int d), .val (.ref w)] [] := by first | (simp [entryFrame, mkF, argsToLocals, Value.category]; done) | rfl
def Q_rm5 (Z : State) (a : Addr) (s1 : Int64) (s2 : Int64) (d : Int32) (w : Addr) (u1 : Int64) (u2 : Int64) (u3 : Int32) (h0 : Heap) (n0 : Nat) (v : Option Value) (h : Heap) (L : List Loc) : Prop := v = none ∧ Fr n0 L ∧ Keep h0 h [a] ∧ Exa Z h a "com/example/cardinal_echo/cardinalecho/DistinctRange" ∧ Fld Z h a "com/example/cardinal_echo/cardinalecho/DistinctRange" "start" "J" (.long s1) ∧ Fld Z h a "com/example/cardinal_echo/cardinalecho/DistinctRange" "downward" "Z" (.int (nar .boolean d))
set_option maxRecDepth 65536 in
set_option maxHeartbeats 40000000 in
theorem rm5 (l : Launch) (Z : State) (a0 : Array Value) (hw : ∀ d ∈ tables_1, d.before a0 Z = true) (ws : List Jvm.Cond) (a : Addr) (s1 : Int64) (s2 : Int64) (d : Int32) (w : Addr) (u1 : Int64) (u2 : Int64) (u3 : Int32) (h0 : Heap) (n0 : Nat) (Z0 : n0 ≤ h0.size) (Ea : Exa Z h0 a "com/example/cardinal_echo/cardinalecho/DistinctRange") (Fs : Fld Z h0 a "com/example/cardinal_echo/cardinalecho/DistinctRange" "start" "J" (.long u1)) (Fz : Fld Z h0 a "com/example/cardinal_echo/cardinalecho/DistinctRange" "size" "J" (.long u2)) (Fd : Fld Z h0 a "com/example/cardinal_echo/cardinalecho/DistinctRange" "downward" "Z" (.int u3)) (Fw : Fld Z h0 a "com/example/cardinal_echo/cardinalecho/DistinctRange" "words" "Ljava/util/List;" .null) (ga : n0 ≤ a) :
    MetFree l (⟨"com/example/cardinal_echo/cardinalecho/DistinctRange", "<init>", "(JJZLjava/util/List;)V"⟩ : MethodName) (head1 (Jvm.Cond.code (⟨"com/example/cardinal_echo/cardinalecho/DistinctRange", "<init>", "(JJZLjava/util/List;)V"⟩ : MethodName) prog_23_method_2_code 7 none :: ws) ({ frames := 2, cells := 0, slots := 0, locals := 24 } : Room)) (fun as₉ U => as₉ = #[(.ref a), (.long s1), (.long s2), (.int d), (.ref w)] ∧ Z.Warmed39 U.vm ∧ U.heap = h0) (fun _ _ _ _ _ => True) (fun _ U o U' => ∃ v L, o = .returned v ∧ Q_rm5 Z a s1 s2 d w u1 u2 u3 h0 n0 v U'.heap L ∧ FrameEnd U o U' L ({ frames := 2, cells := 0, slots := 0, locals := 24 } : Room).cells ({ frames := 2, cells := 0, slots := 0, locals := 24 } : Room).slots) := by
  refine MetFree.of_bodySF (plainFor_of_name pn_5) hisR ?_
  intro p e s m args below meth c s₁ Bd hml0 hP hK
  obtain ⟨rfl, hZ, hh⟩ := hP
  have hx := Bd.exec
  have hby := Bd.bytes
  have hml : c.maxLocals = 7 := hml0
  have hown : s.vm.findClass "com/example/cardinal_echo/cardinalecho/DistinctRange" = some m.cls := findClass_of_methodNamed Bd.named
  have hnm := (name_of_methodNamed Bd.named Bd.method).1
  have X0 : Stand p l e ({ frames := 2, cells := 0, slots := 0, locals := 24 } : Room) s m #[(.ref a), (.long s1), (.long s2), (.int d), (.ref w)] below meth c s₁ [] 0 0 := Stand.of_body Bd
  have e0 : s₁.heap = h0 := by rw [← hh, Bd.state]; rfl
  have N0 := Fr.nil n0
  show own_Go p e below (fun s₂ o => s₂.status = .running ∧ Ended s₂ below o ∧ ∃ v L, o = .returned v ∧ Q_rm5 Z a s1 s2 d w u1 u2 u3 h0 n0 v s₂.heap L ∧ FrameEnd s o s₂ L ({ frames := 2, cells := 0, slots := 0, locals := 24 } : Room).cells ({ frames := 2, cells := 0, slots := 0, locals := 24 } : Room).slots) (s₁.setTop (entryFrame m #[(.ref a), (.long s1), (.long s2), (.int d), (.ref w)] 7))
  rw [ef_rm5 m a s1 s2 d w]
  refine own_step (s₁.setTop (mkF m 1 #[.val (.ref a), .val (.long s1), .second, .val (.long s2), .second, .val (.int d), .val (.ref w)] [(.ref a)])) (fun t₀ k₀ => XS.aloadN X0.here hx rfl (hb hby d5_0) rfl rfl k₀) ?_
  obtain ⟨_, _, ⟨T20, L20, k20, n20⟩, -, X20, ⟨Lc20, hQ20, l20, y20, z20⟩, st20⟩ := X0.specialBack hx (y := (⟨"java/lang/Record", "<init>", "()V"⟩ : MethodName)) rfl hown (mvT hZ (hw _ (List.mem_of_getElem? (i := 32) rfl))) (mvT hZ (hw _ (List.mem_of_getElem? (i := 33) rfl))) (mvT hZ (hw _ (List.mem_of_getElem? (i := 36) rfl))) (by decide) (backOf (W := 0) (rm6 l Z a0 hw [] a h0 n0 Z0) hZ (hw _ (List.mem_of_getElem? (i := 36) rfl)) (hw _ (List.mem_of_getElem? (i := 35) rfl)) (by decide) (by decide)) (g := (mkF m 1 #[.val (.ref a), .val (.long s1), .second, .val (.long s2), .second, .val (.int d), .val (.ref w)] [(.ref a)])) rfl (by rw [hml]; rfl) (Steps.refl _) (a := a) (argsL := []) (rest := []) (lenOf pd_0 rfl) rfl (by show 2 * 0 + _ ≤ _; exact Nat.le_of_eq rfl) (hb hby d5_1) (fun _ _ => ⟨rfl, e0, (by decide : 0 + 0 ≤ _), (by decide : 0 + 0 ≤ _)⟩)
  dsimp only [Pt.U, Pt.locs, Pt.cells, Pt.slots] at X20 l20 y20 z20 st20 hQ20
  subst l20 y20 z20
  obtain ⟨rfl, N20q, e20⟩ := hQ20
  have N20 := Fr.app N0 N20q
  refine own_comes (T20.setTop (mkF m 4 #[.val (.ref a), .val (.long s1), .second, .val (.long s2), .second, .val (.int d), .val (.ref w)] [])) st20 ?_
  refine own_step (T20.setTop (mkF m 5 #[.val (.ref a), .val (.long s1), .second, .val (.long s2), .second, .val (.int d), .val (.ref w)] [(.ref a)])) (fun t₀ k₀ => XS.aloadN X20.here hx rfl (hb hby d5_4) rfl rfl k₀) ?_
  refine own_step (T20.setTop (mkF m 6 #[.val (.ref a), .val (.long s1), .second, .val (.long s2), .second, .val (.int d), .val (.ref w)] [(.long s1), (.ref a)])) (fun t₀ k₀ => XS.lloadN X20.here hx rfl (hb hby d5_5) rfl k₀) ?_
  obtain ⟨T21, h21, X21, e21, W21, st21⟩ := putF X20 hx hZ hown (host := "") (Or.inl (hw _ (List.mem_of_getElem? (i := 38) rfl))) Via.refl e20 Fs Ea (Or.inr ⟨(hw _ (List.mem_of_getElem? (i := 39) rfl)), rfl, hnm⟩) (hw _ (List.mem_of_getElem? (i := 27) rfl)) (ty := .long) (by decide) rfl rfl (g := (mkF m 6 #[.val (.ref a), .val (.long s1), .second, .val (.long s2), .second, .val (.int d), .val (.ref w)] [(.long s1), (.ref a)])) rfl rfl (hb hby d5_6)
  have f22 : Fld Z h21 a "com/example/cardinal_echo/cardinalecho/DistinctRange" "start" "J" (.long s1) := Fs.same W21
  have f23 : Exa Z h21 a "com/example/cardinal_echo/cardinalecho/DistinctRange" := Ea.wr W21
  have f24 : Fld Z h21 a "com/example/cardinal_echo/cardinalecho/DistinctRange" "size" "J" (.long u2) := Fz.other W21 (Or.inr (slot_ne (Or.inr (hw _ (List.mem_of_getElem? (i := 41) rfl))) (Or.inr (hw _ (List.mem_of_getElem? (i := 39) rfl))) (by decide) (t := .long) (t' := .long) (by decide) (by decide)))
  have f25 : Fld Z h21 a "com/example/cardinal_echo/cardinalecho/DistinctRange" "downward" "Z" (.int u3) := Fd.other W21 (Or.inr (slot_ne (Or.inr (hw _ (List.mem_of_getElem? (i := 43) rfl))) (Or.inr (hw _ (List.mem_of_getElem? (i := 39) rfl))) (by decide) (t := .boolean) (t' := .long) (by decide) (by decide)))
  have f26 : Fld Z h21 a "com/example/cardinal_echo/cardinalecho/DistinctRange" "words" "Ljava/util/List;" .null := Fw.other W21 (Or.inr (slot_ne (Or.inr (hw _ (List.mem_of_getElem? (i := 45) rfl))) (Or.inr (hw _ (List.mem_of_getElem? (i := 39) rfl))) (by decide) (t := (.object "java/util/List")) (t' := .long) (by decide) (by decide)))
  have N21 := Fr.snoc X21 N20 ga
  have z21 : n0 ≤ h21.size := Nat.le_trans Z0 (Keep.of_wr W21).1
  have K21 : Keep h0 h21 [a] := (Keep.refl h0 [a]).wr W21 (Or.inl (List.mem_of_getElem? (i := 0) rfl))
  refine own_step (T21.setTop (mkF m 9 #[.val (.ref a), .val (.long s1), .second, .val (.long s2), .second, .val (.int d), .val (.ref w)] [])) (fun t₀ k₀ => st21 t₀ k₀) ?_
  refine own_step (T21.setTop (mkF m 10 #[.val (.ref a), .val (.long s1), .second, .val (.long s2), .second, .val (.int d), .val (.ref w)] [(.ref a)])) (fun t₀ k₀ => XS.aloadN X21.here hx rfl (hb hby d5_9) rfl rfl k₀) ?_
  refine own_step (T21.setTop (mkF m 11 #[.val (.ref a), .val (.long s1), .second, .val (.long s2), .second, .val (.int d), .val (.ref w)] [(.long s2), (.ref a)])) (fun t₀ k₀ => XS.lloadN X21.here hx rfl (hb hby d5_10) rfl k₀) ?_
  obtain ⟨T27, h27, X27, e27, W27, st27⟩ := putF X21 hx hZ hown (host := "") (Or.inl (hw _ (List.mem_of_getElem? (i := 40) rfl))) Via.refl e21 f24 f23 (Or.inr ⟨(hw _ (List.mem_of_getElem? (i := 41) rfl)), rfl, hnm⟩) (hw _ (List.mem_of_getElem? (i := 27) rfl)) (ty := .long) (by decide) rfl rfl (g := (mkF m 11 #[.val (.ref a), .val (.long s1), .second, .val (.long s2), .second, .val (.int d), .val (.ref w)] [(.long s2), (.ref a)])) rfl rfl (hb hby d5_11)
  have f28 : Fld Z h27 a "com/example/cardinal_echo/cardinalecho/DistinctRange" "size" "J" (.long s2) := f24.same W27
  have f29 : Exa Z h27 a "com/example/cardinal_echo/cardinalecho/DistinctRange" := f23.wr W27
  have f30 : Fld Z h27 a "com/example/cardinal_echo/cardinalecho/DistinctRange" "start" "J" (.long s1) := f22.other W27 (Or.inr (slot_ne (Or.inr (hw _ (List.mem_of_getElem? (i := 39) rfl))) (Or.inr (hw _ (List.mem_of_getElem? (i := 41) rfl))) (by decide) (t := .long) (t' := .long) (by decide) (by decide)))
  have f31 : Fld Z h27 a "com/example/cardinal_echo/cardinalecho/DistinctRange" "downward" "Z" (.int u3) := f25.other W27 (Or.inr (slot_ne (Or.inr (hw _ (List.mem_of_getElem? (i := 43) rfl))) (Or.inr (hw _ (List.mem_of_getElem? (i := 41) rfl))) (by decide) (t := .boolean) (t' := .long) (by decide) (by decide)))
  have f32 : Fld Z h27 a "com/example/cardinal_echo/cardinalecho/DistinctRange" "words" "Ljava/util/List;" .null := f26.other W27 (Or.inr (slot_ne (Or.inr (hw _ (List.mem_of_getElem? (i := 45) rfl))) (Or.inr (hw _ (List.mem_of_getElem? (i := 41) rfl))) (by decide) (t := (.object "java/util/List")) (t' := .long) (by decide) (by decide)))
  have N27 := Fr.snoc X27 N21 ga
  have z27 : n0 ≤ h27.size := Nat.le_trans z21 (Keep.of_wr W27).1
  have K27 : Keep h0 h27 [a] := K21.wr W27 (Or.inl (List.mem_of_getElem? (i := 0) rfl))
  refine own_step (T27.setTop (mkF m 14 #[.val (.ref a), .val (.long s1), .second, .val (.long s2), .second, .val (.int d), .val (.ref w)] [])) (fun t₀ k₀ => st27 t₀ k₀) ?_
  refine own_step (T27.setTop (mkF m 15 #[.val (.ref a), .val (.long s1), .second, .val (.long s2), .second, .val (.int d), .val (.ref w)] [(.ref a)])) (fun t₀ k₀ => XS.aloadN X27.here hx rfl (hb hby d5_14) rfl rfl k₀) ?_
  refine own_step (T27.setTop (mkF m 17 #[.val (.ref a), .val (.long s1), .second, .val (.long s2), .second, .val (.int d), .val (.ref w)] [(.int d), (.ref a)])) (fun t₀ k₀ => XS.iload X27.here hx rfl (hb hby d5_15) rfl k₀) ?_
  obtain ⟨T33, h33, X33, e33, W33, st33⟩ := putFN X27 hx hZ hown (hw _ (List.mem_of_getElem? (i := 42) rfl)) Via.refl e27 f31 f29 (Or.inr ⟨(hw _ (List.mem_of_getElem? (i := 43) rfl)), rfl, hnm⟩) (hw _ (List.mem_of_getElem? (i := 27) rfl)) (ty := .boolean) (v' := (.int (nar .boolean d))) (by decide) rfl (fits_nar_bool _) (g := (mkF m 17 #[.val (.ref a), .val (.long s1), .second, .val (.long s2), .second, .val (.int d), .val (.ref w)] [(.int d), (.ref a)])) rfl rfl (hb hby d5_17)
  have f34 : Fld Z h33 a "com/example/cardinal_echo/cardinalecho/DistinctRange" "downward" "Z" (.int (nar .boolean d)) := f31.same W33
  have f35 : Exa Z h33 a "com/example/cardinal_echo/cardinalecho/DistinctRange" := f29.wr W33
  have f36 : Fld Z h33 a "com/example/cardinal_echo/cardinalecho/DistinctRange" "start" "J" (.long s1) := f30.other W33 (Or.inr (slot_ne (Or.inr (hw _ (List.mem_of_getElem? (i := 39) rfl))) (Or.inr (hw _ (List.mem_of_getElem? (i := 43) rfl))) (by decide) (t := .long) (t' := .boolean) (by decide) (by decide)))
  have f37 : Fld Z h33 a "com/example/cardinal_echo/cardinalecho/DistinctRange" "size" "J" (.long s2) := f28.other W33 (Or.inr (slot_ne (Or.inr (hw _ (List.mem_of_getElem? (i := 41) rfl))) (Or.inr (hw _ (List.mem_of_getElem? (i := 43) rfl))) (by decide) (t := .long) (t' := .boolean) (by decide) (by decide)))
  have f38 : Fld Z h33 a "com/example/cardinal_echo/cardinalecho/DistinctRange" "words" "Ljava/util/List;" .null := f32.other W33 (Or.inr (slot_ne (Or.inr (hw _ (List.mem_of_getElem? (i := 45) rfl))) (Or.inr (hw _ (List.mem_of_getElem? (i := 43) rfl))) (by decide) (t := (.object "java/util/List")) (t' := .boolean) (by decide) (by decide)))
  have N33 := Fr.snoc X33 N27 ga
  have z33 : n0 ≤ h33.size := Nat.le_trans z27 (Keep.of_wr W33).1
  have K33 : Keep h0 h33 [a] := K27.wr W33 (Or.inl (List.mem_of_getElem? (i := 0) rfl))
  refine own_step (T33.setTop (mkF m 20 #[.val (.ref a), .val (.long s1), .second, .val (.long s2), .second, .val (.int d), .val (.ref w)] [])) (fun t₀ k₀ => st33 t₀ k₀) ?_
  refine own_step (T33.setTop (mkF m 21 #[.val (.ref a), .val (.long s1), .second, .val (.long s2), .second, .val (.int d), .val (.ref w)] [(.ref a)])) (fun t₀ k₀ => XS.aloadN X33.here hx rfl (hb hby d5_20) rfl rfl k₀) ?_
  refine own_step (T33.setTop (mkF m 23 #[.val (.ref a), .val (.long s1), .second, .val (.long s2), .second, .val (.int d), .val (.ref w)] [(.ref w), (.ref a)])) (fun t₀ k₀ => XS.aload X33.here hx rfl (hb hby d5_21) rfl rfl k₀) ?_
  obtain ⟨T39, h39, X39, e39, W39, st39⟩ := putF X33 hx hZ hown (host := "") (Or.inl (hw _ (List.mem_of_getElem? (i := 44) rfl))) Via.refl e33 f38 f35 (Or.inr ⟨(hw _ (List.mem_of_getElem? (i := 45) rfl)), rfl, hnm⟩) (hw _ (List.mem_of_getElem? (i := 27) rfl)) (ty := (.object "java/util/List")) (by decide) rfl rfl (g := (mkF m 23 #[.val (.ref a), .val (.long s1), .second, .val (.long s2), .second, .val (.int d), .val (.ref w)] [(.ref w), (.ref a)])) rfl rfl (hb hby d5_23)
  have f40 : Fld Z h39 a "com/example/cardinal_echo/cardinalecho/DistinctRange" "words" "Ljava/util/List;" (.ref w) := f38.same W39
  have f41 : Exa Z h39 a "com/example/cardinal_echo/cardinalecho/DistinctRange" := f35.wr W39
  have f42 : Fld Z h39 a "com/example/cardinal_echo/cardinalecho/DistinctRange" "start" "J" (.long s1) := f36.other W39 (Or.inr (slot_ne (Or.inr (hw _ (List.mem_of_getElem? (i := 39) rfl))) (Or.inr (hw _ (List.mem_of_getElem? (i := 45) rfl))) (by decide) (t := .long) (t' := (.object "java/util/List")) (by decide) (by decide)))
  have f43 : Fld Z h39 a "com/example/cardinal_echo/cardinalecho/DistinctRange" "size" "J" (.long s2) := f37.other W39 (Or.inr (slot_ne (Or.inr (hw _ (List.mem_of_getElem? (i := 41) rfl))) (Or.inr (hw _ (List.mem_of_getElem? (i := 45) rfl))) (by decide) (t := .long) (t' := (.object "java/util/List")) (by decide) (by decide)))
  have f44 : Fld Z h39 a "com/example/cardinal_echo/cardinalecho/DistinctRange" "downward" "Z" (.int (nar .boolean d)) := f34.other W39 (Or.inr (slot_ne (Or.inr (hw _ (List.mem_of_getElem? (i := 43) rfl))) (Or.inr (hw _ (List.mem_of_getElem? (i := 45) rfl))) (by decide) (t := .boolean) (t' := (.object "java/util/List")) (by decide) (by decide)))
  have N39 := Fr.snoc X39 N33 ga
  have z39 : n0 ≤ h39.size := Nat.le_trans z33 (Keep.of_wr W39).1
  have K39 : Keep h0 h39 [a] := K33.wr W39 (Or.inl (List.mem_of_getElem? (i := 0) rfl))
  refine own_step (T39.setTop (mkF m 26 #[.val (.ref a), .val (.long s1), .second, .val (.long s2), .second, .val (.int d), .val (.ref w)] [])) (fun t₀ k₀ => st39 t₀ k₀) ?_
  obtain ⟨fs, hr, hrun, hended, hW, hsame⟩ := X39.leave (v := none) (fun _ => rfl)
  refine ⟨_, _, ?_, hrun, hended, _, _, rfl, ?_, ⟨_, rfl⟩, hW, hsame.mono (by decide) (by decide)⟩
  · exact X39.returnOut hx Bd.returns (hb hby d5_26) hr
  · show Q_rm5 Z a s1 s2 d w u1 u2 u3 h0 n0 _ T39.heap _
    rw [e39]
    exact ⟨rfl, N39, K39, f41, f42, f44⟩
theorem d7_0 : decode prog_23_method_3_code 0 = .ok (.aload_n 0, 1) := by decide +kernel
theorem d7_1 : decode prog_23_method_3_code 1 = .ok (.getfield 16, 3) := by decide +kernel
theorem d7_4 : decode prog_23_method_3_code 4 = .ok (.ifCond .eq 16, 3) := by decide +kernel
theorem d7_7 : decode prog_23_method_3_code 7 = .ok (.aload_n 0, 1) := by decide +kernel
theorem d7_8 : decode prog_23_method_3_code 8 = .ok (.getfield 7, 3) := by decide +kernel
theorem d7_11 : decode prog_23_method_3_code 11 = .ok (.lload_n 1, 1) := by decide +kernel
theorem d7_12 : decode prog_23_method_3_code 12 = .ok (.lsub, 1) := by decide +kernel
theorem d7_13 : decode prog_23_method_3_code 13 = .ok (.lload_n 3, 1) := by decide +kernel
theorem d7_14 : decode prog_23_method_3_code 14 = .ok (.lsub, 1) := by decide +kernel
theorem d7_15 : decode prog_23_method_3_code 15 = .ok (.lconst 1, 1) := by decide +kernel
theorem d7_16 : decode prog_23_method_3_code 16 = .ok (.ladd, 1) := by decide +kernel
theorem d7_17 : decode prog_23_method_3_code 17 = .ok (.goto 9, 3) := by decide +kernel
theorem d7_20 : decode prog_23_method_3_code 20 = .ok (.aload_n 0, 1) := by decide +kernel
theorem d7_21 : decode prog_23_method_3_code 21 = .ok (.getfield 7, 3) := by decide +kernel
theorem d7_24 : decode prog_23_method_3_code 24 = .ok (.lload_n 1, 1) := by decide +kernel
theorem d7_25 : decode prog_23_method_3_code 25 = .ok (.ladd, 1) := by decide +kernel
theorem d7_26 : decode prog_23_method_3_code 26 = .ok (.lreturn, 1) := by decide +kernel
theorem ef_rm7 (m : MethodId) (a : Addr) (t : Int64) (c0 : Int64) : entryFrame m #[(.ref a), (.long t), (.long c0)] 5 = mkF m 0 #[.val (.ref a), .val (.long t), .second, .val (.long c0), .second] [] := by first | (simp [entryFrame, mkF, argsToLocals, Value.category]; done) | rfl
def Q_rm7 (Z : State) (a : Addr) (t : Int64) (c0 : Int64) (dw : Int32) (s1 : Int64) (h0 : Heap) (n0 : Nat) (v : Option Value) (h : Heap) (L : List Loc) : Prop := v = some (.long (own_first dw s1 t c0)) ∧ Fr n0 L ∧ h = h0
set_option maxRecDepth 65536 in
set_option maxHeartbeats 40000000 in
theorem rm7 (l : Launch) (Z : State) (a0 : Array Value) (hw : ∀ d ∈ tables_1, d.before a0 Z = true) (ws : List Jvm.Cond) (a : Addr) (t : Int64) (c0 : Int64) (dw : Int32) (s1 : Int64) (h0 : Heap) (n0 : Nat) (Z0 : n0 ≤ h0.size) (Fd : Fld Z h0 a "com/example/cardinal_echo/cardinalecho/DistinctRange" "downward" "Z" (.int dw)) (Fs : Fld Z h0 a "com/example/cardinal_echo/cardinalecho/DistinctRange" "start" "J" (.long s1)) :
    MetFree l (⟨"com/example/cardinal_echo/cardinalecho/DistinctRange", "first", "(JJ)J"⟩ : MethodName) (head1 (Jvm.Cond.code (⟨"com/example/cardinal_echo/cardinalecho/DistinctRange", "first", "(JJ)J"⟩ : MethodName) prog_23_method_3_code 5 (some .long) :: ws) ({ frames := 0, cells := 0, slots := 0, locals := 0 } : Room)) (fun as₉ U => as₉ = #[(.ref a), (.long t), (.long c0)] ∧ Z.Warmed39 U.vm ∧ U.heap = h0) (fun _ _ _ _ _ => True) (fun _ U o U' => ∃ v L, o = .returned v ∧ Q_rm7 Z a t c0 dw s1 h0 n0 v U'.heap L ∧ FrameEnd U o U' L ({ frames := 0, cells := 0, slots := 0, locals := 0 } : Room).cells ({ frames := 0, cells := 0, slots := 0, locals := 0 } : Room).slots) := by
  refine MetFree.of_bodySF (plainFor_of_name pn_5) hisR ?_
  intro p e s m args below meth c s₁ Bd hml0 hP hK
  obtain ⟨rfl, hZ, hh⟩ := hP
  have hx := Bd.exec
  have hby := Bd.bytes
  have hml : c.maxLocals = 5 := hml0
  have hown : s.vm.findClass "com/example/cardinal_echo/cardinalecho/DistinctRange" = some m.cls := findClass_of_methodNamed Bd.named
  have hnm := (name_of_methodNamed Bd.named Bd.method).1
  have X0 : Stand p l e ({ frames := 0, cells := 0, slots := 0, locals := 0 } : Room) s m #[(.ref a), (.long t), (.long c0)] below meth c s₁ [] 0 0 := Stand.of_body Bd
  have e0 : s₁.heap = h0 := by rw [← hh, Bd.state]; rfl
  have N0 := Fr.nil n0
  show own_Go p e below (fun s₂ o => s₂.status = .running ∧ Ended s₂ below o ∧ ∃ v L, o = .returned v ∧ Q_rm7 Z a t c0 dw s1 h0 n0 v s₂.heap L ∧ FrameEnd s o s₂ L ({ frames := 0, cells := 0, slots := 0, locals := 0 } : Room).cells ({ frames := 0, cells := 0, slots := 0, locals := 0 } : Room).slots) (s₁.setTop (entryFrame m #[(.ref a), (.long t), (.long c0)] 5))
  rw [ef_rm7 m a t c0]
  refine own_step (s₁.setTop (mkF m 1 #[.val (.ref a), .val (.long t), .second, .val (.long c0), .second] [(.ref a)])) (fun t₀ k₀ => XS.aloadN X0.here hx rfl (hb hby d7_0) rfl rfl k₀) ?_
  obtain ⟨T45, X45, e45, st45⟩ := getF X0 hx hZ hown (host := "") (Or.inl (hw _ (List.mem_of_getElem? (i := 42) rfl))) Via.refl e0 Fd (g := (mkF m 1 #[.val (.ref a), .val (.long t), .second, .val (.long c0), .second] [(.ref a)])) rfl rfl (hb hby d7_1)
  refine own_step (T45.setTop (mkF m 4 #[.val (.ref a), .val (.long t), .second, .val (.long c0), .second] [(.int dw)])) (fun t₀ k₀ => st45 t₀ k₀) ?_
  by_cases hc4 : dw = (0 : Int32)
  · skip
    refine own_step (T45.setTop (mkF m 20 #[.val (.ref a), .val (.long t), .second, .val (.long c0), .second] [])) (fun t₀ k₀ => XS.ifYes X45.here hx rfl (pc0 := 4) (pc' := 20) rfl (hb hby d7_4) rfl ((if0 _ _).trans (teq hc4).1) (by decide) (by decide) k₀) ?_
    refine own_step (T45.setTop (mkF m 21 #[.val (.ref a), .val (.long t), .second, .val (.long c0), .second] [(.ref a)])) (fun t₀ k₀ => XS.aloadN X45.here hx rfl (hb hby d7_20) rfl rfl k₀) ?_
    obtain ⟨T46, X46, e46, st46⟩ := getF X45 hx hZ hown (host := "") (Or.inl (hw _ (List.mem_of_getElem? (i := 38) rfl))) Via.refl e45 Fs (g := (mkF m 21 #[.val (.ref a), .val (.long t), .second, .val (.long c0), .second] [(.ref a)])) rfl rfl (hb hby d7_21)
    refine own_step (T46.setTop (mkF m 24 #[.val (.ref a), .val (.long t), .second, .val (.long c0), .second] [(.long s1)])) (fun t₀ k₀ => st46 t₀ k₀) ?_
    refine own_step (T46.setTop (mkF m 25 #[.val (.ref a), .val (.long t), .second, .val (.long c0), .second] [(.long t), (.long s1)])) (fun t₀ k₀ => XS.lloadN X46.here hx rfl (hb hby d7_24) rfl k₀) ?_
    refine own_step (T46.setTop (mkF m 26 #[.val (.ref a), .val (.long t), .second, .val (.long c0), .second] [(.long (s1 + t))])) (fun t₀ k₀ => XS.ladd X46.here hx rfl (hb hby d7_25) rfl k₀) ?_
    obtain ⟨fs, hr, hrun, hended, hW, hsame⟩ := X46.leave (v := some (.long (s1 + t))) (fun h => by rw [Bd.returns] at h; cases h)
    refine ⟨_, _, ?_, hrun, hended, _, _, rfl, ?_, ⟨_, rfl⟩, hW, hsame.mono (by decide) (by decide)⟩
    · jvm_step X46.here [X46.here.top, hx, (hb hby d7_26), X46.method', Bd.returns, narrow]
      first | (intro acts; rw [hr _ acts rfl rfl rfl]) | rw [hr _ _ rfl rfl rfl]
      exact Steps.refl _
    · show Q_rm7 Z a t c0 dw s1 h0 n0 _ T46.heap _
      rw [e46]
      exact ⟨by simp [own_first, hc4], N0, rfl⟩
  · skip
    refine own_step (T45.setTop (mkF m 7 #[.val (.ref a), .val (.long t), .second, .val (.long c0), .second] [])) (fun t₀ k₀ => XS.ifNo X45.here hx rfl (hb hby d7_4) rfl ((if0 _ _).trans (feq hc4).1) k₀) ?_
    refine own_step (T45.setTop (mkF m 8 #[.val (.ref a), .val (.long t), .second, .val (.long c0), .second] [(.ref a)])) (fun t₀ k₀ => XS.aloadN X45.here hx rfl (hb hby d7_7) rfl rfl k₀) ?_
    obtain ⟨T47, X47, e47, st47⟩ := getF X45 hx hZ hown (host := "") (Or.inl (hw _ (List.mem_of_getElem? (i := 38) rfl))) Via.refl e45 Fs (g := (mkF m 8 #[.val (.ref a), .val (.long t), .second, .val (.long c0), .second] [(.ref a)])) rfl rfl (hb hby d7_8)
    refine own_step (T47.setTop (mkF m 11 #[.val (.ref a), .val (.long t), .second, .val (.long c0), .second] [(.long s1)])) (fun t₀ k₀ => st47 t₀ k₀) ?_
    refine own_step (T47.setTop (mkF m 12 #[.val (.ref a), .val (.long t), .second, .val (.long c0), .second] [(.long t), (.long s1)])) (fun t₀ k₀ => XS.lloadN X47.here hx rfl (hb hby d7_11) rfl k₀) ?_
    refine own_step (T47.setTop (mkF m 13 #[.val (.ref a), .val (.long t), .second, .val (.long c0), .second] [(.long (s1 - t))])) (fun t₀ k₀ => XS.lsub X47.here hx rfl (hb hby d7_12) rfl k₀) ?_
    refine own_step (T47.setTop (mkF m 14 #[.val (.ref a), .val (.long t), .second, .val (.long c0), .second] [(.long c0), (.long (s1 - t))])) (fun t₀ k₀ => XS.lloadN X47.here hx rfl (hb hby d7_13) rfl k₀) ?_
    refine own_step (T47.setTop (mkF m 15 #[.val (.ref a), .val (.long t), .second, .val (.long c0), .second] [(.long ((s1 - t) - c0))])) (fun t₀ k₀ => XS.lsub X47.here hx rfl (hb hby d7_14) rfl k₀) ?_
    refine own_step (T47.setTop (mkF m 16 #[.val (.ref a), .val (.long t), .second, .val (.long c0), .second] [(.long (1 : Int64)), (.long ((s1 - t) - c0))])) (fun t₀ k₀ => XS.lconst X47.here hx rfl (hb hby d7_15) k₀) ?_
    refine own_step (T47.setTop (mkF m 17 #[.val (.ref a), .val (.long t), .second, .val (.long c0), .second] [(.long (((s1 - t) - c0) + (1 : Int64)))])) (fun t₀ k₀ => XS.ladd X47.here hx rfl (hb hby d7_16) rfl k₀) ?_
    refine own_step (T47.setTop (mkF m 26 #[.val (.ref a), .val (.long t), .second, .val (.long c0), .second] [(.long (((s1 - t) - c0) + (1 : Int64)))])) (fun t₀ k₀ => XS.goto X47.here hx rfl (pc0 := 17) (pc' := 26) rfl (hb hby d7_17) (by decide) (by decide) k₀) ?_
    obtain ⟨fs, hr, hrun, hended, hW, hsame⟩ := X47.leave (v := some (.long (((s1 - t) - c0) + (1 : Int64)))) (fun h => by rw [Bd.returns] at h; cases h)
    refine ⟨_, _, ?_, hrun, hended, _, _, rfl, ?_, ⟨_, rfl⟩, hW, hsame.mono (by decide) (by decide)⟩
    · jvm_step X47.here [X47.here.top, hx, (hb hby d7_26), X47.method', Bd.returns, narrow]
      first | (intro acts; rw [hr _ acts rfl rfl rfl]) | rw [hr _ _ rfl rfl rfl]
      exact Steps.refl _
    · show Q_rm7 Z a t c0 dw s1 h0 n0 _ T47.heap _
      rw [e47]
      exact ⟨by simp [own_first, hc4], N0, rfl⟩
theorem pn_0 : plainName "com/example/cardinal_echo/cardinalecho/DistinctRangeFirstPinLaw" = true := by first | (simp [plainName, overriddenIn]; done) | decide +kernel
theorem ef_rm0 (m : MethodId) (start : Int64) (size : Int64) (taken : Int64) (count : Int64) (flag : Int32) : entryFrame m #[(.long start), (.long size), (.long taken), (.long count), (.int flag)] maxLocals = mkF m 0 #[.val (.long start), .second, .val (.long size), .second, .val (.long taken), .second, .val (.long count), .second, .val (.int flag), .unset, .unset, .unset, .unset, .unset, .unset, .unset, .unset, .unset, .unset, .unset] [] := by first | (simp [entryFrame, mkF, argsToLocals, Value.category, maxLocals]; done) | rfl
def Q_rm0 (Z : State) (start : Int64) (size : Int64) (taken : Int64) (count : Int64) (flag : Int32) (ed : Addr) (h0 : Heap) (n0 : Nat) (v : Option Value) (h : Heap) (L : List Loc) : Prop := v = some (.int 1) ∧ Fr n0 L
set_option maxRecDepth 65536 in
set_option maxHeartbeats 40000000 in
theorem rm0 (l : Launch) (Z : State) (a0 : Array Value) (hw : ∀ d ∈ tables_1, d.before a0 Z = true) (ws : List Jvm.Cond) (start : Int64) (size : Int64) (taken : Int64) (count : Int64) (flag : Int32) (ed : Addr) (h0 : Heap) (n0 : Nat) (Z0 : n0 ≤ h0.size) (Se : Sta Z h0 "java/util/ArrayList" "DEFAULTCAPACITY_EMPTY_ELEMENTDATA" "[Ljava/lang/Object;" (.ref ed)) :
    MetFree l x (head1 (Jvm.Cond.code x code maxLocals ret :: ws) room_1) (fun as₉ U => as₉ = #[(.long start), (.long size), (.long taken), (.long count), (.int flag)] ∧ Z.Warmed39 U.vm ∧ U.heap = h0) (fun _ _ _ _ _ => True) (fun _ U o U' => ∃ v L, o = .returned v ∧ Q_rm0 Z start size taken count flag ed h0 n0 v U'.heap L ∧ FrameEnd U o U' L room_1.cells room_1.slots) := by
  refine MetFree.of_bodySF (plainFor_of_name pn_0) hisR ?_
  intro p e s m args below meth c s₁ Bd hml0 hP hK
  obtain ⟨rfl, hZ, hh⟩ := hP
  have hx := Bd.exec
  have hby := Bd.bytes
  have hml : c.maxLocals = 20 := hml0
  have hown : s.vm.findClass "com/example/cardinal_echo/cardinalecho/DistinctRangeFirstPinLaw" = some m.cls := findClass_of_methodNamed Bd.named
  have hnm := (name_of_methodNamed Bd.named Bd.method).1
  have X0 : Stand p l e room_1 s m #[(.long start), (.long size), (.long taken), (.long count), (.int flag)] below meth c s₁ [] 0 0 := Stand.of_body Bd
  have e0 : s₁.heap = h0 := by rw [← hh, Bd.state]; rfl
  have N0 := Fr.nil n0
  show own_Go p e below (fun s₂ o => s₂.status = .running ∧ Ended s₂ below o ∧ ∃ v L, o = .returned v ∧ Q_rm0 Z start size taken count flag ed h0 n0 v s₂.heap L ∧ FrameEnd s o s₂ L room_1.cells room_1.slots) (s₁.setTop (entryFrame m #[(.long start), (.long size), (.long taken), (.long count), (.int flag)] maxLocals))
  rw [ef_rm0 m start size taken count flag]
  refine own_step (s₁.setTop (mkF m 2 #[.val (.long start), .second, .val (.long size), .second, .val (.long taken), .second, .val (.long count), .second, .val (.int flag), .unset, .unset, .unset, .unset, .unset, .unset, .unset, .unset, .unset, .unset, .unset] [(.int flag)])) (fun t₀ k₀ => XS.iload X0.here hx rfl (hb hby at_0) rfl k₀) ?_
  refine own_step (s₁.setTop (mkF m 3 #[.val (.long start), .second, .val (.long size), .second, .val (.long taken), .second, .val (.long count), .second, .val (.int flag), .unset, .unset, .unset, .unset, .unset, .unset, .unset, .unset, .unset, .unset, .unset] [(.int (1 : Int32)), (.int flag)])) (fun t₀ k₀ => XS.iconst X0.here hx rfl (hb hby at_2) k₀) ?_
  refine own_step (s₁.setTop (mkF m 4 #[.val (.long start), .second, .val (.long size), .second, .val (.long taken), .second, .val (.long count), .second, .val (.int flag), .unset, .unset, .unset, .unset, .unset, .unset, .unset, .unset, .unset, .unset, .unset] [(.int (flag &&& (1 : Int32)))])) (fun t₀ k₀ => XS.iand X0.here hx rfl (hb hby at_3) rfl k₀) ?_
  by_cases hc4 : (flag &&& (1 : Int32)) = (0 : Int32)
  · skip
    refine own_step (s₁.setTop (mkF m 11 #[.val (.long start), .second, .val (.long size), .second, .val (.long taken), .second, .val (.long count), .second, .val (.int flag), .unset, .unset, .unset, .unset, .unset, .unset, .unset, .unset, .unset, .unset, .unset] [])) (fun t₀ k₀ => XS.ifYes X0.here hx rfl (pc0 := 4) (pc' := 11) rfl (hb hby at_4) rfl ((if0 _ _).trans (teq hc4).1) (by decide) (by decide) k₀) ?_
    refine own_step (s₁.setTop (mkF m 12 #[.val (.long start), .second, .val (.long size), .second, .val (.long taken), .second, .val (.long count), .second, .val (.int flag), .unset, .unset, .unset, .unset, .unset, .unset, .unset, .unset, .unset, .unset, .unset] [(.int (0 : Int32))])) (fun t₀ k₀ => XS.iconst X0.here hx rfl (hb hby at_11) k₀) ?_
    refine own_step (s₁.setTop (mkF m 14 #[.val (.long start), .second, .val (.long size), .second, .val (.long taken), .second, .val (.long count), .second, .val (.int flag), .val (.int (0 : Int32)), .unset, .unset, .unset, .unset, .unset, .unset, .unset, .unset, .unset, .unset] [])) (fun t₀ k₀ => XS.istore X0.here hx rfl (hb hby at_12) rfl (l' := #[.val (.long start), .second, .val (.long size), .second, .val (.long taken), .second, .val (.long count), .second, .val (.int flag), .val (.int (0 : Int32)), .unset, .unset, .unset, .unset, .unset, .unset, .unset, .unset, .unset, .unset]) rfl k₀) ?_
    obtain ⟨T48, h48, X48, e48, E48, A48, D48, -, st48⟩ := newO X0 hx hZ hown (hw _ (List.mem_of_getElem? (i := 0) rfl)) (hw _ (List.mem_of_getElem? (i := 1) rfl)) (hw _ (List.mem_of_getElem? (i := 2) rfl)) e0 (g := (mkF m 14 #[.val (.long start), .second, .val (.long size), .second, .val (.long taken), .second, .val (.long count), .second, .val (.int flag), .val (.int (0 : Int32)), .unset, .unset, .unset, .unset, .unset, .unset, .unset, .unset, .unset, .unset] [])) rfl (hb hby at_14) (by decide) (by decide)
    obtain ⟨b48, g48⟩ : ∃ z, z = h0.size := ⟨_, rfl⟩
    rw [← g48] at A48 D48 st48
    have fr_b48 : n0 ≤ b48 := Nat.le_trans Z0 (Nat.le_of_eq g48.symm)
    have f49 : Sta Z h48 "java/util/ArrayList" "DEFAULTCAPACITY_EMPTY_ELEMENTDATA" "[Ljava/lang/Object;" (.ref ed) := Se.ext E48
    have f50 : Fld Z h48 b48 "java/util/AbstractList" "modCount" "I" (.int (0 : Int32)) := D48 (Or.inl (hw _ (List.mem_of_getElem? (i := 22) rfl))) (ty := .int) (by decide)
    have f51 : Fld Z h48 b48 "java/util/ArrayList" "elementData" "[Ljava/lang/Object;" .null := D48 (Or.inl (hw _ (List.mem_of_getElem? (i := 25) rfl))) (ty := (.array (.object "java/lang/Object"))) (by decide)
    have z48 : n0 ≤ h48.size := Nat.le_trans Z0 E48.1
    refine own_step (T48.setTop (mkF m 17 #[.val (.long start), .second, .val (.long size), .second, .val (.long taken), .second, .val (.long count), .second, .val (.int flag), .val (.int (0 : Int32)), .unset, .unset, .unset, .unset, .unset, .unset, .unset, .unset, .unset, .unset] [(.ref b48)])) (fun t₀ k₀ => st48 t₀ k₀) ?_
    refine own_step (T48.setTop (mkF m 18 #[.val (.long start), .second, .val (.long size), .second, .val (.long taken), .second, .val (.long count), .second, .val (.int flag), .val (.int (0 : Int32)), .unset, .unset, .unset, .unset, .unset, .unset, .unset, .unset, .unset, .unset] [(.ref b48), (.ref b48)])) (fun t₀ k₀ => XS.dup X48.here hx rfl (hb hby at_17) rfl rfl k₀) ?_
    obtain ⟨_, _, ⟨T52, L52, k52, n52⟩, -, X52, ⟨Lc52, hQ52, l52, y52, z52⟩, st52⟩ := X48.specialBack hx (y := (⟨"java/util/ArrayList", "<init>", "()V"⟩ : MethodName)) rfl hown (mvT hZ (hw _ (List.mem_of_getElem? (i := 3) rfl))) (mvT hZ (hw _ (List.mem_of_getElem? (i := 4) rfl))) (mvT hZ (hw _ (List.mem_of_getElem? (i := 5) rfl))) (by decide) (backOf (W := 1) (rm1 l Z a0 hw [] b48 (0 : Int32) ed h48 n0 z48 A48 f50 f51 f49 fr_b48) hZ (hw _ (List.mem_of_getElem? (i := 5) rfl)) (hw _ (List.mem_of_getElem? (i := 2) rfl)) (by decide) (by decide)) (g := (mkF m 18 #[.val (.long start), .second, .val (.long size), .second, .val (.long taken), .second, .val (.long count), .second, .val (.int flag), .val (.int (0 : Int32)), .unset, .unset, .unset, .unset, .unset, .unset, .unset, .unset, .unset, .unset] [(.ref b48), (.ref b48)])) rfl (by rw [hml]; rfl) (Steps.refl _) (a := b48) (argsL := []) (rest := [(.ref b48)]) (lenOf pd_0 rfl) rfl (by show 2 * 0 + _ ≤ _; exact Nat.le_of_eq rfl) (hb hby at_18) (fun _ _ => ⟨rfl, e48, (by decide : 1 + 0 ≤ _), (by decide : 3 + 0 ≤ _)⟩)
    dsimp only [Pt.U, Pt.locs, Pt.cells, Pt.slots] at X52 l52 y52 z52 st52 hQ52
    subst l52 y52 z52
    obtain ⟨rfl, N52q, K52⟩ := hQ52
    have N52 := Fr.app N0 N52q
    have f53 : Sta Z T52.heap "java/util/ArrayList" "DEFAULTCAPACITY_EMPTY_ELEMENTDATA" "[Ljava/lang/Object;" (.ref ed) := own_sta_keep f49 K52 (nsS A48.nostat ns0)
    have f54 : Exa Z T52.heap b48 "java/util/ArrayList" := A48.keep K52
    have z52' : n0 ≤ T52.heap.size := Nat.le_trans z48 K52.1
    refine own_comes (T52.setTop (mkF m 21 #[.val (.long start), .second, .val (.long size), .second, .val (.long taken), .second, .val (.long count), .second, .val (.int flag), .val (.int (0 : Int32)), .unset, .unset, .unset, .unset, .unset, .unset, .unset, .unset, .unset, .unset] [(.ref b48)])) st52 ?_
    refine own_step (T52.setTop (mkF m 23 #[.val (.long start), .second, .val (.long size), .second, .val (.long taken), .second, .val (.long count), .second, .val (.int flag), .val (.int (0 : Int32)), .val (.ref b48), .unset, .unset, .unset, .unset, .unset, .unset, .unset, .unset, .unset] [])) (fun t₀ k₀ => XS.astore X52.here hx rfl (hb hby at_21) rfl rfl (l' := #[.val (.long start), .second, .val (.long size), .second, .val (.long taken), .second, .val (.long count), .second, .val (.int flag), .val (.int (0 : Int32)), .val (.ref b48), .unset, .unset, .unset, .unset, .unset, .unset, .unset, .unset, .unset]) rfl k₀) ?_
    obtain ⟨T57, h57, X57, e57, E57, A57, D57, -, st57⟩ := newO X52 hx hZ hown (hw _ (List.mem_of_getElem? (i := 26) rfl)) (hw _ (List.mem_of_getElem? (i := 27) rfl)) (hw _ (List.mem_of_getElem? (i := 28) rfl)) rfl (g := (mkF m 23 #[.val (.long start), .second, .val (.long size), .second, .val (.long taken), .second, .val (.long count), .second, .val (.int flag), .val (.int (0 : Int32)), .val (.ref b48), .unset, .unset, .unset, .unset, .unset, .unset, .unset, .unset, .unset] [])) rfl (hb hby at_23) (by decide) (by decide)
    obtain ⟨b57, g57⟩ : ∃ z, z = T52.heap.size := ⟨_, rfl⟩
    rw [← g57] at A57 D57 st57
    have ne58 : b48 ≠ b57 := Nat.ne_of_lt (Nat.lt_of_lt_of_le f54.lt (Nat.le_of_eq g57.symm))
    have fr_b57 : n0 ≤ b57 := Nat.le_trans z52' (Nat.le_of_eq g57.symm)
    have f59 : Sta Z h57 "java/util/ArrayList" "DEFAULTCAPACITY_EMPTY_ELEMENTDATA" "[Ljava/lang/Object;" (.ref ed) := f53.ext E57
    have f60 : Exa Z h57 b48 "java/util/ArrayList" := f54.ext E57
    have f61 : Fld Z h57 b57 "com/example/cardinal_echo/cardinalecho/DistinctRange" "start" "J" (.long (0 : Int64)) := D57 (Or.inr (hw _ (List.mem_of_getElem? (i := 39) rfl))) (ty := .long) (by decide)
    have f62 : Fld Z h57 b57 "com/example/cardinal_echo/cardinalecho/DistinctRange" "size" "J" (.long (0 : Int64)) := D57 (Or.inr (hw _ (List.mem_of_getElem? (i := 41) rfl))) (ty := .long) (by decide)
    have f63 : Fld Z h57 b57 "com/example/cardinal_echo/cardinalecho/DistinctRange" "downward" "Z" (.int (0 : Int32)) := D57 (Or.inr (hw _ (List.mem_of_getElem? (i := 43) rfl))) (ty := .boolean) (by decide)
    have f64 : Fld Z h57 b57 "com/example/cardinal_echo/cardinalecho/DistinctRange" "words" "Ljava/util/List;" .null := D57 (Or.inr (hw _ (List.mem_of_getElem? (i := 45) rfl))) (ty := (.object "java/util/List")) (by decide)
    have z57 : n0 ≤ h57.size := Nat.le_trans z52' E57.1
    refine own_step (T57.setTop (mkF m 26 #[.val (.long start), .second, .val (.long size), .second, .val (.long taken), .second, .val (.long count), .second, .val (.int flag), .val (.int (0 : Int32)), .val (.ref b48), .unset, .unset, .unset, .unset, .unset, .unset, .unset, .unset, .unset] [(.ref b57)])) (fun t₀ k₀ => st57 t₀ k₀) ?_
    refine own_step (T57.setTop (mkF m 27 #[.val (.long start), .second, .val (.long size), .second, .val (.long taken), .second, .val (.long count), .second, .val (.int flag), .val (.int (0 : Int32)), .val (.ref b48), .unset, .unset, .unset, .unset, .unset, .unset, .unset, .unset, .unset] [(.ref b57), (.ref b57)])) (fun t₀ k₀ => XS.dup X57.here hx rfl (hb hby at_26) rfl rfl k₀) ?_
    refine own_step (T57.setTop (mkF m 28 #[.val (.long start), .second, .val (.long size), .second, .val (.long taken), .second, .val (.long count), .second, .val (.int flag), .val (.int (0 : Int32)), .val (.ref b48), .unset, .unset, .unset, .unset, .unset, .unset, .unset, .unset, .unset] [(.long start), (.ref b57), (.ref b57)])) (fun t₀ k₀ => XS.lloadN X57.here hx rfl (hb hby at_27) rfl k₀) ?_
    refine own_step (T57.setTop (mkF m 29 #[.val (.long start), .second, .val (.long size), .second, .val (.long taken), .second, .val (.long count), .second, .val (.int flag), .val (.int (0 : Int32)), .val (.ref b48), .unset, .unset, .unset, .unset, .unset, .unset, .unset, .unset, .unset] [(.long size), (.long start), (.ref b57), (.ref b57)])) (fun t₀ k₀ => XS.lloadN X57.here hx rfl (hb hby at_28) rfl k₀) ?_
    refine own_step (T57.setTop (mkF m 31 #[.val (.long start), .second, .val (.long size), .second, .val (.long taken), .second, .val (.long count), .second, .val (.int flag), .val (.int (0 : Int32)), .val (.ref b48), .unset, .unset, .unset, .unset, .unset, .unset, .unset, .unset, .unset] [(.int (0 : Int32)), (.long size), (.long start), (.ref b57), (.ref b57)])) (fun t₀ k₀ => XS.iload X57.here hx rfl (hb hby at_29) rfl k₀) ?_
    refine own_step (T57.setTop (mkF m 33 #[.val (.long start), .second, .val (.long size), .second, .val (.long taken), .second, .val (.long count), .second, .val (.int flag), .val (.int (0 : Int32)), .val (.ref b48), .unset, .unset, .unset, .unset, .unset, .unset, .unset, .unset, .unset] [(.ref b48), (.int (0 : Int32)), (.long size), (.long start), (.ref b57), (.ref b57)])) (fun t₀ k₀ => XS.aload X57.here hx rfl (hb hby at_31) rfl rfl k₀) ?_
    obtain ⟨_, _, ⟨T65, L65, k65, n65⟩, -, X65, ⟨Lc65, hQ65, l65, y65, z65⟩, st65⟩ := X57.specialBack hx (y := (⟨"com/example/cardinal_echo/cardinalecho/DistinctRange", "<init>", "(JJZLjava/util/List;)V"⟩ : MethodName)) rfl hown (mvT hZ (hw _ (List.mem_of_getElem? (i := 29) rfl))) (mvT hZ (hw _ (List.mem_of_getElem? (i := 30) rfl))) (mvT hZ (hw _ (List.mem_of_getElem? (i := 31) rfl))) (by decide) (backOf (W := 1) (rm5 l Z a0 hw [] b57 start size (0 : Int32) b48 (0 : Int64) (0 : Int64) (0 : Int32) h57 n0 z57 A57 f61 f62 f63 f64 fr_b57) hZ (hw _ (List.mem_of_getElem? (i := 31) rfl)) (hw _ (List.mem_of_getElem? (i := 28) rfl)) (by decide) (by decide)) (g := (mkF m 33 #[.val (.long start), .second, .val (.long size), .second, .val (.long taken), .second, .val (.long count), .second, .val (.int flag), .val (.int (0 : Int32)), .val (.ref b48), .unset, .unset, .unset, .unset, .unset, .unset, .unset, .unset, .unset] [(.ref b48), (.int (0 : Int32)), (.long size), (.long start), (.ref b57), (.ref b57)])) rfl (by rw [hml]; rfl) (Steps.refl _) (a := b57) (argsL := [(.long start), (.long size), (.int (0 : Int32)), (.ref b48)]) (rest := [(.ref b57)]) (lenOf pd_1 rfl) rfl (by show 2 * 0 + _ ≤ _; exact Nat.le_of_eq rfl) (hb hby at_33) (fun _ _ => ⟨rfl, e57, (by decide : 2 + 0 ≤ _), (by decide : 7 + 0 ≤ _)⟩)
    dsimp only [Pt.U, Pt.locs, Pt.cells, Pt.slots] at X65 l65 y65 z65 st65 hQ65
    subst l65 y65 z65
    obtain ⟨rfl, N65q, K65, f66, f67, f68⟩ := hQ65
    have N65 := Fr.app N52 N65q
    have f69 : Sta Z T65.heap "java/util/ArrayList" "DEFAULTCAPACITY_EMPTY_ELEMENTDATA" "[Ljava/lang/Object;" (.ref ed) := own_sta_keep f59 K65 (nsS A57.nostat ns0)
    have f70 : Exa Z T65.heap b48 "java/util/ArrayList" := f60.keep K65
    have f71 : Exa Z T65.heap b57 "com/example/cardinal_echo/cardinalecho/DistinctRange" := A57.keep K65
    have z65' : n0 ≤ T65.heap.size := Nat.le_trans z57 K65.1
    refine own_comes (T65.setTop (mkF m 36 #[.val (.long start), .second, .val (.long size), .second, .val (.long taken), .second, .val (.long count), .second, .val (.int flag), .val (.int (0 : Int32)), .val (.ref b48), .unset, .unset, .unset, .unset, .unset, .unset, .unset, .unset, .unset] [(.ref b57)])) st65 ?_
    refine own_step (T65.setTop (mkF m 38 #[.val (.long start), .second, .val (.long size), .second, .val (.long taken), .second, .val (.long count), .second, .val (.int flag), .val (.int (0 : Int32)), .val (.ref b48), .val (.ref b57), .unset, .unset, .unset, .unset, .unset, .unset, .unset, .unset] [])) (fun t₀ k₀ => XS.astore X65.here hx rfl (hb hby at_36) rfl rfl (l' := #[.val (.long start), .second, .val (.long size), .second, .val (.long taken), .second, .val (.long count), .second, .val (.int flag), .val (.int (0 : Int32)), .val (.ref b48), .val (.ref b57), .unset, .unset, .unset, .unset, .unset, .unset, .unset, .unset]) rfl k₀) ?_
    refine own_step (T65.setTop (mkF m 40 #[.val (.long start), .second, .val (.long size), .second, .val (.long taken), .second, .val (.long count), .second, .val (.int flag), .val (.int (0 : Int32)), .val (.ref b48), .val (.ref b57), .unset, .unset, .unset, .unset, .unset, .unset, .unset, .unset] [(.ref b57)])) (fun t₀ k₀ => XS.aload X65.here hx rfl (hb hby at_38) rfl rfl k₀) ?_
    refine own_step (T65.setTop (mkF m 42 #[.val (.long start), .second, .val (.long size), .second, .val (.long taken), .second, .val (.long count), .second, .val (.int flag), .val (.int (0 : Int32)), .val (.ref b48), .val (.ref b57), .unset, .unset, .unset, .unset, .unset, .unset, .unset, .unset] [(.long taken), (.ref b57)])) (fun t₀ k₀ => XS.lload X65.here hx rfl (hb hby at_40) rfl k₀) ?_
    refine own_step (T65.setTop (mkF m 44 #[.val (.long start), .second, .val (.long size), .second, .val (.long taken), .second, .val (.long count), .second, .val (.int flag), .val (.int (0 : Int32)), .val (.ref b48), .val (.ref b57), .unset, .unset, .unset, .unset, .unset, .unset, .unset, .unset] [(.long count), (.long taken), (.ref b57)])) (fun t₀ k₀ => XS.lload X65.here hx rfl (hb hby at_42) rfl k₀) ?_
    obtain ⟨cq76, kq76, q76a, q76b, q76c⟩ := isOf hZ rfl f66
    obtain ⟨_, _, ⟨T76, L76, k76, n76⟩, -, X76, ⟨Lc76, hQ76, l76, y76, z76⟩, st76⟩ := X65.virtualBack hx (y := (⟨"com/example/cardinal_echo/cardinalecho/DistinctRange", "first", "(JJ)J"⟩ : MethodName)) (z := (⟨"com/example/cardinal_echo/cardinalecho/DistinctRange", "first", "(JJ)J"⟩ : MethodName)) hown (mvT hZ (hw _ (List.mem_of_getElem? (i := 46) rfl))) (mvT hZ (hw _ (List.mem_of_getElem? (i := 47) rfl))) (notFace_of_selects (args := #[]) (mvT hZ (hw _ (List.mem_of_getElem? (i := 49) rfl)))) (mvT hZ (hw _ (List.mem_of_getElem? (i := 49) rfl))) (mvT hZ (hw _ (List.mem_of_getElem? (i := 48) rfl))) (by decide) (backOf (W := 0) (rm7 l Z a0 hw [] b57 taken count (nar .boolean (0 : Int32)) start T65.heap n0 z65' f68 f67) hZ (hw _ (List.mem_of_getElem? (i := 50) rfl)) (hw _ (List.mem_of_getElem? (i := 28) rfl)) (by decide) (by decide)) q76a q76c (g := (mkF m 44 #[.val (.long start), .second, .val (.long size), .second, .val (.long taken), .second, .val (.long count), .second, .val (.int flag), .val (.int (0 : Int32)), .val (.ref b48), .val (.ref b57), .unset, .unset, .unset, .unset, .unset, .unset, .unset, .unset] [(.long count), (.long taken), (.ref b57)])) rfl (by rw [hml]; rfl) (Steps.refl _) (argsL := [(.long taken), (.long count)]) (rest := []) (lenOf pd_2 rfl) rfl (by show 2 * 0 + _ ≤ _; exact Nat.le_of_eq rfl) (hb hby at_44) (fun _ _ => ⟨rfl, rfl, (by decide : 2 + 0 ≤ _), (by decide : 7 + 0 ≤ _)⟩)
    dsimp only [Pt.U, Pt.locs, Pt.cells, Pt.slots] at X76 l76 y76 z76 st76 hQ76
    subst l76 y76 z76
    obtain ⟨rfl, N76q, e76⟩ := hQ76
    have N76 := Fr.app N65 N76q
    refine own_comes (T76.setTop (mkF m 47 #[.val (.long start), .second, .val (.long size), .second, .val (.long taken), .second, .val (.long count), .second, .val (.int flag), .val (.int (0 : Int32)), .val (.ref b48), .val (.ref b57), .unset, .unset, .unset, .unset, .unset, .unset, .unset, .unset] [(.long (own_first (nar .boolean (0 : Int32)) start taken count))])) st76 ?_
    refine own_step (T76.setTop (mkF m 49 #[.val (.long start), .second, .val (.long size), .second, .val (.long taken), .second, .val (.long count), .second, .val (.int flag), .val (.int (0 : Int32)), .val (.ref b48), .val (.ref b57), .val (.long (own_first (nar .boolean (0 : Int32)) start taken count)), .second, .unset, .unset, .unset, .unset, .unset, .unset] [])) (fun t₀ k₀ => XS.lstore X76.here hx rfl (hb hby at_47) rfl (l' := #[.val (.long start), .second, .val (.long size), .second, .val (.long taken), .second, .val (.long count), .second, .val (.int flag), .val (.int (0 : Int32)), .val (.ref b48), .val (.ref b57), .val (.long (own_first (nar .boolean (0 : Int32)) start taken count)), .second, .unset, .unset, .unset, .unset, .unset, .unset]) rfl k₀) ?_
    refine own_step (T76.setTop (mkF m 51 #[.val (.long start), .second, .val (.long size), .second, .val (.long taken), .second, .val (.long count), .second, .val (.int flag), .val (.int (0 : Int32)), .val (.ref b48), .val (.ref b57), .val (.long (own_first (nar .boolean (0 : Int32)) start taken count)), .second, .unset, .unset, .unset, .unset, .unset, .unset] [(.ref b57)])) (fun t₀ k₀ => XS.aload X76.here hx rfl (hb hby at_49) rfl rfl k₀) ?_
    refine own_step (T76.setTop (mkF m 53 #[.val (.long start), .second, .val (.long size), .second, .val (.long taken), .second, .val (.long count), .second, .val (.int flag), .val (.int (0 : Int32)), .val (.ref b48), .val (.ref b57), .val (.long (own_first (nar .boolean (0 : Int32)) start taken count)), .second, .unset, .unset, .unset, .unset, .unset, .unset] [(.long taken), (.ref b57)])) (fun t₀ k₀ => XS.lload X76.here hx rfl (hb hby at_51) rfl k₀) ?_
    refine own_step (T76.setTop (mkF m 54 #[.val (.long start), .second, .val (.long size), .second, .val (.long taken), .second, .val (.long count), .second, .val (.int flag), .val (.int (0 : Int32)), .val (.ref b48), .val (.ref b57), .val (.long (own_first (nar .boolean (0 : Int32)) start taken count)), .second, .unset, .unset, .unset, .unset, .unset, .unset] [(.long (1 : Int64)), (.long taken), (.ref b57)])) (fun t₀ k₀ => XS.lconst X76.here hx rfl (hb hby at_53) k₀) ?_
    refine own_step (T76.setTop (mkF m 55 #[.val (.long start), .second, .val (.long size), .second, .val (.long taken), .second, .val (.long count), .second, .val (.int flag), .val (.int (0 : Int32)), .val (.ref b48), .val (.ref b57), .val (.long (own_first (nar .boolean (0 : Int32)) start taken count)), .second, .unset, .unset, .unset, .unset, .unset, .unset] [(.long (taken + (1 : Int64))), (.ref b57)])) (fun t₀ k₀ => XS.ladd X76.here hx rfl (hb hby at_54) rfl k₀) ?_
    refine own_step (T76.setTop (mkF m 57 #[.val (.long start), .second, .val (.long size), .second, .val (.long taken), .second, .val (.long count), .second, .val (.int flag), .val (.int (0 : Int32)), .val (.ref b48), .val (.ref b57), .val (.long (own_first (nar .boolean (0 : Int32)) start taken count)), .second, .unset, .unset, .unset, .unset, .unset, .unset] [(.long count), (.long (taken + (1 : Int64))), (.ref b57)])) (fun t₀ k₀ => XS.lload X76.here hx rfl (hb hby at_55) rfl k₀) ?_
    obtain ⟨cq77, kq77, q77a, q77b, q77c⟩ := isOf hZ e76 f66
    obtain ⟨_, _, ⟨T77, L77, k77, n77⟩, -, X77, ⟨Lc77, hQ77, l77, y77, z77⟩, st77⟩ := X76.virtualBack hx (y := (⟨"com/example/cardinal_echo/cardinalecho/DistinctRange", "first", "(JJ)J"⟩ : MethodName)) (z := (⟨"com/example/cardinal_echo/cardinalecho/DistinctRange", "first", "(JJ)J"⟩ : MethodName)) hown (mvT hZ (hw _ (List.mem_of_getElem? (i := 46) rfl))) (mvT hZ (hw _ (List.mem_of_getElem? (i := 47) rfl))) (notFace_of_selects (args := #[]) (mvT hZ (hw _ (List.mem_of_getElem? (i := 49) rfl)))) (mvT hZ (hw _ (List.mem_of_getElem? (i := 49) rfl))) (mvT hZ (hw _ (List.mem_of_getElem? (i := 48) rfl))) (by decide) (backOf (W := 0) (rm7 l Z a0 hw [] b57 (taken + (1 : Int64)) count (nar .boolean (0 : Int32)) start T65.heap n0 z65' f68 f67) hZ (hw _ (List.mem_of_getElem? (i := 50) rfl)) (hw _ (List.mem_of_getElem? (i := 28) rfl)) (by decide) (by decide)) q77a q77c (g := (mkF m 57 #[.val (.long start), .second, .val (.long size), .second, .val (.long taken), .second, .val (.long count), .second, .val (.int flag), .val (.int (0 : Int32)), .val (.ref b48), .val (.ref b57), .val (.long (own_first (nar .boolean (0 : Int32)) start taken count)), .second, .unset, .unset, .unset, .unset, .unset, .unset] [(.long count), (.long (taken + (1 : Int64))), (.ref b57)])) rfl (by rw [hml]; rfl) (Steps.refl _) (argsL := [(.long (taken + (1 : Int64))), (.long count)]) (rest := []) (lenOf pd_2 rfl) rfl (by show 2 * 0 + _ ≤ _; exact Nat.le_of_eq rfl) (hb hby at_57) (fun _ _ => ⟨rfl, e76, (by decide : 2 + 0 ≤ _), (by decide : 7 + 0 ≤ _)⟩)
    dsimp only [Pt.U, Pt.locs, Pt.cells, Pt.slots] at X77 l77 y77 z77 st77 hQ77
    subst l77 y77 z77
    obtain ⟨rfl, N77q, e77⟩ := hQ77
    have N77 := Fr.app N76 N77q
    refine own_comes (T77.setTop (mkF m 60 #[.val (.long start), .second, .val (.long size), .second, .val (.long taken), .second, .val (.long count), .second, .val (.int flag), .val (.int (0 : Int32)), .val (.ref b48), .val (.ref b57), .val (.long (own_first (nar .boolean (0 : Int32)) start taken count)), .second, .unset, .unset, .unset, .unset, .unset, .unset] [(.long (own_first (nar .boolean (0 : Int32)) start (taken + (1 : Int64)) count))])) st77 ?_
    refine own_step (T77.setTop (mkF m 62 #[.val (.long start), .second, .val (.long size), .second, .val (.long taken), .second, .val (.long count), .second, .val (.int flag), .val (.int (0 : Int32)), .val (.ref b48), .val (.ref b57), .val (.long (own_first (nar .boolean (0 : Int32)) start taken count)), .second, .val (.long (own_first (nar .boolean (0 : Int32)) start (taken + (1 : Int64)) count)), .second, .unset, .unset, .unset, .unset] [])) (fun t₀ k₀ => XS.lstore X77.here hx rfl (hb hby at_60) rfl (l' := #[.val (.long start), .second, .val (.long size), .second, .val (.long taken), .second, .val (.long count), .second, .val (.int flag), .val (.int (0 : Int32)), .val (.ref b48), .val (.ref b57), .val (.long (own_first (nar .boolean (0 : Int32)) start taken count)), .second, .val (.long (own_first (nar .boolean (0 : Int32)) start (taken + (1 : Int64)) count)), .second, .unset, .unset, .unset, .unset]) rfl k₀) ?_
    refine own_step (T77.setTop (mkF m 64 #[.val (.long start), .second, .val (.long size), .second, .val (.long taken), .second, .val (.long count), .second, .val (.int flag), .val (.int (0 : Int32)), .val (.ref b48), .val (.ref b57), .val (.long (own_first (nar .boolean (0 : Int32)) start taken count)), .second, .val (.long (own_first (nar .boolean (0 : Int32)) start (taken + (1 : Int64)) count)), .second, .unset, .unset, .unset, .unset] [(.ref b57)])) (fun t₀ k₀ => XS.aload X77.here hx rfl (hb hby at_62) rfl rfl k₀) ?_
    refine own_step (T77.setTop (mkF m 66 #[.val (.long start), .second, .val (.long size), .second, .val (.long taken), .second, .val (.long count), .second, .val (.int flag), .val (.int (0 : Int32)), .val (.ref b48), .val (.ref b57), .val (.long (own_first (nar .boolean (0 : Int32)) start taken count)), .second, .val (.long (own_first (nar .boolean (0 : Int32)) start (taken + (1 : Int64)) count)), .second, .unset, .unset, .unset, .unset] [(.long taken), (.ref b57)])) (fun t₀ k₀ => XS.lload X77.here hx rfl (hb hby at_64) rfl k₀) ?_
    refine own_step (T77.setTop (mkF m 68 #[.val (.long start), .second, .val (.long size), .second, .val (.long taken), .second, .val (.long count), .second, .val (.int flag), .val (.int (0 : Int32)), .val (.ref b48), .val (.ref b57), .val (.long (own_first (nar .boolean (0 : Int32)) start taken count)), .second, .val (.long (own_first (nar .boolean (0 : Int32)) start (taken + (1 : Int64)) count)), .second, .unset, .unset, .unset, .unset] [(.long count), (.long taken), (.ref b57)])) (fun t₀ k₀ => XS.lload X77.here hx rfl (hb hby at_66) rfl k₀) ?_
    refine own_step (T77.setTop (mkF m 69 #[.val (.long start), .second, .val (.long size), .second, .val (.long taken), .second, .val (.long count), .second, .val (.int flag), .val (.int (0 : Int32)), .val (.ref b48), .val (.ref b57), .val (.long (own_first (nar .boolean (0 : Int32)) start taken count)), .second, .val (.long (own_first (nar .boolean (0 : Int32)) start (taken + (1 : Int64)) count)), .second, .unset, .unset, .unset, .unset] [(.long (1 : Int64)), (.long count), (.long taken), (.ref b57)])) (fun t₀ k₀ => XS.lconst X77.here hx rfl (hb hby at_68) k₀) ?_
    refine own_step (T77.setTop (mkF m 70 #[.val (.long start), .second, .val (.long size), .second, .val (.long taken), .second, .val (.long count), .second, .val (.int flag), .val (.int (0 : Int32)), .val (.ref b48), .val (.ref b57), .val (.long (own_first (nar .boolean (0 : Int32)) start taken count)), .second, .val (.long (own_first (nar .boolean (0 : Int32)) start (taken + (1 : Int64)) count)), .second, .unset, .unset, .unset, .unset] [(.long (count + (1 : Int64))), (.long taken), (.ref b57)])) (fun t₀ k₀ => XS.ladd X77.here hx rfl (hb hby at_69) rfl k₀) ?_
    obtain ⟨cq78, kq78, q78a, q78b, q78c⟩ := isOf hZ e77 f66
    obtain ⟨_, _, ⟨T78, L78, k78, n78⟩, -, X78, ⟨Lc78, hQ78, l78, y78, z78⟩, st78⟩ := X77.virtualBack hx (y := (⟨"com/example/cardinal_echo/cardinalecho/DistinctRange", "first", "(JJ)J"⟩ : MethodName)) (z := (⟨"com/example/cardinal_echo/cardinalecho/DistinctRange", "first", "(JJ)J"⟩ : MethodName)) hown (mvT hZ (hw _ (List.mem_of_getElem? (i := 46) rfl))) (mvT hZ (hw _ (List.mem_of_getElem? (i := 47) rfl))) (notFace_of_selects (args := #[]) (mvT hZ (hw _ (List.mem_of_getElem? (i := 49) rfl)))) (mvT hZ (hw _ (List.mem_of_getElem? (i := 49) rfl))) (mvT hZ (hw _ (List.mem_of_getElem? (i := 48) rfl))) (by decide) (backOf (W := 0) (rm7 l Z a0 hw [] b57 taken (count + (1 : Int64)) (nar .boolean (0 : Int32)) start T65.heap n0 z65' f68 f67) hZ (hw _ (List.mem_of_getElem? (i := 50) rfl)) (hw _ (List.mem_of_getElem? (i := 28) rfl)) (by decide) (by decide)) q78a q78c (g := (mkF m 70 #[.val (.long start), .second, .val (.long size), .second, .val (.long taken), .second, .val (.long count), .second, .val (.int flag), .val (.int (0 : Int32)), .val (.ref b48), .val (.ref b57), .val (.long (own_first (nar .boolean (0 : Int32)) start taken count)), .second, .val (.long (own_first (nar .boolean (0 : Int32)) start (taken + (1 : Int64)) count)), .second, .unset, .unset, .unset, .unset] [(.long (count + (1 : Int64))), (.long taken), (.ref b57)])) rfl (by rw [hml]; rfl) (Steps.refl _) (argsL := [(.long taken), (.long (count + (1 : Int64)))]) (rest := []) (lenOf pd_2 rfl) rfl (by show 2 * 0 + _ ≤ _; exact Nat.le_of_eq rfl) (hb hby at_70) (fun _ _ => ⟨rfl, e77, (by decide : 2 + 0 ≤ _), (by decide : 7 + 0 ≤ _)⟩)
    dsimp only [Pt.U, Pt.locs, Pt.cells, Pt.slots] at X78 l78 y78 z78 st78 hQ78
    subst l78 y78 z78
    obtain ⟨rfl, N78q, e78⟩ := hQ78
    have N78 := Fr.app N77 N78q
    refine own_comes (T78.setTop (mkF m 73 #[.val (.long start), .second, .val (.long size), .second, .val (.long taken), .second, .val (.long count), .second, .val (.int flag), .val (.int (0 : Int32)), .val (.ref b48), .val (.ref b57), .val (.long (own_first (nar .boolean (0 : Int32)) start taken count)), .second, .val (.long (own_first (nar .boolean (0 : Int32)) start (taken + (1 : Int64)) count)), .second, .unset, .unset, .unset, .unset] [(.long (own_first (nar .boolean (0 : Int32)) start taken (count + (1 : Int64))))])) st78 ?_
    refine own_step (T78.setTop (mkF m 75 #[.val (.long start), .second, .val (.long size), .second, .val (.long taken), .second, .val (.long count), .second, .val (.int flag), .val (.int (0 : Int32)), .val (.ref b48), .val (.ref b57), .val (.long (own_first (nar .boolean (0 : Int32)) start taken count)), .second, .val (.long (own_first (nar .boolean (0 : Int32)) start (taken + (1 : Int64)) count)), .second, .val (.long (own_first (nar .boolean (0 : Int32)) start taken (count + (1 : Int64)))), .second, .unset, .unset] [])) (fun t₀ k₀ => XS.lstore X78.here hx rfl (hb hby at_73) rfl (l' := #[.val (.long start), .second, .val (.long size), .second, .val (.long taken), .second, .val (.long count), .second, .val (.int flag), .val (.int (0 : Int32)), .val (.ref b48), .val (.ref b57), .val (.long (own_first (nar .boolean (0 : Int32)) start taken count)), .second, .val (.long (own_first (nar .boolean (0 : Int32)) start (taken + (1 : Int64)) count)), .second, .val (.long (own_first (nar .boolean (0 : Int32)) start taken (count + (1 : Int64)))), .second, .unset, .unset]) rfl k₀) ?_
    refine own_step (T78.setTop (mkF m 77 #[.val (.long start), .second, .val (.long size), .second, .val (.long taken), .second, .val (.long count), .second, .val (.int flag), .val (.int (0 : Int32)), .val (.ref b48), .val (.ref b57), .val (.long (own_first (nar .boolean (0 : Int32)) start taken count)), .second, .val (.long (own_first (nar .boolean (0 : Int32)) start (taken + (1 : Int64)) count)), .second, .val (.long (own_first (nar .boolean (0 : Int32)) start taken (count + (1 : Int64)))), .second, .unset, .unset] [(.ref b57)])) (fun t₀ k₀ => XS.aload X78.here hx rfl (hb hby at_75) rfl rfl k₀) ?_
    refine own_step (T78.setTop (mkF m 78 #[.val (.long start), .second, .val (.long size), .second, .val (.long taken), .second, .val (.long count), .second, .val (.int flag), .val (.int (0 : Int32)), .val (.ref b48), .val (.ref b57), .val (.long (own_first (nar .boolean (0 : Int32)) start taken count)), .second, .val (.long (own_first (nar .boolean (0 : Int32)) start (taken + (1 : Int64)) count)), .second, .val (.long (own_first (nar .boolean (0 : Int32)) start taken (count + (1 : Int64)))), .second, .unset, .unset] [(.long (0 : Int64)), (.ref b57)])) (fun t₀ k₀ => XS.lconst X78.here hx rfl (hb hby at_77) k₀) ?_
    refine own_step (T78.setTop (mkF m 79 #[.val (.long start), .second, .val (.long size), .second, .val (.long taken), .second, .val (.long count), .second, .val (.int flag), .val (.int (0 : Int32)), .val (.ref b48), .val (.ref b57), .val (.long (own_first (nar .boolean (0 : Int32)) start taken count)), .second, .val (.long (own_first (nar .boolean (0 : Int32)) start (taken + (1 : Int64)) count)), .second, .val (.long (own_first (nar .boolean (0 : Int32)) start taken (count + (1 : Int64)))), .second, .unset, .unset] [(.long (1 : Int64)), (.long (0 : Int64)), (.ref b57)])) (fun t₀ k₀ => XS.lconst X78.here hx rfl (hb hby at_78) k₀) ?_
    obtain ⟨cq79, kq79, q79a, q79b, q79c⟩ := isOf hZ e78 f66
    obtain ⟨_, _, ⟨T79, L79, k79, n79⟩, -, X79, ⟨Lc79, hQ79, l79, y79, z79⟩, st79⟩ := X78.virtualBack hx (y := (⟨"com/example/cardinal_echo/cardinalecho/DistinctRange", "first", "(JJ)J"⟩ : MethodName)) (z := (⟨"com/example/cardinal_echo/cardinalecho/DistinctRange", "first", "(JJ)J"⟩ : MethodName)) hown (mvT hZ (hw _ (List.mem_of_getElem? (i := 46) rfl))) (mvT hZ (hw _ (List.mem_of_getElem? (i := 47) rfl))) (notFace_of_selects (args := #[]) (mvT hZ (hw _ (List.mem_of_getElem? (i := 49) rfl)))) (mvT hZ (hw _ (List.mem_of_getElem? (i := 49) rfl))) (mvT hZ (hw _ (List.mem_of_getElem? (i := 48) rfl))) (by decide) (backOf (W := 0) (rm7 l Z a0 hw [] b57 (0 : Int64) (1 : Int64) (nar .boolean (0 : Int32)) start T65.heap n0 z65' f68 f67) hZ (hw _ (List.mem_of_getElem? (i := 50) rfl)) (hw _ (List.mem_of_getElem? (i := 28) rfl)) (by decide) (by decide)) q79a q79c (g := (mkF m 79 #[.val (.long start), .second, .val (.long size), .second, .val (.long taken), .second, .val (.long count), .second, .val (.int flag), .val (.int (0 : Int32)), .val (.ref b48), .val (.ref b57), .val (.long (own_first (nar .boolean (0 : Int32)) start taken count)), .second, .val (.long (own_first (nar .boolean (0 : Int32)) start (taken + (1 : Int64)) count)), .second, .val (.long (own_first (nar .boolean (0 : Int32)) start taken (count + (1 : Int64)))), .second, .unset, .unset] [(.long (1 : Int64)), (.long (0 : Int64)), (.ref b57)])) rfl (by rw [hml]; rfl) (Steps.refl _) (argsL := [(.long (0 : Int64)), (.long (1 : Int64))]) (rest := []) (lenOf pd_2 rfl) rfl (by show 2 * 0 + _ ≤ _; exact Nat.le_of_eq rfl) (hb hby at_79) (fun _ _ => ⟨rfl, e78, (by decide : 2 + 0 ≤ _), (by decide : 7 + 0 ≤ _)⟩)
    dsimp only [Pt.U, Pt.locs, Pt.cells, Pt.slots] at X79 l79 y79 z79 st79 hQ79
    subst l79 y79 z79
    obtain ⟨rfl, N79q, e79⟩ := hQ79
    have N79 := Fr.app N78 N79q
    refine own_comes (T79.setTop (mkF m 82 #[.val (.long start), .second, .val (.long size), .second, .val (.long taken), .second, .val (.long count), .second, .val (.int flag), .val (.int (0 : Int32)), .val (.ref b48), .val (.ref b57), .val (.long (own_first (nar .boolean (0 : Int32)) start taken count)), .second, .val (.long (own_first (nar .boolean (0 : Int32)) start (taken + (1 : Int64)) count)), .second, .val (.long (own_first (nar .boolean (0 : Int32)) start taken (count + (1 : Int64)))), .second, .unset, .unset] [(.long (own_first (nar .boolean (0 : Int32)) start (0 : Int64) (1 : Int64)))])) st79 ?_
    refine own_step (T79.setTop (mkF m 84 #[.val (.long start), .second, .val (.long size), .second, .val (.long taken), .second, .val (.long count), .second, .val (.int flag), .val (.int (0 : Int32)), .val (.ref b48), .val (.ref b57), .val (.long (own_first (nar .boolean (0 : Int32)) start taken count)), .second, .val (.long (own_first (nar .boolean (0 : Int32)) start (taken + (1 : Int64)) count)), .second, .val (.long (own_first (nar .boolean (0 : Int32)) start taken (count + (1 : Int64)))), .second, .val (.long (own_first (nar .boolean (0 : Int32)) start (0 : Int64) (1 : Int64))), .second] [])) (fun t₀ k₀ => XS.lstore X79.here hx rfl (hb hby at_82) rfl (l' := #[.val (.long start), .second, .val (.long size), .second, .val (.long taken), .second, .val (.long count), .second, .val (.int flag), .val (.int (0 : Int32)), .val (.ref b48), .val (.ref b57), .val (.long (own_first (nar .boolean (0 : Int32)) start taken count)), .second, .val (.long (own_first (nar .boolean (0 : Int32)) start (taken + (1 : Int64)) count)), .second, .val (.long (own_first (nar .boolean (0 : Int32)) start taken (count + (1 : Int64)))), .second, .val (.long (own_first (nar .boolean (0 : Int32)) start (0 : Int64) (1 : Int64))), .second]) rfl k₀) ?_
    refine own_step (T79.setTop (mkF m 86 #[.val (.long start), .second, .val (.long size), .second, .val (.long taken), .second, .val (.long count), .second, .val (.int flag), .val (.int (0 : Int32)), .val (.ref b48), .val (.ref b57), .val (.long (own_first (nar .boolean (0 : Int32)) start taken count)), .second, .val (.long (own_first (nar .boolean (0 : Int32)) start (taken + (1 : Int64)) count)), .second, .val (.long (own_first (nar .boolean (0 : Int32)) start taken (count + (1 : Int64)))), .second, .val (.long (own_first (nar .boolean (0 : Int32)) start (0 : Int64) (1 : Int64))), .second] [(.long (own_first (nar .boolean (0 : Int32)) start (0 : Int64) (1 : Int64)))])) (fun t₀ k₀ => XS.lload X79.here hx rfl (hb hby at_84) rfl k₀) ?_
    refine own_step (T79.setTop (mkF m 87 #[.val (.long start), .second, .val (.long size), .second, .val (.long taken), .second, .val (.long count), .second, .val (.int flag), .val (.int (0 : Int32)), .val (.ref b48), .val (.ref b57), .val (.long (own_first (nar .boolean (0 : Int32)) start taken count)), .second, .val (.long (own_first (nar .boolean (0 : Int32)) start (taken + (1 : Int64)) count)), .second, .val (.long (own_first (nar .boolean (0 : Int32)) start taken (count + (1 : Int64)))), .second, .val (.long (own_first (nar .boolean (0 : Int32)) start (0 : Int64) (1 : Int64))), .second] [(.long start), (.long (own_first (nar .boolean (0 : Int32)) start (0 : Int64) (1 : Int64)))])) (fun t₀ k₀ => XS.lloadN X79.here hx rfl (hb hby at_86) rfl k₀) ?_
    refine own_step (T79.setTop (mkF m 88 #[.val (.long start), .second, .val (.long size), .second, .val (.long taken), .second, .val (.long count), .second, .val (.int flag), .val (.int (0 : Int32)), .val (.ref b48), .val (.ref b57), .val (.long (own_first (nar .boolean (0 : Int32)) start taken count)), .second, .val (.long (own_first (nar .boolean (0 : Int32)) start (taken + (1 : Int64)) count)), .second, .val (.long (own_first (nar .boolean (0 : Int32)) start taken (count + (1 : Int64)))), .second, .val (.long (own_first (nar .boolean (0 : Int32)) start (0 : Int64) (1 : Int64))), .second] [(.int (lcmpW (own_first (nar .boolean (0 : Int32)) start (0 : Int64) (1 : Int64)) start))])) (fun t₀ k₀ => XS.lcmp X79.here hx rfl (hb hby at_87) rfl k₀) ?_
    have hk80 : (own_first (nar .boolean (0 : Int32)) start (0 : Int64) (1 : Int64)) = start := own_base0 _
    refine own_step (T79.setTop (mkF m 93 #[.val (.long start), .second, .val (.long size), .second, .val (.long taken), .second, .val (.long count), .second, .val (.int flag), .val (.int (0 : Int32)), .val (.ref b48), .val (.ref b57), .val (.long (own_first (nar .boolean (0 : Int32)) start taken count)), .second, .val (.long (own_first (nar .boolean (0 : Int32)) start (taken + (1 : Int64)) count)), .second, .val (.long (own_first (nar .boolean (0 : Int32)) start taken (count + (1 : Int64)))), .second, .val (.long (own_first (nar .boolean (0 : Int32)) start (0 : Int64) (1 : Int64))), .second] [])) (fun t₀ k₀ => XS.ifYes X79.here hx rfl (pc0 := 88) (pc' := 93) rfl (hb hby at_88) rfl (own_leqT hk80) (by decide) (by decide) k₀) ?_
    refine own_step (T79.setTop (mkF m 95 #[.val (.long start), .second, .val (.long size), .second, .val (.long taken), .second, .val (.long count), .second, .val (.int flag), .val (.int (0 : Int32)), .val (.ref b48), .val (.ref b57), .val (.long (own_first (nar .boolean (0 : Int32)) start taken count)), .second, .val (.long (own_first (nar .boolean (0 : Int32)) start (taken + (1 : Int64)) count)), .second, .val (.long (own_first (nar .boolean (0 : Int32)) start taken (count + (1 : Int64)))), .second, .val (.long (own_first (nar .boolean (0 : Int32)) start (0 : Int64) (1 : Int64))), .second] [(.int (0 : Int32))])) (fun t₀ k₀ => XS.iload X79.here hx rfl (hb hby at_93) rfl k₀) ?_
    refine own_step (T79.setTop (mkF m 139 #[.val (.long start), .second, .val (.long size), .second, .val (.long taken), .second, .val (.long count), .second, .val (.int flag), .val (.int (0 : Int32)), .val (.ref b48), .val (.ref b57), .val (.long (own_first (nar .boolean (0 : Int32)) start taken count)), .second, .val (.long (own_first (nar .boolean (0 : Int32)) start (taken + (1 : Int64)) count)), .second, .val (.long (own_first (nar .boolean (0 : Int32)) start taken (count + (1 : Int64)))), .second, .val (.long (own_first (nar .boolean (0 : Int32)) start (0 : Int64) (1 : Int64))), .second] [])) (fun t₀ k₀ => XS.ifYes X79.here hx rfl (pc0 := 95) (pc' := 139) rfl (hb hby at_95) rfl (by decide) (by decide) (by decide) k₀) ?_
    refine own_step (T79.setTop (mkF m 141 #[.val (.long start), .second, .val (.long size), .second, .val (.long taken), .second, .val (.long count), .second, .val (.int flag), .val (.int (0 : Int32)), .val (.ref b48), .val (.ref b57), .val (.long (own_first (nar .boolean (0 : Int32)) start taken count)), .second, .val (.long (own_first (nar .boolean (0 : Int32)) start (taken + (1 : Int64)) count)), .second, .val (.long (own_first (nar .boolean (0 : Int32)) start taken (count + (1 : Int64)))), .second, .val (.long (own_first (nar .boolean (0 : Int32)) start (0 : Int64) (1 : Int64))), .second] [(.long (own_first (nar .boolean (0 : Int32)) start taken count))])) (fun t₀ k₀ => XS.lload X79.here hx rfl (hb hby at_139) rfl k₀) ?_
    refine own_step (T79.setTop (mkF m 142 #[.val (.long start), .second, .val (.long size), .second, .val (.long taken), .second, .val (.long count), .second, .val (.int flag), .val (.int (0 : Int32)), .val (.ref b48), .val (.ref b57), .val (.long (own_first (nar .boolean (0 : Int32)) start taken count)), .second, .val (.long (own_first (nar .boolean (0 : Int32)) start (taken + (1 : Int64)) count)), .second, .val (.long (own_first (nar .boolean (0 : Int32)) start taken (count + (1 : Int64)))), .second, .val (.long (own_first (nar .boolean (0 : Int32)) start (0 : Int64) (1 : Int64))), .second] [(.long start), (.long (own_first (nar .boolean (0 : Int32)) start taken count))])) (fun t₀ k₀ => XS.lloadN X79.here hx rfl (hb hby at_141) rfl k₀) ?_
    refine own_step (T79.setTop (mkF m 144 #[.val (.long start), .second, .val (.long size), .second, .val (.long taken), .second, .val (.long count), .second, .val (.int flag), .val (.int (0 : Int32)), .val (.ref b48), .val (.ref b57), .val (.long (own_first (nar .boolean (0 : Int32)) start taken count)), .second, .val (.long (own_first (nar .boolean (0 : Int32)) start (taken + (1 : Int64)) count)), .second, .val (.long (own_first (nar .boolean (0 : Int32)) start taken (count + (1 : Int64)))), .second, .val (.long (own_first (nar .boolean (0 : Int32)) start (0 : Int64) (1 : Int64))), .second] [(.long taken), (.long start), (.long (own_first (nar .boolean (0 : Int32)) start taken count))])) (fun t₀ k₀ => XS.lload X79.here hx rfl (hb hby at_142) rfl k₀) ?_
    refine own_step (T79.setTop (mkF m 145 #[.val (.long start), .second, .val (.long size), .second, .val (.long taken), .second, .val (.long count), .second, .val (.int flag), .val (.int (0 : Int32)), .val (.ref b48), .val (.ref b57), .val (.long (own_first (nar .boolean (0 : Int32)) start taken count)), .second, .val (.long (own_first (nar .boolean (0 : Int32)) start (taken + (1 : Int64)) count)), .second, .val (.long (own_first (nar .boolean (0 : Int32)) start taken (count + (1 : Int64)))), .second, .val (.long (own_first (nar .boolean (0 : Int32)) start (0 : Int64) (1 : Int64))), .second] [(.long (start + taken)), (.long (own_first (nar .boolean (0 : Int32)) start taken count))])) (fun t₀ k₀ => XS.ladd X79.here hx rfl (hb hby at_144) rfl k₀) ?_
    refine own_step (T79.setTop (mkF m 146 #[.val (.long start), .second, .val (.long size), .second, .val (.long taken), .second, .val (.long count), .second, .val (.int flag), .val (.int (0 : Int32)), .val (.ref b48), .val (.ref b57), .val (.long (own_first (nar .boolean (0 : Int32)) start taken count)), .second, .val (.long (own_first (nar .boolean (0 : Int32)) start (taken + (1 : Int64)) count)), .second, .val (.long (own_first (nar .boolean (0 : Int32)) start taken (count + (1 : Int64)))), .second, .val (.long (own_first (nar .boolean (0 : Int32)) start (0 : Int64) (1 : Int64))), .second] [(.int (lcmpW (own_first (nar .boolean (0 : Int32)) start taken count) (start + taken)))])) (fun t₀ k₀ => XS.lcmp X79.here hx rfl (hb hby at_145) rfl k₀) ?_
    have hk81 : (own_first (nar .boolean (0 : Int32)) start taken count) = (start + taken) := own_u1 _ _ _
    refine own_step (T79.setTop (mkF m 149 #[.val (.long start), .second, .val (.long size), .second, .val (.long taken), .second, .val (.long count), .second, .val (.int flag), .val (.int (0 : Int32)), .val (.ref b48), .val (.ref b57), .val (.long (own_first (nar .boolean (0 : Int32)) start taken count)), .second, .val (.long (own_first (nar .boolean (0 : Int32)) start (taken + (1 : Int64)) count)), .second, .val (.long (own_first (nar .boolean (0 : Int32)) start taken (count + (1 : Int64)))), .second, .val (.long (own_first (nar .boolean (0 : Int32)) start (0 : Int64) (1 : Int64))), .second] [])) (fun t₀ k₀ => XS.ifNo X79.here hx rfl (hb hby at_146) rfl (own_lneF hk81) k₀) ?_
    refine own_step (T79.setTop (mkF m 151 #[.val (.long start), .second, .val (.long size), .second, .val (.long taken), .second, .val (.long count), .second, .val (.int flag), .val (.int (0 : Int32)), .val (.ref b48), .val (.ref b57), .val (.long (own_first (nar .boolean (0 : Int32)) start taken count)), .second, .val (.long (own_first (nar .boolean (0 : Int32)) start (taken + (1 : Int64)) count)), .second, .val (.long (own_first (nar .boolean (0 : Int32)) start taken (count + (1 : Int64)))), .second, .val (.long (own_first (nar .boolean (0 : Int32)) start (0 : Int64) (1 : Int64))), .second] [(.long (own_first (nar .boolean (0 : Int32)) start (taken + (1 : Int64)) count))])) (fun t₀ k₀ => XS.lload X79.here hx rfl (hb hby at_149) rfl k₀) ?_
    refine own_step (T79.setTop (mkF m 153 #[.val (.long start), .second, .val (.long size), .second, .val (.long taken), .second, .val (.long count), .second, .val (.int flag), .val (.int (0 : Int32)), .val (.ref b48), .val (.ref b57), .val (.long (own_first (nar .boolean (0 : Int32)) start taken count)), .second, .val (.long (own_first (nar .boolean (0 : Int32)) start (taken + (1 : Int64)) count)), .second, .val (.long (own_first (nar .boolean (0 : Int32)) start taken (count + (1 : Int64)))), .second, .val (.long (own_first (nar .boolean (0 : Int32)) start (0 : Int64) (1 : Int64))), .second] [(.long (own_first (nar .boolean (0 : Int32)) start taken count)), (.long (own_first (nar .boolean (0 : Int32)) start (taken + (1 : Int64)) count))])) (fun t₀ k₀ => XS.lload X79.here hx rfl (hb hby at_151) rfl k₀) ?_
    refine own_step (T79.setTop (mkF m 154 #[.val (.long start), .second, .val (.long size), .second, .val (.long taken), .second, .val (.long count), .second, .val (.int flag), .val (.int (0 : Int32)), .val (.ref b48), .val (.ref b57), .val (.long (own_first (nar .boolean (0 : Int32)) start taken count)), .second, .val (.long (own_first (nar .boolean (0 : Int32)) start (taken + (1 : Int64)) count)), .second, .val (.long (own_first (nar .boolean (0 : Int32)) start taken (count + (1 : Int64)))), .second, .val (.long (own_first (nar .boolean (0 : Int32)) start (0 : Int64) (1 : Int64))), .second] [(.long (1 : Int64)), (.long (own_first (nar .boolean (0 : Int32)) start taken count)), (.long (own_first (nar .boolean (0 : Int32)) start (taken + (1 : Int64)) count))])) (fun t₀ k₀ => XS.lconst X79.here hx rfl (hb hby at_153) k₀) ?_
    refine own_step (T79.setTop (mkF m 155 #[.val (.long start), .second, .val (.long size), .second, .val (.long taken), .second, .val (.long count), .second, .val (.int flag), .val (.int (0 : Int32)), .val (.ref b48), .val (.ref b57), .val (.long (own_first (nar .boolean (0 : Int32)) start taken count)), .second, .val (.long (own_first (nar .boolean (0 : Int32)) start (taken + (1 : Int64)) count)), .second, .val (.long (own_first (nar .boolean (0 : Int32)) start taken (count + (1 : Int64)))), .second, .val (.long (own_first (nar .boolean (0 : Int32)) start (0 : Int64) (1 : Int64))), .second] [(.long ((own_first (nar .boolean (0 : Int32)) start taken count) + (1 : Int64))), (.long (own_first (nar .boolean (0 : Int32)) start (taken + (1 : Int64)) count))])) (fun t₀ k₀ => XS.ladd X79.here hx rfl (hb hby at_154) rfl k₀) ?_
    refine own_step (T79.setTop (mkF m 156 #[.val (.long start), .second, .val (.long size), .second, .val (.long taken), .second, .val (.long count), .second, .val (.int flag), .val (.int (0 : Int32)), .val (.ref b48), .val (.ref b57), .val (.long (own_first (nar .boolean (0 : Int32)) start taken count)), .second, .val (.long (own_first (nar .boolean (0 : Int32)) start (taken + (1 : Int64)) count)), .second, .val (.long (own_first (nar .boolean (0 : Int32)) start taken (count + (1 : Int64)))), .second, .val (.long (own_first (nar .boolean (0 : Int32)) start (0 : Int64) (1 : Int64))), .second] [(.int (lcmpW (own_first (nar .boolean (0 : Int32)) start (taken + (1 : Int64)) count) ((own_first (nar .boolean (0 : Int32)) start taken count) + (1 : Int64))))])) (fun t₀ k₀ => XS.lcmp X79.here hx rfl (hb hby at_155) rfl k₀) ?_
    have hk82 : (own_first (nar .boolean (0 : Int32)) start (taken + (1 : Int64)) count) = ((own_first (nar .boolean (0 : Int32)) start taken count) + (1 : Int64)) := own_u2 _ _ _
    refine own_step (T79.setTop (mkF m 159 #[.val (.long start), .second, .val (.long size), .second, .val (.long taken), .second, .val (.long count), .second, .val (.int flag), .val (.int (0 : Int32)), .val (.ref b48), .val (.ref b57), .val (.long (own_first (nar .boolean (0 : Int32)) start taken count)), .second, .val (.long (own_first (nar .boolean (0 : Int32)) start (taken + (1 : Int64)) count)), .second, .val (.long (own_first (nar .boolean (0 : Int32)) start taken (count + (1 : Int64)))), .second, .val (.long (own_first (nar .boolean (0 : Int32)) start (0 : Int64) (1 : Int64))), .second] [])) (fun t₀ k₀ => XS.ifNo X79.here hx rfl (hb hby at_156) rfl (own_lneF hk82) k₀) ?_
    refine own_step (T79.setTop (mkF m 161 #[.val (.long start), .second, .val (.long size), .second, .val (.long taken), .second, .val (.long count), .second, .val (.int flag), .val (.int (0 : Int32)), .val (.ref b48), .val (.ref b57), .val (.long (own_first (nar .boolean (0 : Int32)) start taken count)), .second, .val (.long (own_first (nar .boolean (0 : Int32)) start (taken + (1 : Int64)) count)), .second, .val (.long (own_first (nar .boolean (0 : Int32)) start taken (count + (1 : Int64)))), .second, .val (.long (own_first (nar .boolean (0 : Int32)) start (0 : Int64) (1 : Int64))), .second] [(.long (own_first (nar .boolean (0 : Int32)) start taken (count + (1 : Int64))))])) (fun t₀ k₀ => XS.lload X79.here hx rfl (hb hby at_159) rfl k₀) ?_
    refine own_step (T79.setTop (mkF m 163 #[.val (.long start), .second, .val (.long size), .second, .val (.long taken), .second, .val (.long count), .second, .val (.int flag), .val (.int (0 : Int32)), .val (.ref b48), .val (.ref b57), .val (.long (own_first (nar .boolean (0 : Int32)) start taken count)), .second, .val (.long (own_first (nar .boolean (0 : Int32)) start (taken + (1 : Int64)) count)), .second, .val (.long (own_first (nar .boolean (0 : Int32)) start taken (count + (1 : Int64)))), .second, .val (.long (own_first (nar .boolean (0 : Int32)) start (0 : Int64) (1 : Int64))), .second] [(.long (own_first (nar .boolean (0 : Int32)) start taken count)), (.long (own_first (nar .boolean (0 : Int32)) start taken (count + (1 : Int64))))])) (fun t₀ k₀ => XS.lload X79.here hx rfl (hb hby at_161) rfl k₀) ?_
    refine own_step (T79.setTop (mkF m 164 #[.val (.long start), .second, .val (.long size), .second, .val (.long taken), .second, .val (.long count), .second, .val (.int flag), .val (.int (0 : Int32)), .val (.ref b48), .val (.ref b57), .val (.long (own_first (nar .boolean (0 : Int32)) start taken count)), .second, .val (.long (own_first (nar .boolean (0 : Int32)) start (taken + (1 : Int64)) count)), .second, .val (.long (own_first (nar .boolean (0 : Int32)) start taken (count + (1 : Int64)))), .second, .val (.long (own_first (nar .boolean (0 : Int32)) start (0 : Int64) (1 : Int64))), .second] [(.int (lcmpW (own_first (nar .boolean (0 : Int32)) start taken (count + (1 : Int64))) (own_first (nar .boolean (0 : Int32)) start taken count)))])) (fun t₀ k₀ => XS.lcmp X79.here hx rfl (hb hby at_163) rfl k₀) ?_
    have hk83 : (own_first (nar .boolean (0 : Int32)) start taken (count + (1 : Int64))) = (own_first (nar .boolean (0 : Int32)) start taken count) := own_u3 _ _ _
    refine own_step (T79.setTop (mkF m 167 #[.val (.long start), .second, .val (.long size), .second, .val (.long taken), .second, .val (.long count), .second, .val (.int flag), .val (.int (0 : Int32)), .val (.ref b48), .val (.ref b57), .val (.long (own_first (nar .boolean (0 : Int32)) start taken count)), .second, .val (.long (own_first (nar .boolean (0 : Int32)) start (taken + (1 : Int64)) count)), .second, .val (.long (own_first (nar .boolean (0 : Int32)) start taken (count + (1 : Int64)))), .second, .val (.long (own_first (nar .boolean (0 : Int32)) start (0 : Int64) (1 : Int64))), .second] [])) (fun t₀ k₀ => XS.ifNo X79.here hx rfl (hb hby at_164) rfl (own_lneF hk83) k₀) ?_
    refine own_step (T79.setTop (mkF m 168 #[.val (.long start), .second, .val (.long size), .second, .val (.long taken), .second, .val (.long count), .second, .val (.int flag), .val (.int (0 : Int32)), .val (.ref b48), .val (.ref b57), .val (.long (own_first (nar .boolean (0 : Int32)) start taken count)), .second, .val (.long (own_first (nar .boolean (0 : Int32)) start (taken + (1 : Int64)) count)), .second, .val (.long (own_first (nar .boolean (0 : Int32)) start taken (count + (1 : Int64)))), .second, .val (.long (own_first (nar .boolean (0 : Int32)) start (0 : Int64) (1 : Int64))), .second] [(.int (1 : Int32))])) (fun t₀ k₀ => XS.iconst X79.here hx rfl (hb hby at_167) k₀) ?_
    refine own_step (T79.setTop (mkF m 172 #[.val (.long start), .second, .val (.long size), .second, .val (.long taken), .second, .val (.long count), .second, .val (.int flag), .val (.int (0 : Int32)), .val (.ref b48), .val (.ref b57), .val (.long (own_first (nar .boolean (0 : Int32)) start taken count)), .second, .val (.long (own_first (nar .boolean (0 : Int32)) start (taken + (1 : Int64)) count)), .second, .val (.long (own_first (nar .boolean (0 : Int32)) start taken (count + (1 : Int64)))), .second, .val (.long (own_first (nar .boolean (0 : Int32)) start (0 : Int64) (1 : Int64))), .second] [(.int (1 : Int32))])) (fun t₀ k₀ => XS.goto X79.here hx rfl (pc0 := 168) (pc' := 172) rfl (hb hby at_168) (by decide) (by decide) k₀) ?_
    obtain ⟨fs, hr, hrun, hended, hW, hsame⟩ := X79.leave (v := some (.int (1 : Int32))) (fun h => by rw [Bd.returns] at h; cases h)
    refine ⟨_, _, ?_, hrun, hended, _, _, rfl, ?_, ⟨_, rfl⟩, hW, hsame.mono (by decide) (by decide)⟩
    · exact retN X79 hx (t := .boolean) Bd.returns (by simp) (hb hby at_172) hr
    · show Q_rm0 Z start size taken count flag ed h0 n0 _ T79.heap _
      rw [e79]
      exact ⟨rfl, N79⟩
  · skip
    refine own_step (s₁.setTop (mkF m 7 #[.val (.long start), .second, .val (.long size), .second, .val (.long taken), .second, .val (.long count), .second, .val (.int flag), .unset, .unset, .unset, .unset, .unset, .unset, .unset, .unset, .unset, .unset, .unset] [])) (fun t₀ k₀ => XS.ifNo X0.here hx rfl (hb hby at_4) rfl ((if0 _ _).trans (feq hc4).1) k₀) ?_
    refine own_step (s₁.setTop (mkF m 8 #[.val (.long start), .second, .val (.long size), .second, .val (.long taken), .second, .val (.long count), .second, .val (.int flag), .unset, .unset, .unset, .unset, .unset, .unset, .unset, .unset, .unset, .unset, .unset] [(.int (1 : Int32))])) (fun t₀ k₀ => XS.iconst X0.here hx rfl (hb hby at_7) k₀) ?_
    refine own_step (s₁.setTop (mkF m 12 #[.val (.long start), .second, .val (.long size), .second, .val (.long taken), .second, .val (.long count), .second, .val (.int flag), .unset, .unset, .unset, .unset, .unset, .unset, .unset, .unset, .unset, .unset, .unset] [(.int (1 : Int32))])) (fun t₀ k₀ => XS.goto X0.here hx rfl (pc0 := 8) (pc' := 12) rfl (hb hby at_8) (by decide) (by decide) k₀) ?_
    refine own_step (s₁.setTop (mkF m 14 #[.val (.long start), .second, .val (.long size), .second, .val (.long taken), .second, .val (.long count), .second, .val (.int flag), .val (.int (1 : Int32)), .unset, .unset, .unset, .unset, .unset, .unset, .unset, .unset, .unset, .unset] [])) (fun t₀ k₀ => XS.istore X0.here hx rfl (hb hby at_12) rfl (l' := #[.val (.long start), .second, .val (.long size), .second, .val (.long taken), .second, .val (.long count), .second, .val (.int flag), .val (.int (1 : Int32)), .unset, .unset, .unset, .unset, .unset, .unset, .unset, .unset, .unset, .unset]) rfl k₀) ?_
    obtain ⟨T84, h84, X84, e84, E84, A84, D84, -, st84⟩ := newO X0 hx hZ hown (hw _ (List.mem_of_getElem? (i := 0) rfl)) (hw _ (List.mem_of_getElem? (i := 1) rfl)) (hw _ (List.mem_of_getElem? (i := 2) rfl)) e0 (g := (mkF m 14 #[.val (.long start), .second, .val (.long size), .second, .val (.long taken), .second, .val (.long count), .second, .val (.int flag), .val (.int (1 : Int32)), .unset, .unset, .unset, .unset, .unset, .unset, .unset, .unset, .unset, .unset] [])) rfl (hb hby at_14) (by decide) (by decide)
    obtain ⟨b84, g84⟩ : ∃ z, z = h0.size := ⟨_, rfl⟩
    rw [← g84] at A84 D84 st84
    have fr_b84 : n0 ≤ b84 := Nat.le_trans Z0 (Nat.le_of_eq g84.symm)
    have f85 : Sta Z h84 "java/util/ArrayList" "DEFAULTCAPACITY_EMPTY_ELEMENTDATA" "[Ljava/lang/Object;" (.ref ed) := Se.ext E84
    have f86 : Fld Z h84 b84 "java/util/AbstractList" "modCount" "I" (.int (0 : Int32)) := D84 (Or.inl (hw _ (List.mem_of_getElem? (i := 22) rfl))) (ty := .int) (by decide)
    have f87 : Fld Z h84 b84 "java/util/ArrayList" "elementData" "[Ljava/lang/Object;" .null := D84 (Or.inl (hw _ (List.mem_of_getElem? (i := 25) rfl))) (ty := (.array (.object "java/lang/Object"))) (by decide)
    have z84 : n0 ≤ h84.size := Nat.le_trans Z0 E84.1
    refine own_step (T84.setTop (mkF m 17 #[.val (.long start), .second, .val (.long size), .second, .val (.long taken), .second, .val (.long count), .second, .val (.int flag), .val (.int (1 : Int32)), .unset, .unset, .unset, .unset, .unset, .unset, .unset, .unset, .unset, .unset] [(.ref b84)])) (fun t₀ k₀ => st84 t₀ k₀) ?_
    refine own_step (T84.setTop (mkF m 18 #[.val (.long start), .second, .val (.long size), .second, .val (.long taken), .second, .val (.long count), .second, .val (.int flag), .val (.int (1 : Int32)), .unset, .unset, .unset, .unset, .unset, .unset, .unset, .unset, .unset, .unset] [(.ref b84), (.ref b84)])) (fun t₀ k₀ => XS.dup X84.here hx rfl (hb hby at_17) rfl rfl k₀) ?_
    obtain ⟨_, _, ⟨T88, L88, k88, n88⟩, -, X88, ⟨Lc88, hQ88, l88, y88, z88⟩, st88⟩ := X84.specialBack hx (y := (⟨"java/util/ArrayList", "<init>", "()V"⟩ : MethodName)) rfl hown (mvT hZ (hw _ (List.mem_of_getElem? (i := 3) rfl))) (mvT hZ (hw _ (List.mem_of_getElem? (i := 4) rfl))) (mvT hZ (hw _ (List.mem_of_getElem? (i := 5) rfl))) (by decide) (backOf (W := 1) (rm1 l Z a0 hw [] b84 (0 : Int32) ed h84 n0 z84 A84 f86 f87 f85 fr_b84) hZ (hw _ (List.mem_of_getElem? (i := 5) rfl)) (hw _ (List.mem_of_getElem? (i := 2) rfl)) (by decide) (by decide)) (g := (mkF m 18 #[.val (.long start), .second, .val (.long size), .second, .val (.long taken), .second, .val (.long count), .second, .val (.int flag), .val (.int (1 : Int32)), .unset, .unset, .unset, .unset, .unset, .unset, .unset, .unset, .unset, .unset] [(.ref b84), (.ref b84)])) rfl (by rw [hml]; rfl) (Steps.refl _) (a := b84) (argsL := []) (rest := [(.ref b84)]) (lenOf pd_0 rfl) rfl (by show 2 * 0 + _ ≤ _; exact Nat.le_of_eq rfl) (hb hby at_18) (fun _ _ => ⟨rfl, e84, (by decide : 1 + 0 ≤ _), (by decide : 3 + 0 ≤ _)⟩)
    dsimp only [Pt.U, Pt.locs, Pt.cells, Pt.slots] at X88 l88 y88 z88 st88 hQ88
    subst l88 y88 z88
    obtain ⟨rfl, N88q, K88⟩ := hQ88
    have N88 := Fr.app N0 N88q
    have f89 : Sta Z T88.heap "java/util/ArrayList" "DEFAULTCAPACITY_EMPTY_ELEMENTDATA" "[Ljava/lang/Object;" (.ref ed) := own_sta_keep f85 K88 (nsS A84.nostat ns0)
    have f90 : Exa Z T88.heap b84 "java/util/ArrayList" := A84.keep K88
    have z88' : n0 ≤ T88.heap.size := Nat.le_trans z84 K88.1
    refine own_comes (T88.setTop (mkF m 21 #[.val (.long start), .second, .val (.long size), .second, .val (.long taken), .second, .val (.long count), .second, .val (.int flag), .val (.int (1 : Int32)), .unset, .unset, .unset, .unset, .unset, .unset, .unset, .unset, .unset, .unset] [(.ref b84)])) st88 ?_
    refine own_step (T88.setTop (mkF m 23 #[.val (.long start), .second, .val (.long size), .second, .val (.long taken), .second, .val (.long count), .second, .val (.int flag), .val (.int (1 : Int32)), .val (.ref b84), .unset, .unset, .unset, .unset, .unset, .unset, .unset, .unset, .unset] [])) (fun t₀ k₀ => XS.astore X88.here hx rfl (hb hby at_21) rfl rfl (l' := #[.val (.long start), .second, .val (.long size), .second, .val (.long taken), .second, .val (.long count), .second, .val (.int flag), .val (.int (1 : Int32)), .val (.ref b84), .unset, .unset, .unset, .unset, .unset, .unset, .unset, .unset, .unset]) rfl k₀) ?_
    obtain ⟨T93, h93, X93, e93, E93, A93, D93, -, st93⟩ := newO X88 hx hZ hown (hw _ (List.mem_of_getElem? (i := 26) rfl)) (hw _ (List.mem_of_getElem? (i := 27) rfl)) (hw _ (List.mem_of_getElem? (i := 28) rfl)) rfl (g := (mkF m 23 #[.val (.long start), .second, .val (.long size), .second, .val (.long taken), .second, .val (.long count), .second, .val (.int flag), .val (.int (1 : Int32)), .val (.ref b84), .unset, .unset, .unset, .unset, .unset, .unset, .unset, .unset, .unset] [])) rfl (hb hby at_23) (by decide) (by decide)
    obtain ⟨b93, g93⟩ : ∃ z, z = T88.heap.size := ⟨_, rfl⟩
    rw [← g93] at A93 D93 st93
    have ne94 : b84 ≠ b93 := Nat.ne_of_lt (Nat.lt_of_lt_of_le f90.lt (Nat.le_of_eq g93.symm))
    have fr_b93 : n0 ≤ b93 := Nat.le_trans z88' (Nat.le_of_eq g93.symm)
    have f95 : Sta Z h93 "java/util/ArrayList" "DEFAULTCAPACITY_EMPTY_ELEMENTDATA" "[Ljava/lang/Object;" (.ref ed) := f89.ext E93
    have f96 : Exa Z h93 b84 "java/util/ArrayList" := f90.ext E93
    have f97 : Fld Z h93 b93 "com/example/cardinal_echo/cardinalecho/DistinctRange" "start" "J" (.long (0 : Int64)) := D93 (Or.inr (hw _ (List.mem_of_getElem? (i := 39) rfl))) (ty := .long) (by decide)
    have f98 : Fld Z h93 b93 "com/example/cardinal_echo/cardinalecho/DistinctRange" "size" "J" (.long (0 : Int64)) := D93 (Or.inr (hw _ (List.mem_of_getElem? (i := 41) rfl))) (ty := .long) (by decide)
    have f99 : Fld Z h93 b93 "com/example/cardinal_echo/cardinalecho/DistinctRange" "downward" "Z" (.int (0 : Int32)) := D93 (Or.inr (hw _ (List.mem_of_getElem? (i := 43) rfl))) (ty := .boolean) (by decide)
    have f100 : Fld Z h93 b93 "com/example/cardinal_echo/cardinalecho/DistinctRange" "words" "Ljava/util/List;" .null := D93 (Or.inr (hw _ (List.mem_of_getElem? (i := 45) rfl))) (ty := (.object "java/util/List")) (by decide)
    have z93 : n0 ≤ h93.size := Nat.le_trans z88' E93.1
    refine own_step (T93.setTop (mkF m 26 #[.val (.long start), .second, .val (.long size), .second, .val (.long taken), .second, .val (.long count), .second, .val (.int flag), .val (.int (1 : Int32)), .val (.ref b84), .unset, .unset, .unset, .unset, .unset, .unset, .unset, .unset, .unset] [(.ref b93)])) (fun t₀ k₀ => st93 t₀ k₀) ?_
    refine own_step (T93.setTop (mkF m 27 #[.val (.long start), .second, .val (.long size), .second, .val (.long taken), .second, .val (.long count), .second, .val (.int flag), .val (.int (1 : Int32)), .val (.ref b84), .unset, .unset, .unset, .unset, .unset, .unset, .unset, .unset, .unset] [(.ref b93), (.ref b93)])) (fun t₀ k₀ => XS.dup X93.here hx rfl (hb hby at_26) rfl rfl k₀) ?_
    refine own_step (T93.setTop (mkF m 28 #[.val (.long start), .second, .val (.long size), .second, .val (.long taken), .second, .val (.long count), .second, .val (.int flag), .val (.int (1 : Int32)), .val (.ref b84), .unset, .unset, .unset, .unset, .unset, .unset, .unset, .unset, .unset] [(.long start), (.ref b93), (.ref b93)])) (fun t₀ k₀ => XS.lloadN X93.here hx rfl (hb hby at_27) rfl k₀) ?_
    refine own_step (T93.setTop (mkF m 29 #[.val (.long start), .second, .val (.long size), .second, .val (.long taken), .second, .val (.long count), .second, .val (.int flag), .val (.int (1 : Int32)), .val (.ref b84), .unset, .unset, .unset, .unset, .unset, .unset, .unset, .unset, .unset] [(.long size), (.long start), (.ref b93), (.ref b93)])) (fun t₀ k₀ => XS.lloadN X93.here hx rfl (hb hby at_28) rfl k₀) ?_
    refine own_step (T93.setTop (mkF m 31 #[.val (.long start), .second, .val (.long size), .second, .val (.long taken), .second, .val (.long count), .second, .val (.int flag), .val (.int (1 : Int32)), .val (.ref b84), .unset, .unset, .unset, .unset, .unset, .unset, .unset, .unset, .unset] [(.int (1 : Int32)), (.long size), (.long start), (.ref b93), (.ref b93)])) (fun t₀ k₀ => XS.iload X93.here hx rfl (hb hby at_29) rfl k₀) ?_
    refine own_step (T93.setTop (mkF m 33 #[.val (.long start), .second, .val (.long size), .second, .val (.long taken), .second, .val (.long count), .second, .val (.int flag), .val (.int (1 : Int32)), .val (.ref b84), .unset, .unset, .unset, .unset, .unset, .unset, .unset, .unset, .unset] [(.ref b84), (.int (1 : Int32)), (.long size), (.long start), (.ref b93), (.ref b93)])) (fun t₀ k₀ => XS.aload X93.here hx rfl (hb hby at_31) rfl rfl k₀) ?_
    obtain ⟨_, _, ⟨T101, L101, k101, n101⟩, -, X101, ⟨Lc101, hQ101, l101, y101, z101⟩, st101⟩ := X93.specialBack hx (y := (⟨"com/example/cardinal_echo/cardinalecho/DistinctRange", "<init>", "(JJZLjava/util/List;)V"⟩ : MethodName)) rfl hown (mvT hZ (hw _ (List.mem_of_getElem? (i := 29) rfl))) (mvT hZ (hw _ (List.mem_of_getElem? (i := 30) rfl))) (mvT hZ (hw _ (List.mem_of_getElem? (i := 31) rfl))) (by decide) (backOf (W := 1) (rm5 l Z a0 hw [] b93 start size (1 : Int32) b84 (0 : Int64) (0 : Int64) (0 : Int32) h93 n0 z93 A93 f97 f98 f99 f100 fr_b93) hZ (hw _ (List.mem_of_getElem? (i := 31) rfl)) (hw _ (List.mem_of_getElem? (i := 28) rfl)) (by decide) (by decide)) (g := (mkF m 33 #[.val (.long start), .second, .val (.long size), .second, .val (.long taken), .second, .val (.long count), .second, .val (.int flag), .val (.int (1 : Int32)), .val (.ref b84), .unset, .unset, .unset, .unset, .unset, .unset, .unset, .unset, .unset] [(.ref b84), (.int (1 : Int32)), (.long size), (.long start), (.ref b93), (.ref b93)])) rfl (by rw [hml]; rfl) (Steps.refl _) (a := b93) (argsL := [(.long start), (.long size), (.int (1 : Int32)), (.ref b84)]) (rest := [(.ref b93)]) (lenOf pd_1 rfl) rfl (by show 2 * 0 + _ ≤ _; exact Nat.le_of_eq rfl) (hb hby at_33) (fun _ _ => ⟨rfl, e93, (by decide : 2 + 0 ≤ _), (by decide : 7 + 0 ≤ _)⟩)
    dsimp only [Pt.U, Pt.locs, Pt.cells, Pt.slots] at X101 l101 y101 z101 st101 hQ101
    subst l101 y101 z101
    obtain ⟨rfl, N101q, K101, f102, f103, f104⟩ := hQ101
    have N101 := Fr.app N88 N101q
    have f105 : Sta Z T101.heap "java/util/ArrayList" "DEFAULTCAPACITY_EMPTY_ELEMENTDATA" "[Ljava/lang/Object;" (.ref ed) := own_sta_keep f95 K101 (nsS A93.nostat ns0)
    have f106 : Exa Z T101.heap b84 "java/util/ArrayList" := f96.keep K101
    have f107 : Exa Z T101.heap b93 "com/example/cardinal_echo/cardinalecho/DistinctRange" := A93.keep K101
    have z101' : n0 ≤ T101.heap.size := Nat.le_trans z93 K101.1
    refine own_comes (T101.setTop (mkF m 36 #[.val (.long start), .second, .val (.long size), .second, .val (.long taken), .second, .val (.long count), .second, .val (.int flag), .val (.int (1 : Int32)), .val (.ref b84), .unset, .unset, .unset, .unset, .unset, .unset, .unset, .unset, .unset] [(.ref b93)])) st101 ?_
    refine own_step (T101.setTop (mkF m 38 #[.val (.long start), .second, .val (.long size), .second, .val (.long taken), .second, .val (.long count), .second, .val (.int flag), .val (.int (1 : Int32)), .val (.ref b84), .val (.ref b93), .unset, .unset, .unset, .unset, .unset, .unset, .unset, .unset] [])) (fun t₀ k₀ => XS.astore X101.here hx rfl (hb hby at_36) rfl rfl (l' := #[.val (.long start), .second, .val (.long size), .second, .val (.long taken), .second, .val (.long count), .second, .val (.int flag), .val (.int (1 : Int32)), .val (.ref b84), .val (.ref b93), .unset, .unset, .unset, .unset, .unset, .unset, .unset, .unset]) rfl k₀) ?_
    refine own_step (T101.setTop (mkF m 40 #[.val (.long start), .second, .val (.long size), .second, .val (.long taken), .second, .val (.long count), .second, .val (.int flag), .val (.int (1 : Int32)), .val (.ref b84), .val (.ref b93), .unset, .unset, .unset, .unset, .unset, .unset, .unset, .unset] [(.ref b93)])) (fun t₀ k₀ => XS.aload X101.here hx rfl (hb hby at_38) rfl rfl k₀) ?_
    refine own_step (T101.setTop (mkF m 42 #[.val (.long start), .second, .val (.long size), .second, .val (.long taken), .second, .val (.long count), .second, .val (.int flag), .val (.int (1 : Int32)), .val (.ref b84), .val (.ref b93), .unset, .unset, .unset, .unset, .unset, .unset, .unset, .unset] [(.long taken), (.ref b93)])) (fun t₀ k₀ => XS.lload X101.here hx rfl (hb hby at_40) rfl k₀) ?_
    refine own_step (T101.setTop (mkF m 44 #[.val (.long start), .second, .val (.long size), .second, .val (.long taken), .second, .val (.long count), .second, .val (.int flag), .val (.int (1 : Int32)), .val (.ref b84), .val (.ref b93), .unset, .unset, .unset, .unset, .unset, .unset, .unset, .unset] [(.long count), (.long taken), (.ref b93)])) (fun t₀ k₀ => XS.lload X101.here hx rfl (hb hby at_42) rfl k₀) ?_
    obtain ⟨cq112, kq112, q112a, q112b, q112c⟩ := isOf hZ rfl f102
    obtain ⟨_, _, ⟨T112, L112, k112, n112⟩, -, X112, ⟨Lc112, hQ112, l112, y112, z112⟩, st112⟩ := X101.virtualBack hx (y := (⟨"com/example/cardinal_echo/cardinalecho/DistinctRange", "first", "(JJ)J"⟩ : MethodName)) (z := (⟨"com/example/cardinal_echo/cardinalecho/DistinctRange", "first", "(JJ)J"⟩ : MethodName)) hown (mvT hZ (hw _ (List.mem_of_getElem? (i := 46) rfl))) (mvT hZ (hw _ (List.mem_of_getElem? (i := 47) rfl))) (notFace_of_selects (args := #[]) (mvT hZ (hw _ (List.mem_of_getElem? (i := 49) rfl)))) (mvT hZ (hw _ (List.mem_of_getElem? (i := 49) rfl))) (mvT hZ (hw _ (List.mem_of_getElem? (i := 48) rfl))) (by decide) (backOf (W := 0) (rm7 l Z a0 hw [] b93 taken count (nar .boolean (1 : Int32)) start T101.heap n0 z101' f104 f103) hZ (hw _ (List.mem_of_getElem? (i := 50) rfl)) (hw _ (List.mem_of_getElem? (i := 28) rfl)) (by decide) (by decide)) q112a q112c (g := (mkF m 44 #[.val (.long start), .second, .val (.long size), .second, .val (.long taken), .second, .val (.long count), .second, .val (.int flag), .val (.int (1 : Int32)), .val (.ref b84), .val (.ref b93), .unset, .unset, .unset, .unset, .unset, .unset, .unset, .unset] [(.long count), (.long taken), (.ref b93)])) rfl (by rw [hml]; rfl) (Steps.refl _) (argsL := [(.long taken), (.long count)]) (rest := []) (lenOf pd_2 rfl) rfl (by show 2 * 0 + _ ≤ _; exact Nat.le_of_eq rfl) (hb hby at_44) (fun _ _ => ⟨rfl, rfl, (by decide : 2 + 0 ≤ _), (by decide : 7 + 0 ≤ _)⟩)
    dsimp only [Pt.U, Pt.locs, Pt.cells, Pt.slots] at X112 l112 y112 z112 st112 hQ112
    subst l112 y112 z112
    obtain ⟨rfl, N112q, e112⟩ := hQ112
    have N112 := Fr.app N101 N112q
    refine own_comes (T112.setTop (mkF m 47 #[.val (.long start), .second, .val (.long size), .second, .val (.long taken), .second, .val (.long count), .second, .val (.int flag), .val (.int (1 : Int32)), .val (.ref b84), .val (.ref b93), .unset, .unset, .unset, .unset, .unset, .unset, .unset, .unset] [(.long (own_first (nar .boolean (1 : Int32)) start taken count))])) st112 ?_
    refine own_step (T112.setTop (mkF m 49 #[.val (.long start), .second, .val (.long size), .second, .val (.long taken), .second, .val (.long count), .second, .val (.int flag), .val (.int (1 : Int32)), .val (.ref b84), .val (.ref b93), .val (.long (own_first (nar .boolean (1 : Int32)) start taken count)), .second, .unset, .unset, .unset, .unset, .unset, .unset] [])) (fun t₀ k₀ => XS.lstore X112.here hx rfl (hb hby at_47) rfl (l' := #[.val (.long start), .second, .val (.long size), .second, .val (.long taken), .second, .val (.long count), .second, .val (.int flag), .val (.int (1 : Int32)), .val (.ref b84), .val (.ref b93), .val (.long (own_first (nar .boolean (1 : Int32)) start taken count)), .second, .unset, .unset, .unset, .unset, .unset, .unset]) rfl k₀) ?_
    refine own_step (T112.setTop (mkF m 51 #[.val (.long start), .second, .val (.long size), .second, .val (.long taken), .second, .val (.long count), .second, .val (.int flag), .val (.int (1 : Int32)), .val (.ref b84), .val (.ref b93), .val (.long (own_first (nar .boolean (1 : Int32)) start taken count)), .second, .unset, .unset, .unset, .unset, .unset, .unset] [(.ref b93)])) (fun t₀ k₀ => XS.aload X112.here hx rfl (hb hby at_49) rfl rfl k₀) ?_
    refine own_step (T112.setTop (mkF m 53 #[.val (.long start), .second, .val (.long size), .second, .val (.long taken), .second, .val (.long count), .second, .val (.int flag), .val (.int (1 : Int32)), .val (.ref b84), .val (.ref b93), .val (.long (own_first (nar .boolean (1 : Int32)) start taken count)), .second, .unset, .unset, .unset, .unset, .unset, .unset] [(.long taken), (.ref b93)])) (fun t₀ k₀ => XS.lload X112.here hx rfl (hb hby at_51) rfl k₀) ?_
    refine own_step (T112.setTop (mkF m 54 #[.val (.long start), .second, .val (.long size), .second, .val (.long taken), .second, .val (.long count), .second, .val (.int flag), .val (.int (1 : Int32)), .val (.ref b84), .val (.ref b93), .val (.long (own_first (nar .boolean (1 : Int32)) start taken count)), .second, .unset, .unset, .unset, .unset, .unset, .unset] [(.long (1 : Int64)), (.long taken), (.ref b93)])) (fun t₀ k₀ => XS.lconst X112.here hx rfl (hb hby at_53) k₀) ?_
    refine own_step (T112.setTop (mkF m 55 #[.val (.long start), .second, .val (.long size), .second, .val (.long taken), .second, .val (.long count), .second, .val (.int flag), .val (.int (1 : Int32)), .val (.ref b84), .val (.ref b93), .val (.long (own_first (nar .boolean (1 : Int32)) start taken count)), .second, .unset, .unset, .unset, .unset, .unset, .unset] [(.long (taken + (1 : Int64))), (.ref b93)])) (fun t₀ k₀ => XS.ladd X112.here hx rfl (hb hby at_54) rfl k₀) ?_
    refine own_step (T112.setTop (mkF m 57 #[.val (.long start), .second, .val (.long size), .second, .val (.long taken), .second, .val (.long count), .second, .val (.int flag), .val (.int (1 : Int32)), .val (.ref b84), .val (.ref b93), .val (.long (own_first (nar .boolean (1 : Int32)) start taken count)), .second, .unset, .unset, .unset, .unset, .unset, .unset] [(.long count), (.long (taken + (1 : Int64))), (.ref b93)])) (fun t₀ k₀ => XS.lload X112.here hx rfl (hb hby at_55) rfl k₀) ?_
    obtain ⟨cq113, kq113, q113a, q113b, q113c⟩ := isOf hZ e112 f102
    obtain ⟨_, _, ⟨T113, L113, k113, n113⟩, -, X113, ⟨Lc113, hQ113, l113, y113, z113⟩, st113⟩ := X112.virtualBack hx (y := (⟨"com/example/cardinal_echo/cardinalecho/DistinctRange", "first", "(JJ)J"⟩ : MethodName)) (z := (⟨"com/example/cardinal_echo/cardinalecho/DistinctRange", "first", "(JJ)J"⟩ : MethodName)) hown (mvT hZ (hw _ (List.mem_of_getElem? (i := 46) rfl))) (mvT hZ (hw _ (List.mem_of_getElem? (i := 47) rfl))) (notFace_of_selects (args := #[]) (mvT hZ (hw _ (List.mem_of_getElem? (i := 49) rfl)))) (mvT hZ (hw _ (List.mem_of_getElem? (i := 49) rfl))) (mvT hZ (hw _ (List.mem_of_getElem? (i := 48) rfl))) (by decide) (backOf (W := 0) (rm7 l Z a0 hw [] b93 (taken + (1 : Int64)) count (nar .boolean (1 : Int32)) start T101.heap n0 z101' f104 f103) hZ (hw _ (List.mem_of_getElem? (i := 50) rfl)) (hw _ (List.mem_of_getElem? (i := 28) rfl)) (by decide) (by decide)) q113a q113c (g := (mkF m 57 #[.val (.long start), .second, .val (.long size), .second, .val (.long taken), .second, .val (.long count), .second, .val (.int flag), .val (.int (1 : Int32)), .val (.ref b84), .val (.ref b93), .val (.long (own_first (nar .boolean (1 : Int32)) start taken count)), .second, .unset, .unset, .unset, .unset, .unset, .unset] [(.long count), (.long (taken + (1 : Int64))), (.ref b93)])) rfl (by rw [hml]; rfl) (Steps.refl _) (argsL := [(.long (taken + (1 : Int64))), (.long count)]) (rest := []) (lenOf pd_2 rfl) rfl (by show 2 * 0 + _ ≤ _; exact Nat.le_of_eq rfl) (hb hby at_57) (fun _ _ => ⟨rfl, e112, (by decide : 2 + 0 ≤ _), (by decide : 7 + 0 ≤ _)⟩)
    dsimp only [Pt.U, Pt.locs, Pt.cells, Pt.slots] at X113 l113 y113 z113 st113 hQ113
    subst l113 y113 z113
    obtain ⟨rfl, N113q, e113⟩ := hQ113
    have N113 := Fr.app N112 N113q
    refine own_comes (T113.setTop (mkF m 60 #[.val (.long start), .second, .val (.long size), .second, .val (.long taken), .second, .val (.long count), .second, .val (.int flag), .val (.int (1 : Int32)), .val (.ref b84), .val (.ref b93), .val (.long (own_first (nar .boolean (1 : Int32)) start taken count)), .second, .unset, .unset, .unset, .unset, .unset, .unset] [(.long (own_first (nar .boolean (1 : Int32)) start (taken + (1 : Int64)) count))])) st113 ?_
    refine own_step (T113.setTop (mkF m 62 #[.val (.long start), .second, .val (.long size), .second, .val (.long taken), .second, .val (.long count), .second, .val (.int flag), .val (.int (1 : Int32)), .val (.ref b84), .val (.ref b93), .val (.long (own_first (nar .boolean (1 : Int32)) start taken count)), .second, .val (.long (own_first (nar .boolean (1 : Int32)) start (taken + (1 : Int64)) count)), .second, .unset, .unset, .unset, .unset] [])) (fun t₀ k₀ => XS.lstore X113.here hx rfl (hb hby at_60) rfl (l' := #[.val (.long start), .second, .val (.long size), .second, .val (.long taken), .second, .val (.long count), .second, .val (.int flag), .val (.int (1 : Int32)), .val (.ref b84), .val (.ref b93), .val (.long (own_first (nar .boolean (1 : Int32)) start taken count)), .second, .val (.long (own_first (nar .boolean (1 : Int32)) start (taken + (1 : Int64)) count)), .second, .unset, .unset, .unset, .unset]) rfl k₀) ?_
    refine own_step (T113.setTop (mkF m 64 #[.val (.long start), .second, .val (.long size), .second, .val (.long taken), .second, .val (.long count), .second, .val (.int flag), .val (.int (1 : Int32)), .val (.ref b84), .val (.ref b93), .val (.long (own_first (nar .boolean (1 : Int32)) start taken count)), .second, .val (.long (own_first (nar .boolean (1 : Int32)) start (taken + (1 : Int64)) count)), .second, .unset, .unset, .unset, .unset] [(.ref b93)])) (fun t₀ k₀ => XS.aload X113.here hx rfl (hb hby at_62) rfl rfl k₀) ?_
    refine own_step (T113.setTop (mkF m 66 #[.val (.long start), .second, .val (.long size), .second, .val (.long taken), .second, .val (.long count), .second, .val (.int flag), .val (.int (1 : Int32)), .val (.ref b84), .val (.ref b93), .val (.long (own_first (nar .boolean (1 : Int32)) start taken count)), .second, .val (.long (own_first (nar .boolean (1 : Int32)) start (taken + (1 : Int64)) count)), .second, .unset, .unset, .unset, .unset] [(.long taken), (.ref b93)])) (fun t₀ k₀ => XS.lload X113.here hx rfl (hb hby at_64) rfl k₀) ?_
    refine own_step (T113.setTop (mkF m 68 #[.val (.long start), .second, .val (.long size), .second, .val (.long taken), .second, .val (.long count), .second, .val (.int flag), .val (.int (1 : Int32)), .val (.ref b84), .val (.ref b93), .val (.long (own_first (nar .boolean (1 : Int32)) start taken count)), .second, .val (.long (own_first (nar .boolean (1 : Int32)) start (taken + (1 : Int64)) count)), .second, .unset, .unset, .unset, .unset] [(.long count), (.long taken), (.ref b93)])) (fun t₀ k₀ => XS.lload X113.here hx rfl (hb hby at_66) rfl k₀) ?_
    refine own_step (T113.setTop (mkF m 69 #[.val (.long start), .second, .val (.long size), .second, .val (.long taken), .second, .val (.long count), .second, .val (.int flag), .val (.int (1 : Int32)), .val (.ref b84), .val (.ref b93), .val (.long (own_first (nar .boolean (1 : Int32)) start taken count)), .second, .val (.long (own_first (nar .boolean (1 : Int32)) start (taken + (1 : Int64)) count)), .second, .unset, .unset, .unset, .unset] [(.long (1 : Int64)), (.long count), (.long taken), (.ref b93)])) (fun t₀ k₀ => XS.lconst X113.here hx rfl (hb hby at_68) k₀) ?_
    refine own_step (T113.setTop (mkF m 70 #[.val (.long start), .second, .val (.long size), .second, .val (.long taken), .second, .val (.long count), .second, .val (.int flag), .val (.int (1 : Int32)), .val (.ref b84), .val (.ref b93), .val (.long (own_first (nar .boolean (1 : Int32)) start taken count)), .second, .val (.long (own_first (nar .boolean (1 : Int32)) start (taken + (1 : Int64)) count)), .second, .unset, .unset, .unset, .unset] [(.long (count + (1 : Int64))), (.long taken), (.ref b93)])) (fun t₀ k₀ => XS.ladd X113.here hx rfl (hb hby at_69) rfl k₀) ?_
    obtain ⟨cq114, kq114, q114a, q114b, q114c⟩ := isOf hZ e113 f102
    obtain ⟨_, _, ⟨T114, L114, k114, n114⟩, -, X114, ⟨Lc114, hQ114, l114, y114, z114⟩, st114⟩ := X113.virtualBack hx (y := (⟨"com/example/cardinal_echo/cardinalecho/DistinctRange", "first", "(JJ)J"⟩ : MethodName)) (z := (⟨"com/example/cardinal_echo/cardinalecho/DistinctRange", "first", "(JJ)J"⟩ : MethodName)) hown (mvT hZ (hw _ (List.mem_of_getElem? (i := 46) rfl))) (mvT hZ (hw _ (List.mem_of_getElem? (i := 47) rfl))) (notFace_of_selects (args := #[]) (mvT hZ (hw _ (List.mem_of_getElem? (i := 49) rfl)))) (mvT hZ (hw _ (List.mem_of_getElem? (i := 49) rfl))) (mvT hZ (hw _ (List.mem_of_getElem? (i := 48) rfl))) (by decide) (backOf (W := 0) (rm7 l Z a0 hw [] b93 taken (count + (1 : Int64)) (nar .boolean (1 : Int32)) start T101.heap n0 z101' f104 f103) hZ (hw _ (List.mem_of_getElem? (i := 50) rfl)) (hw _ (List.mem_of_getElem? (i := 28) rfl)) (by decide) (by decide)) q114a q114c (g := (mkF m 70 #[.val (.long start), .second, .val (.long size), .second, .val (.long taken), .second, .val (.long count), .second, .val (.int flag), .val (.int (1 : Int32)), .val (.ref b84), .val (.ref b93), .val (.long (own_first (nar .boolean (1 : Int32)) start taken count)), .second, .val (.long (own_first (nar .boolean (1 : Int32)) start (taken + (1 : Int64)) count)), .second, .unset, .unset, .unset, .unset] [(.long (count + (1 : Int64))), (.long taken), (.ref b93)])) rfl (by rw [hml]; rfl) (Steps.refl _) (argsL := [(.long taken), (.long (count + (1 : Int64)))]) (rest := []) (lenOf pd_2 rfl) rfl (by show 2 * 0 + _ ≤ _; exact Nat.le_of_eq rfl) (hb hby at_70) (fun _ _ => ⟨rfl, e113, (by decide : 2 + 0 ≤ _), (by decide : 7 + 0 ≤ _)⟩)
    dsimp only [Pt.U, Pt.locs, Pt.cells, Pt.slots] at X114 l114 y114 z114 st114 hQ114
    subst l114 y114 z114
    obtain ⟨rfl, N114q, e114⟩ := hQ114
    have N114 := Fr.app N113 N114q
    refine own_comes (T114.setTop (mkF m 73 #[.val (.long start), .second, .val (.long size), .second, .val (.long taken), .second, .val (.long count), .second, .val (.int flag), .val (.int (1 : Int32)), .val (.ref b84), .val (.ref b93), .val (.long (own_first (nar .boolean (1 : Int32)) start taken count)), .second, .val (.long (own_first (nar .boolean (1 : Int32)) start (taken + (1 : Int64)) count)), .second, .unset, .unset, .unset, .unset] [(.long (own_first (nar .boolean (1 : Int32)) start taken (count + (1 : Int64))))])) st114 ?_
    refine own_step (T114.setTop (mkF m 75 #[.val (.long start), .second, .val (.long size), .second, .val (.long taken), .second, .val (.long count), .second, .val (.int flag), .val (.int (1 : Int32)), .val (.ref b84), .val (.ref b93), .val (.long (own_first (nar .boolean (1 : Int32)) start taken count)), .second, .val (.long (own_first (nar .boolean (1 : Int32)) start (taken + (1 : Int64)) count)), .second, .val (.long (own_first (nar .boolean (1 : Int32)) start taken (count + (1 : Int64)))), .second, .unset, .unset] [])) (fun t₀ k₀ => XS.lstore X114.here hx rfl (hb hby at_73) rfl (l' := #[.val (.long start), .second, .val (.long size), .second, .val (.long taken), .second, .val (.long count), .second, .val (.int flag), .val (.int (1 : Int32)), .val (.ref b84), .val (.ref b93), .val (.long (own_first (nar .boolean (1 : Int32)) start taken count)), .second, .val (.long (own_first (nar .boolean (1 : Int32)) start (taken + (1 : Int64)) count)), .second, .val (.long (own_first (nar .boolean (1 : Int32)) start taken (count + (1 : Int64)))), .second, .unset, .unset]) rfl k₀) ?_
    refine own_step (T114.setTop (mkF m 77 #[.val (.long start), .second, .val (.long size), .second, .val (.long taken), .second, .val (.long count), .second, .val (.int flag), .val (.int (1 : Int32)), .val (.ref b84), .val (.ref b93), .val (.long (own_first (nar .boolean (1 : Int32)) start taken count)), .second, .val (.long (own_first (nar .boolean (1 : Int32)) start (taken + (1 : Int64)) count)), .second, .val (.long (own_first (nar .boolean (1 : Int32)) start taken (count + (1 : Int64)))), .second, .unset, .unset] [(.ref b93)])) (fun t₀ k₀ => XS.aload X114.here hx rfl (hb hby at_75) rfl rfl k₀) ?_
    refine own_step (T114.setTop (mkF m 78 #[.val (.long start), .second, .val (.long size), .second, .val (.long taken), .second, .val (.long count), .second, .val (.int flag), .val (.int (1 : Int32)), .val (.ref b84), .val (.ref b93), .val (.long (own_first (nar .boolean (1 : Int32)) start taken count)), .second, .val (.long (own_first (nar .boolean (1 : Int32)) start (taken + (1 : Int64)) count)), .second, .val (.long (own_first (nar .boolean (1 : Int32)) start taken (count + (1 : Int64)))), .second, .unset, .unset] [(.long (0 : Int64)), (.ref b93)])) (fun t₀ k₀ => XS.lconst X114.here hx rfl (hb hby at_77) k₀) ?_
    refine own_step (T114.setTop (mkF m 79 #[.val (.long start), .second, .val (.long size), .second, .val (.long taken), .second, .val (.long count), .second, .val (.int flag), .val (.int (1 : Int32)), .val (.ref b84), .val (.ref b93), .val (.long (own_first (nar .boolean (1 : Int32)) start taken count)), .second, .val (.long (own_first (nar .boolean (1 : Int32)) start (taken + (1 : Int64)) count)), .second, .val (.long (own_first (nar .boolean (1 : Int32)) start taken (count + (1 : Int64)))), .second, .unset, .unset] [(.long (1 : Int64)), (.long (0 : Int64)), (.ref b93)])) (fun t₀ k₀ => XS.lconst X114.here hx rfl (hb hby at_78) k₀) ?_
    obtain ⟨cq115, kq115, q115a, q115b, q115c⟩ := isOf hZ e114 f102
    obtain ⟨_, _, ⟨T115, L115, k115, n115⟩, -, X115, ⟨Lc115, hQ115, l115, y115, z115⟩, st115⟩ := X114.virtualBack hx (y := (⟨"com/example/cardinal_echo/cardinalecho/DistinctRange", "first", "(JJ)J"⟩ : MethodName)) (z := (⟨"com/example/cardinal_echo/cardinalecho/DistinctRange", "first", "(JJ)J"⟩ : MethodName)) hown (mvT hZ (hw _ (List.mem_of_getElem? (i := 46) rfl))) (mvT hZ (hw _ (List.mem_of_getElem? (i := 47) rfl))) (notFace_of_selects (args := #[]) (mvT hZ (hw _ (List.mem_of_getElem? (i := 49) rfl)))) (mvT hZ (hw _ (List.mem_of_getElem? (i := 49) rfl))) (mvT hZ (hw _ (List.mem_of_getElem? (i := 48) rfl))) (by decide) (backOf (W := 0) (rm7 l Z a0 hw [] b93 (0 : Int64) (1 : Int64) (nar .boolean (1 : Int32)) start T101.heap n0 z101' f104 f103) hZ (hw _ (List.mem_of_getElem? (i := 50) rfl)) (hw _ (List.mem_of_getElem? (i := 28) rfl)) (by decide) (by decide)) q115a q115c (g := (mkF m 79 #[.val (.long start), .second, .val (.long size), .second, .val (.long taken), .second, .val (.long count), .second, .val (.int flag), .val (.int (1 : Int32)), .val (.ref b84), .val (.ref b93), .val (.long (own_first (nar .boolean (1 : Int32)) start taken count)), .second, .val (.long (own_first (nar .boolean (1 : Int32)) start (taken + (1 : Int64)) count)), .second, .val (.long (own_first (nar .boolean (1 : Int32)) start taken (count + (1 : Int64)))), .second, .unset, .unset] [(.long (1 : Int64)), (.long (0 : Int64)), (.ref b93)])) rfl (by rw [hml]; rfl) (Steps.refl _) (argsL := [(.long (0 : Int64)), (.long (1 : Int64))]) (rest := []) (lenOf pd_2 rfl) rfl (by show 2 * 0 + _ ≤ _; exact Nat.le_of_eq rfl) (hb hby at_79) (fun _ _ => ⟨rfl, e114, (by decide : 2 + 0 ≤ _), (by decide : 7 + 0 ≤ _)⟩)
    dsimp only [Pt.U, Pt.locs, Pt.cells, Pt.slots] at X115 l115 y115 z115 st115 hQ115
    subst l115 y115 z115
    obtain ⟨rfl, N115q, e115⟩ := hQ115
    have N115 := Fr.app N114 N115q
    refine own_comes (T115.setTop (mkF m 82 #[.val (.long start), .second, .val (.long size), .second, .val (.long taken), .second, .val (.long count), .second, .val (.int flag), .val (.int (1 : Int32)), .val (.ref b84), .val (.ref b93), .val (.long (own_first (nar .boolean (1 : Int32)) start taken count)), .second, .val (.long (own_first (nar .boolean (1 : Int32)) start (taken + (1 : Int64)) count)), .second, .val (.long (own_first (nar .boolean (1 : Int32)) start taken (count + (1 : Int64)))), .second, .unset, .unset] [(.long (own_first (nar .boolean (1 : Int32)) start (0 : Int64) (1 : Int64)))])) st115 ?_
    refine own_step (T115.setTop (mkF m 84 #[.val (.long start), .second, .val (.long size), .second, .val (.long taken), .second, .val (.long count), .second, .val (.int flag), .val (.int (1 : Int32)), .val (.ref b84), .val (.ref b93), .val (.long (own_first (nar .boolean (1 : Int32)) start taken count)), .second, .val (.long (own_first (nar .boolean (1 : Int32)) start (taken + (1 : Int64)) count)), .second, .val (.long (own_first (nar .boolean (1 : Int32)) start taken (count + (1 : Int64)))), .second, .val (.long (own_first (nar .boolean (1 : Int32)) start (0 : Int64) (1 : Int64))), .second] [])) (fun t₀ k₀ => XS.lstore X115.here hx rfl (hb hby at_82) rfl (l' := #[.val (.long start), .second, .val (.long size), .second, .val (.long taken), .second, .val (.long count), .second, .val (.int flag), .val (.int (1 : Int32)), .val (.ref b84), .val (.ref b93), .val (.long (own_first (nar .boolean (1 : Int32)) start taken count)), .second, .val (.long (own_first (nar .boolean (1 : Int32)) start (taken + (1 : Int64)) count)), .second, .val (.long (own_first (nar .boolean (1 : Int32)) start taken (count + (1 : Int64)))), .second, .val (.long (own_first (nar .boolean (1 : Int32)) start (0 : Int64) (1 : Int64))), .second]) rfl k₀) ?_
    refine own_step (T115.setTop (mkF m 86 #[.val (.long start), .second, .val (.long size), .second, .val (.long taken), .second, .val (.long count), .second, .val (.int flag), .val (.int (1 : Int32)), .val (.ref b84), .val (.ref b93), .val (.long (own_first (nar .boolean (1 : Int32)) start taken count)), .second, .val (.long (own_first (nar .boolean (1 : Int32)) start (taken + (1 : Int64)) count)), .second, .val (.long (own_first (nar .boolean (1 : Int32)) start taken (count + (1 : Int64)))), .second, .val (.long (own_first (nar .boolean (1 : Int32)) start (0 : Int64) (1 : Int64))), .second] [(.long (own_first (nar .boolean (1 : Int32)) start (0 : Int64) (1 : Int64)))])) (fun t₀ k₀ => XS.lload X115.here hx rfl (hb hby at_84) rfl k₀) ?_
    refine own_step (T115.setTop (mkF m 87 #[.val (.long start), .second, .val (.long size), .second, .val (.long taken), .second, .val (.long count), .second, .val (.int flag), .val (.int (1 : Int32)), .val (.ref b84), .val (.ref b93), .val (.long (own_first (nar .boolean (1 : Int32)) start taken count)), .second, .val (.long (own_first (nar .boolean (1 : Int32)) start (taken + (1 : Int64)) count)), .second, .val (.long (own_first (nar .boolean (1 : Int32)) start taken (count + (1 : Int64)))), .second, .val (.long (own_first (nar .boolean (1 : Int32)) start (0 : Int64) (1 : Int64))), .second] [(.long start), (.long (own_first (nar .boolean (1 : Int32)) start (0 : Int64) (1 : Int64)))])) (fun t₀ k₀ => XS.lloadN X115.here hx rfl (hb hby at_86) rfl k₀) ?_
    refine own_step (T115.setTop (mkF m 88 #[.val (.long start), .second, .val (.long size), .second, .val (.long taken), .second, .val (.long count), .second, .val (.int flag), .val (.int (1 : Int32)), .val (.ref b84), .val (.ref b93), .val (.long (own_first (nar .boolean (1 : Int32)) start taken count)), .second, .val (.long (own_first (nar .boolean (1 : Int32)) start (taken + (1 : Int64)) count)), .second, .val (.long (own_first (nar .boolean (1 : Int32)) start taken (count + (1 : Int64)))), .second, .val (.long (own_first (nar .boolean (1 : Int32)) start (0 : Int64) (1 : Int64))), .second] [(.int (lcmpW (own_first (nar .boolean (1 : Int32)) start (0 : Int64) (1 : Int64)) start))])) (fun t₀ k₀ => XS.lcmp X115.here hx rfl (hb hby at_87) rfl k₀) ?_
    have hk116 : (own_first (nar .boolean (1 : Int32)) start (0 : Int64) (1 : Int64)) = start := own_base1 _
    refine own_step (T115.setTop (mkF m 93 #[.val (.long start), .second, .val (.long size), .second, .val (.long taken), .second, .val (.long count), .second, .val (.int flag), .val (.int (1 : Int32)), .val (.ref b84), .val (.ref b93), .val (.long (own_first (nar .boolean (1 : Int32)) start taken count)), .second, .val (.long (own_first (nar .boolean (1 : Int32)) start (taken + (1 : Int64)) count)), .second, .val (.long (own_first (nar .boolean (1 : Int32)) start taken (count + (1 : Int64)))), .second, .val (.long (own_first (nar .boolean (1 : Int32)) start (0 : Int64) (1 : Int64))), .second] [])) (fun t₀ k₀ => XS.ifYes X115.here hx rfl (pc0 := 88) (pc' := 93) rfl (hb hby at_88) rfl (own_leqT hk116) (by decide) (by decide) k₀) ?_
    refine own_step (T115.setTop (mkF m 95 #[.val (.long start), .second, .val (.long size), .second, .val (.long taken), .second, .val (.long count), .second, .val (.int flag), .val (.int (1 : Int32)), .val (.ref b84), .val (.ref b93), .val (.long (own_first (nar .boolean (1 : Int32)) start taken count)), .second, .val (.long (own_first (nar .boolean (1 : Int32)) start (taken + (1 : Int64)) count)), .second, .val (.long (own_first (nar .boolean (1 : Int32)) start taken (count + (1 : Int64)))), .second, .val (.long (own_first (nar .boolean (1 : Int32)) start (0 : Int64) (1 : Int64))), .second] [(.int (1 : Int32))])) (fun t₀ k₀ => XS.iload X115.here hx rfl (hb hby at_93) rfl k₀) ?_
    refine own_step (T115.setTop (mkF m 98 #[.val (.long start), .second, .val (.long size), .second, .val (.long taken), .second, .val (.long count), .second, .val (.int flag), .val (.int (1 : Int32)), .val (.ref b84), .val (.ref b93), .val (.long (own_first (nar .boolean (1 : Int32)) start taken count)), .second, .val (.long (own_first (nar .boolean (1 : Int32)) start (taken + (1 : Int64)) count)), .second, .val (.long (own_first (nar .boolean (1 : Int32)) start taken (count + (1 : Int64)))), .second, .val (.long (own_first (nar .boolean (1 : Int32)) start (0 : Int64) (1 : Int64))), .second] [])) (fun t₀ k₀ => XS.ifNo X115.here hx rfl (hb hby at_95) rfl (by decide) k₀) ?_
    refine own_step (T115.setTop (mkF m 100 #[.val (.long start), .second, .val (.long size), .second, .val (.long taken), .second, .val (.long count), .second, .val (.int flag), .val (.int (1 : Int32)), .val (.ref b84), .val (.ref b93), .val (.long (own_first (nar .boolean (1 : Int32)) start taken count)), .second, .val (.long (own_first (nar .boolean (1 : Int32)) start (taken + (1 : Int64)) count)), .second, .val (.long (own_first (nar .boolean (1 : Int32)) start taken (count + (1 : Int64)))), .second, .val (.long (own_first (nar .boolean (1 : Int32)) start (0 : Int64) (1 : Int64))), .second] [(.long (own_first (nar .boolean (1 : Int32)) start taken count))])) (fun t₀ k₀ => XS.lload X115.here hx rfl (hb hby at_98) rfl k₀) ?_
    refine own_step (T115.setTop (mkF m 102 #[.val (.long start), .second, .val (.long size), .second, .val (.long taken), .second, .val (.long count), .second, .val (.int flag), .val (.int (1 : Int32)), .val (.ref b84), .val (.ref b93), .val (.long (own_first (nar .boolean (1 : Int32)) start taken count)), .second, .val (.long (own_first (nar .boolean (1 : Int32)) start (taken + (1 : Int64)) count)), .second, .val (.long (own_first (nar .boolean (1 : Int32)) start taken (count + (1 : Int64)))), .second, .val (.long (own_first (nar .boolean (1 : Int32)) start (0 : Int64) (1 : Int64))), .second] [(.long count), (.long (own_first (nar .boolean (1 : Int32)) start taken count))])) (fun t₀ k₀ => XS.lload X115.here hx rfl (hb hby at_100) rfl k₀) ?_
    refine own_step (T115.setTop (mkF m 103 #[.val (.long start), .second, .val (.long size), .second, .val (.long taken), .second, .val (.long count), .second, .val (.int flag), .val (.int (1 : Int32)), .val (.ref b84), .val (.ref b93), .val (.long (own_first (nar .boolean (1 : Int32)) start taken count)), .second, .val (.long (own_first (nar .boolean (1 : Int32)) start (taken + (1 : Int64)) count)), .second, .val (.long (own_first (nar .boolean (1 : Int32)) start taken (count + (1 : Int64)))), .second, .val (.long (own_first (nar .boolean (1 : Int32)) start (0 : Int64) (1 : Int64))), .second] [(.long (1 : Int64)), (.long count), (.long (own_first (nar .boolean (1 : Int32)) start taken count))])) (fun t₀ k₀ => XS.lconst X115.here hx rfl (hb hby at_102) k₀) ?_
    refine own_step (T115.setTop (mkF m 104 #[.val (.long start), .second, .val (.long size), .second, .val (.long taken), .second, .val (.long count), .second, .val (.int flag), .val (.int (1 : Int32)), .val (.ref b84), .val (.ref b93), .val (.long (own_first (nar .boolean (1 : Int32)) start taken count)), .second, .val (.long (own_first (nar .boolean (1 : Int32)) start (taken + (1 : Int64)) count)), .second, .val (.long (own_first (nar .boolean (1 : Int32)) start taken (count + (1 : Int64)))), .second, .val (.long (own_first (nar .boolean (1 : Int32)) start (0 : Int64) (1 : Int64))), .second] [(.long (count - (1 : Int64))), (.long (own_first (nar .boolean (1 : Int32)) start taken count))])) (fun t₀ k₀ => XS.lsub X115.here hx rfl (hb hby at_103) rfl k₀) ?_
    refine own_step (T115.setTop (mkF m 105 #[.val (.long start), .second, .val (.long size), .second, .val (.long taken), .second, .val (.long count), .second, .val (.int flag), .val (.int (1 : Int32)), .val (.ref b84), .val (.ref b93), .val (.long (own_first (nar .boolean (1 : Int32)) start taken count)), .second, .val (.long (own_first (nar .boolean (1 : Int32)) start (taken + (1 : Int64)) count)), .second, .val (.long (own_first (nar .boolean (1 : Int32)) start taken (count + (1 : Int64)))), .second, .val (.long (own_first (nar .boolean (1 : Int32)) start (0 : Int64) (1 : Int64))), .second] [(.long ((own_first (nar .boolean (1 : Int32)) start taken count) + (count - (1 : Int64))))])) (fun t₀ k₀ => XS.ladd X115.here hx rfl (hb hby at_104) rfl k₀) ?_
    refine own_step (T115.setTop (mkF m 106 #[.val (.long start), .second, .val (.long size), .second, .val (.long taken), .second, .val (.long count), .second, .val (.int flag), .val (.int (1 : Int32)), .val (.ref b84), .val (.ref b93), .val (.long (own_first (nar .boolean (1 : Int32)) start taken count)), .second, .val (.long (own_first (nar .boolean (1 : Int32)) start (taken + (1 : Int64)) count)), .second, .val (.long (own_first (nar .boolean (1 : Int32)) start taken (count + (1 : Int64)))), .second, .val (.long (own_first (nar .boolean (1 : Int32)) start (0 : Int64) (1 : Int64))), .second] [(.long start), (.long ((own_first (nar .boolean (1 : Int32)) start taken count) + (count - (1 : Int64))))])) (fun t₀ k₀ => XS.lloadN X115.here hx rfl (hb hby at_105) rfl k₀) ?_
    refine own_step (T115.setTop (mkF m 108 #[.val (.long start), .second, .val (.long size), .second, .val (.long taken), .second, .val (.long count), .second, .val (.int flag), .val (.int (1 : Int32)), .val (.ref b84), .val (.ref b93), .val (.long (own_first (nar .boolean (1 : Int32)) start taken count)), .second, .val (.long (own_first (nar .boolean (1 : Int32)) start (taken + (1 : Int64)) count)), .second, .val (.long (own_first (nar .boolean (1 : Int32)) start taken (count + (1 : Int64)))), .second, .val (.long (own_first (nar .boolean (1 : Int32)) start (0 : Int64) (1 : Int64))), .second] [(.long taken), (.long start), (.long ((own_first (nar .boolean (1 : Int32)) start taken count) + (count - (1 : Int64))))])) (fun t₀ k₀ => XS.lload X115.here hx rfl (hb hby at_106) rfl k₀) ?_
    refine own_step (T115.setTop (mkF m 109 #[.val (.long start), .second, .val (.long size), .second, .val (.long taken), .second, .val (.long count), .second, .val (.int flag), .val (.int (1 : Int32)), .val (.ref b84), .val (.ref b93), .val (.long (own_first (nar .boolean (1 : Int32)) start taken count)), .second, .val (.long (own_first (nar .boolean (1 : Int32)) start (taken + (1 : Int64)) count)), .second, .val (.long (own_first (nar .boolean (1 : Int32)) start taken (count + (1 : Int64)))), .second, .val (.long (own_first (nar .boolean (1 : Int32)) start (0 : Int64) (1 : Int64))), .second] [(.long (start - taken)), (.long ((own_first (nar .boolean (1 : Int32)) start taken count) + (count - (1 : Int64))))])) (fun t₀ k₀ => XS.lsub X115.here hx rfl (hb hby at_108) rfl k₀) ?_
    refine own_step (T115.setTop (mkF m 110 #[.val (.long start), .second, .val (.long size), .second, .val (.long taken), .second, .val (.long count), .second, .val (.int flag), .val (.int (1 : Int32)), .val (.ref b84), .val (.ref b93), .val (.long (own_first (nar .boolean (1 : Int32)) start taken count)), .second, .val (.long (own_first (nar .boolean (1 : Int32)) start (taken + (1 : Int64)) count)), .second, .val (.long (own_first (nar .boolean (1 : Int32)) start taken (count + (1 : Int64)))), .second, .val (.long (own_first (nar .boolean (1 : Int32)) start (0 : Int64) (1 : Int64))), .second] [(.int (lcmpW ((own_first (nar .boolean (1 : Int32)) start taken count) + (count - (1 : Int64))) (start - taken)))])) (fun t₀ k₀ => XS.lcmp X115.here hx rfl (hb hby at_109) rfl k₀) ?_
    have hk117 : ((own_first (nar .boolean (1 : Int32)) start taken count) + (count - (1 : Int64))) = (start - taken) := own_d1 _ _ _
    refine own_step (T115.setTop (mkF m 113 #[.val (.long start), .second, .val (.long size), .second, .val (.long taken), .second, .val (.long count), .second, .val (.int flag), .val (.int (1 : Int32)), .val (.ref b84), .val (.ref b93), .val (.long (own_first (nar .boolean (1 : Int32)) start taken count)), .second, .val (.long (own_first (nar .boolean (1 : Int32)) start (taken + (1 : Int64)) count)), .second, .val (.long (own_first (nar .boolean (1 : Int32)) start taken (count + (1 : Int64)))), .second, .val (.long (own_first (nar .boolean (1 : Int32)) start (0 : Int64) (1 : Int64))), .second] [])) (fun t₀ k₀ => XS.ifNo X115.here hx rfl (hb hby at_110) rfl (own_lneF hk117) k₀) ?_
    refine own_step (T115.setTop (mkF m 115 #[.val (.long start), .second, .val (.long size), .second, .val (.long taken), .second, .val (.long count), .second, .val (.int flag), .val (.int (1 : Int32)), .val (.ref b84), .val (.ref b93), .val (.long (own_first (nar .boolean (1 : Int32)) start taken count)), .second, .val (.long (own_first (nar .boolean (1 : Int32)) start (taken + (1 : Int64)) count)), .second, .val (.long (own_first (nar .boolean (1 : Int32)) start taken (count + (1 : Int64)))), .second, .val (.long (own_first (nar .boolean (1 : Int32)) start (0 : Int64) (1 : Int64))), .second] [(.long (own_first (nar .boolean (1 : Int32)) start (taken + (1 : Int64)) count))])) (fun t₀ k₀ => XS.lload X115.here hx rfl (hb hby at_113) rfl k₀) ?_
    refine own_step (T115.setTop (mkF m 117 #[.val (.long start), .second, .val (.long size), .second, .val (.long taken), .second, .val (.long count), .second, .val (.int flag), .val (.int (1 : Int32)), .val (.ref b84), .val (.ref b93), .val (.long (own_first (nar .boolean (1 : Int32)) start taken count)), .second, .val (.long (own_first (nar .boolean (1 : Int32)) start (taken + (1 : Int64)) count)), .second, .val (.long (own_first (nar .boolean (1 : Int32)) start taken (count + (1 : Int64)))), .second, .val (.long (own_first (nar .boolean (1 : Int32)) start (0 : Int64) (1 : Int64))), .second] [(.long (own_first (nar .boolean (1 : Int32)) start taken count)), (.long (own_first (nar .boolean (1 : Int32)) start (taken + (1 : Int64)) count))])) (fun t₀ k₀ => XS.lload X115.here hx rfl (hb hby at_115) rfl k₀) ?_
    refine own_step (T115.setTop (mkF m 118 #[.val (.long start), .second, .val (.long size), .second, .val (.long taken), .second, .val (.long count), .second, .val (.int flag), .val (.int (1 : Int32)), .val (.ref b84), .val (.ref b93), .val (.long (own_first (nar .boolean (1 : Int32)) start taken count)), .second, .val (.long (own_first (nar .boolean (1 : Int32)) start (taken + (1 : Int64)) count)), .second, .val (.long (own_first (nar .boolean (1 : Int32)) start taken (count + (1 : Int64)))), .second, .val (.long (own_first (nar .boolean (1 : Int32)) start (0 : Int64) (1 : Int64))), .second] [(.long (1 : Int64)), (.long (own_first (nar .boolean (1 : Int32)) start taken count)), (.long (own_first (nar .boolean (1 : Int32)) start (taken + (1 : Int64)) count))])) (fun t₀ k₀ => XS.lconst X115.here hx rfl (hb hby at_117) k₀) ?_
    refine own_step (T115.setTop (mkF m 119 #[.val (.long start), .second, .val (.long size), .second, .val (.long taken), .second, .val (.long count), .second, .val (.int flag), .val (.int (1 : Int32)), .val (.ref b84), .val (.ref b93), .val (.long (own_first (nar .boolean (1 : Int32)) start taken count)), .second, .val (.long (own_first (nar .boolean (1 : Int32)) start (taken + (1 : Int64)) count)), .second, .val (.long (own_first (nar .boolean (1 : Int32)) start taken (count + (1 : Int64)))), .second, .val (.long (own_first (nar .boolean (1 : Int32)) start (0 : Int64) (1 : Int64))), .second] [(.long ((own_first (nar .boolean (1 : Int32)) start taken count) - (1 : Int64))), (.long (own_first (nar .boolean (1 : Int32)) start (taken + (1 : Int64)) count))])) (fun t₀ k₀ => XS.lsub X115.here hx rfl (hb hby at_118) rfl k₀) ?_
    refine own_step (T115.setTop (mkF m 120 #[.val (.long start), .second, .val (.long size), .second, .val (.long taken), .second, .val (.long count), .second, .val (.int flag), .val (.int (1 : Int32)), .val (.ref b84), .val (.ref b93), .val (.long (own_first (nar .boolean (1 : Int32)) start taken count)), .second, .val (.long (own_first (nar .boolean (1 : Int32)) start (taken + (1 : Int64)) count)), .second, .val (.long (own_first (nar .boolean (1 : Int32)) start taken (count + (1 : Int64)))), .second, .val (.long (own_first (nar .boolean (1 : Int32)) start (0 : Int64) (1 : Int64))), .second] [(.int (lcmpW (own_first (nar .boolean (1 : Int32)) start (taken + (1 : Int64)) count) ((own_first (nar .boolean (1 : Int32)) start taken count) - (1 : Int64))))])) (fun t₀ k₀ => XS.lcmp X115.here hx rfl (hb hby at_119) rfl k₀) ?_
    have hk118 : (own_first (nar .boolean (1 : Int32)) start (taken + (1 : Int64)) count) = ((own_first (nar .boolean (1 : Int32)) start taken count) - (1 : Int64)) := own_d2 _ _ _
    refine own_step (T115.setTop (mkF m 123 #[.val (.long start), .second, .val (.long size), .second, .val (.long taken), .second, .val (.long count), .second, .val (.int flag), .val (.int (1 : Int32)), .val (.ref b84), .val (.ref b93), .val (.long (own_first (nar .boolean (1 : Int32)) start taken count)), .second, .val (.long (own_first (nar .boolean (1 : Int32)) start (taken + (1 : Int64)) count)), .second, .val (.long (own_first (nar .boolean (1 : Int32)) start taken (count + (1 : Int64)))), .second, .val (.long (own_first (nar .boolean (1 : Int32)) start (0 : Int64) (1 : Int64))), .second] [])) (fun t₀ k₀ => XS.ifNo X115.here hx rfl (hb hby at_120) rfl (own_lneF hk118) k₀) ?_
    refine own_step (T115.setTop (mkF m 125 #[.val (.long start), .second, .val (.long size), .second, .val (.long taken), .second, .val (.long count), .second, .val (.int flag), .val (.int (1 : Int32)), .val (.ref b84), .val (.ref b93), .val (.long (own_first (nar .boolean (1 : Int32)) start taken count)), .second, .val (.long (own_first (nar .boolean (1 : Int32)) start (taken + (1 : Int64)) count)), .second, .val (.long (own_first (nar .boolean (1 : Int32)) start taken (count + (1 : Int64)))), .second, .val (.long (own_first (nar .boolean (1 : Int32)) start (0 : Int64) (1 : Int64))), .second] [(.long (own_first (nar .boolean (1 : Int32)) start taken (count + (1 : Int64))))])) (fun t₀ k₀ => XS.lload X115.here hx rfl (hb hby at_123) rfl k₀) ?_
    refine own_step (T115.setTop (mkF m 127 #[.val (.long start), .second, .val (.long size), .second, .val (.long taken), .second, .val (.long count), .second, .val (.int flag), .val (.int (1 : Int32)), .val (.ref b84), .val (.ref b93), .val (.long (own_first (nar .boolean (1 : Int32)) start taken count)), .second, .val (.long (own_first (nar .boolean (1 : Int32)) start (taken + (1 : Int64)) count)), .second, .val (.long (own_first (nar .boolean (1 : Int32)) start taken (count + (1 : Int64)))), .second, .val (.long (own_first (nar .boolean (1 : Int32)) start (0 : Int64) (1 : Int64))), .second] [(.long (own_first (nar .boolean (1 : Int32)) start taken count)), (.long (own_first (nar .boolean (1 : Int32)) start taken (count + (1 : Int64))))])) (fun t₀ k₀ => XS.lload X115.here hx rfl (hb hby at_125) rfl k₀) ?_
    refine own_step (T115.setTop (mkF m 128 #[.val (.long start), .second, .val (.long size), .second, .val (.long taken), .second, .val (.long count), .second, .val (.int flag), .val (.int (1 : Int32)), .val (.ref b84), .val (.ref b93), .val (.long (own_first (nar .boolean (1 : Int32)) start taken count)), .second, .val (.long (own_first (nar .boolean (1 : Int32)) start (taken + (1 : Int64)) count)), .second, .val (.long (own_first (nar .boolean (1 : Int32)) start taken (count + (1 : Int64)))), .second, .val (.long (own_first (nar .boolean (1 : Int32)) start (0 : Int64) (1 : Int64))), .second] [(.long (1 : Int64)), (.long (own_first (nar .boolean (1 : Int32)) start taken count)), (.long (own_first (nar .boolean (1 : Int32)) start taken (count + (1 : Int64))))])) (fun t₀ k₀ => XS.lconst X115.here hx rfl (hb hby at_127) k₀) ?_
    refine own_step (T115.setTop (mkF m 129 #[.val (.long start), .second, .val (.long size), .second, .val (.long taken), .second, .val (.long count), .second, .val (.int flag), .val (.int (1 : Int32)), .val (.ref b84), .val (.ref b93), .val (.long (own_first (nar .boolean (1 : Int32)) start taken count)), .second, .val (.long (own_first (nar .boolean (1 : Int32)) start (taken + (1 : Int64)) count)), .second, .val (.long (own_first (nar .boolean (1 : Int32)) start taken (count + (1 : Int64)))), .second, .val (.long (own_first (nar .boolean (1 : Int32)) start (0 : Int64) (1 : Int64))), .second] [(.long ((own_first (nar .boolean (1 : Int32)) start taken count) - (1 : Int64))), (.long (own_first (nar .boolean (1 : Int32)) start taken (count + (1 : Int64))))])) (fun t₀ k₀ => XS.lsub X115.here hx rfl (hb hby at_128) rfl k₀) ?_
    refine own_step (T115.setTop (mkF m 130 #[.val (.long start), .second, .val (.long size), .second, .val (.long taken), .second, .val (.long count), .second, .val (.int flag), .val (.int (1 : Int32)), .val (.ref b84), .val (.ref b93), .val (.long (own_first (nar .boolean (1 : Int32)) start taken count)), .second, .val (.long (own_first (nar .boolean (1 : Int32)) start (taken + (1 : Int64)) count)), .second, .val (.long (own_first (nar .boolean (1 : Int32)) start taken (count + (1 : Int64)))), .second, .val (.long (own_first (nar .boolean (1 : Int32)) start (0 : Int64) (1 : Int64))), .second] [(.int (lcmpW (own_first (nar .boolean (1 : Int32)) start taken (count + (1 : Int64))) ((own_first (nar .boolean (1 : Int32)) start taken count) - (1 : Int64))))])) (fun t₀ k₀ => XS.lcmp X115.here hx rfl (hb hby at_129) rfl k₀) ?_
    have hk119 : (own_first (nar .boolean (1 : Int32)) start taken (count + (1 : Int64))) = ((own_first (nar .boolean (1 : Int32)) start taken count) - (1 : Int64)) := own_d3 _ _ _
    refine own_step (T115.setTop (mkF m 133 #[.val (.long start), .second, .val (.long size), .second, .val (.long taken), .second, .val (.long count), .second, .val (.int flag), .val (.int (1 : Int32)), .val (.ref b84), .val (.ref b93), .val (.long (own_first (nar .boolean (1 : Int32)) start taken count)), .second, .val (.long (own_first (nar .boolean (1 : Int32)) start (taken + (1 : Int64)) count)), .second, .val (.long (own_first (nar .boolean (1 : Int32)) start taken (count + (1 : Int64)))), .second, .val (.long (own_first (nar .boolean (1 : Int32)) start (0 : Int64) (1 : Int64))), .second] [])) (fun t₀ k₀ => XS.ifNo X115.here hx rfl (hb hby at_130) rfl (own_lneF hk119) k₀) ?_
    refine own_step (T115.setTop (mkF m 134 #[.val (.long start), .second, .val (.long size), .second, .val (.long taken), .second, .val (.long count), .second, .val (.int flag), .val (.int (1 : Int32)), .val (.ref b84), .val (.ref b93), .val (.long (own_first (nar .boolean (1 : Int32)) start taken count)), .second, .val (.long (own_first (nar .boolean (1 : Int32)) start (taken + (1 : Int64)) count)), .second, .val (.long (own_first (nar .boolean (1 : Int32)) start taken (count + (1 : Int64)))), .second, .val (.long (own_first (nar .boolean (1 : Int32)) start (0 : Int64) (1 : Int64))), .second] [(.int (1 : Int32))])) (fun t₀ k₀ => XS.iconst X115.here hx rfl (hb hby at_133) k₀) ?_
    refine own_step (T115.setTop (mkF m 138 #[.val (.long start), .second, .val (.long size), .second, .val (.long taken), .second, .val (.long count), .second, .val (.int flag), .val (.int (1 : Int32)), .val (.ref b84), .val (.ref b93), .val (.long (own_first (nar .boolean (1 : Int32)) start taken count)), .second, .val (.long (own_first (nar .boolean (1 : Int32)) start (taken + (1 : Int64)) count)), .second, .val (.long (own_first (nar .boolean (1 : Int32)) start taken (count + (1 : Int64)))), .second, .val (.long (own_first (nar .boolean (1 : Int32)) start (0 : Int64) (1 : Int64))), .second] [(.int (1 : Int32))])) (fun t₀ k₀ => XS.goto X115.here hx rfl (pc0 := 134) (pc' := 138) rfl (hb hby at_134) (by decide) (by decide) k₀) ?_
    obtain ⟨fs, hr, hrun, hended, hW, hsame⟩ := X115.leave (v := some (.int (1 : Int32))) (fun h => by rw [Bd.returns] at h; cases h)
    refine ⟨_, _, ?_, hrun, hended, _, _, rfl, ?_, ⟨_, rfl⟩, hW, hsame.mono (by decide) (by decide)⟩
    · exact retN X115 hx (t := .boolean) Bd.returns (by simp) (hb hby at_138) hr
    · show Q_rm0 Z start size taken count flag ed h0 n0 _ T115.heap _
      rw [e115]
      exact ⟨rfl, N115⟩
set_option maxRecDepth 65536 in
set_option maxHeartbeats 40000000 in
theorem comes_1 {Post : Tables → Env → Array Value → State → Outcome → State → Prop} (hpost : ∀ tb e args s v u, (limb_1_1.after args s (.returned v) u = true ∧ limb_1_2.after args s (.returned v) u = true ∧ True) → FrameEnd s (.returned v) u (Jvm.fieldLocs frame_1_writes args s ++ Jvm.arrayLocs frame_1_arrays args s ++ Jvm.staticLocs frame_1_statics s) 16 128 → Post tb e args s (.returned v) u) :
    ArmFor flags0 classFile x code maxLocals ret World_1 tables_1 room_1 Calls_1 rest_1 Pre_1 Post := by
  intro l hfl _ _ p e ha hc hk s m args below hf hA hF happ hP
  obtain ⟨hcalls, hrest, hpre⟩ := hP
  obtain ⟨-, -, -, hnamed, -, -, -, hat⟩ := (Spec.applies_iff hf).mp happ
  obtain ⟨hg, hn⟩ := and_e (Cond.before_iff.mp (show (Jvm.Cond.and given_1 narrow_1).before args s = true from hpre))
  obtain ⟨hcount, hg0⟩ := and_e hg
  obtain ⟨ga0, hg1⟩ := and_e hg0
  obtain ⟨ga1, hg2⟩ := and_e hg1
  obtain ⟨ga2, hg3⟩ := and_e hg2
  obtain ⟨ga3, hg4⟩ := and_e hg3
  have ga4 := hg4
  obtain ⟨w0, w1, w2, w3, w4, rfl⟩ : ∃ w0 w1 w2 w3 w4 : Value, args = #[w0, w1, w2, w3, w4] := by
    have hs : args.size = 5 := by simpa [Cond.value, given_1] using hcount
    obtain ⟨L⟩ := args
    match L, hs with
    | [w0, w1, w2, w3, w4], _ => exact ⟨w0, w1, w2, w3, w4, rfl⟩
  have hw := fun d (hd : d ∈ tables_1) => atoms_spec (ws := Jvm.Cond.code x code maxLocals ret :: tables_1) hat d (List.mem_cons_of_mem _ hd)
  have hfit : Fit s := fun {y c} hc i hi => by
    obtain ⟨ha, rfl⟩ := Array.getElem?_eq_some_iff.mp hc
    have q := List.all_eq_true.mp ((Array.all_eq_true_iff_forall_mem.mp hF) _ (Array.getElem_mem ha)) i (List.mem_range.mpr hi)
    simpa [Array.getElem?_eq_getElem hi] using q
  obtain ⟨hsets, hown0⟩ := atoms_of _ (rest_1_c_eq ▸ (show rest_1_c.before _ s = true from hrest))
  have hr0 := Cond.before_iff.mp hown0
  obtain ⟨i0, ei0⟩ := isL_v ga0
  obtain rfl : w0 = (.long i0) := Option.some.inj ei0
  obtain ⟨i1, ei1⟩ := isL_v ga1
  obtain rfl : w1 = (.long i1) := Option.some.inj ei1
  obtain ⟨i2, ei2⟩ := isL_v ga2
  obtain rfl : w2 = (.long i2) := Option.some.inj ei2
  obtain ⟨i3, ei3⟩ := isL_v ga3
  obtain rfl : w3 = (.long i3) := Option.some.inj ei3
  obtain ⟨i4, ei4⟩ := is_v ga4
  obtain rfl : w4 = (.int i4) := Option.some.inj ei4
  obtain ⟨ed, eed⟩ := arr_v (Cond.before_iff.mp (hsets _ (List.mem_of_getElem? (i := 6) rfl)))
  have Sed : Sta s s.heap "java/util/ArrayList" "DEFAULTCAPACITY_EMPTY_ELEMENTDATA" "[Ljava/lang/Object;" (.ref ed) := Sta.start eed (Or.inr ⟨hw _ (List.mem_of_getElem? (i := 2) rfl), hsets _ (List.mem_of_getElem? (i := 2) rfl)⟩)
  obtain ⟨n, o, h1, h2, h3, _, L, rfl, ⟨rfl, N⟩, hq⟩ := rm0 l s _ hw tables_1 i0 i1 i2 i3 i4 ed s.heap s.heap.size (Nat.le_refl _) Sed p e ha hc hk s m _ below hf ((Spec.applies_iff_loose hf).mp happ).1 ⟨rfl, State.Warmed39.refl s, rfl⟩ trivial
  refine ⟨n, _, h1, h2, h3, hpost _ _ _ _ _ _ ⟨Cond.after_iff.mpr rfl, Cond.after_iff.mpr (eq_i res_at (Term.int_eval (1)) rfl), trivial⟩ ⟨hq.1, hq.2.1, (hq.2.2.sift fun y hy => Or.inr (N y hy)).mono (by decide) (by decide)⟩⟩
theorem main_1_1 : Claimed_1_1 := comes_1 fun _ _ _ _ _ _ h hF => ⟨h.1, hF⟩
theorem main_1_2 : Claimed_1_2 := comes_1 fun _ _ _ _ _ _ h hF => ⟨h.2.1, hF⟩
end Jvm.Pilot.@@N@@
namespace Jvm.Pilot.@@N@@
open Jvm Jvm.ClassFile Sem Op Lib Jvm.Free Jvm.Stand Jvm.Pilot.@@N@@.Jvm.D
/-! MADE BY PROGRAM (witnessworld.py) out of the Statement's table words and the real class files: 19 classes; the members and pool entries that the words name. The judged class is class 1, her method 1. -/
namespace start1
open Jvm.ClassFile
def u (s : String) : CpInfo := .utf8 (stringToUtf16 s)
/-- a pool by its gaps: so many unusable entries, then the entry; so many at the end -/
def gap : Nat → List CpInfo → List CpInfo
  | 0, r => r
  | n + 1, r => .unusable :: gap n r
def poolList (es : List (Nat × CpInfo)) (last : Nat) : List CpInfo := es.foldr (fun e r => gap e.1 (e.2 :: r)) (gap last [])
def pool (es : List (Nat × CpInfo)) (last : Nat) : Array CpInfo := ⟨poolList es last⟩
def fileOf (pool : Array CpInfo) (this : Nat) (attrs : Array Attribute := #[]) (ms : Array MethodInfo := #[]) (fl : Nat := 33) (sup : Nat := 0) (ifs : Array Nat := #[]) (fds : Array FieldInfo := #[]) : ClassFile where
  minorVersion := 0
  majorVersion := 65
  constantPool := pool
  accessFlags := fl
  thisClass := this
  superClass := sup
  interfaces := ifs
  fields := fds
  methods := ms
  attributes := attrs
def plain (name : String) (sup : Option ClassId) : Class where
  name := name
  kind := .ordinary
  loader := none
  accessFlags := 33
  super := sup
  interfaces := #[]
  cf := none
  fields := #[]
  methods := #[]
  instanceTypes := #[]
  staticTypes := #[]
  resolved := #[]
  callSites := []
  init := .initialized
  statics := none
  mirror := none

def pool0 : Array CpInfo := pool [(5, u "<init>"), (0, u "()V"), (1, .class_ 10), (1, u "java/lang/Object")] 113

def k0c0 : Code := { maxStack := 0, maxLocals := 1, code := object_method_1_code, exceptionTable := #[], attributes := #[] }
def k0m0 : Method := { name := "<init>", desc := "()V", sig := { parameters := [], returnType := none }, accessFlags := 1, code := some k0c0 }
/-- java/lang/Object -/
def k0 : Class := { plain "java/lang/Object" none with
  accessFlags := 33
  interfaces := #[]
  cf := some (fileOf pool0 8 #[] #[{ accessFlags := 1, nameIndex := 5, descriptorIndex := 6, attributes := #[] }] 33 0 #[] #[])
  fields := #[]
  methods := #[k0m0]
  instanceTypes := #[]
  staticTypes := #[]
  resolved := Array.replicate 124 none
  statics := none }

def pool1 : Array CpInfo := pool [(2, .class_ 4), (0, .nameAndType 5 6), (0, u "java/lang/Object"), (0, u "<init>"), (0, u "()V"), (0, .class_ 8), (0, u "java/util/ArrayList"), (0, .methodref 7 3), (0, .class_ 11), (0, u "com/example/cardinal_echo/cardinalecho/DistinctRange"), (0, .methodref 10 13), (0, .nameAndType 5 14), (0, u "(JJZLjava/util/List;)V"), (0, .methodref 10 16), (0, .nameAndType 17 18), (0, u "first"), (0, u "(JJ)J"), (0, .class_ 20), (0, u "com/example/cardinal_echo/cardinalecho/DistinctRangeFirstPinLaw"), (2, u "law"), (0, u "(JJJJI)Z")] 3

def k1m0 : Method := { name := "<init>", desc := "()V", sig := { parameters := [], returnType := none }, accessFlags := 1, code := none }
def k1c1 : Code := { maxStack := 8, maxLocals := 20, code := code, exceptionTable := #[], attributes := #[] }
def k1m1 : Method := { name := "law", desc := "(JJJJI)Z", sig := { parameters := [.long, .long, .long, .long, .int], returnType := some .boolean }, accessFlags := 9, code := some k1c1 }
/-- com/example/cardinal_echo/cardinalecho/DistinctRangeFirstPinLaw -/
def k1 : Class := { plain "com/example/cardinal_echo/cardinalecho/DistinctRangeFirstPinLaw" (some 0) with
  accessFlags := 49
  interfaces := #[]
  cf := some (fileOf pool1 19 #[] #[{ accessFlags := 1, nameIndex := 5, descriptorIndex := 6, attributes := #[] }, { accessFlags := 9, nameIndex := 23, descriptorIndex := 24, attributes := #[] }] 49 2 #[] #[])
  fields := #[]
  methods := #[k1m0, k1m1]
  instanceTypes := #[]
  staticTypes := #[]
  resolved := Array.replicate 28 none
  statics := none }

def pool2 : Array CpInfo := pool [(8, .class_ 10), (1, u "java/lang/Iterable"), (24, .class_ 36), (0, u "java/lang/Object")] 25

/-- java/lang/Iterable -/
def k2 : Class := { plain "java/lang/Iterable" (some 0) with
  accessFlags := 1537
  interfaces := #[]
  cf := some (fileOf pool2 8 #[] #[] 1537 35 #[] #[])
  fields := #[]
  methods := #[]
  instanceTypes := #[]
  staticTypes := #[]
  resolved := Array.replicate 62 none
  statics := none }

def pool3 : Array CpInfo := pool [(10, .class_ 12), (1, u "java/util/Collection"), (47, .class_ 61), (0, u "java/lang/Object"), (0, .class_ 63), (0, u "java/lang/Iterable")] 51

/-- java/util/Collection -/
def k3 : Class := { plain "java/util/Collection" (some 0) with
  accessFlags := 1537
  interfaces := #[2]
  cf := some (fileOf pool3 10 #[] #[] 1537 60 #[62] #[])
  fields := #[]
  methods := #[]
  instanceTypes := #[]
  staticTypes := #[]
  resolved := Array.replicate 115 none
  statics := none }

def pool4 : Array CpInfo := pool [(1, .methodref 2 3), (0, .class_ 4), (0, .nameAndType 5 6), (0, u "java/lang/Object"), (0, u "<init>"), (0, u "()V"), (1, .class_ 10), (1, u "java/util/AbstractCollection"), (66, .class_ 78), (0, u "java/util/Collection")] 81

def k4c0 : Code := { maxStack := 1, maxLocals := 1, code := jdk_22_method_1_code, exceptionTable := #[], attributes := #[] }
def k4m0 : Method := { name := "<init>", desc := "()V", sig := { parameters := [], returnType := none }, accessFlags := 4, code := some k4c0 }
/-- java/util/AbstractCollection -/
def k4 : Class := { plain "java/util/AbstractCollection" (some 0) with
  accessFlags := 1057
  interfaces := #[3]
  cf := some (fileOf pool4 8 #[] #[{ accessFlags := 4, nameIndex := 5, descriptorIndex := 6, attributes := #[] }] 1057 2 #[77] #[])
  fields := #[]
  methods := #[k4m0]
  instanceTypes := #[]
  staticTypes := #[]
  resolved := Array.replicate 160 none
  statics := none }

def pool5 : Array CpInfo := pool [(8, .class_ 10), (1, u "java/util/SequencedCollection"), (15, .class_ 27), (0, u "java/lang/Object"), (0, .class_ 29), (0, u "java/util/Collection")] 27

/-- java/util/SequencedCollection -/
def k5 : Class := { plain "java/util/SequencedCollection" (some 0) with
  accessFlags := 1537
  interfaces := #[3]
  cf := some (fileOf pool5 8 #[] #[] 1537 26 #[28] #[])
  fields := #[]
  methods := #[]
  instanceTypes := #[]
  staticTypes := #[]
  resolved := Array.replicate 57 none
  statics := none }

def pool6 : Array CpInfo := pool [(8, .class_ 10), (1, u "java/util/List"), (92, .class_ 104), (0, u "java/lang/Object"), (15, .class_ 121), (0, u "java/util/SequencedCollection")] 129

/-- java/util/List -/
def k6 : Class := { plain "java/util/List" (some 0) with
  accessFlags := 1537
  interfaces := #[5]
  cf := some (fileOf pool6 8 #[] #[] 1537 103 #[120] #[])
  fields := #[]
  methods := #[]
  instanceTypes := #[]
  staticTypes := #[]
  resolved := Array.replicate 251 none
  statics := none }

def pool7 : Array CpInfo := pool [(1, .methodref 2 3), (0, .class_ 4), (0, .nameAndType 5 6), (0, u "java/util/AbstractCollection"), (0, u "<init>"), (0, u "()V"), (0, .fieldref 8 9), (0, .class_ 10), (0, .nameAndType 11 12), (0, u "java/util/AbstractList"), (0, u "modCount"), (0, u "I"), (64, .class_ 78), (0, u "java/util/AbstractList$Itr"), (3, .class_ 83), (0, u "java/util/AbstractList$ListItr"), (9, .class_ 94), (0, u "java/util/AbstractList$RandomAccessSubList"), (3, .class_ 99), (0, u "java/util/AbstractList$SubList"), (33, .class_ 134), (0, u "java/util/List"), (73, .class_ 209), (0, u "java/util/AbstractList$SubList$1"), (0, .class_ 211), (0, u "java/util/AbstractList$RandomAccessSpliterator")] 6

def k7c0 : Code := { maxStack := 2, maxLocals := 1, code := jdk_39_method_1_code, exceptionTable := #[], attributes := #[] }
def k7m0 : Method := { name := "<init>", desc := "()V", sig := { parameters := [], returnType := none }, accessFlags := 4, code := some k7c0 }
/-- java/util/AbstractList -/
def k7 : Class := { plain "java/util/AbstractList" (some 4) with
  accessFlags := 1057
  interfaces := #[6]
  cf := some (fileOf pool7 8 #[.nestMembers #[93, 98, 208, 210, 82, 77]] #[{ accessFlags := 4, nameIndex := 5, descriptorIndex := 6, attributes := #[] }] 1057 2 #[133] #[{ accessFlags := 132, nameIndex := 11, descriptorIndex := 12, attributes := #[] }])
  fields := #[{ name := "modCount", type := .int, accessFlags := 132, slot := 0, constantValue := 0 }]
  methods := #[k7m0]
  instanceTypes := #[.int]
  staticTypes := #[]
  resolved := Array.replicate 218 none
  statics := none }

def pool8 : Array CpInfo := pool [(1, .class_ 2), (0, u "java/util/RandomAccess"), (0, .class_ 4), (0, u "java/lang/Object")] 2

/-- java/util/RandomAccess -/
def k8 : Class := { plain "java/util/RandomAccess" (some 0) with
  accessFlags := 1537
  interfaces := #[]
  cf := some (fileOf pool8 1 #[] #[] 1537 3 #[] #[])
  fields := #[]
  methods := #[]
  instanceTypes := #[]
  staticTypes := #[]
  resolved := Array.replicate 7 none
  statics := none }

def pool9 : Array CpInfo := pool [(1, .class_ 2), (0, u "java/lang/Cloneable"), (0, .class_ 4), (0, u "java/lang/Object")] 2

/-- java/lang/Cloneable -/
def k9 : Class := { plain "java/lang/Cloneable" (some 0) with
  accessFlags := 1537
  interfaces := #[]
  cf := some (fileOf pool9 1 #[] #[] 1537 3 #[] #[])
  fields := #[]
  methods := #[]
  instanceTypes := #[]
  staticTypes := #[]
  resolved := Array.replicate 7 none
  statics := none }

def pool10 : Array CpInfo := pool [(1, .class_ 2), (0, u "java/io/Serializable"), (0, .class_ 4), (0, u "java/lang/Object")] 2

/-- java/io/Serializable -/
def k10 : Class := { plain "java/io/Serializable" (some 0) with
  accessFlags := 1537
  interfaces := #[]
  cf := some (fileOf pool10 1 #[] #[] 1537 3 #[] #[])
  fields := #[]
  methods := #[]
  instanceTypes := #[]
  staticTypes := #[]
  resolved := Array.replicate 7 none
  statics := none }

def pool11 : Array CpInfo := pool [(1, .methodref 2 3), (0, .class_ 4), (0, .nameAndType 5 6), (0, u "java/util/AbstractList"), (0, u "<init>"), (0, u "()V"), (2, .fieldref 10 11), (0, .class_ 12), (0, .nameAndType 13 14), (0, u "java/util/ArrayList"), (0, u "elementData"), (0, u "[Ljava/lang/Object;"), (2, u "EMPTY_ELEMENTDATA"), (21, .fieldref 10 40), (0, .nameAndType 41 14), (0, u "DEFAULTCAPACITY_EMPTY_ELEMENTDATA"), (8, u "size"), (0, u "I"), (96, .class_ 149), (0, u "java/util/List"), (112, .class_ 263), (0, u "java/util/ArrayList$ListItr"), (3, .class_ 268), (0, u "java/util/ArrayList$Itr"), (7, .class_ 277), (0, u "java/util/ArrayList$SubList"), (12, .class_ 291), (0, u "java/util/ArrayList$ArrayListSpliterator"), (37, .class_ 330), (0, u "java/util/RandomAccess"), (0, .class_ 332), (0, u "java/lang/Cloneable"), (0, .class_ 334), (0, u "java/io/Serializable"), (0, u "serialVersionUID"), (0, u "J"), (3, u "DEFAULT_CAPACITY"), (159, .class_ 501), (0, u "java/util/ArrayList$SubList$2"), (0, .class_ 503), (0, u "java/util/ArrayList$SubList$1")] 5

def k11c0 : Code := { maxStack := 2, maxLocals := 1, code := jdk_38_method_2_code, exceptionTable := #[], attributes := #[] }
def k11m0 : Method := { name := "<init>", desc := "()V", sig := { parameters := [], returnType := none }, accessFlags := 1, code := some k11c0 }
/-- java/util/ArrayList -/
def k11 : Class := { plain "java/util/ArrayList" (some 7) with
  accessFlags := 33
  interfaces := #[6, 8, 9, 10]
  cf := some (fileOf pool11 10 #[.nestMembers #[290, 276, 500, 502, 262, 267]] #[{ accessFlags := 1, nameIndex := 5, descriptorIndex := 6, attributes := #[] }] 33 2 #[148, 329, 331, 333] #[{ accessFlags := 26, nameIndex := 335, descriptorIndex := 336, attributes := #[] }, { accessFlags := 26, nameIndex := 340, descriptorIndex := 51, attributes := #[] }, { accessFlags := 26, nameIndex := 17, descriptorIndex := 14, attributes := #[] }, { accessFlags := 26, nameIndex := 41, descriptorIndex := 14, attributes := #[] }, { accessFlags := 128, nameIndex := 13, descriptorIndex := 14, attributes := #[] }, { accessFlags := 2, nameIndex := 50, descriptorIndex := 51, attributes := #[] }])
  fields := #[{ name := "serialVersionUID", type := .long, accessFlags := 26, slot := 0, constantValue := 0 }, { name := "DEFAULT_CAPACITY", type := .int, accessFlags := 26, slot := 1, constantValue := 0 }, { name := "EMPTY_ELEMENTDATA", type := (.array (.object "java/lang/Object")), accessFlags := 26, slot := 2, constantValue := 0 }, { name := "DEFAULTCAPACITY_EMPTY_ELEMENTDATA", type := (.array (.object "java/lang/Object")), accessFlags := 26, slot := 3, constantValue := 0 }, { name := "elementData", type := (.array (.object "java/lang/Object")), accessFlags := 128, slot := 1, constantValue := 0 }, { name := "size", type := .int, accessFlags := 2, slot := 2, constantValue := 0 }]
  methods := #[k11m0]
  instanceTypes := #[.int, (.array (.object "java/lang/Object")), .int]
  staticTypes := #[.long, .int, (.array (.object "java/lang/Object")), (.array (.object "java/lang/Object"))]
  resolved := Array.replicate 509 none
  statics := some 0 }

def pool12 : Array CpInfo := pool [(1, .methodref 2 3), (0, .class_ 4), (0, .nameAndType 5 6), (0, u "java/lang/Object"), (0, u "<init>"), (0, u "()V"), (0, .class_ 8), (0, u "java/lang/Record")] 13

def k12c0 : Code := { maxStack := 1, maxLocals := 1, code := jdk_30_method_1_code, exceptionTable := #[], attributes := #[] }
def k12m0 : Method := { name := "<init>", desc := "()V", sig := { parameters := [], returnType := none }, accessFlags := 4, code := some k12c0 }
/-- java/lang/Record -/
def k12 : Class := { plain "java/lang/Record" (some 0) with
  accessFlags := 1057
  interfaces := #[]
  cf := some (fileOf pool12 7 #[] #[{ accessFlags := 4, nameIndex := 5, descriptorIndex := 6, attributes := #[] }] 1057 2 #[] #[])
  fields := #[]
  methods := #[k12m0]
  instanceTypes := #[]
  staticTypes := #[]
  resolved := Array.replicate 22 none
  statics := none }

def pool13 : Array CpInfo := pool [(1, .methodref 2 3), (0, .class_ 4), (0, .nameAndType 5 6), (0, u "java/lang/Record"), (0, u "<init>"), (0, u "()V"), (0, .fieldref 8 9), (0, .class_ 10), (0, .nameAndType 11 12), (0, u "com/example/cardinal_echo/cardinalecho/DistinctRange"), (0, u "start"), (0, u "J"), (0, .fieldref 8 14), (0, .nameAndType 15 12), (0, u "size"), (0, .fieldref 8 17), (0, .nameAndType 18 19), (0, u "downward"), (0, u "Z"), (0, .fieldref 8 21), (0, .nameAndType 22 23), (0, u "words"), (0, u "Ljava/util/List;"), (8, u "(JJZLjava/util/List;)V"), (20, u "NULL"), (0, u "Lcom/example/cardinal_echo/cardinalecho/DistinctRange;"), (7, u "first"), (0, u "(JJ)J")] 31

def k13c0 : Code := { maxStack := 3, maxLocals := 7, code := prog_23_method_2_code, exceptionTable := #[], attributes := #[] }
def k13m0 : Method := { name := "<init>", desc := "(JJZLjava/util/List;)V", sig := { parameters := [.long, .long, .boolean, (.object "java/util/List")], returnType := none }, accessFlags := 0, code := some k13c0 }
def k13c1 : Code := { maxStack := 4, maxLocals := 5, code := prog_23_method_3_code, exceptionTable := #[], attributes := #[] }
def k13m1 : Method := { name := "first", desc := "(JJ)J", sig := { parameters := [.long, .long], returnType := some .long }, accessFlags := 0, code := some k13c1 }
/-- com/example/cardinal_echo/cardinalecho/DistinctRange -/
def k13 : Class := { plain "com/example/cardinal_echo/cardinalecho/DistinctRange" (some 12) with
  accessFlags := 48
  interfaces := #[]
  cf := some (fileOf pool13 8 #[] #[{ accessFlags := 0, nameIndex := 5, descriptorIndex := 32, attributes := #[] }, { accessFlags := 0, nameIndex := 62, descriptorIndex := 63, attributes := #[] }] 48 2 #[] #[{ accessFlags := 18, nameIndex := 11, descriptorIndex := 12, attributes := #[] }, { accessFlags := 18, nameIndex := 15, descriptorIndex := 12, attributes := #[] }, { accessFlags := 18, nameIndex := 18, descriptorIndex := 19, attributes := #[] }, { accessFlags := 18, nameIndex := 22, descriptorIndex := 23, attributes := #[] }, { accessFlags := 24, nameIndex := 53, descriptorIndex := 54, attributes := #[] }])
  fields := #[{ name := "start", type := .long, accessFlags := 18, slot := 0, constantValue := 0 }, { name := "size", type := .long, accessFlags := 18, slot := 1, constantValue := 0 }, { name := "downward", type := .boolean, accessFlags := 18, slot := 2, constantValue := 0 }, { name := "words", type := (.object "java/util/List"), accessFlags := 18, slot := 3, constantValue := 0 }, { name := "NULL", type := (.object "com/example/cardinal_echo/cardinalecho/DistinctRange"), accessFlags := 24, slot := 0, constantValue := 0 }]
  methods := #[k13m0, k13m1]
  instanceTypes := #[.long, .long, .boolean, (.object "java/util/List")]
  staticTypes := #[(.object "com/example/cardinal_echo/cardinalecho/DistinctRange")]
  resolved := Array.replicate 95 none
  statics := none }

/-- the primitive byte -/
def k14 : Class := { plain "byte" none with kind := .primitive 'B', accessFlags := 0x411 }
/-- [B -/
def k15 : Class := { plain "[B" (some 0) with kind := .array 14 .byte, interfaces := #[9, 10], accessFlags := 1041 }

/-- the primitive int -/
def k16 : Class := { plain "int" none with kind := .primitive 'I', accessFlags := 0x411 }
/-- [I -/
def k17 : Class := { plain "[I" (some 0) with kind := .array 16 .int, interfaces := #[9, 10], accessFlags := 1041 }

/-- [Ljava/lang/Object; -/
def k18 : Class := { plain "[Ljava/lang/Object;" (some 0) with kind := .array 0 (.object "java/lang/Object"), interfaces := #[9, 10], accessFlags := 1041 }

def heap : Heap := #[{ cls := 11, slots := #[.long 0, .int 0, .ref 1, .ref 2], vm := .statics 11 },
  { cls := 18, slots := #[], vm := .none },
  { cls := 18, slots := #[], vm := .none }]
def classes : Array Class := #[k0, k1, k2, k3, k4, k5, k6, k7, k8, k9, k10, k11, k12, k13, k14, k15, k16, k17, k18]
def interned : List (Array UInt16 × Addr) := []
def slotsUsed : Nat := 4
def theMethod : MethodId := ⟨1, 1⟩
def args0 : Array Value := #[.long 5, .long 7, .long 6, .long 1, .int 0]
def aboutOver (below : List Frame) : State where
  vm := { classes := classes, interned := interned.toArray }
  heap := heap
  slotsUsed := slotsUsed
  threads := #[{ frames := .invoking theMethod args0 :: below }]
def below0 : List Frame := [.native { method := ⟨0, 0⟩, args := #[] }]
def about1 : State := aboutOver below0
def p0 : Program := .bare "" "" ""
def e0 : Env := launch0.env 0 0 0
theorem w_frames : about1.frames = Frame.invoking theMethod args0 :: below0 := rfl
set_option maxRecDepth 65536 in
theorem w_args : argsFit about1.vm theMethod args0 = true := by decide +kernel
set_option maxRecDepth 65536 in
theorem w_heap : heapFits about1 = true := by decide +kernel
set_option maxRecDepth 65536 in
theorem w_runnable : about1.curStatus? = some .runnable := by decide +kernel
set_option maxRecDepth 65536 in
theorem w_alone : about1.alone = true := by decide +kernel
set_option maxRecDepth 65536 in
theorem w_named : about1.methodNamed? x = some theMethod := by decide +kernel
set_option maxRecDepth 65536 in
theorem w_hears : about1.hears theMethod below0 = true := by decide +kernel
set_option maxRecDepth 65536 in
theorem w_ripe : about1.ripe theMethod args0 below0 = true := by decide +kernel
theorem w_running : about1.status = .running := rfl
set_option maxRecDepth 65536 in
theorem w_room : about1.hasRoom e0.platform room_1 = true :=
  launch0.hasRoom_least _ room_1 (by decide +kernel) (by decide +kernel) (by decide +kernel) (by decide +kernel) (by decide +kernel) (by decide +kernel)
theorem allAtoms_all (ts : List Jvm.Cond) (a : Array Jvm.Value) (st : Jvm.State) : (allAtoms ts).before a st = ts.all (fun c => c.before a st) := by
  induction ts with
  | nil => rfl
  | cons c t ih =>
    show (Jvm.Cond.and c (allAtoms t)).before a st = _
    rw [Jvm.Cond.before_and, ih, List.all_cons]
def words1 : List Jvm.Cond := Jvm.Cond.code x code maxLocals ret :: tables_1
/-- a 'code' word, met by the world's own term for the bytes: nothing is compared byte by byte -/
theorem code_word {y : MethodName} {bytes : ByteArray} {mx : Nat} {rt : Option FieldType} {a : Array Value} {s : State} {m : MethodId} {meth : Method} {c : Code} (h1 : s.methodNamed? y = some m) (h2 : s.vm.method? m = some meth) (h3 : meth.code = some c) (h4 : c.code = bytes)
    (h5 : (c.maxLocals == mx && c.exceptionTable.isEmpty && decide (c.maxStack ≤ mostOperands) && decide (meth.sig.returnType = rt) && !meth.locks && decide (parseMethodDescriptor y.desc = some meth.sig)) = true) : (Jvm.Cond.code y bytes mx rt).before a s = true := by
  simp only [Bool.and_eq_true, beq_iff_eq, Bool.not_eq_true', decide_eq_true_eq] at h5
  obtain ⟨⟨⟨⟨⟨g1, g2⟩, g3⟩, g4⟩, g5⟩, g6⟩ := h5
  simp [Cond.before, Cond.holds, Cond.value, h1, h2, h3, h4, g1, g2, g3, g4, g5, g6]
def isCode : Jvm.Cond → Bool
  | .code _ _ _ _ => true
  | _ => false
theorem all_split {L : List Jvm.Cond} {P : Jvm.Cond → Bool} (h1 : L.all (fun c => isCode c || P c) = true) (h2 : ∀ c ∈ L.filter isCode, P c = true) : L.all P = true := by
  refine List.all_eq_true.mpr fun c hc => ?_
  have h := List.all_eq_true.mp h1 c hc
  rcases Bool.eq_false_or_eq_true (isCode c) with hi | hi
  · exact h2 c (List.mem_filter.mpr ⟨hc, hi⟩)
  · simpa [hi] using h
set_option maxRecDepth 65536 in
theorem w_c0 : (Jvm.Cond.code x code maxLocals ret).before args0 about1 = true := code_word (m := ⟨1, 1⟩) (meth := k1m1) (c := k1c1) (by decide +kernel) rfl rfl rfl (by decide +kernel)
set_option maxRecDepth 65536 in
theorem w_c1 : (Jvm.Cond.code ({ cls := "java/util/ArrayList", name := "<init>", desc := "()V" } : Jvm.MethodName) jdk_38_method_2_code (1 : Nat) (Option.none : Option Jvm.ClassFile.FieldType)).before args0 about1 = true := code_word (m := ⟨11, 0⟩) (meth := k11m0) (c := k11c0) (by decide +kernel) rfl rfl rfl (by decide +kernel)
set_option maxRecDepth 65536 in
theorem w_c2 : (Jvm.Cond.code ({ cls := "java/util/AbstractList", name := "<init>", desc := "()V" } : Jvm.MethodName) jdk_39_method_1_code (1 : Nat) (Option.none : Option Jvm.ClassFile.FieldType)).before args0 about1 = true := code_word (m := ⟨7, 0⟩) (meth := k7m0) (c := k7c0) (by decide +kernel) rfl rfl rfl (by decide +kernel)
set_option maxRecDepth 65536 in
theorem w_c3 : (Jvm.Cond.code ({ cls := "java/util/AbstractCollection", name := "<init>", desc := "()V" } : Jvm.MethodName) jdk_22_method_1_code (1 : Nat) (Option.none : Option Jvm.ClassFile.FieldType)).before args0 about1 = true := code_word (m := ⟨4, 0⟩) (meth := k4m0) (c := k4c0) (by decide +kernel) rfl rfl rfl (by decide +kernel)
set_option maxRecDepth 65536 in
theorem w_c4 : (Jvm.Cond.code ({ cls := "java/lang/Object", name := "<init>", desc := "()V" } : Jvm.MethodName) object_method_1_code (1 : Nat) (Option.none : Option Jvm.ClassFile.FieldType)).before args0 about1 = true := code_word (m := ⟨0, 0⟩) (meth := k0m0) (c := k0c0) (by decide +kernel) rfl rfl rfl (by decide +kernel)
set_option maxRecDepth 65536 in
theorem w_c5 : (Jvm.Cond.code ({ cls := "com/example/cardinal_echo/cardinalecho/DistinctRange", name := "<init>", desc := "(JJZLjava/util/List;)V" } : Jvm.MethodName) prog_23_method_2_code (7 : Nat) (Option.none : Option Jvm.ClassFile.FieldType)).before args0 about1 = true := code_word (m := ⟨13, 0⟩) (meth := k13m0) (c := k13c0) (by decide +kernel) rfl rfl rfl (by decide +kernel)
set_option maxRecDepth 65536 in
theorem w_c6 : (Jvm.Cond.code ({ cls := "java/lang/Record", name := "<init>", desc := "()V" } : Jvm.MethodName) jdk_30_method_1_code (1 : Nat) (Option.none : Option Jvm.ClassFile.FieldType)).before args0 about1 = true := code_word (m := ⟨12, 0⟩) (meth := k12m0) (c := k12c0) (by decide +kernel) rfl rfl rfl (by decide +kernel)
set_option maxRecDepth 65536 in
theorem w_c7 : (Jvm.Cond.code ({ cls := "com/example/cardinal_echo/cardinalecho/DistinctRange", name := "first", desc := "(JJ)J" } : Jvm.MethodName) prog_23_method_3_code (5 : Nat) (Option.some Jvm.ClassFile.FieldType.long)).before args0 about1 = true := code_word (m := ⟨13, 1⟩) (meth := k13m1) (c := k13c1) (by decide +kernel) rfl rfl rfl (by decide +kernel)
def codes1 : List Jvm.Cond := [Jvm.Cond.code x code maxLocals ret, Jvm.Cond.code ({ cls := "java/util/ArrayList", name := "<init>", desc := "()V" } : Jvm.MethodName) jdk_38_method_2_code (1 : Nat) (Option.none : Option Jvm.ClassFile.FieldType), Jvm.Cond.code ({ cls := "java/util/AbstractList", name := "<init>", desc := "()V" } : Jvm.MethodName) jdk_39_method_1_code (1 : Nat) (Option.none : Option Jvm.ClassFile.FieldType), Jvm.Cond.code ({ cls := "java/util/AbstractCollection", name := "<init>", desc := "()V" } : Jvm.MethodName) jdk_22_method_1_code (1 : Nat) (Option.none : Option Jvm.ClassFile.FieldType), Jvm.Cond.code ({ cls := "java/lang/Object", name := "<init>", desc := "()V" } : Jvm.MethodName) object_method_1_code (1 : Nat) (Option.none : Option Jvm.ClassFile.FieldType), Jvm.Cond.code ({ cls := "com/example/cardinal_echo/cardinalecho/DistinctRange", name := "<init>", desc := "(JJZLjava/util/List;)V" } : Jvm.MethodName) prog_23_method_2_code (7 : Nat) (Option.none : Option Jvm.ClassFile.FieldType), Jvm.Cond.code ({ cls := "java/lang/Record", name := "<init>", desc := "()V" } : Jvm.MethodName) jdk_30_method_1_code (1 : Nat) (Option.none : Option Jvm.ClassFile.FieldType), Jvm.Cond.code ({ cls := "com/example/cardinal_echo/cardinalecho/DistinctRange", name := "first", desc := "(JJ)J" } : Jvm.MethodName) prog_23_method_3_code (5 : Nat) (Option.some Jvm.ClassFile.FieldType.long)]
set_option maxRecDepth 65536 in
theorem codes_eq : words1.filter isCode = codes1 := rfl
theorem w_codes : ∀ c ∈ words1.filter isCode, c.before args0 about1 = true := by
  rw [codes_eq]
  intro c hc
  simp only [codes1, List.mem_cons, List.not_mem_nil, or_false] at hc
  rcases hc with rfl | rfl | rfl | rfl | rfl | rfl | rfl | rfl
  · exact w_c0
  · exact w_c1
  · exact w_c2
  · exact w_c3
  · exact w_c4
  · exact w_c5
  · exact w_c6
  · exact w_c7
set_option maxRecDepth 65536 in
theorem w_t1 : (words1.take 24).all (fun c => isCode c || c.before args0 about1) = true := by decide +kernel
set_option maxRecDepth 65536 in
theorem w_t2 : ((words1.drop 24).take 24).all (fun c => isCode c || c.before args0 about1) = true := by decide +kernel
set_option maxRecDepth 65536 in
theorem w_t3 : ((words1.drop 24).drop 24).all (fun c => isCode c || c.before args0 about1) = true := by decide +kernel
theorem w_tables : (allAtoms (Jvm.Cond.code x code maxLocals ret :: tables_1)).before args0 about1 = true := by
  rw [allAtoms_all]
  show words1.all (fun c => c.before args0 about1) = true
  refine all_split ?_ w_codes
  rw [← List.take_append_drop 24 words1, List.all_append, w_t1, ← List.take_append_drop 24 (words1.drop 24), List.all_append, w_t2, w_t3]
  rfl
set_option maxRecDepth 65536 in
theorem w_rest : rest_1_c.before args0 about1 = true := by decide +kernel
set_option maxRecDepth 65536 in
theorem w_case : (Jvm.Cond.and given_1 narrow_1).before args0 about1 = true := by decide +kernel
theorem w_applies : (headSpec (Jvm.Cond.code x code maxLocals ret :: tables_1) room_1).applies x e0.platform about1 = true :=
  (Spec.applies_iff w_frames).mpr ⟨w_running, w_runnable, w_alone, w_named, w_hears, w_ripe, w_room, w_tables⟩
theorem atStart : AtStart classFile x code maxLocals ret World_1 tables_1 room_1 Calls_1 rest_1 Pre_1 launch0 p0 e0 about1 theMethod args0 below0 :=
  ⟨lists_1, trivial, launch0.admits_env _ _ _, launch0.least_env, fairChoices_fair.cas, fairChoices_fair.clock, w_frames, w_args, w_heap, w_applies, trivial, w_rest, w_case⟩
end start1
theorem witness_1 : WitnessClaimed_1 := ⟨start1.p0, start1.e0, start1.about1, start1.theMethod, start1.args0, start1.below0, start1.atStart⟩
end Jvm.Pilot.@@N@@
