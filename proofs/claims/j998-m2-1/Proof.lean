import JvmDerived
import JvmDerived.Pilot.@@N@@Statement
import JvmDerived.Pilot.@@N@@Code
set_option linter.unusedVariables false
set_option linter.unusedSimpArgs false
namespace Jvm.RoadKit
open Sem ClassFile Op Lib Jvm.Stand Jvm.Free Jvm.LawKit
section New
variable {p : Program} {l : Launch} {e : Env} {R : Room} {s : State} {m : MethodId} {args : Array Value} {below : List Frame} {meth : Method} {c : Code} {T : State} {locs : List Loc} {cells slots : Nat}
theorem retI (X : Stand p l e R s m args below meth c T locs cells slots) (hx : p.tables.exec = Jvm.exec) {pc : Nat} {Ls : Array Slot} {z : Int32} {rest : List Value} (hret : meth.sig.returnType = some .int) (hd : decode c.code pc = .ok (.ireturn, 1)) {fs : List Frame}
    (hl : ∀ (f : JFrame) (acts : List Action), f.method = m → f.locked = none → f.entered = [] → (doReturn e (T.setTop f) acts (some (.int z))).1 = T.setFrames fs) : Steps p.tables e below (T.setTop (mkF m pc Ls (.int z :: rest))) (T.setFrames fs) := by
  have hm' : T.vm.method? m = some meth := X.method'
  have hn : narrow .int (.int z) = .int z := rfl
  show Steps p.tables e below (T.setTop { method := m, pc := pc, locals := Ls, stack := _ :: rest, locked := none }) _
  jvm_step X.here [X.here.top, hx, hd, hm', hret, hn]
  first | (intro acts; rw [hl _ acts rfl rfl rfl]) | rw [hl _ _ rfl rfl rfl]
  exact Steps.refl _
end New
end Jvm.RoadKit
namespace Jvm.Pilot.@@N@@
open Jvm Jvm.ClassFile Sem Op Lib Jvm.Free Jvm.Stand Jvm.LawKit Jvm.RoadKit Bundle Jvm.Pilot.@@N@@.Jvm.D
/-- from A the run comes to an end of which P is said -/
def own_Go (p : Program) (e : Env) (below : List Frame) (P : State → Outcome → Prop) (A : State) : Prop := ∃ s₂ o, Steps p.tables e below A s₂ ∧ P s₂ o
theorem own_step {p : Program} {e : Env} {below : List Frame} {P : State → Outcome → Prop} {A : State} (B : State) (h : ∀ t, Steps p.tables e below B t → Steps p.tables e below A t) (g : own_Go p e below P B) : own_Go p e below P A := by
  obtain ⟨s₂, o, h1, h2⟩ := g; exact ⟨s₂, o, h s₂ h1, h2⟩
theorem own_comes {p : Program} {e : Env} {below : List Frame} {P : State → Outcome → Prop} {A : State} (B : State) (h : Steps p.tables e below A B) (g : own_Go p e below P B) : own_Go p e below P A := by
  obtain ⟨s₂, o, h1, h2⟩ := g; exact ⟨s₂, o, h.trans h1, h2⟩
theorem own_sta_keep {Z : State} {h h' : Heap} {C n d : String} {w : Value} {ws : List Addr} (F : Sta Z h C n d w) (K : Keep h h' ws) (hw : ∀ x ∈ ws, ∀ cell : Cell, h[x]? = some cell → cell.vm.isStatics = false) : Sta Z h' C n d w := by
  obtain ⟨cf, i, k, f, st, cell, h1, h2, h3, h4, h5, h6, r⟩ := F
  exact ⟨cf, i, k, f, st, cell, h1, h2, h3, h4, K.2.1 _ _ h5 (fun q => by rw [hw _ q _ h5] at h6; cases h6), h6, r⟩
theorem own_sel {s : State} {args : Array Value} {y : MethodName} {n : Nat} (w : (Cond.instantiable y.cls n).before args s = true) (hp : (Cond.privateMethod y).before args s = true) (hi : (Cond.instanceMethod y).before args s = true) (hy : y.cls ≠ "java/lang/invoke/MethodHandle" ∧ y.cls ≠ "java/lang/invoke/VarHandle") : (Cond.selects y.cls y y).before args s = true := by
  obtain ⟨c, k, h1, h2, -, h4, -, -⟩ := Cond.instantiable_spec w
  simp only [Bool.or_eq_false_iff] at h4
  exact Jvm.Stand.selects_self_of_private h1 h2 h4.1 (Cond.privateMethod_at hp) hi hy
def own_lrem (x y : Int64) : Int64 := x - x / y * y
theorem own_vne {a b : Int32} (h : a ≠ b) : Value.int a ≠ Value.int b := fun q => h (Value.int.inj q)
theorem own_lgtT {x y : Int64} (h : y < x) : ifCond.holds .gt (lcmpW x y) = true := (if0 _ _).trans (tlt ((lw_gt x y).mpr h)).2.2.1
theorem own_lgtF {x y : Int64} (h : ¬ y < x) : ifCond.holds .gt (lcmpW x y) = false := (if0 _ _).trans (flt (fun q => h ((lw_gt x y).mp q))).2.2.1
theorem own_lleT {x y : Int64} (h : ¬ y < x) : ifCond.holds .le (lcmpW x y) = true := (if0 _ _).trans (flt (fun q => h ((lw_gt x y).mp q))).2.2.2
theorem own_lleF {x y : Int64} (h : y < x) : ifCond.holds .le (lcmpW x y) = false := (if0 _ _).trans (tlt ((lw_gt x y).mpr h)).2.2.2
theorem own_lltT {x y : Int64} (h : x < y) : ifCond.holds .lt (lcmpW x y) = true := (if0 _ _).trans (tlt ((lw_lt x y).mpr h)).1
theorem own_lltF {x y : Int64} (h : ¬ x < y) : ifCond.holds .lt (lcmpW x y) = false := (if0 _ _).trans (flt (fun q => h ((lw_lt x y).mp q))).1
theorem own_lgeT {x y : Int64} (h : ¬ x < y) : ifCond.holds .ge (lcmpW x y) = true := (if0 _ _).trans (flt (fun q => h ((lw_lt x y).mp q))).2.1
theorem own_lgeF {x y : Int64} (h : x < y) : ifCond.holds .ge (lcmpW x y) = false := (if0 _ _).trans (tlt ((lw_lt x y).mpr h)).2.1
theorem own_leqT {x y : Int64} (h : x = y) : ifCond.holds .eq (lcmpW x y) = true := (if0 _ _).trans (teq ((lw_eq x y).mpr h)).1
theorem own_leqF {x y : Int64} (h : ¬ x = y) : ifCond.holds .eq (lcmpW x y) = false := (if0 _ _).trans (feq (fun q => h ((lw_eq x y).mp q))).1
theorem own_lneT {x y : Int64} (h : ¬ x = y) : ifCond.holds .ne (lcmpW x y) = true := (if0 _ _).trans (feq (fun q => h ((lw_eq x y).mp q))).2
theorem own_lneF {x y : Int64} (h : x = y) : ifCond.holds .ne (lcmpW x y) = false := (if0 _ _).trans (teq ((lw_eq x y).mpr h)).2
def own_in (lo t hi : Int64) : Int32 := if ¬ t < lo ∧ ¬ hi < t then 1 else 0
def own_max (x y : Int64) : Int64 := if x < y then y else x
def own_min (x y : Int64) : Int64 := if y < x then y else x
def own_emp (lo hi : Int64) : Int32 := if hi < lo then 1 else 0
theorem own_e0 {a b t : Int64} (h : own_emp (own_max a t) (own_min b t) = 0) : own_in a t b = 1 := by
  have h1 : ¬ own_min b t < own_max a t := by
    intro q; simp [own_emp, q] at h
  have : ¬ t < a ∧ ¬ b < t := by
    unfold own_min own_max at h1
    split at h1 <;> split at h1 <;> simp only [Int64.lt_iff_toInt_lt] at * <;> omega
  simp [own_in, this]
theorem own_e1 {a b t : Int64} (h : ¬ own_emp (own_max a t) (own_min b t) = 0) : own_in a t b = 0 := by
  have h1 : own_min b t < own_max a t := by
    apply Classical.byContradiction; intro q; simp [own_emp, q] at h
  have : ¬ (¬ t < a ∧ ¬ b < t) := by
    unfold own_min own_max at h1
    split at h1 <;> split at h1 <;> simp only [Int64.lt_iff_toInt_lt] at * <;> omega
  simp only [own_in, this, if_false]
theorem own_irr (a : Int64) : ¬ a < a := by rw [Int64.lt_iff_toInt_lt]; omega
theorem own_pt (t : Int64) : ¬ own_in t t t = 0 := by simp [own_in, own_irr]
theorem own_lo {a b : Int64} (h : ¬ b < a) : ¬ own_in a a b = 0 := by simp [own_in, own_irr, h]
theorem own_hi {a b : Int64} (h : ¬ b < a) : ¬ own_in a b b = 0 := by simp [own_in, own_irr, h]
theorem pd_0 : parseMethodDescriptor "(JJ)V" = some ⟨[.long, .long], none⟩ := by decide +kernel
theorem pd_1 : parseMethodDescriptor "()V" = some ⟨[], none⟩ := by decide +kernel
theorem pd_2 : parseMethodDescriptor "(JJJI)J" = some ⟨[.long, .long, .long, .int], some .long⟩ := by decide +kernel
theorem pd_3 : parseMethodDescriptor "(J)Z" = some ⟨[.long], some .boolean⟩ := by decide +kernel
theorem pd_4 : parseMethodDescriptor "(Lcom/example/quillon/quillon/storage/TimeRange;)Lcom/example/quillon/quillon/storage/TimeRange;" = some ⟨[(.object "com/example/quillon/quillon/storage/TimeRange")], some (.object "com/example/quillon/quillon/storage/TimeRange")⟩ := by decide +kernel
theorem pd_5 : parseMethodDescriptor "(JJ)J" = some ⟨[.long, .long], some .long⟩ := by decide +kernel
theorem pd_6 : parseMethodDescriptor "()Z" = some ⟨[], some .boolean⟩ := by decide +kernel
theorem d2_0 : decode jdk_30_method_1_code 0 = .ok (.aload_n 0, 1) := by decide +kernel
theorem d2_1 : decode jdk_30_method_1_code 1 = .ok (.invokespecial 1, 3) := by decide +kernel
theorem d2_4 : decode jdk_30_method_1_code 4 = .ok (.return_, 1) := by decide +kernel
theorem pn_2 : plainName "java/lang/Record" = true := by first | (simp [plainName, overriddenIn]; done) | decide +kernel
theorem ef_rm2 (m : MethodId) (a : Addr) : entryFrame m #[(.ref a)] 1 = mkF m 0 #[.val (.ref a)] [] := by first | (simp [entryFrame, mkF, argsToLocals, Value.category]; done) | rfl
def Q_rm2 (Z : State) (a : Addr) (h0 : Heap) (n0 : Nat) (v : Option Value) (h : Heap) (L : List Loc) : Prop := v = none ∧ Fr n0 L ∧ h = h0
set_option maxRecDepth 65536 in
set_option maxHeartbeats 40000000 in
theorem rm2 (l : Launch) (Z : State) (a0 : Array Value) (hw : ∀ d ∈ tables_1, d.before a0 Z = true) (ws : List Jvm.Cond) (a : Addr) (h0 : Heap) (n0 : Nat) (Z0 : n0 ≤ h0.size) :
    MetFree l (⟨"java/lang/Record", "<init>", "()V"⟩ : MethodName) (head1 (Jvm.Cond.code (⟨"java/lang/Record", "<init>", "()V"⟩ : MethodName) jdk_30_method_1_code 1 none :: ws) ({ frames := 1, cells := 0, slots := 0, locals := 12 } : Room)) (fun as₉ U => as₉ = #[(.ref a)] ∧ Z.Warmed39 U.vm ∧ U.heap = h0) (fun _ _ _ _ _ => True) (fun _ U o₉ U' => ∃ v L, o₉ = .returned v ∧ Q_rm2 Z a h0 n0 v U'.heap L ∧ FrameEnd U o₉ U' L ({ frames := 1, cells := 0, slots := 0, locals := 12 } : Room).cells ({ frames := 1, cells := 0, slots := 0, locals := 12 } : Room).slots) := by
  refine MetFree.of_bodySF (plainFor_of_name pn_2) hisR ?_
  intro p e s m args below meth c s₁ Bd hml0 hP hK
  obtain ⟨rfl, hZ, hh⟩ := hP
  have hx := Bd.exec
  have hby := Bd.bytes
  have hml : c.maxLocals = 1 := hml0
  have hown : s.vm.findClass "java/lang/Record" = some m.cls := findClass_of_methodNamed Bd.named
  have hnm := (name_of_methodNamed Bd.named Bd.method).1
  have X0 : Stand p l e ({ frames := 1, cells := 0, slots := 0, locals := 12 } : Room) s m #[(.ref a)] below meth c s₁ [] 0 0 := Stand.of_body Bd
  have e0 : s₁.heap = h0 := by rw [← hh, Bd.state]; rfl
  have N0 := Fr.nil n0
  show own_Go p e below (fun s₂ o₉ => s₂.status = .running ∧ Ended s₂ below o₉ ∧ ∃ v L, o₉ = .returned v ∧ Q_rm2 Z a h0 n0 v s₂.heap L ∧ FrameEnd s o₉ s₂ L ({ frames := 1, cells := 0, slots := 0, locals := 12 } : Room).cells ({ frames := 1, cells := 0, slots := 0, locals := 12 } : Room).slots) (s₁.setTop (entryFrame m #[(.ref a)] 1))
  rw [ef_rm2 m a]
  refine own_step (s₁.setTop (mkF m 1 #[.val (.ref a)] [(.ref a)])) (fun t₀ k₀ => XS.aloadN X0.here hx rfl (hb hby d2_0) rfl rfl k₀) ?_
  obtain ⟨T1, X1, e1, st1⟩ := initO X0 hx hZ hown (hw _ (List.mem_of_getElem? (i := 11) rfl)) (hw _ (List.mem_of_getElem? (i := 12) rfl)) (hw _ (List.mem_of_getElem? (i := 13) rfl)) e0 (g := (mkF m 1 #[.val (.ref a)] [(.ref a)])) rfl (by rw [hml]; rfl) rfl (hb hby d2_1) (by decide) (W := 0) (by show 2 * 0 + _ ≤ _; exact Nat.le_of_eq rfl) (by decide)
  refine own_step (T1.setTop (mkF m 4 #[.val (.ref a)] [])) (fun t₀ k₀ => st1 t₀ k₀) ?_
  obtain ⟨fs, hr, hrun, hended, hW, hsame⟩ := X1.leave (v := none) (fun _ => rfl)
  refine ⟨_, _, ?_, hrun, hended, _, _, rfl, ?_, ⟨_, rfl⟩, hW, hsame.mono (by decide) (by decide)⟩
  · exact X1.returnOut hx Bd.returns (hb hby d2_4) hr
  · show Q_rm2 Z a h0 n0 _ T1.heap _
    rw [e1]
    exact ⟨rfl, N0, rfl⟩
theorem d1_0 : decode prog_83_method_1_code 0 = .ok (.aload_n 0, 1) := by decide +kernel
theorem d1_1 : decode prog_83_method_1_code 1 = .ok (.invokespecial 1, 3) := by decide +kernel
theorem d1_4 : decode prog_83_method_1_code 4 = .ok (.aload_n 0, 1) := by decide +kernel
theorem d1_5 : decode prog_83_method_1_code 5 = .ok (.lload_n 1, 1) := by decide +kernel
theorem d1_6 : decode prog_83_method_1_code 6 = .ok (.putfield 7, 3) := by decide +kernel
theorem d1_9 : decode prog_83_method_1_code 9 = .ok (.aload_n 0, 1) := by decide +kernel
theorem d1_10 : decode prog_83_method_1_code 10 = .ok (.lload_n 3, 1) := by decide +kernel
theorem d1_11 : decode prog_83_method_1_code 11 = .ok (.putfield 13, 3) := by decide +kernel
theorem d1_14 : decode prog_83_method_1_code 14 = .ok (.return_, 1) := by decide +kernel
theorem pn_1 : plainName "com/example/quillon/quillon/storage/TimeRange" = true := by first | (simp [plainName, overriddenIn]; done) | decide +kernel
theorem ef_rm1 (m : MethodId) (a : Addr) (lo : Int64) (hi : Int64) : entryFrame m #[(.ref a), (.long lo), (.long hi)] 5 = mkF m 0 #[.val (.ref a), .val (.long lo), .second, .val (.long hi), .second] [] := by first | (simp [entryFrame, mkF, argsToLocals, Value.category]; done) | rfl
def Q_rm1 (Z : State) (a : Addr) (lo : Int64) (hi : Int64) (u1 : Int64) (u2 : Int64) (h0 : Heap) (n0 : Nat) (v : Option Value) (h : Heap) (L : List Loc) : Prop := v = none ∧ Fr n0 L ∧ Keep h0 h [a] ∧ Exa Z h a "com/example/quillon/quillon/storage/TimeRange" ∧ Fld Z h a "com/example/quillon/quillon/storage/TimeRange" "first" "J" (.long lo) ∧ Fld Z h a "com/example/quillon/quillon/storage/TimeRange" "last" "J" (.long hi)
set_option maxRecDepth 65536 in
set_option maxHeartbeats 40000000 in
theorem rm1 (l : Launch) (Z : State) (a0 : Array Value) (hw : ∀ d ∈ tables_1, d.before a0 Z = true) (ws : List Jvm.Cond) (a : Addr) (lo : Int64) (hi : Int64) (u1 : Int64) (u2 : Int64) (h0 : Heap) (n0 : Nat) (Z0 : n0 ≤ h0.size) (Ea : Exa Z h0 a "com/example/quillon/quillon/storage/TimeRange") (Fa1 : Fld Z h0 a "com/example/quillon/quillon/storage/TimeRange" "first" "J" (.long u1)) (Fa2 : Fld Z h0 a "com/example/quillon/quillon/storage/TimeRange" "last" "J" (.long u2)) (ga : n0 ≤ a) :
    MetFree l (⟨"com/example/quillon/quillon/storage/TimeRange", "<init>", "(JJ)V"⟩ : MethodName) (head1 (Jvm.Cond.code (⟨"com/example/quillon/quillon/storage/TimeRange", "<init>", "(JJ)V"⟩ : MethodName) prog_83_method_1_code 5 none :: ws) ({ frames := 2, cells := 0, slots := 0, locals := 24 } : Room)) (fun as₉ U => as₉ = #[(.ref a), (.long lo), (.long hi)] ∧ Z.Warmed39 U.vm ∧ U.heap = h0) (fun _ _ _ _ _ => True) (fun _ U o₉ U' => ∃ v L, o₉ = .returned v ∧ Q_rm1 Z a lo hi u1 u2 h0 n0 v U'.heap L ∧ FrameEnd U o₉ U' L ({ frames := 2, cells := 0, slots := 0, locals := 24 } : Room).cells ({ frames := 2, cells := 0, slots := 0, locals := 24 } : Room).slots) := by
  refine MetFree.of_bodySF (plainFor_of_name pn_1) hisR ?_
  intro p e s m args below meth c s₁ Bd hml0 hP hK
  obtain ⟨rfl, hZ, hh⟩ := hP
  have hx := Bd.exec
  have hby := Bd.bytes
  have hml : c.maxLocals = 5 := hml0
  have hown : s.vm.findClass "com/example/quillon/quillon/storage/TimeRange" = some m.cls := findClass_of_methodNamed Bd.named
  have hnm := (name_of_methodNamed Bd.named Bd.method).1
  have X0 : Stand p l e ({ frames := 2, cells := 0, slots := 0, locals := 24 } : Room) s m #[(.ref a), (.long lo), (.long hi)] below meth c s₁ [] 0 0 := Stand.of_body Bd
  have e0 : s₁.heap = h0 := by rw [← hh, Bd.state]; rfl
  have N0 := Fr.nil n0
  show own_Go p e below (fun s₂ o₉ => s₂.status = .running ∧ Ended s₂ below o₉ ∧ ∃ v L, o₉ = .returned v ∧ Q_rm1 Z a lo hi u1 u2 h0 n0 v s₂.heap L ∧ FrameEnd s o₉ s₂ L ({ frames := 2, cells := 0, slots := 0, locals := 24 } : Room).cells ({ frames := 2, cells := 0, slots := 0, locals := 24 } : Room).slots) (s₁.setTop (entryFrame m #[(.ref a), (.long lo), (.long hi)] 5))
  rw [ef_rm1 m a lo hi]
  refine own_step (s₁.setTop (mkF m 1 #[.val (.ref a), .val (.long lo), .second, .val (.long hi), .second] [(.ref a)])) (fun t₀ k₀ => XS.aloadN X0.here hx rfl (hb hby d1_0) rfl rfl k₀) ?_
  obtain ⟨_, _, ⟨T2, L2, k2, n2⟩, -, X2, ⟨Lc2, hQ2, l2, y2, z2⟩, st2⟩ := X0.specialBack hx (y := (⟨"java/lang/Record", "<init>", "()V"⟩ : MethodName)) rfl hown (mvT hZ (hw _ (List.mem_of_getElem? (i := 6) rfl))) (mvT hZ (hw _ (List.mem_of_getElem? (i := 7) rfl))) (mvT hZ (hw _ (List.mem_of_getElem? (i := 10) rfl))) (by decide) (backOf (W := 0) (rm2 l Z a0 hw [] a h0 n0 Z0) hZ (hw _ (List.mem_of_getElem? (i := 10) rfl)) (hw _ (List.mem_of_getElem? (i := 9) rfl)) (by decide) (by decide)) (g := (mkF m 1 #[.val (.ref a), .val (.long lo), .second, .val (.long hi), .second] [(.ref a)])) rfl (by rw [hml]; rfl) (Steps.refl _) (a := a) (argsL := []) (rest := []) (lenOf pd_1 rfl) rfl (by show 2 * 0 + _ ≤ _; exact Nat.le_of_eq rfl) (hb hby d1_1) (fun _ _ => ⟨rfl, e0, (by decide : 0 + 0 ≤ _), (by decide : 0 + 0 ≤ _)⟩)
  dsimp only [Pt.U, Pt.locs, Pt.cells, Pt.slots] at X2 l2 y2 z2 st2 hQ2
  subst l2 y2 z2
  obtain ⟨rfl, N2q, e2⟩ := hQ2
  have N2 := Fr.app N0 N2q
  refine own_comes (T2.setTop (mkF m 4 #[.val (.ref a), .val (.long lo), .second, .val (.long hi), .second] [])) st2 ?_
  refine own_step (T2.setTop (mkF m 5 #[.val (.ref a), .val (.long lo), .second, .val (.long hi), .second] [(.ref a)])) (fun t₀ k₀ => XS.aloadN X2.here hx rfl (hb hby d1_4) rfl rfl k₀) ?_
  refine own_step (T2.setTop (mkF m 6 #[.val (.ref a), .val (.long lo), .second, .val (.long hi), .second] [(.long lo), (.ref a)])) (fun t₀ k₀ => XS.lloadN X2.here hx rfl (hb hby d1_5) rfl k₀) ?_
  obtain ⟨T3, h3, X3, e3, W3, st3⟩ := putF X2 hx hZ hown (host := "") (Or.inl (hw _ (List.mem_of_getElem? (i := 14) rfl))) Via.refl e2 Fa1 Ea (Or.inr ⟨(hw _ (List.mem_of_getElem? (i := 15) rfl)), rfl, hnm⟩) (hw _ (List.mem_of_getElem? (i := 1) rfl)) (ty := .long) (by decide) rfl rfl (g := (mkF m 6 #[.val (.ref a), .val (.long lo), .second, .val (.long hi), .second] [(.long lo), (.ref a)])) rfl rfl (hb hby d1_6)
  have f4 : Fld Z h3 a "com/example/quillon/quillon/storage/TimeRange" "first" "J" (.long lo) := Fa1.same W3
  have f5 : Exa Z h3 a "com/example/quillon/quillon/storage/TimeRange" := Ea.wr W3
  have f6 : Fld Z h3 a "com/example/quillon/quillon/storage/TimeRange" "last" "J" (.long u2) := Fa2.other W3 (Or.inr (slot_ne (Or.inr (hw _ (List.mem_of_getElem? (i := 17) rfl))) (Or.inr (hw _ (List.mem_of_getElem? (i := 15) rfl))) (by decide) (t := .long) (t' := .long) (by decide) (by decide)))
  have N3 := Fr.snoc X3 N2 ga
  have z3 : n0 ≤ h3.size := Nat.le_trans Z0 (Keep.of_wr W3).1
  have K3 : Keep h0 h3 [a] := (Keep.refl h0 [a]).wr W3 (Or.inl (List.mem_of_getElem? (i := 0) rfl))
  refine own_step (T3.setTop (mkF m 9 #[.val (.ref a), .val (.long lo), .second, .val (.long hi), .second] [])) (fun t₀ k₀ => st3 t₀ k₀) ?_
  refine own_step (T3.setTop (mkF m 10 #[.val (.ref a), .val (.long lo), .second, .val (.long hi), .second] [(.ref a)])) (fun t₀ k₀ => XS.aloadN X3.here hx rfl (hb hby d1_9) rfl rfl k₀) ?_
  refine own_step (T3.setTop (mkF m 11 #[.val (.ref a), .val (.long lo), .second, .val (.long hi), .second] [(.long hi), (.ref a)])) (fun t₀ k₀ => XS.lloadN X3.here hx rfl (hb hby d1_10) rfl k₀) ?_
  obtain ⟨T7, h7, X7, e7, W7, st7⟩ := putF X3 hx hZ hown (host := "") (Or.inl (hw _ (List.mem_of_getElem? (i := 16) rfl))) Via.refl e3 f6 f5 (Or.inr ⟨(hw _ (List.mem_of_getElem? (i := 17) rfl)), rfl, hnm⟩) (hw _ (List.mem_of_getElem? (i := 1) rfl)) (ty := .long) (by decide) rfl rfl (g := (mkF m 11 #[.val (.ref a), .val (.long lo), .second, .val (.long hi), .second] [(.long hi), (.ref a)])) rfl rfl (hb hby d1_11)
  have f8 : Fld Z h7 a "com/example/quillon/quillon/storage/TimeRange" "last" "J" (.long hi) := f6.same W7
  have f9 : Exa Z h7 a "com/example/quillon/quillon/storage/TimeRange" := f5.wr W7
  have f10 : Fld Z h7 a "com/example/quillon/quillon/storage/TimeRange" "first" "J" (.long lo) := f4.other W7 (Or.inr (slot_ne (Or.inr (hw _ (List.mem_of_getElem? (i := 15) rfl))) (Or.inr (hw _ (List.mem_of_getElem? (i := 17) rfl))) (by decide) (t := .long) (t' := .long) (by decide) (by decide)))
  have N7 := Fr.snoc X7 N3 ga
  have z7 : n0 ≤ h7.size := Nat.le_trans z3 (Keep.of_wr W7).1
  have K7 : Keep h0 h7 [a] := K3.wr W7 (Or.inl (List.mem_of_getElem? (i := 0) rfl))
  refine own_step (T7.setTop (mkF m 14 #[.val (.ref a), .val (.long lo), .second, .val (.long hi), .second] [])) (fun t₀ k₀ => st7 t₀ k₀) ?_
  obtain ⟨fs, hr, hrun, hended, hW, hsame⟩ := X7.leave (v := none) (fun _ => rfl)
  refine ⟨_, _, ?_, hrun, hended, _, _, rfl, ?_, ⟨_, rfl⟩, hW, hsame.mono (by decide) (by decide)⟩
  · exact X7.returnOut hx Bd.returns (hb hby d1_14) hr
  · show Q_rm1 Z a lo hi u1 u2 h0 n0 _ T7.heap _
    rw [e7]
    exact ⟨rfl, N7, K7, f9, f10, f8⟩
theorem d4_0 : decode method_2_code 0 = .ok (.iload 6, 2) := by decide +kernel
theorem d4_2 : decode method_2_code 2 = .ok (.bipush 7, 2) := by decide +kernel
theorem d4_4 : decode method_2_code 4 = .ok (.iand, 1) := by decide +kernel
theorem d4_5 : decode method_2_code 5 = .ok (.istore 7, 2) := by decide +kernel
theorem d4_7 : decode method_2_code 7 = .ok (.iload 7, 2) := by decide +kernel
theorem d4_9 : decode method_2_code 9 = .ok (.ifCond .ne 5, 3) := by decide +kernel
theorem d4_12 : decode method_2_code 12 = .ok (.lload_n 0, 1) := by decide +kernel
theorem d4_13 : decode method_2_code 13 = .ok (.lreturn, 1) := by decide +kernel
theorem d4_14 : decode method_2_code 14 = .ok (.iload 7, 2) := by decide +kernel
theorem d4_16 : decode method_2_code 16 = .ok (.iconst 1, 1) := by decide +kernel
theorem d4_17 : decode method_2_code 17 = .ok (.if_icmp .ne 5, 3) := by decide +kernel
theorem d4_20 : decode method_2_code 20 = .ok (.lload_n 2, 1) := by decide +kernel
theorem d4_21 : decode method_2_code 21 = .ok (.lreturn, 1) := by decide +kernel
theorem d4_22 : decode method_2_code 22 = .ok (.iload 7, 2) := by decide +kernel
theorem d4_24 : decode method_2_code 24 = .ok (.iconst 2, 1) := by decide +kernel
theorem d4_25 : decode method_2_code 25 = .ok (.if_icmp .ne 7, 3) := by decide +kernel
theorem d4_28 : decode method_2_code 28 = .ok (.lload_n 0, 1) := by decide +kernel
theorem d4_29 : decode method_2_code 29 = .ok (.lconst 1, 1) := by decide +kernel
theorem d4_30 : decode method_2_code 30 = .ok (.lsub, 1) := by decide +kernel
theorem d4_31 : decode method_2_code 31 = .ok (.lreturn, 1) := by decide +kernel
theorem d4_32 : decode method_2_code 32 = .ok (.iload 7, 2) := by decide +kernel
theorem d4_34 : decode method_2_code 34 = .ok (.iconst 3, 1) := by decide +kernel
theorem d4_35 : decode method_2_code 35 = .ok (.if_icmp .ne 7, 3) := by decide +kernel
theorem d4_38 : decode method_2_code 38 = .ok (.lload_n 0, 1) := by decide +kernel
theorem d4_39 : decode method_2_code 39 = .ok (.lconst 1, 1) := by decide +kernel
theorem d4_40 : decode method_2_code 40 = .ok (.ladd, 1) := by decide +kernel
theorem d4_41 : decode method_2_code 41 = .ok (.lreturn, 1) := by decide +kernel
theorem d4_42 : decode method_2_code 42 = .ok (.iload 7, 2) := by decide +kernel
theorem d4_44 : decode method_2_code 44 = .ok (.iconst 4, 1) := by decide +kernel
theorem d4_45 : decode method_2_code 45 = .ok (.if_icmp .ne 7, 3) := by decide +kernel
theorem d4_48 : decode method_2_code 48 = .ok (.lload_n 2, 1) := by decide +kernel
theorem d4_49 : decode method_2_code 49 = .ok (.lconst 1, 1) := by decide +kernel
theorem d4_50 : decode method_2_code 50 = .ok (.lsub, 1) := by decide +kernel
theorem d4_51 : decode method_2_code 51 = .ok (.lreturn, 1) := by decide +kernel
theorem d4_52 : decode method_2_code 52 = .ok (.iload 7, 2) := by decide +kernel
theorem d4_54 : decode method_2_code 54 = .ok (.iconst 5, 1) := by decide +kernel
theorem d4_55 : decode method_2_code 55 = .ok (.if_icmp .ne 7, 3) := by decide +kernel
theorem d4_58 : decode method_2_code 58 = .ok (.lload_n 2, 1) := by decide +kernel
theorem d4_59 : decode method_2_code 59 = .ok (.lconst 1, 1) := by decide +kernel
theorem d4_60 : decode method_2_code 60 = .ok (.ladd, 1) := by decide +kernel
theorem d4_61 : decode method_2_code 61 = .ok (.lreturn, 1) := by decide +kernel
theorem d4_62 : decode method_2_code 62 = .ok (.lload 4, 2) := by decide +kernel
theorem d4_64 : decode method_2_code 64 = .ok (.lreturn, 1) := by decide +kernel
theorem pn_4 : plainName "com/example/quillon/quillon/storage/TimeRangeContainsPinLaw" = true := by first | (simp [plainName, overriddenIn]; done) | decide +kernel
theorem ef_rm4 (m : MethodId) (a : Int64) (b : Int64) (cc : Int64) (sel : Int32) : entryFrame m #[(.long a), (.long b), (.long cc), (.int sel)] 8 = mkF m 0 #[.val (.long a), .second, .val (.long b), .second, .val (.long cc), .second, .val (.int sel), .unset] [] := by first | (simp [entryFrame, mkF, argsToLocals, Value.category]; done) | rfl
def Q_rm4 (Z : State) (a : Int64) (b : Int64) (cc : Int64) (sel : Int32) (h0 : Heap) (n0 : Nat) (v : Option Value) (h : Heap) (L : List Loc) : Prop := ∃ t : Int64, v = some (.long t) ∧ Fr n0 L ∧ h = h0
set_option maxRecDepth 65536 in
set_option maxHeartbeats 40000000 in
theorem rm4 (l : Launch) (Z : State) (a0 : Array Value) (hw : ∀ d ∈ tables_1, d.before a0 Z = true) (ws : List Jvm.Cond) (a : Int64) (b : Int64) (cc : Int64) (sel : Int32) (h0 : Heap) (n0 : Nat) (Z0 : n0 ≤ h0.size) :
    MetFree l (⟨"com/example/quillon/quillon/storage/TimeRangeContainsPinLaw", "pick", "(JJJI)J"⟩ : MethodName) (head1 (Jvm.Cond.code (⟨"com/example/quillon/quillon/storage/TimeRangeContainsPinLaw", "pick", "(JJJI)J"⟩ : MethodName) method_2_code 8 (some .long) :: ws) ({ frames := 0, cells := 0, slots := 0, locals := 0 } : Room)) (fun as₉ U => as₉ = #[(.long a), (.long b), (.long cc), (.int sel)] ∧ Z.Warmed39 U.vm ∧ U.heap = h0) (fun _ _ _ _ _ => True) (fun _ U o₉ U' => ∃ v L, o₉ = .returned v ∧ Q_rm4 Z a b cc sel h0 n0 v U'.heap L ∧ FrameEnd U o₉ U' L ({ frames := 0, cells := 0, slots := 0, locals := 0 } : Room).cells ({ frames := 0, cells := 0, slots := 0, locals := 0 } : Room).slots) := by
  refine MetFree.of_bodySF (plainFor_of_name pn_4) hisR ?_
  intro p e s m args below meth c s₁ Bd hml0 hP hK
  obtain ⟨rfl, hZ, hh⟩ := hP
  have hx := Bd.exec
  have hby := Bd.bytes
  have hml : c.maxLocals = 8 := hml0
  have hown : s.vm.findClass "com/example/quillon/quillon/storage/TimeRangeContainsPinLaw" = some m.cls := findClass_of_methodNamed Bd.named
  have hnm := (name_of_methodNamed Bd.named Bd.method).1
  have X0 : Stand p l e ({ frames := 0, cells := 0, slots := 0, locals := 0 } : Room) s m #[(.long a), (.long b), (.long cc), (.int sel)] below meth c s₁ [] 0 0 := Stand.of_body Bd
  have e0 : s₁.heap = h0 := by rw [← hh, Bd.state]; rfl
  have N0 := Fr.nil n0
  show own_Go p e below (fun s₂ o₉ => s₂.status = .running ∧ Ended s₂ below o₉ ∧ ∃ v L, o₉ = .returned v ∧ Q_rm4 Z a b cc sel h0 n0 v s₂.heap L ∧ FrameEnd s o₉ s₂ L ({ frames := 0, cells := 0, slots := 0, locals := 0 } : Room).cells ({ frames := 0, cells := 0, slots := 0, locals := 0 } : Room).slots) (s₁.setTop (entryFrame m #[(.long a), (.long b), (.long cc), (.int sel)] 8))
  rw [ef_rm4 m a b cc sel]
  refine own_step (s₁.setTop (mkF m 2 #[.val (.long a), .second, .val (.long b), .second, .val (.long cc), .second, .val (.int sel), .unset] [(.int sel)])) (fun t₀ k₀ => XS.iload X0.here hx rfl (hb hby d4_0) rfl k₀) ?_
  refine own_step (s₁.setTop (mkF m 4 #[.val (.long a), .second, .val (.long b), .second, .val (.long cc), .second, .val (.int sel), .unset] [(.int (7 : Int32)), (.int sel)])) (fun t₀ k₀ => XS.bipush X0.here hx rfl (hb hby d4_2) k₀) ?_
  refine own_step (s₁.setTop (mkF m 5 #[.val (.long a), .second, .val (.long b), .second, .val (.long cc), .second, .val (.int sel), .unset] [(.int (sel &&& (7 : Int32)))])) (fun t₀ k₀ => XS.iand X0.here hx rfl (hb hby d4_4) rfl k₀) ?_
  refine own_step (s₁.setTop (mkF m 7 #[.val (.long a), .second, .val (.long b), .second, .val (.long cc), .second, .val (.int sel), .val (.int (sel &&& (7 : Int32)))] [])) (fun t₀ k₀ => XS.istore X0.here hx rfl (hb hby d4_5) rfl (l' := #[.val (.long a), .second, .val (.long b), .second, .val (.long cc), .second, .val (.int sel), .val (.int (sel &&& (7 : Int32)))]) rfl k₀) ?_
  refine own_step (s₁.setTop (mkF m 9 #[.val (.long a), .second, .val (.long b), .second, .val (.long cc), .second, .val (.int sel), .val (.int (sel &&& (7 : Int32)))] [(.int (sel &&& (7 : Int32)))])) (fun t₀ k₀ => XS.iload X0.here hx rfl (hb hby d4_7) rfl k₀) ?_
  by_cases hc9 : (sel &&& (7 : Int32)) = (0 : Int32)
  · skip
    refine own_step (s₁.setTop (mkF m 12 #[.val (.long a), .second, .val (.long b), .second, .val (.long cc), .second, .val (.int sel), .val (.int (sel &&& (7 : Int32)))] [])) (fun t₀ k₀ => XS.ifNo X0.here hx rfl (hb hby d4_9) rfl ((if0 _ _).trans (teq hc9).2) k₀) ?_
    refine own_step (s₁.setTop (mkF m 13 #[.val (.long a), .second, .val (.long b), .second, .val (.long cc), .second, .val (.int sel), .val (.int (sel &&& (7 : Int32)))] [(.long a)])) (fun t₀ k₀ => XS.lloadN X0.here hx rfl (hb hby d4_12) rfl k₀) ?_
    obtain ⟨fs, hr, hrun, hended, hW, hsame⟩ := X0.leave (v := some (.long a)) (fun h => by rw [Bd.returns] at h; cases h)
    refine ⟨_, _, ?_, hrun, hended, _, _, rfl, ?_, ⟨_, rfl⟩, hW, hsame.mono (by decide) (by decide)⟩
    · jvm_step X0.here [X0.here.top, hx, (hb hby d4_13), X0.method', Bd.returns, narrow]
      first | (intro acts; rw [hr _ acts rfl rfl rfl]) | rw [hr _ _ rfl rfl rfl]
      exact Steps.refl _
    · show Q_rm4 Z a b cc sel h0 n0 _ s₁.heap _
      rw [e0]
      exact ⟨_, rfl, N0, rfl⟩
  · skip
    refine own_step (s₁.setTop (mkF m 14 #[.val (.long a), .second, .val (.long b), .second, .val (.long cc), .second, .val (.int sel), .val (.int (sel &&& (7 : Int32)))] [])) (fun t₀ k₀ => XS.ifYes X0.here hx rfl (pc0 := 9) (pc' := 14) rfl (hb hby d4_9) rfl ((if0 _ _).trans (feq hc9).2) (by decide) (by decide) k₀) ?_
    refine own_step (s₁.setTop (mkF m 16 #[.val (.long a), .second, .val (.long b), .second, .val (.long cc), .second, .val (.int sel), .val (.int (sel &&& (7 : Int32)))] [(.int (sel &&& (7 : Int32)))])) (fun t₀ k₀ => XS.iload X0.here hx rfl (hb hby d4_14) rfl k₀) ?_
    refine own_step (s₁.setTop (mkF m 17 #[.val (.long a), .second, .val (.long b), .second, .val (.long cc), .second, .val (.int sel), .val (.int (sel &&& (7 : Int32)))] [(.int (1 : Int32)), (.int (sel &&& (7 : Int32)))])) (fun t₀ k₀ => XS.iconst X0.here hx rfl (hb hby d4_16) k₀) ?_
    by_cases hc17 : (sel &&& (7 : Int32)) = (1 : Int32)
    · skip
      refine own_step (s₁.setTop (mkF m 20 #[.val (.long a), .second, .val (.long b), .second, .val (.long cc), .second, .val (.int sel), .val (.int (sel &&& (7 : Int32)))] [])) (fun t₀ k₀ => XS.icmpNo X0.here hx rfl (hb hby d4_17) rfl (teq hc17).2 k₀) ?_
      refine own_step (s₁.setTop (mkF m 21 #[.val (.long a), .second, .val (.long b), .second, .val (.long cc), .second, .val (.int sel), .val (.int (sel &&& (7 : Int32)))] [(.long b)])) (fun t₀ k₀ => XS.lloadN X0.here hx rfl (hb hby d4_20) rfl k₀) ?_
      obtain ⟨fs, hr, hrun, hended, hW, hsame⟩ := X0.leave (v := some (.long b)) (fun h => by rw [Bd.returns] at h; cases h)
      refine ⟨_, _, ?_, hrun, hended, _, _, rfl, ?_, ⟨_, rfl⟩, hW, hsame.mono (by decide) (by decide)⟩
      · jvm_step X0.here [X0.here.top, hx, (hb hby d4_21), X0.method', Bd.returns, narrow]
        first | (intro acts; rw [hr _ acts rfl rfl rfl]) | rw [hr _ _ rfl rfl rfl]
        exact Steps.refl _
      · show Q_rm4 Z a b cc sel h0 n0 _ s₁.heap _
        rw [e0]
        exact ⟨_, rfl, N0, rfl⟩
    · skip
      refine own_step (s₁.setTop (mkF m 22 #[.val (.long a), .second, .val (.long b), .second, .val (.long cc), .second, .val (.int sel), .val (.int (sel &&& (7 : Int32)))] [])) (fun t₀ k₀ => XS.icmpYes X0.here hx rfl (pc0 := 17) (pc' := 22) rfl (hb hby d4_17) rfl (feq hc17).2 (by decide) (by decide) k₀) ?_
      refine own_step (s₁.setTop (mkF m 24 #[.val (.long a), .second, .val (.long b), .second, .val (.long cc), .second, .val (.int sel), .val (.int (sel &&& (7 : Int32)))] [(.int (sel &&& (7 : Int32)))])) (fun t₀ k₀ => XS.iload X0.here hx rfl (hb hby d4_22) rfl k₀) ?_
      refine own_step (s₁.setTop (mkF m 25 #[.val (.long a), .second, .val (.long b), .second, .val (.long cc), .second, .val (.int sel), .val (.int (sel &&& (7 : Int32)))] [(.int (2 : Int32)), (.int (sel &&& (7 : Int32)))])) (fun t₀ k₀ => XS.iconst X0.here hx rfl (hb hby d4_24) k₀) ?_
      by_cases hc25 : (sel &&& (7 : Int32)) = (2 : Int32)
      · skip
        refine own_step (s₁.setTop (mkF m 28 #[.val (.long a), .second, .val (.long b), .second, .val (.long cc), .second, .val (.int sel), .val (.int (sel &&& (7 : Int32)))] [])) (fun t₀ k₀ => XS.icmpNo X0.here hx rfl (hb hby d4_25) rfl (teq hc25).2 k₀) ?_
        refine own_step (s₁.setTop (mkF m 29 #[.val (.long a), .second, .val (.long b), .second, .val (.long cc), .second, .val (.int sel), .val (.int (sel &&& (7 : Int32)))] [(.long a)])) (fun t₀ k₀ => XS.lloadN X0.here hx rfl (hb hby d4_28) rfl k₀) ?_
        refine own_step (s₁.setTop (mkF m 30 #[.val (.long a), .second, .val (.long b), .second, .val (.long cc), .second, .val (.int sel), .val (.int (sel &&& (7 : Int32)))] [(.long (1 : Int64)), (.long a)])) (fun t₀ k₀ => XS.lconst X0.here hx rfl (hb hby d4_29) k₀) ?_
        refine own_step (s₁.setTop (mkF m 31 #[.val (.long a), .second, .val (.long b), .second, .val (.long cc), .second, .val (.int sel), .val (.int (sel &&& (7 : Int32)))] [(.long (a - (1 : Int64)))])) (fun t₀ k₀ => XS.lsub X0.here hx rfl (hb hby d4_30) rfl k₀) ?_
        obtain ⟨fs, hr, hrun, hended, hW, hsame⟩ := X0.leave (v := some (.long (a - (1 : Int64)))) (fun h => by rw [Bd.returns] at h; cases h)
        refine ⟨_, _, ?_, hrun, hended, _, _, rfl, ?_, ⟨_, rfl⟩, hW, hsame.mono (by decide) (by decide)⟩
        · jvm_step X0.here [X0.here.top, hx, (hb hby d4_31), X0.method', Bd.returns, narrow]
          first | (intro acts; rw [hr _ acts rfl rfl rfl]) | rw [hr _ _ rfl rfl rfl]
          exact Steps.refl _
        · show Q_rm4 Z a b cc sel h0 n0 _ s₁.heap _
          rw [e0]
          exact ⟨_, rfl, N0, rfl⟩
      · skip
        refine own_step (s₁.setTop (mkF m 32 #[.val (.long a), .second, .val (.long b), .second, .val (.long cc), .second, .val (.int sel), .val (.int (sel &&& (7 : Int32)))] [])) (fun t₀ k₀ => XS.icmpYes X0.here hx rfl (pc0 := 25) (pc' := 32) rfl (hb hby d4_25) rfl (feq hc25).2 (by decide) (by decide) k₀) ?_
        refine own_step (s₁.setTop (mkF m 34 #[.val (.long a), .second, .val (.long b), .second, .val (.long cc), .second, .val (.int sel), .val (.int (sel &&& (7 : Int32)))] [(.int (sel &&& (7 : Int32)))])) (fun t₀ k₀ => XS.iload X0.here hx rfl (hb hby d4_32) rfl k₀) ?_
        refine own_step (s₁.setTop (mkF m 35 #[.val (.long a), .second, .val (.long b), .second, .val (.long cc), .second, .val (.int sel), .val (.int (sel &&& (7 : Int32)))] [(.int (3 : Int32)), (.int (sel &&& (7 : Int32)))])) (fun t₀ k₀ => XS.iconst X0.here hx rfl (hb hby d4_34) k₀) ?_
        by_cases hc35 : (sel &&& (7 : Int32)) = (3 : Int32)
        · skip
          refine own_step (s₁.setTop (mkF m 38 #[.val (.long a), .second, .val (.long b), .second, .val (.long cc), .second, .val (.int sel), .val (.int (sel &&& (7 : Int32)))] [])) (fun t₀ k₀ => XS.icmpNo X0.here hx rfl (hb hby d4_35) rfl (teq hc35).2 k₀) ?_
          refine own_step (s₁.setTop (mkF m 39 #[.val (.long a), .second, .val (.long b), .second, .val (.long cc), .second, .val (.int sel), .val (.int (sel &&& (7 : Int32)))] [(.long a)])) (fun t₀ k₀ => XS.lloadN X0.here hx rfl (hb hby d4_38) rfl k₀) ?_
          refine own_step (s₁.setTop (mkF m 40 #[.val (.long a), .second, .val (.long b), .second, .val (.long cc), .second, .val (.int sel), .val (.int (sel &&& (7 : Int32)))] [(.long (1 : Int64)), (.long a)])) (fun t₀ k₀ => XS.lconst X0.here hx rfl (hb hby d4_39) k₀) ?_
          refine own_step (s₁.setTop (mkF m 41 #[.val (.long a), .second, .val (.long b), .second, .val (.long cc), .second, .val (.int sel), .val (.int (sel &&& (7 : Int32)))] [(.long (a + (1 : Int64)))])) (fun t₀ k₀ => XS.ladd X0.here hx rfl (hb hby d4_40) rfl k₀) ?_
          obtain ⟨fs, hr, hrun, hended, hW, hsame⟩ := X0.leave (v := some (.long (a + (1 : Int64)))) (fun h => by rw [Bd.returns] at h; cases h)
          refine ⟨_, _, ?_, hrun, hended, _, _, rfl, ?_, ⟨_, rfl⟩, hW, hsame.mono (by decide) (by decide)⟩
          · jvm_step X0.here [X0.here.top, hx, (hb hby d4_41), X0.method', Bd.returns, narrow]
            first | (intro acts; rw [hr _ acts rfl rfl rfl]) | rw [hr _ _ rfl rfl rfl]
            exact Steps.refl _
          · show Q_rm4 Z a b cc sel h0 n0 _ s₁.heap _
            rw [e0]
            exact ⟨_, rfl, N0, rfl⟩
        · skip
          refine own_step (s₁.setTop (mkF m 42 #[.val (.long a), .second, .val (.long b), .second, .val (.long cc), .second, .val (.int sel), .val (.int (sel &&& (7 : Int32)))] [])) (fun t₀ k₀ => XS.icmpYes X0.here hx rfl (pc0 := 35) (pc' := 42) rfl (hb hby d4_35) rfl (feq hc35).2 (by decide) (by decide) k₀) ?_
          refine own_step (s₁.setTop (mkF m 44 #[.val (.long a), .second, .val (.long b), .second, .val (.long cc), .second, .val (.int sel), .val (.int (sel &&& (7 : Int32)))] [(.int (sel &&& (7 : Int32)))])) (fun t₀ k₀ => XS.iload X0.here hx rfl (hb hby d4_42) rfl k₀) ?_
          refine own_step (s₁.setTop (mkF m 45 #[.val (.long a), .second, .val (.long b), .second, .val (.long cc), .second, .val (.int sel), .val (.int (sel &&& (7 : Int32)))] [(.int (4 : Int32)), (.int (sel &&& (7 : Int32)))])) (fun t₀ k₀ => XS.iconst X0.here hx rfl (hb hby d4_44) k₀) ?_
          by_cases hc45 : (sel &&& (7 : Int32)) = (4 : Int32)
          · skip
            refine own_step (s₁.setTop (mkF m 48 #[.val (.long a), .second, .val (.long b), .second, .val (.long cc), .second, .val (.int sel), .val (.int (sel &&& (7 : Int32)))] [])) (fun t₀ k₀ => XS.icmpNo X0.here hx rfl (hb hby d4_45) rfl (teq hc45).2 k₀) ?_
            refine own_step (s₁.setTop (mkF m 49 #[.val (.long a), .second, .val (.long b), .second, .val (.long cc), .second, .val (.int sel), .val (.int (sel &&& (7 : Int32)))] [(.long b)])) (fun t₀ k₀ => XS.lloadN X0.here hx rfl (hb hby d4_48) rfl k₀) ?_
            refine own_step (s₁.setTop (mkF m 50 #[.val (.long a), .second, .val (.long b), .second, .val (.long cc), .second, .val (.int sel), .val (.int (sel &&& (7 : Int32)))] [(.long (1 : Int64)), (.long b)])) (fun t₀ k₀ => XS.lconst X0.here hx rfl (hb hby d4_49) k₀) ?_
            refine own_step (s₁.setTop (mkF m 51 #[.val (.long a), .second, .val (.long b), .second, .val (.long cc), .second, .val (.int sel), .val (.int (sel &&& (7 : Int32)))] [(.long (b - (1 : Int64)))])) (fun t₀ k₀ => XS.lsub X0.here hx rfl (hb hby d4_50) rfl k₀) ?_
            obtain ⟨fs, hr, hrun, hended, hW, hsame⟩ := X0.leave (v := some (.long (b - (1 : Int64)))) (fun h => by rw [Bd.returns] at h; cases h)
            refine ⟨_, _, ?_, hrun, hended, _, _, rfl, ?_, ⟨_, rfl⟩, hW, hsame.mono (by decide) (by decide)⟩
            · jvm_step X0.here [X0.here.top, hx, (hb hby d4_51), X0.method', Bd.returns, narrow]
              first | (intro acts; rw [hr _ acts rfl rfl rfl]) | rw [hr _ _ rfl rfl rfl]
              exact Steps.refl _
            · show Q_rm4 Z a b cc sel h0 n0 _ s₁.heap _
              rw [e0]
              exact ⟨_, rfl, N0, rfl⟩
          · skip
            refine own_step (s₁.setTop (mkF m 52 #[.val (.long a), .second, .val (.long b), .second, .val (.long cc), .second, .val (.int sel), .val (.int (sel &&& (7 : Int32)))] [])) (fun t₀ k₀ => XS.icmpYes X0.here hx rfl (pc0 := 45) (pc' := 52) rfl (hb hby d4_45) rfl (feq hc45).2 (by decide) (by decide) k₀) ?_
            refine own_step (s₁.setTop (mkF m 54 #[.val (.long a), .second, .val (.long b), .second, .val (.long cc), .second, .val (.int sel), .val (.int (sel &&& (7 : Int32)))] [(.int (sel &&& (7 : Int32)))])) (fun t₀ k₀ => XS.iload X0.here hx rfl (hb hby d4_52) rfl k₀) ?_
            refine own_step (s₁.setTop (mkF m 55 #[.val (.long a), .second, .val (.long b), .second, .val (.long cc), .second, .val (.int sel), .val (.int (sel &&& (7 : Int32)))] [(.int (5 : Int32)), (.int (sel &&& (7 : Int32)))])) (fun t₀ k₀ => XS.iconst X0.here hx rfl (hb hby d4_54) k₀) ?_
            by_cases hc55 : (sel &&& (7 : Int32)) = (5 : Int32)
            · skip
              refine own_step (s₁.setTop (mkF m 58 #[.val (.long a), .second, .val (.long b), .second, .val (.long cc), .second, .val (.int sel), .val (.int (sel &&& (7 : Int32)))] [])) (fun t₀ k₀ => XS.icmpNo X0.here hx rfl (hb hby d4_55) rfl (teq hc55).2 k₀) ?_
              refine own_step (s₁.setTop (mkF m 59 #[.val (.long a), .second, .val (.long b), .second, .val (.long cc), .second, .val (.int sel), .val (.int (sel &&& (7 : Int32)))] [(.long b)])) (fun t₀ k₀ => XS.lloadN X0.here hx rfl (hb hby d4_58) rfl k₀) ?_
              refine own_step (s₁.setTop (mkF m 60 #[.val (.long a), .second, .val (.long b), .second, .val (.long cc), .second, .val (.int sel), .val (.int (sel &&& (7 : Int32)))] [(.long (1 : Int64)), (.long b)])) (fun t₀ k₀ => XS.lconst X0.here hx rfl (hb hby d4_59) k₀) ?_
              refine own_step (s₁.setTop (mkF m 61 #[.val (.long a), .second, .val (.long b), .second, .val (.long cc), .second, .val (.int sel), .val (.int (sel &&& (7 : Int32)))] [(.long (b + (1 : Int64)))])) (fun t₀ k₀ => XS.ladd X0.here hx rfl (hb hby d4_60) rfl k₀) ?_
              obtain ⟨fs, hr, hrun, hended, hW, hsame⟩ := X0.leave (v := some (.long (b + (1 : Int64)))) (fun h => by rw [Bd.returns] at h; cases h)
              refine ⟨_, _, ?_, hrun, hended, _, _, rfl, ?_, ⟨_, rfl⟩, hW, hsame.mono (by decide) (by decide)⟩
              · jvm_step X0.here [X0.here.top, hx, (hb hby d4_61), X0.method', Bd.returns, narrow]
                first | (intro acts; rw [hr _ acts rfl rfl rfl]) | rw [hr _ _ rfl rfl rfl]
                exact Steps.refl _
              · show Q_rm4 Z a b cc sel h0 n0 _ s₁.heap _
                rw [e0]
                exact ⟨_, rfl, N0, rfl⟩
            · skip
              refine own_step (s₁.setTop (mkF m 62 #[.val (.long a), .second, .val (.long b), .second, .val (.long cc), .second, .val (.int sel), .val (.int (sel &&& (7 : Int32)))] [])) (fun t₀ k₀ => XS.icmpYes X0.here hx rfl (pc0 := 55) (pc' := 62) rfl (hb hby d4_55) rfl (feq hc55).2 (by decide) (by decide) k₀) ?_
              refine own_step (s₁.setTop (mkF m 64 #[.val (.long a), .second, .val (.long b), .second, .val (.long cc), .second, .val (.int sel), .val (.int (sel &&& (7 : Int32)))] [(.long cc)])) (fun t₀ k₀ => XS.lload X0.here hx rfl (hb hby d4_62) rfl k₀) ?_
              obtain ⟨fs, hr, hrun, hended, hW, hsame⟩ := X0.leave (v := some (.long cc)) (fun h => by rw [Bd.returns] at h; cases h)
              refine ⟨_, _, ?_, hrun, hended, _, _, rfl, ?_, ⟨_, rfl⟩, hW, hsame.mono (by decide) (by decide)⟩
              · jvm_step X0.here [X0.here.top, hx, (hb hby d4_64), X0.method', Bd.returns, narrow]
                first | (intro acts; rw [hr _ acts rfl rfl rfl]) | rw [hr _ _ rfl rfl rfl]
                exact Steps.refl _
              · show Q_rm4 Z a b cc sel h0 n0 _ s₁.heap _
                rw [e0]
                exact ⟨_, rfl, N0, rfl⟩
theorem d5_0 : decode prog_83_method_8_code 0 = .ok (.aload_n 0, 1) := by decide +kernel
theorem d5_1 : decode prog_83_method_8_code 1 = .ok (.getfield 7, 3) := by decide +kernel
theorem d5_4 : decode prog_83_method_8_code 4 = .ok (.lload_n 1, 1) := by decide +kernel
theorem d5_5 : decode prog_83_method_8_code 5 = .ok (.lcmp, 1) := by decide +kernel
theorem d5_6 : decode prog_83_method_8_code 6 = .ok (.ifCond .gt 16, 3) := by decide +kernel
theorem d5_9 : decode prog_83_method_8_code 9 = .ok (.lload_n 1, 1) := by decide +kernel
theorem d5_10 : decode prog_83_method_8_code 10 = .ok (.aload_n 0, 1) := by decide +kernel
theorem d5_11 : decode prog_83_method_8_code 11 = .ok (.getfield 13, 3) := by decide +kernel
theorem d5_14 : decode prog_83_method_8_code 14 = .ok (.lcmp, 1) := by decide +kernel
theorem d5_15 : decode prog_83_method_8_code 15 = .ok (.ifCond .gt 7, 3) := by decide +kernel
theorem d5_18 : decode prog_83_method_8_code 18 = .ok (.iconst 1, 1) := by decide +kernel
theorem d5_19 : decode prog_83_method_8_code 19 = .ok (.goto 4, 3) := by decide +kernel
theorem d5_22 : decode prog_83_method_8_code 22 = .ok (.iconst 0, 1) := by decide +kernel
theorem d5_23 : decode prog_83_method_8_code 23 = .ok (.ireturn, 1) := by decide +kernel
theorem ef_rm5 (m : MethodId) (a : Addr) (t : Int64) : entryFrame m #[(.ref a), (.long t)] 3 = mkF m 0 #[.val (.ref a), .val (.long t), .second] [] := by first | (simp [entryFrame, mkF, argsToLocals, Value.category]; done) | rfl
def Q_rm5 (Z : State) (a : Addr) (t : Int64) (lo : Int64) (hi : Int64) (h0 : Heap) (n0 : Nat) (v : Option Value) (h : Heap) (L : List Loc) : Prop := v = some (.int (own_in lo t hi)) ∧ Fr n0 L ∧ h = h0
set_option maxRecDepth 65536 in
set_option maxHeartbeats 40000000 in
theorem rm5 (l : Launch) (Z : State) (a0 : Array Value) (hw : ∀ d ∈ tables_1, d.before a0 Z = true) (ws : List Jvm.Cond) (a : Addr) (t : Int64) (lo : Int64) (hi : Int64) (h0 : Heap) (n0 : Nat) (Z0 : n0 ≤ h0.size) (Fa1 : Fld Z h0 a "com/example/quillon/quillon/storage/TimeRange" "first" "J" (.long lo)) (Fa2 : Fld Z h0 a "com/example/quillon/quillon/storage/TimeRange" "last" "J" (.long hi)) :
    MetFree l (⟨"com/example/quillon/quillon/storage/TimeRange", "contains", "(J)Z"⟩ : MethodName) (head1 (Jvm.Cond.code (⟨"com/example/quillon/quillon/storage/TimeRange", "contains", "(J)Z"⟩ : MethodName) prog_83_method_8_code 3 (some .boolean) :: ws) ({ frames := 0, cells := 0, slots := 0, locals := 0 } : Room)) (fun as₉ U => as₉ = #[(.ref a), (.long t)] ∧ Z.Warmed39 U.vm ∧ U.heap = h0) (fun _ _ _ _ _ => True) (fun _ U o₉ U' => ∃ v L, o₉ = .returned v ∧ Q_rm5 Z a t lo hi h0 n0 v U'.heap L ∧ FrameEnd U o₉ U' L ({ frames := 0, cells := 0, slots := 0, locals := 0 } : Room).cells ({ frames := 0, cells := 0, slots := 0, locals := 0 } : Room).slots) := by
  refine MetFree.of_bodySF (plainFor_of_name pn_1) hisR ?_
  intro p e s m args below meth c s₁ Bd hml0 hP hK
  obtain ⟨rfl, hZ, hh⟩ := hP
  have hx := Bd.exec
  have hby := Bd.bytes
  have hml : c.maxLocals = 3 := hml0
  have hown : s.vm.findClass "com/example/quillon/quillon/storage/TimeRange" = some m.cls := findClass_of_methodNamed Bd.named
  have hnm := (name_of_methodNamed Bd.named Bd.method).1
  have X0 : Stand p l e ({ frames := 0, cells := 0, slots := 0, locals := 0 } : Room) s m #[(.ref a), (.long t)] below meth c s₁ [] 0 0 := Stand.of_body Bd
  have e0 : s₁.heap = h0 := by rw [← hh, Bd.state]; rfl
  have N0 := Fr.nil n0
  show own_Go p e below (fun s₂ o₉ => s₂.status = .running ∧ Ended s₂ below o₉ ∧ ∃ v L, o₉ = .returned v ∧ Q_rm5 Z a t lo hi h0 n0 v s₂.heap L ∧ FrameEnd s o₉ s₂ L ({ frames := 0, cells := 0, slots := 0, locals := 0 } : Room).cells ({ frames := 0, cells := 0, slots := 0, locals := 0 } : Room).slots) (s₁.setTop (entryFrame m #[(.ref a), (.long t)] 3))
  rw [ef_rm5 m a t]
  refine own_step (s₁.setTop (mkF m 1 #[.val (.ref a), .val (.long t), .second] [(.ref a)])) (fun t₀ k₀ => XS.aloadN X0.here hx rfl (hb hby d5_0) rfl rfl k₀) ?_
  obtain ⟨T11, X11, e11, st11⟩ := getF X0 hx hZ hown (host := "") (Or.inl (hw _ (List.mem_of_getElem? (i := 14) rfl))) Via.refl e0 Fa1 (g := (mkF m 1 #[.val (.ref a), .val (.long t), .second] [(.ref a)])) rfl rfl (hb hby d5_1)
  refine own_step (T11.setTop (mkF m 4 #[.val (.ref a), .val (.long t), .second] [(.long lo)])) (fun t₀ k₀ => st11 t₀ k₀) ?_
  refine own_step (T11.setTop (mkF m 5 #[.val (.ref a), .val (.long t), .second] [(.long t), (.long lo)])) (fun t₀ k₀ => XS.lloadN X11.here hx rfl (hb hby d5_4) rfl k₀) ?_
  refine own_step (T11.setTop (mkF m 6 #[.val (.ref a), .val (.long t), .second] [(.int (lcmpW lo t))])) (fun t₀ k₀ => XS.lcmp X11.here hx rfl (hb hby d5_5) rfl k₀) ?_
  by_cases hc6 : t < lo
  · skip
    refine own_step (T11.setTop (mkF m 22 #[.val (.ref a), .val (.long t), .second] [])) (fun t₀ k₀ => XS.ifYes X11.here hx rfl (pc0 := 6) (pc' := 22) rfl (hb hby d5_6) rfl (own_lgtT hc6) (by decide) (by decide) k₀) ?_
    refine own_step (T11.setTop (mkF m 23 #[.val (.ref a), .val (.long t), .second] [(.int (0 : Int32))])) (fun t₀ k₀ => XS.iconst X11.here hx rfl (hb hby d5_22) k₀) ?_
    obtain ⟨fs, hr, hrun, hended, hW, hsame⟩ := X11.leave (v := some (.int (0 : Int32))) (fun h => by rw [Bd.returns] at h; cases h)
    refine ⟨_, _, ?_, hrun, hended, _, _, rfl, ?_, ⟨_, rfl⟩, hW, hsame.mono (by decide) (by decide)⟩
    · exact retN X11 hx (t := .boolean) Bd.returns (by simp) (hb hby d5_23) hr
    · show Q_rm5 Z a t lo hi h0 n0 _ T11.heap _
      rw [e11]
      exact ⟨by simp [own_in, hc6], N0, rfl⟩
  · skip
    refine own_step (T11.setTop (mkF m 9 #[.val (.ref a), .val (.long t), .second] [])) (fun t₀ k₀ => XS.ifNo X11.here hx rfl (hb hby d5_6) rfl (own_lgtF hc6) k₀) ?_
    refine own_step (T11.setTop (mkF m 10 #[.val (.ref a), .val (.long t), .second] [(.long t)])) (fun t₀ k₀ => XS.lloadN X11.here hx rfl (hb hby d5_9) rfl k₀) ?_
    refine own_step (T11.setTop (mkF m 11 #[.val (.ref a), .val (.long t), .second] [(.ref a), (.long t)])) (fun t₀ k₀ => XS.aloadN X11.here hx rfl (hb hby d5_10) rfl rfl k₀) ?_
    obtain ⟨T12, X12, e12, st12⟩ := getF X11 hx hZ hown (host := "") (Or.inl (hw _ (List.mem_of_getElem? (i := 16) rfl))) Via.refl e11 Fa2 (g := (mkF m 11 #[.val (.ref a), .val (.long t), .second] [(.ref a), (.long t)])) rfl rfl (hb hby d5_11)
    refine own_step (T12.setTop (mkF m 14 #[.val (.ref a), .val (.long t), .second] [(.long hi), (.long t)])) (fun t₀ k₀ => st12 t₀ k₀) ?_
    refine own_step (T12.setTop (mkF m 15 #[.val (.ref a), .val (.long t), .second] [(.int (lcmpW t hi))])) (fun t₀ k₀ => XS.lcmp X12.here hx rfl (hb hby d5_14) rfl k₀) ?_
    by_cases hc15 : hi < t
    · skip
      refine own_step (T12.setTop (mkF m 22 #[.val (.ref a), .val (.long t), .second] [])) (fun t₀ k₀ => XS.ifYes X12.here hx rfl (pc0 := 15) (pc' := 22) rfl (hb hby d5_15) rfl (own_lgtT hc15) (by decide) (by decide) k₀) ?_
      refine own_step (T12.setTop (mkF m 23 #[.val (.ref a), .val (.long t), .second] [(.int (0 : Int32))])) (fun t₀ k₀ => XS.iconst X12.here hx rfl (hb hby d5_22) k₀) ?_
      obtain ⟨fs, hr, hrun, hended, hW, hsame⟩ := X12.leave (v := some (.int (0 : Int32))) (fun h => by rw [Bd.returns] at h; cases h)
      refine ⟨_, _, ?_, hrun, hended, _, _, rfl, ?_, ⟨_, rfl⟩, hW, hsame.mono (by decide) (by decide)⟩
      · exact retN X12 hx (t := .boolean) Bd.returns (by simp) (hb hby d5_23) hr
      · show Q_rm5 Z a t lo hi h0 n0 _ T12.heap _
        rw [e12]
        exact ⟨by simp [own_in, hc6, hc15], N0, rfl⟩
    · skip
      refine own_step (T12.setTop (mkF m 18 #[.val (.ref a), .val (.long t), .second] [])) (fun t₀ k₀ => XS.ifNo X12.here hx rfl (hb hby d5_15) rfl (own_lgtF hc15) k₀) ?_
      refine own_step (T12.setTop (mkF m 19 #[.val (.ref a), .val (.long t), .second] [(.int (1 : Int32))])) (fun t₀ k₀ => XS.iconst X12.here hx rfl (hb hby d5_18) k₀) ?_
      refine own_step (T12.setTop (mkF m 23 #[.val (.ref a), .val (.long t), .second] [(.int (1 : Int32))])) (fun t₀ k₀ => XS.goto X12.here hx rfl (pc0 := 19) (pc' := 23) rfl (hb hby d5_19) (by decide) (by decide) k₀) ?_
      obtain ⟨fs, hr, hrun, hended, hW, hsame⟩ := X12.leave (v := some (.int (1 : Int32))) (fun h => by rw [Bd.returns] at h; cases h)
      refine ⟨_, _, ?_, hrun, hended, _, _, rfl, ?_, ⟨_, rfl⟩, hW, hsame.mono (by decide) (by decide)⟩
      · exact retN X12 hx (t := .boolean) Bd.returns (by simp) (hb hby d5_23) hr
      · show Q_rm5 Z a t lo hi h0 n0 _ T12.heap _
        rw [e12]
        exact ⟨by simp [own_in, hc6, hc15], N0, rfl⟩
theorem d7_0 : decode jdk_29_method_66_code 0 = .ok (.lload_n 0, 1) := by decide +kernel
theorem d7_1 : decode jdk_29_method_66_code 1 = .ok (.lload_n 2, 1) := by decide +kernel
theorem d7_2 : decode jdk_29_method_66_code 2 = .ok (.lcmp, 1) := by decide +kernel
theorem d7_3 : decode jdk_29_method_66_code 3 = .ok (.ifCond .lt 7, 3) := by decide +kernel
theorem d7_6 : decode jdk_29_method_66_code 6 = .ok (.lload_n 0, 1) := by decide +kernel
theorem d7_7 : decode jdk_29_method_66_code 7 = .ok (.goto 4, 3) := by decide +kernel
theorem d7_10 : decode jdk_29_method_66_code 10 = .ok (.lload_n 2, 1) := by decide +kernel
theorem d7_11 : decode jdk_29_method_66_code 11 = .ok (.lreturn, 1) := by decide +kernel
theorem ef_rm7 (m : MethodId) (x1 : Int64) (x2 : Int64) : entryFrame m #[(.long x1), (.long x2)] 4 = mkF m 0 #[.val (.long x1), .second, .val (.long x2), .second] [] := by first | (simp [entryFrame, mkF, argsToLocals, Value.category]; done) | rfl
def Q_rm7 (Z : State) (x1 : Int64) (x2 : Int64) (h0 : Heap) (n0 : Nat) (v : Option Value) (h : Heap) (L : List Loc) : Prop := v = some (.long (own_max x1 x2)) ∧ Fr n0 L ∧ h = h0
set_option maxRecDepth 65536 in
set_option maxHeartbeats 40000000 in
theorem rm7 (l : Launch) (Z : State) (a0 : Array Value) (hw : ∀ d ∈ tables_1, d.before a0 Z = true) (ws : List Jvm.Cond) (x1 : Int64) (x2 : Int64) (h0 : Heap) (n0 : Nat) (Z0 : n0 ≤ h0.size) :
    MetFree l (⟨"java/lang/Math", "max", "(JJ)J"⟩ : MethodName) (head1 (Jvm.Cond.code (⟨"java/lang/Math", "max", "(JJ)J"⟩ : MethodName) jdk_29_method_66_code 4 (some .long) :: ws) ({ frames := 0, cells := 0, slots := 0, locals := 0 } : Room)) (fun as₉ U => as₉ = #[(.long x1), (.long x2)] ∧ Z.Warmed39 U.vm ∧ U.heap = h0) (fun _ _ _ _ _ => True) (fun _ U o₉ U' => ∃ v L, o₉ = .returned v ∧ Q_rm7 Z x1 x2 h0 n0 v U'.heap L ∧ FrameEnd U o₉ U' L ({ frames := 0, cells := 0, slots := 0, locals := 0 } : Room).cells ({ frames := 0, cells := 0, slots := 0, locals := 0 } : Room).slots) := by
  refine MetFree.of_bodySF (Jvm.Free.JP.mathPlain rfl (by decide +kernel)) hisR ?_
  intro p e s m args below meth c s₁ Bd hml0 hP hK
  obtain ⟨rfl, hZ, hh⟩ := hP
  have hx := Bd.exec
  have hby := Bd.bytes
  have hml : c.maxLocals = 4 := hml0
  have hown : s.vm.findClass "java/lang/Math" = some m.cls := findClass_of_methodNamed Bd.named
  have hnm := (name_of_methodNamed Bd.named Bd.method).1
  have X0 : Stand p l e ({ frames := 0, cells := 0, slots := 0, locals := 0 } : Room) s m #[(.long x1), (.long x2)] below meth c s₁ [] 0 0 := Stand.of_body Bd
  have e0 : s₁.heap = h0 := by rw [← hh, Bd.state]; rfl
  have N0 := Fr.nil n0
  show own_Go p e below (fun s₂ o₉ => s₂.status = .running ∧ Ended s₂ below o₉ ∧ ∃ v L, o₉ = .returned v ∧ Q_rm7 Z x1 x2 h0 n0 v s₂.heap L ∧ FrameEnd s o₉ s₂ L ({ frames := 0, cells := 0, slots := 0, locals := 0 } : Room).cells ({ frames := 0, cells := 0, slots := 0, locals := 0 } : Room).slots) (s₁.setTop (entryFrame m #[(.long x1), (.long x2)] 4))
  rw [ef_rm7 m x1 x2]
  refine own_step (s₁.setTop (mkF m 1 #[.val (.long x1), .second, .val (.long x2), .second] [(.long x1)])) (fun t₀ k₀ => XS.lloadN X0.here hx rfl (hb hby d7_0) rfl k₀) ?_
  refine own_step (s₁.setTop (mkF m 2 #[.val (.long x1), .second, .val (.long x2), .second] [(.long x2), (.long x1)])) (fun t₀ k₀ => XS.lloadN X0.here hx rfl (hb hby d7_1) rfl k₀) ?_
  refine own_step (s₁.setTop (mkF m 3 #[.val (.long x1), .second, .val (.long x2), .second] [(.int (lcmpW x1 x2))])) (fun t₀ k₀ => XS.lcmp X0.here hx rfl (hb hby d7_2) rfl k₀) ?_
  by_cases hc3 : x1 < x2
  · skip
    refine own_step (s₁.setTop (mkF m 10 #[.val (.long x1), .second, .val (.long x2), .second] [])) (fun t₀ k₀ => XS.ifYes X0.here hx rfl (pc0 := 3) (pc' := 10) rfl (hb hby d7_3) rfl (own_lltT hc3) (by decide) (by decide) k₀) ?_
    refine own_step (s₁.setTop (mkF m 11 #[.val (.long x1), .second, .val (.long x2), .second] [(.long x2)])) (fun t₀ k₀ => XS.lloadN X0.here hx rfl (hb hby d7_10) rfl k₀) ?_
    obtain ⟨fs, hr, hrun, hended, hW, hsame⟩ := X0.leave (v := some (.long x2)) (fun h => by rw [Bd.returns] at h; cases h)
    refine ⟨_, _, ?_, hrun, hended, _, _, rfl, ?_, ⟨_, rfl⟩, hW, hsame.mono (by decide) (by decide)⟩
    · jvm_step X0.here [X0.here.top, hx, (hb hby d7_11), X0.method', Bd.returns, narrow]
      first | (intro acts; rw [hr _ acts rfl rfl rfl]) | rw [hr _ _ rfl rfl rfl]
      exact Steps.refl _
    · show Q_rm7 Z x1 x2 h0 n0 _ s₁.heap _
      rw [e0]
      exact ⟨by simp [own_max, hc3], N0, rfl⟩
  · skip
    refine own_step (s₁.setTop (mkF m 6 #[.val (.long x1), .second, .val (.long x2), .second] [])) (fun t₀ k₀ => XS.ifNo X0.here hx rfl (hb hby d7_3) rfl (own_lltF hc3) k₀) ?_
    refine own_step (s₁.setTop (mkF m 7 #[.val (.long x1), .second, .val (.long x2), .second] [(.long x1)])) (fun t₀ k₀ => XS.lloadN X0.here hx rfl (hb hby d7_6) rfl k₀) ?_
    refine own_step (s₁.setTop (mkF m 11 #[.val (.long x1), .second, .val (.long x2), .second] [(.long x1)])) (fun t₀ k₀ => XS.goto X0.here hx rfl (pc0 := 7) (pc' := 11) rfl (hb hby d7_7) (by decide) (by decide) k₀) ?_
    obtain ⟨fs, hr, hrun, hended, hW, hsame⟩ := X0.leave (v := some (.long x1)) (fun h => by rw [Bd.returns] at h; cases h)
    refine ⟨_, _, ?_, hrun, hended, _, _, rfl, ?_, ⟨_, rfl⟩, hW, hsame.mono (by decide) (by decide)⟩
    · jvm_step X0.here [X0.here.top, hx, (hb hby d7_11), X0.method', Bd.returns, narrow]
      first | (intro acts; rw [hr _ acts rfl rfl rfl]) | rw [hr _ _ rfl rfl rfl]
      exact Steps.refl _
    · show Q_rm7 Z x1 x2 h0 n0 _ s₁.heap _
      rw [e0]
      exact ⟨by simp [own_max, hc3], N0, rfl⟩
theorem d8_0 : decode jdk_29_method_70_code 0 = .ok (.lload_n 0, 1) := by decide +kernel
theorem d8_1 : decode jdk_29_method_70_code 1 = .ok (.lload_n 2, 1) := by decide +kernel
theorem d8_2 : decode jdk_29_method_70_code 2 = .ok (.lcmp, 1) := by decide +kernel
theorem d8_3 : decode jdk_29_method_70_code 3 = .ok (.ifCond .gt 7, 3) := by decide +kernel
theorem d8_6 : decode jdk_29_method_70_code 6 = .ok (.lload_n 0, 1) := by decide +kernel
theorem d8_7 : decode jdk_29_method_70_code 7 = .ok (.goto 4, 3) := by decide +kernel
theorem d8_10 : decode jdk_29_method_70_code 10 = .ok (.lload_n 2, 1) := by decide +kernel
theorem d8_11 : decode jdk_29_method_70_code 11 = .ok (.lreturn, 1) := by decide +kernel
theorem ef_rm8 (m : MethodId) (x1 : Int64) (x2 : Int64) : entryFrame m #[(.long x1), (.long x2)] 4 = mkF m 0 #[.val (.long x1), .second, .val (.long x2), .second] [] := by first | (simp [entryFrame, mkF, argsToLocals, Value.category]; done) | rfl
def Q_rm8 (Z : State) (x1 : Int64) (x2 : Int64) (h0 : Heap) (n0 : Nat) (v : Option Value) (h : Heap) (L : List Loc) : Prop := v = some (.long (own_min x1 x2)) ∧ Fr n0 L ∧ h = h0
set_option maxRecDepth 65536 in
set_option maxHeartbeats 40000000 in
theorem rm8 (l : Launch) (Z : State) (a0 : Array Value) (hw : ∀ d ∈ tables_1, d.before a0 Z = true) (ws : List Jvm.Cond) (x1 : Int64) (x2 : Int64) (h0 : Heap) (n0 : Nat) (Z0 : n0 ≤ h0.size) :
    MetFree l (⟨"java/lang/Math", "min", "(JJ)J"⟩ : MethodName) (head1 (Jvm.Cond.code (⟨"java/lang/Math", "min", "(JJ)J"⟩ : MethodName) jdk_29_method_70_code 4 (some .long) :: ws) ({ frames := 0, cells := 0, slots := 0, locals := 0 } : Room)) (fun as₉ U => as₉ = #[(.long x1), (.long x2)] ∧ Z.Warmed39 U.vm ∧ U.heap = h0) (fun _ _ _ _ _ => True) (fun _ U o₉ U' => ∃ v L, o₉ = .returned v ∧ Q_rm8 Z x1 x2 h0 n0 v U'.heap L ∧ FrameEnd U o₉ U' L ({ frames := 0, cells := 0, slots := 0, locals := 0 } : Room).cells ({ frames := 0, cells := 0, slots := 0, locals := 0 } : Room).slots) := by
  refine MetFree.of_bodySF (Jvm.Free.JP.mathPlain rfl (by decide +kernel)) hisR ?_
  intro p e s m args below meth c s₁ Bd hml0 hP hK
  obtain ⟨rfl, hZ, hh⟩ := hP
  have hx := Bd.exec
  have hby := Bd.bytes
  have hml : c.maxLocals = 4 := hml0
  have hown : s.vm.findClass "java/lang/Math" = some m.cls := findClass_of_methodNamed Bd.named
  have hnm := (name_of_methodNamed Bd.named Bd.method).1
  have X0 : Stand p l e ({ frames := 0, cells := 0, slots := 0, locals := 0 } : Room) s m #[(.long x1), (.long x2)] below meth c s₁ [] 0 0 := Stand.of_body Bd
  have e0 : s₁.heap = h0 := by rw [← hh, Bd.state]; rfl
  have N0 := Fr.nil n0
  show own_Go p e below (fun s₂ o₉ => s₂.status = .running ∧ Ended s₂ below o₉ ∧ ∃ v L, o₉ = .returned v ∧ Q_rm8 Z x1 x2 h0 n0 v s₂.heap L ∧ FrameEnd s o₉ s₂ L ({ frames := 0, cells := 0, slots := 0, locals := 0 } : Room).cells ({ frames := 0, cells := 0, slots := 0, locals := 0 } : Room).slots) (s₁.setTop (entryFrame m #[(.long x1), (.long x2)] 4))
  rw [ef_rm8 m x1 x2]
  refine own_step (s₁.setTop (mkF m 1 #[.val (.long x1), .second, .val (.long x2), .second] [(.long x1)])) (fun t₀ k₀ => XS.lloadN X0.here hx rfl (hb hby d8_0) rfl k₀) ?_
  refine own_step (s₁.setTop (mkF m 2 #[.val (.long x1), .second, .val (.long x2), .second] [(.long x2), (.long x1)])) (fun t₀ k₀ => XS.lloadN X0.here hx rfl (hb hby d8_1) rfl k₀) ?_
  refine own_step (s₁.setTop (mkF m 3 #[.val (.long x1), .second, .val (.long x2), .second] [(.int (lcmpW x1 x2))])) (fun t₀ k₀ => XS.lcmp X0.here hx rfl (hb hby d8_2) rfl k₀) ?_
  by_cases hc3 : x2 < x1
  · skip
    refine own_step (s₁.setTop (mkF m 10 #[.val (.long x1), .second, .val (.long x2), .second] [])) (fun t₀ k₀ => XS.ifYes X0.here hx rfl (pc0 := 3) (pc' := 10) rfl (hb hby d8_3) rfl (own_lgtT hc3) (by decide) (by decide) k₀) ?_
    refine own_step (s₁.setTop (mkF m 11 #[.val (.long x1), .second, .val (.long x2), .second] [(.long x2)])) (fun t₀ k₀ => XS.lloadN X0.here hx rfl (hb hby d8_10) rfl k₀) ?_
    obtain ⟨fs, hr, hrun, hended, hW, hsame⟩ := X0.leave (v := some (.long x2)) (fun h => by rw [Bd.returns] at h; cases h)
    refine ⟨_, _, ?_, hrun, hended, _, _, rfl, ?_, ⟨_, rfl⟩, hW, hsame.mono (by decide) (by decide)⟩
    · jvm_step X0.here [X0.here.top, hx, (hb hby d8_11), X0.method', Bd.returns, narrow]
      first | (intro acts; rw [hr _ acts rfl rfl rfl]) | rw [hr _ _ rfl rfl rfl]
      exact Steps.refl _
    · show Q_rm8 Z x1 x2 h0 n0 _ s₁.heap _
      rw [e0]
      exact ⟨by simp [own_min, hc3], N0, rfl⟩
  · skip
    refine own_step (s₁.setTop (mkF m 6 #[.val (.long x1), .second, .val (.long x2), .second] [])) (fun t₀ k₀ => XS.ifNo X0.here hx rfl (hb hby d8_3) rfl (own_lgtF hc3) k₀) ?_
    refine own_step (s₁.setTop (mkF m 7 #[.val (.long x1), .second, .val (.long x2), .second] [(.long x1)])) (fun t₀ k₀ => XS.lloadN X0.here hx rfl (hb hby d8_6) rfl k₀) ?_
    refine own_step (s₁.setTop (mkF m 11 #[.val (.long x1), .second, .val (.long x2), .second] [(.long x1)])) (fun t₀ k₀ => XS.goto X0.here hx rfl (pc0 := 7) (pc' := 11) rfl (hb hby d8_7) (by decide) (by decide) k₀) ?_
    obtain ⟨fs, hr, hrun, hended, hW, hsame⟩ := X0.leave (v := some (.long x1)) (fun h => by rw [Bd.returns] at h; cases h)
    refine ⟨_, _, ?_, hrun, hended, _, _, rfl, ?_, ⟨_, rfl⟩, hW, hsame.mono (by decide) (by decide)⟩
    · jvm_step X0.here [X0.here.top, hx, (hb hby d8_11), X0.method', Bd.returns, narrow]
      first | (intro acts; rw [hr _ acts rfl rfl rfl]) | rw [hr _ _ rfl rfl rfl]
      exact Steps.refl _
    · show Q_rm8 Z x1 x2 h0 n0 _ s₁.heap _
      rw [e0]
      exact ⟨by simp [own_min, hc3], N0, rfl⟩
theorem d9_0 : decode prog_83_method_7_code 0 = .ok (.aload_n 0, 1) := by decide +kernel
theorem d9_1 : decode prog_83_method_7_code 1 = .ok (.getfield 7, 3) := by decide +kernel
theorem d9_4 : decode prog_83_method_7_code 4 = .ok (.aload_n 0, 1) := by decide +kernel
theorem d9_5 : decode prog_83_method_7_code 5 = .ok (.getfield 13, 3) := by decide +kernel
theorem d9_8 : decode prog_83_method_7_code 8 = .ok (.lcmp, 1) := by decide +kernel
theorem d9_9 : decode prog_83_method_7_code 9 = .ok (.ifCond .le 7, 3) := by decide +kernel
theorem d9_12 : decode prog_83_method_7_code 12 = .ok (.iconst 1, 1) := by decide +kernel
theorem d9_13 : decode prog_83_method_7_code 13 = .ok (.goto 4, 3) := by decide +kernel
theorem d9_16 : decode prog_83_method_7_code 16 = .ok (.iconst 0, 1) := by decide +kernel
theorem d9_17 : decode prog_83_method_7_code 17 = .ok (.ireturn, 1) := by decide +kernel
theorem ef_rm9 (m : MethodId) (a : Addr) : entryFrame m #[(.ref a)] 1 = mkF m 0 #[.val (.ref a)] [] := by first | (simp [entryFrame, mkF, argsToLocals, Value.category]; done) | rfl
def Q_rm9 (Z : State) (a : Addr) (lo : Int64) (hi : Int64) (h0 : Heap) (n0 : Nat) (v : Option Value) (h : Heap) (L : List Loc) : Prop := v = some (.int (own_emp lo hi)) ∧ Fr n0 L ∧ h = h0
set_option maxRecDepth 65536 in
set_option maxHeartbeats 40000000 in
theorem rm9 (l : Launch) (Z : State) (a0 : Array Value) (hw : ∀ d ∈ tables_1, d.before a0 Z = true) (ws : List Jvm.Cond) (a : Addr) (lo : Int64) (hi : Int64) (h0 : Heap) (n0 : Nat) (Z0 : n0 ≤ h0.size) (Fa1 : Fld Z h0 a "com/example/quillon/quillon/storage/TimeRange" "first" "J" (.long lo)) (Fa2 : Fld Z h0 a "com/example/quillon/quillon/storage/TimeRange" "last" "J" (.long hi)) :
    MetFree l (⟨"com/example/quillon/quillon/storage/TimeRange", "isEmpty", "()Z"⟩ : MethodName) (head1 (Jvm.Cond.code (⟨"com/example/quillon/quillon/storage/TimeRange", "isEmpty", "()Z"⟩ : MethodName) prog_83_method_7_code 1 (some .boolean) :: ws) ({ frames := 0, cells := 0, slots := 0, locals := 0 } : Room)) (fun as₉ U => as₉ = #[(.ref a)] ∧ Z.Warmed39 U.vm ∧ U.heap = h0) (fun _ _ _ _ _ => True) (fun _ U o₉ U' => ∃ v L, o₉ = .returned v ∧ Q_rm9 Z a lo hi h0 n0 v U'.heap L ∧ FrameEnd U o₉ U' L ({ frames := 0, cells := 0, slots := 0, locals := 0 } : Room).cells ({ frames := 0, cells := 0, slots := 0, locals := 0 } : Room).slots) := by
  refine MetFree.of_bodySF (plainFor_of_name pn_1) hisR ?_
  intro p e s m args below meth c s₁ Bd hml0 hP hK
  obtain ⟨rfl, hZ, hh⟩ := hP
  have hx := Bd.exec
  have hby := Bd.bytes
  have hml : c.maxLocals = 1 := hml0
  have hown : s.vm.findClass "com/example/quillon/quillon/storage/TimeRange" = some m.cls := findClass_of_methodNamed Bd.named
  have hnm := (name_of_methodNamed Bd.named Bd.method).1
  have X0 : Stand p l e ({ frames := 0, cells := 0, slots := 0, locals := 0 } : Room) s m #[(.ref a)] below meth c s₁ [] 0 0 := Stand.of_body Bd
  have e0 : s₁.heap = h0 := by rw [← hh, Bd.state]; rfl
  have N0 := Fr.nil n0
  show own_Go p e below (fun s₂ o₉ => s₂.status = .running ∧ Ended s₂ below o₉ ∧ ∃ v L, o₉ = .returned v ∧ Q_rm9 Z a lo hi h0 n0 v s₂.heap L ∧ FrameEnd s o₉ s₂ L ({ frames := 0, cells := 0, slots := 0, locals := 0 } : Room).cells ({ frames := 0, cells := 0, slots := 0, locals := 0 } : Room).slots) (s₁.setTop (entryFrame m #[(.ref a)] 1))
  rw [ef_rm9 m a]
  refine own_step (s₁.setTop (mkF m 1 #[.val (.ref a)] [(.ref a)])) (fun t₀ k₀ => XS.aloadN X0.here hx rfl (hb hby d9_0) rfl rfl k₀) ?_
  obtain ⟨T13, X13, e13, st13⟩ := getF X0 hx hZ hown (host := "") (Or.inl (hw _ (List.mem_of_getElem? (i := 14) rfl))) Via.refl e0 Fa1 (g := (mkF m 1 #[.val (.ref a)] [(.ref a)])) rfl rfl (hb hby d9_1)
  refine own_step (T13.setTop (mkF m 4 #[.val (.ref a)] [(.long lo)])) (fun t₀ k₀ => st13 t₀ k₀) ?_
  refine own_step (T13.setTop (mkF m 5 #[.val (.ref a)] [(.ref a), (.long lo)])) (fun t₀ k₀ => XS.aloadN X13.here hx rfl (hb hby d9_4) rfl rfl k₀) ?_
  obtain ⟨T14, X14, e14, st14⟩ := getF X13 hx hZ hown (host := "") (Or.inl (hw _ (List.mem_of_getElem? (i := 16) rfl))) Via.refl e13 Fa2 (g := (mkF m 5 #[.val (.ref a)] [(.ref a), (.long lo)])) rfl rfl (hb hby d9_5)
  refine own_step (T14.setTop (mkF m 8 #[.val (.ref a)] [(.long hi), (.long lo)])) (fun t₀ k₀ => st14 t₀ k₀) ?_
  refine own_step (T14.setTop (mkF m 9 #[.val (.ref a)] [(.int (lcmpW lo hi))])) (fun t₀ k₀ => XS.lcmp X14.here hx rfl (hb hby d9_8) rfl k₀) ?_
  by_cases hc9 : hi < lo
  · skip
    refine own_step (T14.setTop (mkF m 12 #[.val (.ref a)] [])) (fun t₀ k₀ => XS.ifNo X14.here hx rfl (hb hby d9_9) rfl (own_lleF hc9) k₀) ?_
    refine own_step (T14.setTop (mkF m 13 #[.val (.ref a)] [(.int (1 : Int32))])) (fun t₀ k₀ => XS.iconst X14.here hx rfl (hb hby d9_12) k₀) ?_
    refine own_step (T14.setTop (mkF m 17 #[.val (.ref a)] [(.int (1 : Int32))])) (fun t₀ k₀ => XS.goto X14.here hx rfl (pc0 := 13) (pc' := 17) rfl (hb hby d9_13) (by decide) (by decide) k₀) ?_
    obtain ⟨fs, hr, hrun, hended, hW, hsame⟩ := X14.leave (v := some (.int (1 : Int32))) (fun h => by rw [Bd.returns] at h; cases h)
    refine ⟨_, _, ?_, hrun, hended, _, _, rfl, ?_, ⟨_, rfl⟩, hW, hsame.mono (by decide) (by decide)⟩
    · exact retN X14 hx (t := .boolean) Bd.returns (by simp) (hb hby d9_17) hr
    · show Q_rm9 Z a lo hi h0 n0 _ T14.heap _
      rw [e14]
      exact ⟨by simp [own_emp, hc9], N0, rfl⟩
  · skip
    refine own_step (T14.setTop (mkF m 16 #[.val (.ref a)] [])) (fun t₀ k₀ => XS.ifYes X14.here hx rfl (pc0 := 9) (pc' := 16) rfl (hb hby d9_9) rfl (own_lleT hc9) (by decide) (by decide) k₀) ?_
    refine own_step (T14.setTop (mkF m 17 #[.val (.ref a)] [(.int (0 : Int32))])) (fun t₀ k₀ => XS.iconst X14.here hx rfl (hb hby d9_16) k₀) ?_
    obtain ⟨fs, hr, hrun, hended, hW, hsame⟩ := X14.leave (v := some (.int (0 : Int32))) (fun h => by rw [Bd.returns] at h; cases h)
    refine ⟨_, _, ?_, hrun, hended, _, _, rfl, ?_, ⟨_, rfl⟩, hW, hsame.mono (by decide) (by decide)⟩
    · exact retN X14 hx (t := .boolean) Bd.returns (by simp) (hb hby d9_17) hr
    · show Q_rm9 Z a lo hi h0 n0 _ T14.heap _
      rw [e14]
      exact ⟨by simp [own_emp, hc9], N0, rfl⟩
theorem d6_0 : decode prog_83_method_11_code 0 = .ok (.new 8, 3) := by decide +kernel
theorem d6_3 : decode prog_83_method_11_code 3 = .ok (.dup, 1) := by decide +kernel
theorem d6_4 : decode prog_83_method_11_code 4 = .ok (.aload_n 0, 1) := by decide +kernel
theorem d6_5 : decode prog_83_method_11_code 5 = .ok (.getfield 7, 3) := by decide +kernel
theorem d6_8 : decode prog_83_method_11_code 8 = .ok (.aload_n 1, 1) := by decide +kernel
theorem d6_9 : decode prog_83_method_11_code 9 = .ok (.getfield 7, 3) := by decide +kernel
theorem d6_12 : decode prog_83_method_11_code 12 = .ok (.invokestatic 61, 3) := by decide +kernel
theorem d6_15 : decode prog_83_method_11_code 15 = .ok (.aload_n 0, 1) := by decide +kernel
theorem d6_16 : decode prog_83_method_11_code 16 = .ok (.getfield 13, 3) := by decide +kernel
theorem d6_19 : decode prog_83_method_11_code 19 = .ok (.aload_n 1, 1) := by decide +kernel
theorem d6_20 : decode prog_83_method_11_code 20 = .ok (.getfield 13, 3) := by decide +kernel
theorem d6_23 : decode prog_83_method_11_code 23 = .ok (.invokestatic 55, 3) := by decide +kernel
theorem d6_26 : decode prog_83_method_11_code 26 = .ok (.invokespecial 20, 3) := by decide +kernel
theorem d6_29 : decode prog_83_method_11_code 29 = .ok (.areturn, 1) := by decide +kernel
theorem ef_rm6 (m : MethodId) (a : Addr) (o : Addr) : entryFrame m #[(.ref a), (.ref o)] 2 = mkF m 0 #[.val (.ref a), .val (.ref o)] [] := by first | (simp [entryFrame, mkF, argsToLocals, Value.category]; done) | rfl
def Q_rm6 (Z : State) (a : Addr) (o : Addr) (lo : Int64) (hi : Int64) (lo2 : Int64) (hi2 : Int64) (h0 : Heap) (n0 : Nat) (v : Option Value) (h : Heap) (L : List Loc) : Prop := ∃ bb : Addr, v = some (.ref bb) ∧ Fr n0 L ∧ Keep h0 h [] ∧ n0 ≤ bb ∧ Exa Z h bb "com/example/quillon/quillon/storage/TimeRange" ∧ Fld Z h bb "com/example/quillon/quillon/storage/TimeRange" "first" "J" (.long (own_max lo lo2)) ∧ Fld Z h bb "com/example/quillon/quillon/storage/TimeRange" "last" "J" (.long (own_min hi hi2))
set_option maxRecDepth 65536 in
set_option maxHeartbeats 40000000 in
theorem rm6 (l : Launch) (Z : State) (a0 : Array Value) (hw : ∀ d ∈ tables_1, d.before a0 Z = true) (ws : List Jvm.Cond) (a : Addr) (o : Addr) (lo : Int64) (hi : Int64) (lo2 : Int64) (hi2 : Int64) (h0 : Heap) (n0 : Nat) (Z0 : n0 ≤ h0.size) (Fa1 : Fld Z h0 a "com/example/quillon/quillon/storage/TimeRange" "first" "J" (.long lo)) (Fa2 : Fld Z h0 a "com/example/quillon/quillon/storage/TimeRange" "last" "J" (.long hi)) (Fo1 : Fld Z h0 o "com/example/quillon/quillon/storage/TimeRange" "first" "J" (.long lo2)) (Fo2 : Fld Z h0 o "com/example/quillon/quillon/storage/TimeRange" "last" "J" (.long hi2)) :
    MetFree l (⟨"com/example/quillon/quillon/storage/TimeRange", "intersect", "(Lcom/example/quillon/quillon/storage/TimeRange;)Lcom/example/quillon/quillon/storage/TimeRange;"⟩ : MethodName) (head1 (Jvm.Cond.code (⟨"com/example/quillon/quillon/storage/TimeRange", "intersect", "(Lcom/example/quillon/quillon/storage/TimeRange;)Lcom/example/quillon/quillon/storage/TimeRange;"⟩ : MethodName) prog_83_method_11_code 2 (some (.object "com/example/quillon/quillon/storage/TimeRange")) :: ws) ({ frames := 3, cells := 1, slots := 2, locals := 41 } : Room)) (fun as₉ U => as₉ = #[(.ref a), (.ref o)] ∧ Z.Warmed39 U.vm ∧ U.heap = h0) (fun _ _ _ _ _ => True) (fun _ U o₉ U' => ∃ v L, o₉ = .returned v ∧ Q_rm6 Z a o lo hi lo2 hi2 h0 n0 v U'.heap L ∧ FrameEnd U o₉ U' L ({ frames := 3, cells := 1, slots := 2, locals := 41 } : Room).cells ({ frames := 3, cells := 1, slots := 2, locals := 41 } : Room).slots) := by
  refine MetFree.of_bodySF (plainFor_of_name pn_1) hisR ?_
  intro p e s m args below meth c s₁ Bd hml0 hP hK
  obtain ⟨rfl, hZ, hh⟩ := hP
  have hx := Bd.exec
  have hby := Bd.bytes
  have hml : c.maxLocals = 2 := hml0
  have hown : s.vm.findClass "com/example/quillon/quillon/storage/TimeRange" = some m.cls := findClass_of_methodNamed Bd.named
  have hnm := (name_of_methodNamed Bd.named Bd.method).1
  have X0 : Stand p l e ({ frames := 3, cells := 1, slots := 2, locals := 41 } : Room) s m #[(.ref a), (.ref o)] below meth c s₁ [] 0 0 := Stand.of_body Bd
  have e0 : s₁.heap = h0 := by rw [← hh, Bd.state]; rfl
  have N0 := Fr.nil n0
  show own_Go p e below (fun s₂ o₉ => s₂.status = .running ∧ Ended s₂ below o₉ ∧ ∃ v L, o₉ = .returned v ∧ Q_rm6 Z a o lo hi lo2 hi2 h0 n0 v s₂.heap L ∧ FrameEnd s o₉ s₂ L ({ frames := 3, cells := 1, slots := 2, locals := 41 } : Room).cells ({ frames := 3, cells := 1, slots := 2, locals := 41 } : Room).slots) (s₁.setTop (entryFrame m #[(.ref a), (.ref o)] 2))
  rw [ef_rm6 m a o]
  obtain ⟨T15, h15, X15, e15, E15, A15, D15, -, st15⟩ := newO X0 hx hZ hown (hw _ (List.mem_of_getElem? (i := 32) rfl)) (hw _ (List.mem_of_getElem? (i := 1) rfl)) (hw _ (List.mem_of_getElem? (i := 2) rfl)) e0 (g := (mkF m 0 #[.val (.ref a), .val (.ref o)] [])) rfl (hb hby d6_0) (by decide) (by decide)
  obtain ⟨b15, g15⟩ : ∃ z, z = h0.size := ⟨_, rfl⟩
  rw [← g15] at A15 D15 st15
  have ne16 : a ≠ b15 := Nat.ne_of_lt (Nat.lt_of_lt_of_le Fa1.lt (Nat.le_of_eq g15.symm))
  have ne17 : o ≠ b15 := Nat.ne_of_lt (Nat.lt_of_lt_of_le Fo1.lt (Nat.le_of_eq g15.symm))
  have fr_b15 : n0 ≤ b15 := Nat.le_trans Z0 (Nat.le_of_eq g15.symm)
  have sz_b15 : h0.size ≤ b15 := Nat.le_trans (Keep.refl h0 []).1 (Nat.le_of_eq g15.symm)
  have f18 : Fld Z h15 a "com/example/quillon/quillon/storage/TimeRange" "first" "J" (.long lo) := Fa1.ext E15
  have f19 : Fld Z h15 a "com/example/quillon/quillon/storage/TimeRange" "last" "J" (.long hi) := Fa2.ext E15
  have f20 : Fld Z h15 o "com/example/quillon/quillon/storage/TimeRange" "first" "J" (.long lo2) := Fo1.ext E15
  have f21 : Fld Z h15 o "com/example/quillon/quillon/storage/TimeRange" "last" "J" (.long hi2) := Fo2.ext E15
  have f22 : Fld Z h15 b15 "com/example/quillon/quillon/storage/TimeRange" "first" "J" (.long (0 : Int64)) := D15 (Or.inr (hw _ (List.mem_of_getElem? (i := 15) rfl))) (ty := .long) (by decide)
  have f23 : Fld Z h15 b15 "com/example/quillon/quillon/storage/TimeRange" "last" "J" (.long (0 : Int64)) := D15 (Or.inr (hw _ (List.mem_of_getElem? (i := 17) rfl))) (ty := .long) (by decide)
  have z15 : n0 ≤ h15.size := Nat.le_trans Z0 E15.1
  have K15 : Keep h0 h15 [] := (Keep.refl h0 []).ext E15
  refine own_step (T15.setTop (mkF m 3 #[.val (.ref a), .val (.ref o)] [(.ref b15)])) (fun t₀ k₀ => st15 t₀ k₀) ?_
  refine own_step (T15.setTop (mkF m 4 #[.val (.ref a), .val (.ref o)] [(.ref b15), (.ref b15)])) (fun t₀ k₀ => XS.dup X15.here hx rfl (hb hby d6_3) rfl rfl k₀) ?_
  refine own_step (T15.setTop (mkF m 5 #[.val (.ref a), .val (.ref o)] [(.ref a), (.ref b15), (.ref b15)])) (fun t₀ k₀ => XS.aloadN X15.here hx rfl (hb hby d6_4) rfl rfl k₀) ?_
  obtain ⟨T24, X24, e24, st24⟩ := getF X15 hx hZ hown (host := "") (Or.inl (hw _ (List.mem_of_getElem? (i := 14) rfl))) Via.refl e15 f18 (g := (mkF m 5 #[.val (.ref a), .val (.ref o)] [(.ref a), (.ref b15), (.ref b15)])) rfl rfl (hb hby d6_5)
  refine own_step (T24.setTop (mkF m 8 #[.val (.ref a), .val (.ref o)] [(.long lo), (.ref b15), (.ref b15)])) (fun t₀ k₀ => st24 t₀ k₀) ?_
  refine own_step (T24.setTop (mkF m 9 #[.val (.ref a), .val (.ref o)] [(.ref o), (.long lo), (.ref b15), (.ref b15)])) (fun t₀ k₀ => XS.aloadN X24.here hx rfl (hb hby d6_8) rfl rfl k₀) ?_
  obtain ⟨T25, X25, e25, st25⟩ := getF X24 hx hZ hown (host := "") (Or.inl (hw _ (List.mem_of_getElem? (i := 14) rfl))) Via.refl e24 f20 (g := (mkF m 9 #[.val (.ref a), .val (.ref o)] [(.ref o), (.long lo), (.ref b15), (.ref b15)])) rfl rfl (hb hby d6_9)
  refine own_step (T25.setTop (mkF m 12 #[.val (.ref a), .val (.ref o)] [(.long lo2), (.long lo), (.ref b15), (.ref b15)])) (fun t₀ k₀ => st25 t₀ k₀) ?_
  obtain ⟨_, _, ⟨T26, L26, k26, n26⟩, -, X26, ⟨Lc26, hQ26, l26, y26, z26⟩, st26⟩ := Jvm.LawKit.callS X25 hx (y := (⟨"java/lang/Math", "max", "(JJ)J"⟩ : MethodName)) hown (mvT hZ (hw _ (List.mem_of_getElem? (i := 33) rfl))) (mvT hZ (hw _ (List.mem_of_getElem? (i := 34) rfl))) (mvT hZ (hw _ (List.mem_of_getElem? (i := 35) rfl))) (mvT hZ (hw _ (List.mem_of_getElem? (i := 36) rfl))) (by decide) (backOf (W := 2) (rm7 l Z a0 hw [] lo lo2 h15 n0 z15) hZ (hw _ (List.mem_of_getElem? (i := 36) rfl)) (hw _ (List.mem_of_getElem? (i := 35) rfl)) (by decide) (by decide)) (g := (mkF m 12 #[.val (.ref a), .val (.ref o)] [(.long lo2), (.long lo), (.ref b15), (.ref b15)])) rfl (by rw [hml]; rfl) (argsL := [(.long lo), (.long lo2)]) (rest := [(.ref b15), (.ref b15)]) (lenOf pd_5 rfl) rfl (by show 2 * 0 + _ ≤ _; exact Nat.le_of_eq rfl) (hb hby d6_12) (fun _ _ => ⟨rfl, e25, (by decide : 1 + 0 ≤ _), (by decide : 2 + 0 ≤ _)⟩)
  dsimp only [Pt.U, Pt.locs, Pt.cells, Pt.slots] at X26 l26 y26 z26 st26 hQ26
  subst l26 y26 z26
  obtain ⟨rfl, N26q, e26⟩ := hQ26
  have N26 := Fr.app N0 N26q
  refine own_step (T26.setTop (mkF m 15 #[.val (.ref a), .val (.ref o)] [(.long (own_max lo lo2)), (.ref b15), (.ref b15)])) (fun t₀ k₀ => st26 t₀ k₀) ?_
  refine own_step (T26.setTop (mkF m 16 #[.val (.ref a), .val (.ref o)] [(.ref a), (.long (own_max lo lo2)), (.ref b15), (.ref b15)])) (fun t₀ k₀ => XS.aloadN X26.here hx rfl (hb hby d6_15) rfl rfl k₀) ?_
  obtain ⟨T27, X27, e27, st27⟩ := getF X26 hx hZ hown (host := "") (Or.inl (hw _ (List.mem_of_getElem? (i := 16) rfl))) Via.refl e26 f19 (g := (mkF m 16 #[.val (.ref a), .val (.ref o)] [(.ref a), (.long (own_max lo lo2)), (.ref b15), (.ref b15)])) rfl rfl (hb hby d6_16)
  refine own_step (T27.setTop (mkF m 19 #[.val (.ref a), .val (.ref o)] [(.long hi), (.long (own_max lo lo2)), (.ref b15), (.ref b15)])) (fun t₀ k₀ => st27 t₀ k₀) ?_
  refine own_step (T27.setTop (mkF m 20 #[.val (.ref a), .val (.ref o)] [(.ref o), (.long hi), (.long (own_max lo lo2)), (.ref b15), (.ref b15)])) (fun t₀ k₀ => XS.aloadN X27.here hx rfl (hb hby d6_19) rfl rfl k₀) ?_
  obtain ⟨T28, X28, e28, st28⟩ := getF X27 hx hZ hown (host := "") (Or.inl (hw _ (List.mem_of_getElem? (i := 16) rfl))) Via.refl e27 f21 (g := (mkF m 20 #[.val (.ref a), .val (.ref o)] [(.ref o), (.long hi), (.long (own_max lo lo2)), (.ref b15), (.ref b15)])) rfl rfl (hb hby d6_20)
  refine own_step (T28.setTop (mkF m 23 #[.val (.ref a), .val (.ref o)] [(.long hi2), (.long hi), (.long (own_max lo lo2)), (.ref b15), (.ref b15)])) (fun t₀ k₀ => st28 t₀ k₀) ?_
  obtain ⟨_, _, ⟨T29, L29, k29, n29⟩, -, X29, ⟨Lc29, hQ29, l29, y29, z29⟩, st29⟩ := Jvm.LawKit.callS X28 hx (y := (⟨"java/lang/Math", "min", "(JJ)J"⟩ : MethodName)) hown (mvT hZ (hw _ (List.mem_of_getElem? (i := 37) rfl))) (mvT hZ (hw _ (List.mem_of_getElem? (i := 38) rfl))) (mvT hZ (hw _ (List.mem_of_getElem? (i := 35) rfl))) (mvT hZ (hw _ (List.mem_of_getElem? (i := 39) rfl))) (by decide) (backOf (W := 4) (rm8 l Z a0 hw [] hi hi2 h15 n0 z15) hZ (hw _ (List.mem_of_getElem? (i := 39) rfl)) (hw _ (List.mem_of_getElem? (i := 35) rfl)) (by decide) (by decide)) (g := (mkF m 23 #[.val (.ref a), .val (.ref o)] [(.long hi2), (.long hi), (.long (own_max lo lo2)), (.ref b15), (.ref b15)])) rfl (by rw [hml]; rfl) (argsL := [(.long hi), (.long hi2)]) (rest := [(.long (own_max lo lo2)), (.ref b15), (.ref b15)]) (lenOf pd_5 rfl) rfl (by show 2 * 0 + _ ≤ _; exact Nat.le_of_eq rfl) (hb hby d6_23) (fun _ _ => ⟨rfl, e28, (by decide : 1 + 0 ≤ _), (by decide : 2 + 0 ≤ _)⟩)
  dsimp only [Pt.U, Pt.locs, Pt.cells, Pt.slots] at X29 l29 y29 z29 st29 hQ29
  subst l29 y29 z29
  obtain ⟨rfl, N29q, e29⟩ := hQ29
  have N29 := Fr.app N26 N29q
  refine own_step (T29.setTop (mkF m 26 #[.val (.ref a), .val (.ref o)] [(.long (own_min hi hi2)), (.long (own_max lo lo2)), (.ref b15), (.ref b15)])) (fun t₀ k₀ => st29 t₀ k₀) ?_
  obtain ⟨_, _, ⟨T30, L30, k30, n30⟩, -, X30, ⟨Lc30, hQ30, l30, y30, z30⟩, st30⟩ := X29.specialBack hx (y := (⟨"com/example/quillon/quillon/storage/TimeRange", "<init>", "(JJ)V"⟩ : MethodName)) rfl hown (mvT hZ (hw _ (List.mem_of_getElem? (i := 40) rfl))) (mvT hZ (hw _ (List.mem_of_getElem? (i := 4) rfl))) (mvT hZ (hw _ (List.mem_of_getElem? (i := 5) rfl))) (by decide) (backOf (W := 1) (rm1 l Z a0 hw [] b15 (own_max lo lo2) (own_min hi hi2) (0 : Int64) (0 : Int64) h15 n0 z15 A15 f22 f23 fr_b15) hZ (hw _ (List.mem_of_getElem? (i := 5) rfl)) (hw _ (List.mem_of_getElem? (i := 2) rfl)) (by decide) (by decide)) (g := (mkF m 26 #[.val (.ref a), .val (.ref o)] [(.long (own_min hi hi2)), (.long (own_max lo lo2)), (.ref b15), (.ref b15)])) rfl (by rw [hml]; rfl) (Steps.refl _) (a := b15) (argsL := [(.long (own_max lo lo2)), (.long (own_min hi hi2))]) (rest := [(.ref b15)]) (lenOf pd_0 rfl) rfl (by show 2 * 0 + _ ≤ _; exact Nat.le_of_eq rfl) (hb hby d6_26) (fun _ _ => ⟨rfl, e29, (by decide : 1 + 0 ≤ _), (by decide : 2 + 0 ≤ _)⟩)
  dsimp only [Pt.U, Pt.locs, Pt.cells, Pt.slots] at X30 l30 y30 z30 st30 hQ30
  subst l30 y30 z30
  obtain ⟨rfl, N30q, K30, f31, f32, f33⟩ := hQ30
  have N30 := Fr.app N29 N30q
  have f34 : Fld Z T30.heap a "com/example/quillon/quillon/storage/TimeRange" "first" "J" (.long lo) := f18.keep K30 (ninS ne16 nin0)
  have f35 : Fld Z T30.heap a "com/example/quillon/quillon/storage/TimeRange" "last" "J" (.long hi) := f19.keep K30 (ninS ne16 nin0)
  have f36 : Fld Z T30.heap o "com/example/quillon/quillon/storage/TimeRange" "first" "J" (.long lo2) := f20.keep K30 (ninS ne17 nin0)
  have f37 : Fld Z T30.heap o "com/example/quillon/quillon/storage/TimeRange" "last" "J" (.long hi2) := f21.keep K30 (ninS ne17 nin0)
  have f38 : Exa Z T30.heap b15 "com/example/quillon/quillon/storage/TimeRange" := A15.keep K30
  have z30' : n0 ≤ T30.heap.size := Nat.le_trans z15 K30.1
  have K30' : Keep h0 T30.heap [] := K15.trans K30 (allS (Or.inr sz_b15) all0)
  refine own_comes (T30.setTop (mkF m 29 #[.val (.ref a), .val (.ref o)] [(.ref b15)])) st30 ?_
  obtain ⟨fs, hr, hrun, hended, hW, hsame⟩ := X30.leave (v := some (.ref b15)) (fun h => by rw [Bd.returns] at h; cases h)
  refine ⟨_, _, ?_, hrun, hended, _, _, rfl, ?_, ⟨_, rfl⟩, hW, hsame.mono (by decide) (by decide)⟩
  · jvm_step X30.here [X30.here.top, hx, (hb hby d6_29), X30.method', Bd.returns, Value.isRef, FieldType.isReference]
    first | (intro acts; rw [hr _ acts rfl rfl rfl]) | rw [hr _ _ rfl rfl rfl]
    exact Steps.refl _
  · show Q_rm6 Z a o lo hi lo2 hi2 h0 n0 _ T30.heap _
    exact ⟨b15, rfl, N30, K30', fr_b15, f31, f32, f33⟩
theorem ef_rm0 (m : MethodId) (a : Int64) (b : Int64) (cc : Int64) (sel : Int32) : entryFrame m #[(.long a), (.long b), (.long cc), (.int sel)] maxLocals = mkF m 0 #[.val (.long a), .second, .val (.long b), .second, .val (.long cc), .second, .val (.int sel), .unset, .unset, .unset, .unset, .unset, .unset] [] := by first | (simp [entryFrame, mkF, argsToLocals, Value.category, maxLocals]; done) | rfl
def Q_rm0 (Z : State) (a : Int64) (b : Int64) (cc : Int64) (sel : Int32) (h0 : Heap) (n0 : Nat) (v : Option Value) (h : Heap) (L : List Loc) : Prop := v = some (.int 1) ∧ Fr n0 L
set_option maxRecDepth 65536 in
set_option maxHeartbeats 40000000 in
theorem rm0 (l : Launch) (Z : State) (a0 : Array Value) (hw : ∀ d ∈ tables_1, d.before a0 Z = true) (ws : List Jvm.Cond) (a : Int64) (b : Int64) (cc : Int64) (sel : Int32) (h0 : Heap) (n0 : Nat) (Z0 : n0 ≤ h0.size) :
    MetFree l x (head1 (Jvm.Cond.code x code maxLocals ret :: ws) room_1) (fun as₉ U => as₉ = #[(.long a), (.long b), (.long cc), (.int sel)] ∧ Z.Warmed39 U.vm ∧ U.heap = h0) (fun _ _ _ _ _ => True) (fun _ U o₉ U' => ∃ v L, o₉ = .returned v ∧ Q_rm0 Z a b cc sel h0 n0 v U'.heap L ∧ FrameEnd U o₉ U' L room_1.cells room_1.slots) := by
  refine MetFree.of_bodySF (plainFor_of_name pn_4) hisR ?_
  intro p e s m args below meth c s₁ Bd hml0 hP hK
  obtain ⟨rfl, hZ, hh⟩ := hP
  have hx := Bd.exec
  have hby := Bd.bytes
  have hml : c.maxLocals = 13 := hml0
  have hown : s.vm.findClass "com/example/quillon/quillon/storage/TimeRangeContainsPinLaw" = some m.cls := findClass_of_methodNamed Bd.named
  have hnm := (name_of_methodNamed Bd.named Bd.method).1
  have X0 : Stand p l e room_1 s m #[(.long a), (.long b), (.long cc), (.int sel)] below meth c s₁ [] 0 0 := Stand.of_body Bd
  have e0 : s₁.heap = h0 := by rw [← hh, Bd.state]; rfl
  have N0 := Fr.nil n0
  show own_Go p e below (fun s₂ o₉ => s₂.status = .running ∧ Ended s₂ below o₉ ∧ ∃ v L, o₉ = .returned v ∧ Q_rm0 Z a b cc sel h0 n0 v s₂.heap L ∧ FrameEnd s o₉ s₂ L room_1.cells room_1.slots) (s₁.setTop (entryFrame m #[(.long a), (.long b), (.long cc), (.int sel)] maxLocals))
  rw [ef_rm0 m a b cc sel]
  obtain ⟨T41, h41, X41, e41, E41, A41, D41, -, st41⟩ := newO X0 hx hZ hown (hw _ (List.mem_of_getElem? (i := 0) rfl)) (hw _ (List.mem_of_getElem? (i := 1) rfl)) (hw _ (List.mem_of_getElem? (i := 2) rfl)) e0 (g := (mkF m 0 #[.val (.long a), .second, .val (.long b), .second, .val (.long cc), .second, .val (.int sel), .unset, .unset, .unset, .unset, .unset, .unset] [])) rfl (hb hby at_0) (by decide) (by decide)
  obtain ⟨b41, g41⟩ : ∃ z, z = h0.size := ⟨_, rfl⟩
  rw [← g41] at A41 D41 st41
  have fr_b41 : n0 ≤ b41 := Nat.le_trans Z0 (Nat.le_of_eq g41.symm)
  have f42 : Fld Z h41 b41 "com/example/quillon/quillon/storage/TimeRange" "first" "J" (.long (0 : Int64)) := D41 (Or.inr (hw _ (List.mem_of_getElem? (i := 15) rfl))) (ty := .long) (by decide)
  have f43 : Fld Z h41 b41 "com/example/quillon/quillon/storage/TimeRange" "last" "J" (.long (0 : Int64)) := D41 (Or.inr (hw _ (List.mem_of_getElem? (i := 17) rfl))) (ty := .long) (by decide)
  have z41 : n0 ≤ h41.size := Nat.le_trans Z0 E41.1
  refine own_step (T41.setTop (mkF m 3 #[.val (.long a), .second, .val (.long b), .second, .val (.long cc), .second, .val (.int sel), .unset, .unset, .unset, .unset, .unset, .unset] [(.ref b41)])) (fun t₀ k₀ => st41 t₀ k₀) ?_
  refine own_step (T41.setTop (mkF m 4 #[.val (.long a), .second, .val (.long b), .second, .val (.long cc), .second, .val (.int sel), .unset, .unset, .unset, .unset, .unset, .unset] [(.ref b41), (.ref b41)])) (fun t₀ k₀ => XS.dup X41.here hx rfl (hb hby at_3) rfl rfl k₀) ?_
  refine own_step (T41.setTop (mkF m 5 #[.val (.long a), .second, .val (.long b), .second, .val (.long cc), .second, .val (.int sel), .unset, .unset, .unset, .unset, .unset, .unset] [(.long a), (.ref b41), (.ref b41)])) (fun t₀ k₀ => XS.lloadN X41.here hx rfl (hb hby at_4) rfl k₀) ?_
  refine own_step (T41.setTop (mkF m 6 #[.val (.long a), .second, .val (.long b), .second, .val (.long cc), .second, .val (.int sel), .unset, .unset, .unset, .unset, .unset, .unset] [(.long b), (.long a), (.ref b41), (.ref b41)])) (fun t₀ k₀ => XS.lloadN X41.here hx rfl (hb hby at_5) rfl k₀) ?_
  obtain ⟨_, _, ⟨T44, L44, k44, n44⟩, -, X44, ⟨Lc44, hQ44, l44, y44, z44⟩, st44⟩ := X41.specialBack hx (y := (⟨"com/example/quillon/quillon/storage/TimeRange", "<init>", "(JJ)V"⟩ : MethodName)) rfl hown (mvT hZ (hw _ (List.mem_of_getElem? (i := 3) rfl))) (mvT hZ (hw _ (List.mem_of_getElem? (i := 4) rfl))) (mvT hZ (hw _ (List.mem_of_getElem? (i := 5) rfl))) (by decide) (backOf (W := 1) (rm1 l Z a0 hw [] b41 a b (0 : Int64) (0 : Int64) h41 n0 z41 A41 f42 f43 fr_b41) hZ (hw _ (List.mem_of_getElem? (i := 5) rfl)) (hw _ (List.mem_of_getElem? (i := 2) rfl)) (by decide) (by decide)) (g := (mkF m 6 #[.val (.long a), .second, .val (.long b), .second, .val (.long cc), .second, .val (.int sel), .unset, .unset, .unset, .unset, .unset, .unset] [(.long b), (.long a), (.ref b41), (.ref b41)])) rfl (by rw [hml]; rfl) (Steps.refl _) (a := b41) (argsL := [(.long a), (.long b)]) (rest := [(.ref b41)]) (lenOf pd_0 rfl) rfl (by show 2 * 0 + _ ≤ _; exact Nat.le_of_eq rfl) (hb hby at_6) (fun _ _ => ⟨rfl, e41, (by decide : 1 + 0 ≤ _), (by decide : 2 + 0 ≤ _)⟩)
  dsimp only [Pt.U, Pt.locs, Pt.cells, Pt.slots] at X44 l44 y44 z44 st44 hQ44
  subst l44 y44 z44
  obtain ⟨rfl, N44q, K44, f45, f46, f47⟩ := hQ44
  have N44 := Fr.app N0 N44q
  have f48 : Exa Z T44.heap b41 "com/example/quillon/quillon/storage/TimeRange" := A41.keep K44
  have z44' : n0 ≤ T44.heap.size := Nat.le_trans z41 K44.1
  refine own_comes (T44.setTop (mkF m 9 #[.val (.long a), .second, .val (.long b), .second, .val (.long cc), .second, .val (.int sel), .unset, .unset, .unset, .unset, .unset, .unset] [(.ref b41)])) st44 ?_
  refine own_step (T44.setTop (mkF m 11 #[.val (.long a), .second, .val (.long b), .second, .val (.long cc), .second, .val (.int sel), .val (.ref b41), .unset, .unset, .unset, .unset, .unset] [])) (fun t₀ k₀ => XS.astore X44.here hx rfl (hb hby at_9) rfl rfl (l' := #[.val (.long a), .second, .val (.long b), .second, .val (.long cc), .second, .val (.int sel), .val (.ref b41), .unset, .unset, .unset, .unset, .unset]) rfl k₀) ?_
  refine own_step (T44.setTop (mkF m 12 #[.val (.long a), .second, .val (.long b), .second, .val (.long cc), .second, .val (.int sel), .val (.ref b41), .unset, .unset, .unset, .unset, .unset] [(.long a)])) (fun t₀ k₀ => XS.lloadN X44.here hx rfl (hb hby at_11) rfl k₀) ?_
  refine own_step (T44.setTop (mkF m 13 #[.val (.long a), .second, .val (.long b), .second, .val (.long cc), .second, .val (.int sel), .val (.ref b41), .unset, .unset, .unset, .unset, .unset] [(.long b), (.long a)])) (fun t₀ k₀ => XS.lloadN X44.here hx rfl (hb hby at_12) rfl k₀) ?_
  refine own_step (T44.setTop (mkF m 15 #[.val (.long a), .second, .val (.long b), .second, .val (.long cc), .second, .val (.int sel), .val (.ref b41), .unset, .unset, .unset, .unset, .unset] [(.long cc), (.long b), (.long a)])) (fun t₀ k₀ => XS.lload X44.here hx rfl (hb hby at_13) rfl k₀) ?_
  refine own_step (T44.setTop (mkF m 17 #[.val (.long a), .second, .val (.long b), .second, .val (.long cc), .second, .val (.int sel), .val (.ref b41), .unset, .unset, .unset, .unset, .unset] [(.int sel), (.long cc), (.long b), (.long a)])) (fun t₀ k₀ => XS.iload X44.here hx rfl (hb hby at_15) rfl k₀) ?_
  obtain ⟨_, _, ⟨T51, L51, k51, n51⟩, -, X51, ⟨Lc51, hQ51, l51, y51, z51⟩, st51⟩ := Jvm.LawKit.callS X44 hx (y := (⟨"com/example/quillon/quillon/storage/TimeRangeContainsPinLaw", "pick", "(JJJI)J"⟩ : MethodName)) hown (mvT hZ (hw _ (List.mem_of_getElem? (i := 18) rfl))) (mvT hZ (hw _ (List.mem_of_getElem? (i := 19) rfl))) (mvT hZ (hw _ (List.mem_of_getElem? (i := 20) rfl))) (mvT hZ (hw _ (List.mem_of_getElem? (i := 21) rfl))) (by decide) (backOf (W := 0) (rm4 l Z a0 hw [] a b cc sel T44.heap n0 z44') hZ (hw _ (List.mem_of_getElem? (i := 21) rfl)) (hw _ (List.mem_of_getElem? (i := 20) rfl)) (by decide) (by decide)) (g := (mkF m 17 #[.val (.long a), .second, .val (.long b), .second, .val (.long cc), .second, .val (.int sel), .val (.ref b41), .unset, .unset, .unset, .unset, .unset] [(.int sel), (.long cc), (.long b), (.long a)])) rfl (by rw [hml]; rfl) (argsL := [(.long a), (.long b), (.long cc), (.int sel)]) (rest := []) (lenOf pd_2 rfl) rfl (by show 2 * 0 + _ ≤ _; exact Nat.le_of_eq rfl) (hb hby at_17) (fun _ _ => ⟨rfl, rfl, (by decide : 1 + 0 ≤ _), (by decide : 2 + 0 ≤ _)⟩)
  dsimp only [Pt.U, Pt.locs, Pt.cells, Pt.slots] at X51 l51 y51 z51 st51 hQ51
  subst l51 y51 z51
  obtain ⟨t52, rfl, N51q, e51⟩ := hQ51
  have N51 := Fr.app N44 N51q
  refine own_step (T51.setTop (mkF m 20 #[.val (.long a), .second, .val (.long b), .second, .val (.long cc), .second, .val (.int sel), .val (.ref b41), .unset, .unset, .unset, .unset, .unset] [(.long t52)])) (fun t₀ k₀ => st51 t₀ k₀) ?_
  refine own_step (T51.setTop (mkF m 22 #[.val (.long a), .second, .val (.long b), .second, .val (.long cc), .second, .val (.int sel), .val (.ref b41), .val (.long t52), .second, .unset, .unset, .unset] [])) (fun t₀ k₀ => XS.lstore X51.here hx rfl (hb hby at_20) rfl (l' := #[.val (.long a), .second, .val (.long b), .second, .val (.long cc), .second, .val (.int sel), .val (.ref b41), .val (.long t52), .second, .unset, .unset, .unset]) rfl k₀) ?_
  obtain ⟨T53, h53, X53, e53, E53, A53, D53, -, st53⟩ := newO X51 hx hZ hown (hw _ (List.mem_of_getElem? (i := 0) rfl)) (hw _ (List.mem_of_getElem? (i := 1) rfl)) (hw _ (List.mem_of_getElem? (i := 2) rfl)) e51 (g := (mkF m 22 #[.val (.long a), .second, .val (.long b), .second, .val (.long cc), .second, .val (.int sel), .val (.ref b41), .val (.long t52), .second, .unset, .unset, .unset] [])) rfl (hb hby at_22) (by decide) (by decide)
  obtain ⟨b53, g53⟩ : ∃ z, z = T44.heap.size := ⟨_, rfl⟩
  rw [← g53] at A53 D53 st53
  have ne54 : b41 ≠ b53 := Nat.ne_of_lt (Nat.lt_of_lt_of_le f45.lt (Nat.le_of_eq g53.symm))
  have fr_b53 : n0 ≤ b53 := Nat.le_trans z44' (Nat.le_of_eq g53.symm)
  have f55 : Exa Z h53 b41 "com/example/quillon/quillon/storage/TimeRange" := f45.ext E53
  have f56 : Fld Z h53 b41 "com/example/quillon/quillon/storage/TimeRange" "first" "J" (.long a) := f46.ext E53
  have f57 : Fld Z h53 b41 "com/example/quillon/quillon/storage/TimeRange" "last" "J" (.long b) := f47.ext E53
  have f58 : Fld Z h53 b53 "com/example/quillon/quillon/storage/TimeRange" "first" "J" (.long (0 : Int64)) := D53 (Or.inr (hw _ (List.mem_of_getElem? (i := 15) rfl))) (ty := .long) (by decide)
  have f59 : Fld Z h53 b53 "com/example/quillon/quillon/storage/TimeRange" "last" "J" (.long (0 : Int64)) := D53 (Or.inr (hw _ (List.mem_of_getElem? (i := 17) rfl))) (ty := .long) (by decide)
  have z53 : n0 ≤ h53.size := Nat.le_trans z44' E53.1
  refine own_step (T53.setTop (mkF m 25 #[.val (.long a), .second, .val (.long b), .second, .val (.long cc), .second, .val (.int sel), .val (.ref b41), .val (.long t52), .second, .unset, .unset, .unset] [(.ref b53)])) (fun t₀ k₀ => st53 t₀ k₀) ?_
  refine own_step (T53.setTop (mkF m 26 #[.val (.long a), .second, .val (.long b), .second, .val (.long cc), .second, .val (.int sel), .val (.ref b41), .val (.long t52), .second, .unset, .unset, .unset] [(.ref b53), (.ref b53)])) (fun t₀ k₀ => XS.dup X53.here hx rfl (hb hby at_25) rfl rfl k₀) ?_
  refine own_step (T53.setTop (mkF m 28 #[.val (.long a), .second, .val (.long b), .second, .val (.long cc), .second, .val (.int sel), .val (.ref b41), .val (.long t52), .second, .unset, .unset, .unset] [(.long t52), (.ref b53), (.ref b53)])) (fun t₀ k₀ => XS.lload X53.here hx rfl (hb hby at_26) rfl k₀) ?_
  refine own_step (T53.setTop (mkF m 30 #[.val (.long a), .second, .val (.long b), .second, .val (.long cc), .second, .val (.int sel), .val (.ref b41), .val (.long t52), .second, .unset, .unset, .unset] [(.long t52), (.long t52), (.ref b53), (.ref b53)])) (fun t₀ k₀ => XS.lload X53.here hx rfl (hb hby at_28) rfl k₀) ?_
  obtain ⟨_, _, ⟨T60, L60, k60, n60⟩, -, X60, ⟨Lc60, hQ60, l60, y60, z60⟩, st60⟩ := X53.specialBack hx (y := (⟨"com/example/quillon/quillon/storage/TimeRange", "<init>", "(JJ)V"⟩ : MethodName)) rfl hown (mvT hZ (hw _ (List.mem_of_getElem? (i := 3) rfl))) (mvT hZ (hw _ (List.mem_of_getElem? (i := 4) rfl))) (mvT hZ (hw _ (List.mem_of_getElem? (i := 5) rfl))) (by decide) (backOf (W := 1) (rm1 l Z a0 hw [] b53 t52 t52 (0 : Int64) (0 : Int64) h53 n0 z53 A53 f58 f59 fr_b53) hZ (hw _ (List.mem_of_getElem? (i := 5) rfl)) (hw _ (List.mem_of_getElem? (i := 2) rfl)) (by decide) (by decide)) (g := (mkF m 30 #[.val (.long a), .second, .val (.long b), .second, .val (.long cc), .second, .val (.int sel), .val (.ref b41), .val (.long t52), .second, .unset, .unset, .unset] [(.long t52), (.long t52), (.ref b53), (.ref b53)])) rfl (by rw [hml]; rfl) (Steps.refl _) (a := b53) (argsL := [(.long t52), (.long t52)]) (rest := [(.ref b53)]) (lenOf pd_0 rfl) rfl (by show 2 * 0 + _ ≤ _; exact Nat.le_of_eq rfl) (hb hby at_30) (fun _ _ => ⟨rfl, e53, (by decide : 2 + 0 ≤ _), (by decide : 4 + 0 ≤ _)⟩)
  dsimp only [Pt.U, Pt.locs, Pt.cells, Pt.slots] at X60 l60 y60 z60 st60 hQ60
  subst l60 y60 z60
  obtain ⟨rfl, N60q, K60, f61, f62, f63⟩ := hQ60
  have N60 := Fr.app N51 N60q
  have f64 : Exa Z T60.heap b41 "com/example/quillon/quillon/storage/TimeRange" := f55.keep K60
  have f65 : Fld Z T60.heap b41 "com/example/quillon/quillon/storage/TimeRange" "first" "J" (.long a) := f56.keep K60 (ninS ne54 nin0)
  have f66 : Fld Z T60.heap b41 "com/example/quillon/quillon/storage/TimeRange" "last" "J" (.long b) := f57.keep K60 (ninS ne54 nin0)
  have f67 : Exa Z T60.heap b53 "com/example/quillon/quillon/storage/TimeRange" := A53.keep K60
  have z60' : n0 ≤ T60.heap.size := Nat.le_trans z53 K60.1
  refine own_comes (T60.setTop (mkF m 33 #[.val (.long a), .second, .val (.long b), .second, .val (.long cc), .second, .val (.int sel), .val (.ref b41), .val (.long t52), .second, .unset, .unset, .unset] [(.ref b53)])) st60 ?_
  refine own_step (T60.setTop (mkF m 35 #[.val (.long a), .second, .val (.long b), .second, .val (.long cc), .second, .val (.int sel), .val (.ref b41), .val (.long t52), .second, .val (.ref b53), .unset, .unset] [])) (fun t₀ k₀ => XS.astore X60.here hx rfl (hb hby at_33) rfl rfl (l' := #[.val (.long a), .second, .val (.long b), .second, .val (.long cc), .second, .val (.int sel), .val (.ref b41), .val (.long t52), .second, .val (.ref b53), .unset, .unset]) rfl k₀) ?_
  refine own_step (T60.setTop (mkF m 37 #[.val (.long a), .second, .val (.long b), .second, .val (.long cc), .second, .val (.int sel), .val (.ref b41), .val (.long t52), .second, .val (.ref b53), .unset, .unset] [(.ref b41)])) (fun t₀ k₀ => XS.aload X60.here hx rfl (hb hby at_35) rfl rfl k₀) ?_
  refine own_step (T60.setTop (mkF m 39 #[.val (.long a), .second, .val (.long b), .second, .val (.long cc), .second, .val (.int sel), .val (.ref b41), .val (.long t52), .second, .val (.ref b53), .unset, .unset] [(.long t52), (.ref b41)])) (fun t₀ k₀ => XS.lload X60.here hx rfl (hb hby at_37) rfl k₀) ?_
  obtain ⟨cq70, kq70, q70a, q70b, q70c⟩ := isOf hZ rfl f64
  obtain ⟨_, _, ⟨T70, L70, k70, n70⟩, -, X70, ⟨Lc70, hQ70, l70, y70, z70⟩, st70⟩ := X60.virtualBack hx (y := (⟨"com/example/quillon/quillon/storage/TimeRange", "contains", "(J)Z"⟩ : MethodName)) (z := (⟨"com/example/quillon/quillon/storage/TimeRange", "contains", "(J)Z"⟩ : MethodName)) hown (mvT hZ (hw _ (List.mem_of_getElem? (i := 22) rfl))) (mvT hZ (hw _ (List.mem_of_getElem? (i := 23) rfl))) (notFace_of_selects (args := #[]) (mvT hZ (hw _ (List.mem_of_getElem? (i := 25) rfl)))) (mvT hZ (hw _ (List.mem_of_getElem? (i := 25) rfl))) (mvT hZ (hw _ (List.mem_of_getElem? (i := 24) rfl))) (by decide) (backOf (W := 0) (rm5 l Z a0 hw [] b41 t52 a b T60.heap n0 z60' f65 f66) hZ (hw _ (List.mem_of_getElem? (i := 26) rfl)) (hw _ (List.mem_of_getElem? (i := 2) rfl)) (by decide) (by decide)) q70a q70c (g := (mkF m 39 #[.val (.long a), .second, .val (.long b), .second, .val (.long cc), .second, .val (.int sel), .val (.ref b41), .val (.long t52), .second, .val (.ref b53), .unset, .unset] [(.long t52), (.ref b41)])) rfl (by rw [hml]; rfl) (Steps.refl _) (argsL := [(.long t52)]) (rest := []) (lenOf pd_3 rfl) rfl (by show 2 * 0 + _ ≤ _; exact Nat.le_of_eq rfl) (hb hby at_39) (fun _ _ => ⟨rfl, rfl, (by decide : 2 + 0 ≤ _), (by decide : 4 + 0 ≤ _)⟩)
  dsimp only [Pt.U, Pt.locs, Pt.cells, Pt.slots] at X70 l70 y70 z70 st70 hQ70
  subst l70 y70 z70
  obtain ⟨rfl, N70q, e70⟩ := hQ70
  have N70 := Fr.app N60 N70q
  refine own_comes (T70.setTop (mkF m 42 #[.val (.long a), .second, .val (.long b), .second, .val (.long cc), .second, .val (.int sel), .val (.ref b41), .val (.long t52), .second, .val (.ref b53), .unset, .unset] [(.int (own_in a t52 b))])) st70 ?_
  refine own_step (T70.setTop (mkF m 44 #[.val (.long a), .second, .val (.long b), .second, .val (.long cc), .second, .val (.int sel), .val (.ref b41), .val (.long t52), .second, .val (.ref b53), .val (.int (own_in a t52 b)), .unset] [])) (fun t₀ k₀ => XS.istore X70.here hx rfl (hb hby at_42) rfl (l' := #[.val (.long a), .second, .val (.long b), .second, .val (.long cc), .second, .val (.int sel), .val (.ref b41), .val (.long t52), .second, .val (.ref b53), .val (.int (own_in a t52 b)), .unset]) rfl k₀) ?_
  refine own_step (T70.setTop (mkF m 46 #[.val (.long a), .second, .val (.long b), .second, .val (.long cc), .second, .val (.int sel), .val (.ref b41), .val (.long t52), .second, .val (.ref b53), .val (.int (own_in a t52 b)), .unset] [(.ref b41)])) (fun t₀ k₀ => XS.aload X70.here hx rfl (hb hby at_44) rfl rfl k₀) ?_
  refine own_step (T70.setTop (mkF m 48 #[.val (.long a), .second, .val (.long b), .second, .val (.long cc), .second, .val (.int sel), .val (.ref b41), .val (.long t52), .second, .val (.ref b53), .val (.int (own_in a t52 b)), .unset] [(.ref b53), (.ref b41)])) (fun t₀ k₀ => XS.aload X70.here hx rfl (hb hby at_46) rfl rfl k₀) ?_
  obtain ⟨cq71, kq71, q71a, q71b, q71c⟩ := isOf hZ e70 f64
  obtain ⟨_, _, ⟨T71, L71, k71, n71⟩, -, X71, ⟨Lc71, hQ71, l71, y71, z71⟩, st71⟩ := X70.virtualBack hx (y := (⟨"com/example/quillon/quillon/storage/TimeRange", "intersect", "(Lcom/example/quillon/quillon/storage/TimeRange;)Lcom/example/quillon/quillon/storage/TimeRange;"⟩ : MethodName)) (z := (⟨"com/example/quillon/quillon/storage/TimeRange", "intersect", "(Lcom/example/quillon/quillon/storage/TimeRange;)Lcom/example/quillon/quillon/storage/TimeRange;"⟩ : MethodName)) hown (mvT hZ (hw _ (List.mem_of_getElem? (i := 27) rfl))) (mvT hZ (hw _ (List.mem_of_getElem? (i := 28) rfl))) (notFace_of_selects (args := #[]) (mvT hZ (hw _ (List.mem_of_getElem? (i := 30) rfl)))) (mvT hZ (hw _ (List.mem_of_getElem? (i := 30) rfl))) (mvT hZ (hw _ (List.mem_of_getElem? (i := 29) rfl))) (by decide) (backOf (W := 0) (rm6 l Z a0 hw [] b41 b53 a b t52 t52 T60.heap n0 z60' f65 f66 f62 f63) hZ (hw _ (List.mem_of_getElem? (i := 31) rfl)) (hw _ (List.mem_of_getElem? (i := 2) rfl)) (by decide) (by decide)) q71a q71c (g := (mkF m 48 #[.val (.long a), .second, .val (.long b), .second, .val (.long cc), .second, .val (.int sel), .val (.ref b41), .val (.long t52), .second, .val (.ref b53), .val (.int (own_in a t52 b)), .unset] [(.ref b53), (.ref b41)])) rfl (by rw [hml]; rfl) (Steps.refl _) (argsL := [(.ref b53)]) (rest := []) (lenOf pd_4 rfl) rfl (by show 2 * 0 + _ ≤ _; exact Nat.le_of_eq rfl) (hb hby at_48) (fun _ _ => ⟨rfl, e70, (by decide : 2 + 1 ≤ _), (by decide : 4 + 2 ≤ _)⟩)
  dsimp only [Pt.U, Pt.locs, Pt.cells, Pt.slots] at X71 l71 y71 z71 st71 hQ71
  subst l71 y71 z71
  obtain ⟨bb72, rfl, N71q, K71, f73, f74, f75, f76⟩ := hQ71
  have N71 := Fr.app N70 N71q
  have f77 : Exa Z T71.heap b41 "com/example/quillon/quillon/storage/TimeRange" := f64.keep K71
  have f78 : Fld Z T71.heap b41 "com/example/quillon/quillon/storage/TimeRange" "first" "J" (.long a) := f65.keep K71 nin0
  have f79 : Fld Z T71.heap b41 "com/example/quillon/quillon/storage/TimeRange" "last" "J" (.long b) := f66.keep K71 nin0
  have f80 : Exa Z T71.heap b53 "com/example/quillon/quillon/storage/TimeRange" := f61.keep K71
  have f81 : Fld Z T71.heap b53 "com/example/quillon/quillon/storage/TimeRange" "first" "J" (.long t52) := f62.keep K71 nin0
  have f82 : Fld Z T71.heap b53 "com/example/quillon/quillon/storage/TimeRange" "last" "J" (.long t52) := f63.keep K71 nin0
  have z71' : n0 ≤ T71.heap.size := Nat.le_trans z60' K71.1
  refine own_comes (T71.setTop (mkF m 51 #[.val (.long a), .second, .val (.long b), .second, .val (.long cc), .second, .val (.int sel), .val (.ref b41), .val (.long t52), .second, .val (.ref b53), .val (.int (own_in a t52 b)), .unset] [(.ref bb72)])) st71 ?_
  obtain ⟨cq83, kq83, q83a, q83b, q83c⟩ := isOf hZ rfl f74
  obtain ⟨_, _, ⟨T83, L83, k83, n83⟩, -, X83, ⟨Lc83, hQ83, l83, y83, z83⟩, st83⟩ := X71.virtualBack hx (y := (⟨"com/example/quillon/quillon/storage/TimeRange", "isEmpty", "()Z"⟩ : MethodName)) (z := (⟨"com/example/quillon/quillon/storage/TimeRange", "isEmpty", "()Z"⟩ : MethodName)) hown (mvT hZ (hw _ (List.mem_of_getElem? (i := 41) rfl))) (mvT hZ (hw _ (List.mem_of_getElem? (i := 42) rfl))) (notFace_of_selects (args := #[]) (mvT hZ (hw _ (List.mem_of_getElem? (i := 44) rfl)))) (mvT hZ (hw _ (List.mem_of_getElem? (i := 44) rfl))) (mvT hZ (hw _ (List.mem_of_getElem? (i := 43) rfl))) (by decide) (backOf (W := 0) (rm9 l Z a0 hw [] bb72 (own_max a t52) (own_min b t52) T71.heap n0 z71' f75 f76) hZ (hw _ (List.mem_of_getElem? (i := 45) rfl)) (hw _ (List.mem_of_getElem? (i := 2) rfl)) (by decide) (by decide)) q83a q83c (g := (mkF m 51 #[.val (.long a), .second, .val (.long b), .second, .val (.long cc), .second, .val (.int sel), .val (.ref b41), .val (.long t52), .second, .val (.ref b53), .val (.int (own_in a t52 b)), .unset] [(.ref bb72)])) rfl (by rw [hml]; rfl) (Steps.refl _) (argsL := []) (rest := []) (lenOf pd_6 rfl) rfl (by show 2 * 0 + _ ≤ _; exact Nat.le_of_eq rfl) (hb hby at_51) (fun _ _ => ⟨rfl, rfl, (by decide : 3 + 0 ≤ _), (by decide : 6 + 0 ≤ _)⟩)
  dsimp only [Pt.U, Pt.locs, Pt.cells, Pt.slots] at X83 l83 y83 z83 st83 hQ83
  subst l83 y83 z83
  obtain ⟨rfl, N83q, e83⟩ := hQ83
  have N83 := Fr.app N71 N83q
  refine own_comes (T83.setTop (mkF m 54 #[.val (.long a), .second, .val (.long b), .second, .val (.long cc), .second, .val (.int sel), .val (.ref b41), .val (.long t52), .second, .val (.ref b53), .val (.int (own_in a t52 b)), .unset] [(.int (own_emp (own_max a t52) (own_min b t52)))])) st83 ?_
  by_cases hc54 : (own_emp (own_max a t52) (own_min b t52)) = (0 : Int32)
  · skip
    refine own_step (T83.setTop (mkF m 57 #[.val (.long a), .second, .val (.long b), .second, .val (.long cc), .second, .val (.int sel), .val (.ref b41), .val (.long t52), .second, .val (.ref b53), .val (.int (own_in a t52 b)), .unset] [])) (fun t₀ k₀ => XS.ifNo X83.here hx rfl (hb hby at_54) rfl ((if0 _ _).trans (teq hc54).2) k₀) ?_
    refine own_step (T83.setTop (mkF m 58 #[.val (.long a), .second, .val (.long b), .second, .val (.long cc), .second, .val (.int sel), .val (.ref b41), .val (.long t52), .second, .val (.ref b53), .val (.int (own_in a t52 b)), .unset] [(.int (1 : Int32))])) (fun t₀ k₀ => XS.iconst X83.here hx rfl (hb hby at_57) k₀) ?_
    refine own_step (T83.setTop (mkF m 62 #[.val (.long a), .second, .val (.long b), .second, .val (.long cc), .second, .val (.int sel), .val (.ref b41), .val (.long t52), .second, .val (.ref b53), .val (.int (own_in a t52 b)), .unset] [(.int (1 : Int32))])) (fun t₀ k₀ => XS.goto X83.here hx rfl (pc0 := 58) (pc' := 62) rfl (hb hby at_58) (by decide) (by decide) k₀) ?_
    refine own_step (T83.setTop (mkF m 64 #[.val (.long a), .second, .val (.long b), .second, .val (.long cc), .second, .val (.int sel), .val (.ref b41), .val (.long t52), .second, .val (.ref b53), .val (.int (own_in a t52 b)), .val (.int (1 : Int32))] [])) (fun t₀ k₀ => XS.istore X83.here hx rfl (hb hby at_62) rfl (l' := #[.val (.long a), .second, .val (.long b), .second, .val (.long cc), .second, .val (.int sel), .val (.ref b41), .val (.long t52), .second, .val (.ref b53), .val (.int (own_in a t52 b)), .val (.int (1 : Int32))]) rfl k₀) ?_
    refine own_step (T83.setTop (mkF m 66 #[.val (.long a), .second, .val (.long b), .second, .val (.long cc), .second, .val (.int sel), .val (.ref b41), .val (.long t52), .second, .val (.ref b53), .val (.int (own_in a t52 b)), .val (.int (1 : Int32))] [(.int (own_in a t52 b))])) (fun t₀ k₀ => XS.iload X83.here hx rfl (hb hby at_64) rfl k₀) ?_
    refine own_step (T83.setTop (mkF m 68 #[.val (.long a), .second, .val (.long b), .second, .val (.long cc), .second, .val (.int sel), .val (.ref b41), .val (.long t52), .second, .val (.ref b53), .val (.int (own_in a t52 b)), .val (.int (1 : Int32))] [(.int (1 : Int32)), (.int (own_in a t52 b))])) (fun t₀ k₀ => XS.iload X83.here hx rfl (hb hby at_66) rfl k₀) ?_
    have hk84 : (own_in a t52 b) = (1 : Int32) := own_e0 hc54
    refine own_step (T83.setTop (mkF m 73 #[.val (.long a), .second, .val (.long b), .second, .val (.long cc), .second, .val (.int sel), .val (.ref b41), .val (.long t52), .second, .val (.ref b53), .val (.int (own_in a t52 b)), .val (.int (1 : Int32))] [])) (fun t₀ k₀ => XS.icmpYes X83.here hx rfl (pc0 := 68) (pc' := 73) rfl (hb hby at_68) rfl (teq hk84).1 (by decide) (by decide) k₀) ?_
    refine own_step (T83.setTop (mkF m 75 #[.val (.long a), .second, .val (.long b), .second, .val (.long cc), .second, .val (.int sel), .val (.ref b41), .val (.long t52), .second, .val (.ref b53), .val (.int (own_in a t52 b)), .val (.int (1 : Int32))] [(.ref b53)])) (fun t₀ k₀ => XS.aload X83.here hx rfl (hb hby at_73) rfl rfl k₀) ?_
    refine own_step (T83.setTop (mkF m 77 #[.val (.long a), .second, .val (.long b), .second, .val (.long cc), .second, .val (.int sel), .val (.ref b41), .val (.long t52), .second, .val (.ref b53), .val (.int (own_in a t52 b)), .val (.int (1 : Int32))] [(.long t52), (.ref b53)])) (fun t₀ k₀ => XS.lload X83.here hx rfl (hb hby at_75) rfl k₀) ?_
    obtain ⟨cq85, kq85, q85a, q85b, q85c⟩ := isOf hZ e83 f80
    obtain ⟨_, _, ⟨T85, L85, k85, n85⟩, -, X85, ⟨Lc85, hQ85, l85, y85, z85⟩, st85⟩ := X83.virtualBack hx (y := (⟨"com/example/quillon/quillon/storage/TimeRange", "contains", "(J)Z"⟩ : MethodName)) (z := (⟨"com/example/quillon/quillon/storage/TimeRange", "contains", "(J)Z"⟩ : MethodName)) hown (mvT hZ (hw _ (List.mem_of_getElem? (i := 22) rfl))) (mvT hZ (hw _ (List.mem_of_getElem? (i := 23) rfl))) (notFace_of_selects (args := #[]) (mvT hZ (hw _ (List.mem_of_getElem? (i := 25) rfl)))) (mvT hZ (hw _ (List.mem_of_getElem? (i := 25) rfl))) (mvT hZ (hw _ (List.mem_of_getElem? (i := 24) rfl))) (by decide) (backOf (W := 0) (rm5 l Z a0 hw [] b53 t52 t52 t52 T71.heap n0 z71' f81 f82) hZ (hw _ (List.mem_of_getElem? (i := 26) rfl)) (hw _ (List.mem_of_getElem? (i := 2) rfl)) (by decide) (by decide)) q85a q85c (g := (mkF m 77 #[.val (.long a), .second, .val (.long b), .second, .val (.long cc), .second, .val (.int sel), .val (.ref b41), .val (.long t52), .second, .val (.ref b53), .val (.int (own_in a t52 b)), .val (.int (1 : Int32))] [(.long t52), (.ref b53)])) rfl (by rw [hml]; rfl) (Steps.refl _) (argsL := [(.long t52)]) (rest := []) (lenOf pd_3 rfl) rfl (by show 2 * 0 + _ ≤ _; exact Nat.le_of_eq rfl) (hb hby at_77) (fun _ _ => ⟨rfl, e83, (by decide : 3 + 0 ≤ _), (by decide : 6 + 0 ≤ _)⟩)
    dsimp only [Pt.U, Pt.locs, Pt.cells, Pt.slots] at X85 l85 y85 z85 st85 hQ85
    subst l85 y85 z85
    obtain ⟨rfl, N85q, e85⟩ := hQ85
    have N85 := Fr.app N83 N85q
    refine own_comes (T85.setTop (mkF m 80 #[.val (.long a), .second, .val (.long b), .second, .val (.long cc), .second, .val (.int sel), .val (.ref b41), .val (.long t52), .second, .val (.ref b53), .val (.int (own_in a t52 b)), .val (.int (1 : Int32))] [(.int (own_in t52 t52 t52))])) st85 ?_
    have hk86 : ¬ ((own_in t52 t52 t52) = (0 : Int32)) := own_pt _
    refine own_step (T85.setTop (mkF m 85 #[.val (.long a), .second, .val (.long b), .second, .val (.long cc), .second, .val (.int sel), .val (.ref b41), .val (.long t52), .second, .val (.ref b53), .val (.int (own_in a t52 b)), .val (.int (1 : Int32))] [])) (fun t₀ k₀ => XS.ifYes X85.here hx rfl (pc0 := 80) (pc' := 85) rfl (hb hby at_80) rfl ((if0 _ _).trans (feq hk86).2) (by decide) (by decide) k₀) ?_
    refine own_step (T85.setTop (mkF m 86 #[.val (.long a), .second, .val (.long b), .second, .val (.long cc), .second, .val (.int sel), .val (.ref b41), .val (.long t52), .second, .val (.ref b53), .val (.int (own_in a t52 b)), .val (.int (1 : Int32))] [(.long a)])) (fun t₀ k₀ => XS.lloadN X85.here hx rfl (hb hby at_85) rfl k₀) ?_
    refine own_step (T85.setTop (mkF m 87 #[.val (.long a), .second, .val (.long b), .second, .val (.long cc), .second, .val (.int sel), .val (.ref b41), .val (.long t52), .second, .val (.ref b53), .val (.int (own_in a t52 b)), .val (.int (1 : Int32))] [(.long b), (.long a)])) (fun t₀ k₀ => XS.lloadN X85.here hx rfl (hb hby at_86) rfl k₀) ?_
    refine own_step (T85.setTop (mkF m 88 #[.val (.long a), .second, .val (.long b), .second, .val (.long cc), .second, .val (.int sel), .val (.ref b41), .val (.long t52), .second, .val (.ref b53), .val (.int (own_in a t52 b)), .val (.int (1 : Int32))] [(.int (lcmpW a b))])) (fun t₀ k₀ => XS.lcmp X85.here hx rfl (hb hby at_87) rfl k₀) ?_
    by_cases hc88 : b < a
    · skip
      refine own_step (T85.setTop (mkF m 113 #[.val (.long a), .second, .val (.long b), .second, .val (.long cc), .second, .val (.int sel), .val (.ref b41), .val (.long t52), .second, .val (.ref b53), .val (.int (own_in a t52 b)), .val (.int (1 : Int32))] [])) (fun t₀ k₀ => XS.ifYes X85.here hx rfl (pc0 := 88) (pc' := 113) rfl (hb hby at_88) rfl (own_lgtT hc88) (by decide) (by decide) k₀) ?_
      refine own_step (T85.setTop (mkF m 114 #[.val (.long a), .second, .val (.long b), .second, .val (.long cc), .second, .val (.int sel), .val (.ref b41), .val (.long t52), .second, .val (.ref b53), .val (.int (own_in a t52 b)), .val (.int (1 : Int32))] [(.int (1 : Int32))])) (fun t₀ k₀ => XS.iconst X85.here hx rfl (hb hby at_113) k₀) ?_
      obtain ⟨fs, hr, hrun, hended, hW, hsame⟩ := X85.leave (v := some (.int (1 : Int32))) (fun h => by rw [Bd.returns] at h; cases h)
      refine ⟨_, _, ?_, hrun, hended, _, _, rfl, ?_, ⟨_, rfl⟩, hW, hsame.mono (by decide) (by decide)⟩
      · exact retN X85 hx (t := .boolean) Bd.returns (by simp) (hb hby at_114) hr
      · show Q_rm0 Z a b cc sel h0 n0 _ T85.heap _
        rw [e85]
        exact ⟨rfl, N85⟩
    · skip
      refine own_step (T85.setTop (mkF m 91 #[.val (.long a), .second, .val (.long b), .second, .val (.long cc), .second, .val (.int sel), .val (.ref b41), .val (.long t52), .second, .val (.ref b53), .val (.int (own_in a t52 b)), .val (.int (1 : Int32))] [])) (fun t₀ k₀ => XS.ifNo X85.here hx rfl (hb hby at_88) rfl (own_lgtF hc88) k₀) ?_
      refine own_step (T85.setTop (mkF m 93 #[.val (.long a), .second, .val (.long b), .second, .val (.long cc), .second, .val (.int sel), .val (.ref b41), .val (.long t52), .second, .val (.ref b53), .val (.int (own_in a t52 b)), .val (.int (1 : Int32))] [(.ref b41)])) (fun t₀ k₀ => XS.aload X85.here hx rfl (hb hby at_91) rfl rfl k₀) ?_
      refine own_step (T85.setTop (mkF m 94 #[.val (.long a), .second, .val (.long b), .second, .val (.long cc), .second, .val (.int sel), .val (.ref b41), .val (.long t52), .second, .val (.ref b53), .val (.int (own_in a t52 b)), .val (.int (1 : Int32))] [(.long a), (.ref b41)])) (fun t₀ k₀ => XS.lloadN X85.here hx rfl (hb hby at_93) rfl k₀) ?_
      obtain ⟨cq87, kq87, q87a, q87b, q87c⟩ := isOf hZ e85 f77
      obtain ⟨_, _, ⟨T87, L87, k87, n87⟩, -, X87, ⟨Lc87, hQ87, l87, y87, z87⟩, st87⟩ := X85.virtualBack hx (y := (⟨"com/example/quillon/quillon/storage/TimeRange", "contains", "(J)Z"⟩ : MethodName)) (z := (⟨"com/example/quillon/quillon/storage/TimeRange", "contains", "(J)Z"⟩ : MethodName)) hown (mvT hZ (hw _ (List.mem_of_getElem? (i := 22) rfl))) (mvT hZ (hw _ (List.mem_of_getElem? (i := 23) rfl))) (notFace_of_selects (args := #[]) (mvT hZ (hw _ (List.mem_of_getElem? (i := 25) rfl)))) (mvT hZ (hw _ (List.mem_of_getElem? (i := 25) rfl))) (mvT hZ (hw _ (List.mem_of_getElem? (i := 24) rfl))) (by decide) (backOf (W := 0) (rm5 l Z a0 hw [] b41 a a b T71.heap n0 z71' f78 f79) hZ (hw _ (List.mem_of_getElem? (i := 26) rfl)) (hw _ (List.mem_of_getElem? (i := 2) rfl)) (by decide) (by decide)) q87a q87c (g := (mkF m 94 #[.val (.long a), .second, .val (.long b), .second, .val (.long cc), .second, .val (.int sel), .val (.ref b41), .val (.long t52), .second, .val (.ref b53), .val (.int (own_in a t52 b)), .val (.int (1 : Int32))] [(.long a), (.ref b41)])) rfl (by rw [hml]; rfl) (Steps.refl _) (argsL := [(.long a)]) (rest := []) (lenOf pd_3 rfl) rfl (by show 2 * 0 + _ ≤ _; exact Nat.le_of_eq rfl) (hb hby at_94) (fun _ _ => ⟨rfl, e85, (by decide : 3 + 0 ≤ _), (by decide : 6 + 0 ≤ _)⟩)
      dsimp only [Pt.U, Pt.locs, Pt.cells, Pt.slots] at X87 l87 y87 z87 st87 hQ87
      subst l87 y87 z87
      obtain ⟨rfl, N87q, e87⟩ := hQ87
      have N87 := Fr.app N85 N87q
      refine own_comes (T87.setTop (mkF m 97 #[.val (.long a), .second, .val (.long b), .second, .val (.long cc), .second, .val (.int sel), .val (.ref b41), .val (.long t52), .second, .val (.ref b53), .val (.int (own_in a t52 b)), .val (.int (1 : Int32))] [(.int (own_in a a b))])) st87 ?_
      have hk88 : ¬ ((own_in a a b) = (0 : Int32)) := own_lo hc88
      refine own_step (T87.setTop (mkF m 102 #[.val (.long a), .second, .val (.long b), .second, .val (.long cc), .second, .val (.int sel), .val (.ref b41), .val (.long t52), .second, .val (.ref b53), .val (.int (own_in a t52 b)), .val (.int (1 : Int32))] [])) (fun t₀ k₀ => XS.ifYes X87.here hx rfl (pc0 := 97) (pc' := 102) rfl (hb hby at_97) rfl ((if0 _ _).trans (feq hk88).2) (by decide) (by decide) k₀) ?_
      refine own_step (T87.setTop (mkF m 104 #[.val (.long a), .second, .val (.long b), .second, .val (.long cc), .second, .val (.int sel), .val (.ref b41), .val (.long t52), .second, .val (.ref b53), .val (.int (own_in a t52 b)), .val (.int (1 : Int32))] [(.ref b41)])) (fun t₀ k₀ => XS.aload X87.here hx rfl (hb hby at_102) rfl rfl k₀) ?_
      refine own_step (T87.setTop (mkF m 105 #[.val (.long a), .second, .val (.long b), .second, .val (.long cc), .second, .val (.int sel), .val (.ref b41), .val (.long t52), .second, .val (.ref b53), .val (.int (own_in a t52 b)), .val (.int (1 : Int32))] [(.long b), (.ref b41)])) (fun t₀ k₀ => XS.lloadN X87.here hx rfl (hb hby at_104) rfl k₀) ?_
      obtain ⟨cq89, kq89, q89a, q89b, q89c⟩ := isOf hZ e87 f77
      obtain ⟨_, _, ⟨T89, L89, k89, n89⟩, -, X89, ⟨Lc89, hQ89, l89, y89, z89⟩, st89⟩ := X87.virtualBack hx (y := (⟨"com/example/quillon/quillon/storage/TimeRange", "contains", "(J)Z"⟩ : MethodName)) (z := (⟨"com/example/quillon/quillon/storage/TimeRange", "contains", "(J)Z"⟩ : MethodName)) hown (mvT hZ (hw _ (List.mem_of_getElem? (i := 22) rfl))) (mvT hZ (hw _ (List.mem_of_getElem? (i := 23) rfl))) (notFace_of_selects (args := #[]) (mvT hZ (hw _ (List.mem_of_getElem? (i := 25) rfl)))) (mvT hZ (hw _ (List.mem_of_getElem? (i := 25) rfl))) (mvT hZ (hw _ (List.mem_of_getElem? (i := 24) rfl))) (by decide) (backOf (W := 0) (rm5 l Z a0 hw [] b41 b a b T71.heap n0 z71' f78 f79) hZ (hw _ (List.mem_of_getElem? (i := 26) rfl)) (hw _ (List.mem_of_getElem? (i := 2) rfl)) (by decide) (by decide)) q89a q89c (g := (mkF m 105 #[.val (.long a), .second, .val (.long b), .second, .val (.long cc), .second, .val (.int sel), .val (.ref b41), .val (.long t52), .second, .val (.ref b53), .val (.int (own_in a t52 b)), .val (.int (1 : Int32))] [(.long b), (.ref b41)])) rfl (by rw [hml]; rfl) (Steps.refl _) (argsL := [(.long b)]) (rest := []) (lenOf pd_3 rfl) rfl (by show 2 * 0 + _ ≤ _; exact Nat.le_of_eq rfl) (hb hby at_105) (fun _ _ => ⟨rfl, e87, (by decide : 3 + 0 ≤ _), (by decide : 6 + 0 ≤ _)⟩)
      dsimp only [Pt.U, Pt.locs, Pt.cells, Pt.slots] at X89 l89 y89 z89 st89 hQ89
      subst l89 y89 z89
      obtain ⟨rfl, N89q, e89⟩ := hQ89
      have N89 := Fr.app N87 N89q
      refine own_comes (T89.setTop (mkF m 108 #[.val (.long a), .second, .val (.long b), .second, .val (.long cc), .second, .val (.int sel), .val (.ref b41), .val (.long t52), .second, .val (.ref b53), .val (.int (own_in a t52 b)), .val (.int (1 : Int32))] [(.int (own_in a b b))])) st89 ?_
      have hk90 : ¬ ((own_in a b b) = (0 : Int32)) := own_hi hc88
      refine own_step (T89.setTop (mkF m 113 #[.val (.long a), .second, .val (.long b), .second, .val (.long cc), .second, .val (.int sel), .val (.ref b41), .val (.long t52), .second, .val (.ref b53), .val (.int (own_in a t52 b)), .val (.int (1 : Int32))] [])) (fun t₀ k₀ => XS.ifYes X89.here hx rfl (pc0 := 108) (pc' := 113) rfl (hb hby at_108) rfl ((if0 _ _).trans (feq hk90).2) (by decide) (by decide) k₀) ?_
      refine own_step (T89.setTop (mkF m 114 #[.val (.long a), .second, .val (.long b), .second, .val (.long cc), .second, .val (.int sel), .val (.ref b41), .val (.long t52), .second, .val (.ref b53), .val (.int (own_in a t52 b)), .val (.int (1 : Int32))] [(.int (1 : Int32))])) (fun t₀ k₀ => XS.iconst X89.here hx rfl (hb hby at_113) k₀) ?_
      obtain ⟨fs, hr, hrun, hended, hW, hsame⟩ := X89.leave (v := some (.int (1 : Int32))) (fun h => by rw [Bd.returns] at h; cases h)
      refine ⟨_, _, ?_, hrun, hended, _, _, rfl, ?_, ⟨_, rfl⟩, hW, hsame.mono (by decide) (by decide)⟩
      · exact retN X89 hx (t := .boolean) Bd.returns (by simp) (hb hby at_114) hr
      · show Q_rm0 Z a b cc sel h0 n0 _ T89.heap _
        rw [e89]
        exact ⟨rfl, N89⟩
  · skip
    refine own_step (T83.setTop (mkF m 61 #[.val (.long a), .second, .val (.long b), .second, .val (.long cc), .second, .val (.int sel), .val (.ref b41), .val (.long t52), .second, .val (.ref b53), .val (.int (own_in a t52 b)), .unset] [])) (fun t₀ k₀ => XS.ifYes X83.here hx rfl (pc0 := 54) (pc' := 61) rfl (hb hby at_54) rfl ((if0 _ _).trans (feq hc54).2) (by decide) (by decide) k₀) ?_
    refine own_step (T83.setTop (mkF m 62 #[.val (.long a), .second, .val (.long b), .second, .val (.long cc), .second, .val (.int sel), .val (.ref b41), .val (.long t52), .second, .val (.ref b53), .val (.int (own_in a t52 b)), .unset] [(.int (0 : Int32))])) (fun t₀ k₀ => XS.iconst X83.here hx rfl (hb hby at_61) k₀) ?_
    refine own_step (T83.setTop (mkF m 64 #[.val (.long a), .second, .val (.long b), .second, .val (.long cc), .second, .val (.int sel), .val (.ref b41), .val (.long t52), .second, .val (.ref b53), .val (.int (own_in a t52 b)), .val (.int (0 : Int32))] [])) (fun t₀ k₀ => XS.istore X83.here hx rfl (hb hby at_62) rfl (l' := #[.val (.long a), .second, .val (.long b), .second, .val (.long cc), .second, .val (.int sel), .val (.ref b41), .val (.long t52), .second, .val (.ref b53), .val (.int (own_in a t52 b)), .val (.int (0 : Int32))]) rfl k₀) ?_
    refine own_step (T83.setTop (mkF m 66 #[.val (.long a), .second, .val (.long b), .second, .val (.long cc), .second, .val (.int sel), .val (.ref b41), .val (.long t52), .second, .val (.ref b53), .val (.int (own_in a t52 b)), .val (.int (0 : Int32))] [(.int (own_in a t52 b))])) (fun t₀ k₀ => XS.iload X83.here hx rfl (hb hby at_64) rfl k₀) ?_
    refine own_step (T83.setTop (mkF m 68 #[.val (.long a), .second, .val (.long b), .second, .val (.long cc), .second, .val (.int sel), .val (.ref b41), .val (.long t52), .second, .val (.ref b53), .val (.int (own_in a t52 b)), .val (.int (0 : Int32))] [(.int (0 : Int32)), (.int (own_in a t52 b))])) (fun t₀ k₀ => XS.iload X83.here hx rfl (hb hby at_66) rfl k₀) ?_
    have hk91 : (own_in a t52 b) = (0 : Int32) := own_e1 hc54
    refine own_step (T83.setTop (mkF m 73 #[.val (.long a), .second, .val (.long b), .second, .val (.long cc), .second, .val (.int sel), .val (.ref b41), .val (.long t52), .second, .val (.ref b53), .val (.int (own_in a t52 b)), .val (.int (0 : Int32))] [])) (fun t₀ k₀ => XS.icmpYes X83.here hx rfl (pc0 := 68) (pc' := 73) rfl (hb hby at_68) rfl (teq hk91).1 (by decide) (by decide) k₀) ?_
    refine own_step (T83.setTop (mkF m 75 #[.val (.long a), .second, .val (.long b), .second, .val (.long cc), .second, .val (.int sel), .val (.ref b41), .val (.long t52), .second, .val (.ref b53), .val (.int (own_in a t52 b)), .val (.int (0 : Int32))] [(.ref b53)])) (fun t₀ k₀ => XS.aload X83.here hx rfl (hb hby at_73) rfl rfl k₀) ?_
    refine own_step (T83.setTop (mkF m 77 #[.val (.long a), .second, .val (.long b), .second, .val (.long cc), .second, .val (.int sel), .val (.ref b41), .val (.long t52), .second, .val (.ref b53), .val (.int (own_in a t52 b)), .val (.int (0 : Int32))] [(.long t52), (.ref b53)])) (fun t₀ k₀ => XS.lload X83.here hx rfl (hb hby at_75) rfl k₀) ?_
    obtain ⟨cq92, kq92, q92a, q92b, q92c⟩ := isOf hZ e83 f80
    obtain ⟨_, _, ⟨T92, L92, k92, n92⟩, -, X92, ⟨Lc92, hQ92, l92, y92, z92⟩, st92⟩ := X83.virtualBack hx (y := (⟨"com/example/quillon/quillon/storage/TimeRange", "contains", "(J)Z"⟩ : MethodName)) (z := (⟨"com/example/quillon/quillon/storage/TimeRange", "contains", "(J)Z"⟩ : MethodName)) hown (mvT hZ (hw _ (List.mem_of_getElem? (i := 22) rfl))) (mvT hZ (hw _ (List.mem_of_getElem? (i := 23) rfl))) (notFace_of_selects (args := #[]) (mvT hZ (hw _ (List.mem_of_getElem? (i := 25) rfl)))) (mvT hZ (hw _ (List.mem_of_getElem? (i := 25) rfl))) (mvT hZ (hw _ (List.mem_of_getElem? (i := 24) rfl))) (by decide) (backOf (W := 0) (rm5 l Z a0 hw [] b53 t52 t52 t52 T71.heap n0 z71' f81 f82) hZ (hw _ (List.mem_of_getElem? (i := 26) rfl)) (hw _ (List.mem_of_getElem? (i := 2) rfl)) (by decide) (by decide)) q92a q92c (g := (mkF m 77 #[.val (.long a), .second, .val (.long b), .second, .val (.long cc), .second, .val (.int sel), .val (.ref b41), .val (.long t52), .second, .val (.ref b53), .val (.int (own_in a t52 b)), .val (.int (0 : Int32))] [(.long t52), (.ref b53)])) rfl (by rw [hml]; rfl) (Steps.refl _) (argsL := [(.long t52)]) (rest := []) (lenOf pd_3 rfl) rfl (by show 2 * 0 + _ ≤ _; exact Nat.le_of_eq rfl) (hb hby at_77) (fun _ _ => ⟨rfl, e83, (by decide : 3 + 0 ≤ _), (by decide : 6 + 0 ≤ _)⟩)
    dsimp only [Pt.U, Pt.locs, Pt.cells, Pt.slots] at X92 l92 y92 z92 st92 hQ92
    subst l92 y92 z92
    obtain ⟨rfl, N92q, e92⟩ := hQ92
    have N92 := Fr.app N83 N92q
    refine own_comes (T92.setTop (mkF m 80 #[.val (.long a), .second, .val (.long b), .second, .val (.long cc), .second, .val (.int sel), .val (.ref b41), .val (.long t52), .second, .val (.ref b53), .val (.int (own_in a t52 b)), .val (.int (0 : Int32))] [(.int (own_in t52 t52 t52))])) st92 ?_
    have hk93 : ¬ ((own_in t52 t52 t52) = (0 : Int32)) := own_pt _
    refine own_step (T92.setTop (mkF m 85 #[.val (.long a), .second, .val (.long b), .second, .val (.long cc), .second, .val (.int sel), .val (.ref b41), .val (.long t52), .second, .val (.ref b53), .val (.int (own_in a t52 b)), .val (.int (0 : Int32))] [])) (fun t₀ k₀ => XS.ifYes X92.here hx rfl (pc0 := 80) (pc' := 85) rfl (hb hby at_80) rfl ((if0 _ _).trans (feq hk93).2) (by decide) (by decide) k₀) ?_
    refine own_step (T92.setTop (mkF m 86 #[.val (.long a), .second, .val (.long b), .second, .val (.long cc), .second, .val (.int sel), .val (.ref b41), .val (.long t52), .second, .val (.ref b53), .val (.int (own_in a t52 b)), .val (.int (0 : Int32))] [(.long a)])) (fun t₀ k₀ => XS.lloadN X92.here hx rfl (hb hby at_85) rfl k₀) ?_
    refine own_step (T92.setTop (mkF m 87 #[.val (.long a), .second, .val (.long b), .second, .val (.long cc), .second, .val (.int sel), .val (.ref b41), .val (.long t52), .second, .val (.ref b53), .val (.int (own_in a t52 b)), .val (.int (0 : Int32))] [(.long b), (.long a)])) (fun t₀ k₀ => XS.lloadN X92.here hx rfl (hb hby at_86) rfl k₀) ?_
    refine own_step (T92.setTop (mkF m 88 #[.val (.long a), .second, .val (.long b), .second, .val (.long cc), .second, .val (.int sel), .val (.ref b41), .val (.long t52), .second, .val (.ref b53), .val (.int (own_in a t52 b)), .val (.int (0 : Int32))] [(.int (lcmpW a b))])) (fun t₀ k₀ => XS.lcmp X92.here hx rfl (hb hby at_87) rfl k₀) ?_
    by_cases hc88 : b < a
    · skip
      refine own_step (T92.setTop (mkF m 113 #[.val (.long a), .second, .val (.long b), .second, .val (.long cc), .second, .val (.int sel), .val (.ref b41), .val (.long t52), .second, .val (.ref b53), .val (.int (own_in a t52 b)), .val (.int (0 : Int32))] [])) (fun t₀ k₀ => XS.ifYes X92.here hx rfl (pc0 := 88) (pc' := 113) rfl (hb hby at_88) rfl (own_lgtT hc88) (by decide) (by decide) k₀) ?_
      refine own_step (T92.setTop (mkF m 114 #[.val (.long a), .second, .val (.long b), .second, .val (.long cc), .second, .val (.int sel), .val (.ref b41), .val (.long t52), .second, .val (.ref b53), .val (.int (own_in a t52 b)), .val (.int (0 : Int32))] [(.int (1 : Int32))])) (fun t₀ k₀ => XS.iconst X92.here hx rfl (hb hby at_113) k₀) ?_
      obtain ⟨fs, hr, hrun, hended, hW, hsame⟩ := X92.leave (v := some (.int (1 : Int32))) (fun h => by rw [Bd.returns] at h; cases h)
      refine ⟨_, _, ?_, hrun, hended, _, _, rfl, ?_, ⟨_, rfl⟩, hW, hsame.mono (by decide) (by decide)⟩
      · exact retN X92 hx (t := .boolean) Bd.returns (by simp) (hb hby at_114) hr
      · show Q_rm0 Z a b cc sel h0 n0 _ T92.heap _
        rw [e92]
        exact ⟨rfl, N92⟩
    · skip
      refine own_step (T92.setTop (mkF m 91 #[.val (.long a), .second, .val (.long b), .second, .val (.long cc), .second, .val (.int sel), .val (.ref b41), .val (.long t52), .second, .val (.ref b53), .val (.int (own_in a t52 b)), .val (.int (0 : Int32))] [])) (fun t₀ k₀ => XS.ifNo X92.here hx rfl (hb hby at_88) rfl (own_lgtF hc88) k₀) ?_
      refine own_step (T92.setTop (mkF m 93 #[.val (.long a), .second, .val (.long b), .second, .val (.long cc), .second, .val (.int sel), .val (.ref b41), .val (.long t52), .second, .val (.ref b53), .val (.int (own_in a t52 b)), .val (.int (0 : Int32))] [(.ref b41)])) (fun t₀ k₀ => XS.aload X92.here hx rfl (hb hby at_91) rfl rfl k₀) ?_
      refine own_step (T92.setTop (mkF m 94 #[.val (.long a), .second, .val (.long b), .second, .val (.long cc), .second, .val (.int sel), .val (.ref b41), .val (.long t52), .second, .val (.ref b53), .val (.int (own_in a t52 b)), .val (.int (0 : Int32))] [(.long a), (.ref b41)])) (fun t₀ k₀ => XS.lloadN X92.here hx rfl (hb hby at_93) rfl k₀) ?_
      obtain ⟨cq94, kq94, q94a, q94b, q94c⟩ := isOf hZ e92 f77
      obtain ⟨_, _, ⟨T94, L94, k94, n94⟩, -, X94, ⟨Lc94, hQ94, l94, y94, z94⟩, st94⟩ := X92.virtualBack hx (y := (⟨"com/example/quillon/quillon/storage/TimeRange", "contains", "(J)Z"⟩ : MethodName)) (z := (⟨"com/example/quillon/quillon/storage/TimeRange", "contains", "(J)Z"⟩ : MethodName)) hown (mvT hZ (hw _ (List.mem_of_getElem? (i := 22) rfl))) (mvT hZ (hw _ (List.mem_of_getElem? (i := 23) rfl))) (notFace_of_selects (args := #[]) (mvT hZ (hw _ (List.mem_of_getElem? (i := 25) rfl)))) (mvT hZ (hw _ (List.mem_of_getElem? (i := 25) rfl))) (mvT hZ (hw _ (List.mem_of_getElem? (i := 24) rfl))) (by decide) (backOf (W := 0) (rm5 l Z a0 hw [] b41 a a b T71.heap n0 z71' f78 f79) hZ (hw _ (List.mem_of_getElem? (i := 26) rfl)) (hw _ (List.mem_of_getElem? (i := 2) rfl)) (by decide) (by decide)) q94a q94c (g := (mkF m 94 #[.val (.long a), .second, .val (.long b), .second, .val (.long cc), .second, .val (.int sel), .val (.ref b41), .val (.long t52), .second, .val (.ref b53), .val (.int (own_in a t52 b)), .val (.int (0 : Int32))] [(.long a), (.ref b41)])) rfl (by rw [hml]; rfl) (Steps.refl _) (argsL := [(.long a)]) (rest := []) (lenOf pd_3 rfl) rfl (by show 2 * 0 + _ ≤ _; exact Nat.le_of_eq rfl) (hb hby at_94) (fun _ _ => ⟨rfl, e92, (by decide : 3 + 0 ≤ _), (by decide : 6 + 0 ≤ _)⟩)
      dsimp only [Pt.U, Pt.locs, Pt.cells, Pt.slots] at X94 l94 y94 z94 st94 hQ94
      subst l94 y94 z94
      obtain ⟨rfl, N94q, e94⟩ := hQ94
      have N94 := Fr.app N92 N94q
      refine own_comes (T94.setTop (mkF m 97 #[.val (.long a), .second, .val (.long b), .second, .val (.long cc), .second, .val (.int sel), .val (.ref b41), .val (.long t52), .second, .val (.ref b53), .val (.int (own_in a t52 b)), .val (.int (0 : Int32))] [(.int (own_in a a b))])) st94 ?_
      have hk95 : ¬ ((own_in a a b) = (0 : Int32)) := own_lo hc88
      refine own_step (T94.setTop (mkF m 102 #[.val (.long a), .second, .val (.long b), .second, .val (.long cc), .second, .val (.int sel), .val (.ref b41), .val (.long t52), .second, .val (.ref b53), .val (.int (own_in a t52 b)), .val (.int (0 : Int32))] [])) (fun t₀ k₀ => XS.ifYes X94.here hx rfl (pc0 := 97) (pc' := 102) rfl (hb hby at_97) rfl ((if0 _ _).trans (feq hk95).2) (by decide) (by decide) k₀) ?_
      refine own_step (T94.setTop (mkF m 104 #[.val (.long a), .second, .val (.long b), .second, .val (.long cc), .second, .val (.int sel), .val (.ref b41), .val (.long t52), .second, .val (.ref b53), .val (.int (own_in a t52 b)), .val (.int (0 : Int32))] [(.ref b41)])) (fun t₀ k₀ => XS.aload X94.here hx rfl (hb hby at_102) rfl rfl k₀) ?_
      refine own_step (T94.setTop (mkF m 105 #[.val (.long a), .second, .val (.long b), .second, .val (.long cc), .second, .val (.int sel), .val (.ref b41), .val (.long t52), .second, .val (.ref b53), .val (.int (own_in a t52 b)), .val (.int (0 : Int32))] [(.long b), (.ref b41)])) (fun t₀ k₀ => XS.lloadN X94.here hx rfl (hb hby at_104) rfl k₀) ?_
      obtain ⟨cq96, kq96, q96a, q96b, q96c⟩ := isOf hZ e94 f77
      obtain ⟨_, _, ⟨T96, L96, k96, n96⟩, -, X96, ⟨Lc96, hQ96, l96, y96, z96⟩, st96⟩ := X94.virtualBack hx (y := (⟨"com/example/quillon/quillon/storage/TimeRange", "contains", "(J)Z"⟩ : MethodName)) (z := (⟨"com/example/quillon/quillon/storage/TimeRange", "contains", "(J)Z"⟩ : MethodName)) hown (mvT hZ (hw _ (List.mem_of_getElem? (i := 22) rfl))) (mvT hZ (hw _ (List.mem_of_getElem? (i := 23) rfl))) (notFace_of_selects (args := #[]) (mvT hZ (hw _ (List.mem_of_getElem? (i := 25) rfl)))) (mvT hZ (hw _ (List.mem_of_getElem? (i := 25) rfl))) (mvT hZ (hw _ (List.mem_of_getElem? (i := 24) rfl))) (by decide) (backOf (W := 0) (rm5 l Z a0 hw [] b41 b a b T71.heap n0 z71' f78 f79) hZ (hw _ (List.mem_of_getElem? (i := 26) rfl)) (hw _ (List.mem_of_getElem? (i := 2) rfl)) (by decide) (by decide)) q96a q96c (g := (mkF m 105 #[.val (.long a), .second, .val (.long b), .second, .val (.long cc), .second, .val (.int sel), .val (.ref b41), .val (.long t52), .second, .val (.ref b53), .val (.int (own_in a t52 b)), .val (.int (0 : Int32))] [(.long b), (.ref b41)])) rfl (by rw [hml]; rfl) (Steps.refl _) (argsL := [(.long b)]) (rest := []) (lenOf pd_3 rfl) rfl (by show 2 * 0 + _ ≤ _; exact Nat.le_of_eq rfl) (hb hby at_105) (fun _ _ => ⟨rfl, e94, (by decide : 3 + 0 ≤ _), (by decide : 6 + 0 ≤ _)⟩)
      dsimp only [Pt.U, Pt.locs, Pt.cells, Pt.slots] at X96 l96 y96 z96 st96 hQ96
      subst l96 y96 z96
      obtain ⟨rfl, N96q, e96⟩ := hQ96
      have N96 := Fr.app N94 N96q
      refine own_comes (T96.setTop (mkF m 108 #[.val (.long a), .second, .val (.long b), .second, .val (.long cc), .second, .val (.int sel), .val (.ref b41), .val (.long t52), .second, .val (.ref b53), .val (.int (own_in a t52 b)), .val (.int (0 : Int32))] [(.int (own_in a b b))])) st96 ?_
      have hk97 : ¬ ((own_in a b b) = (0 : Int32)) := own_hi hc88
      refine own_step (T96.setTop (mkF m 113 #[.val (.long a), .second, .val (.long b), .second, .val (.long cc), .second, .val (.int sel), .val (.ref b41), .val (.long t52), .second, .val (.ref b53), .val (.int (own_in a t52 b)), .val (.int (0 : Int32))] [])) (fun t₀ k₀ => XS.ifYes X96.here hx rfl (pc0 := 108) (pc' := 113) rfl (hb hby at_108) rfl ((if0 _ _).trans (feq hk97).2) (by decide) (by decide) k₀) ?_
      refine own_step (T96.setTop (mkF m 114 #[.val (.long a), .second, .val (.long b), .second, .val (.long cc), .second, .val (.int sel), .val (.ref b41), .val (.long t52), .second, .val (.ref b53), .val (.int (own_in a t52 b)), .val (.int (0 : Int32))] [(.int (1 : Int32))])) (fun t₀ k₀ => XS.iconst X96.here hx rfl (hb hby at_113) k₀) ?_
      obtain ⟨fs, hr, hrun, hended, hW, hsame⟩ := X96.leave (v := some (.int (1 : Int32))) (fun h => by rw [Bd.returns] at h; cases h)
      refine ⟨_, _, ?_, hrun, hended, _, _, rfl, ?_, ⟨_, rfl⟩, hW, hsame.mono (by decide) (by decide)⟩
      · exact retN X96 hx (t := .boolean) Bd.returns (by simp) (hb hby at_114) hr
      · show Q_rm0 Z a b cc sel h0 n0 _ T96.heap _
        rw [e96]
        exact ⟨rfl, N96⟩
set_option maxRecDepth 65536 in
set_option maxHeartbeats 40000000 in
theorem comes_1 {Post : Tables → Env → Array Value → State → Outcome → State → Prop} (hpost : ∀ tb e args s v u, (limb_1_1.after args s (.returned v) u = true ∧ limb_1_2.after args s (.returned v) u = true ∧ True) → FrameEnd s (.returned v) u (Jvm.fieldLocs frame_1_writes args s ++ Jvm.arrayLocs frame_1_arrays args s ++ Jvm.staticLocs frame_1_statics s) 16 128 → Post tb e args s (.returned v) u) :
    ArmFor flags0 classFile x code maxLocals ret World_1 tables_1 room_1 Calls_1 rest_1 Pre_1 Post := by
  intro l hfl _ _ p e ha hc hk s m args below hf hA hF happ hP
  obtain ⟨hcalls, hrest, hpre⟩ := hP
  obtain ⟨-, -, -, hnamed, -, -, -, hat⟩ := (Spec.applies_iff hf).mp happ
  obtain ⟨hg, hn⟩ := and_e (Cond.before_iff.mp (show (Jvm.Cond.and given_1 narrow_1).before args s = true from hpre))
  obtain ⟨hcount, hg0⟩ := and_e hg
  obtain ⟨ga0, hg1⟩ := and_e hg0
  obtain ⟨ga1, hg2⟩ := and_e hg1
  obtain ⟨ga2, hg3⟩ := and_e hg2
  have ga3 := hg3
  obtain ⟨w0, w1, w2, w3, rfl⟩ : ∃ w0 w1 w2 w3 : Value, args = #[w0, w1, w2, w3] := by
    have hs : args.size = 4 := by simpa [Cond.value, given_1] using hcount
    obtain ⟨L⟩ := args
    match L, hs with
    | [w0, w1, w2, w3], _ => exact ⟨w0, w1, w2, w3, rfl⟩
  have hw := fun d (hd : d ∈ tables_1) => atoms_spec (ws := Jvm.Cond.code x code maxLocals ret :: tables_1) hat d (List.mem_cons_of_mem _ hd)
  have hfit : Fit s := fun {y c} hc i hi => by
    obtain ⟨ha, rfl⟩ := Array.getElem?_eq_some_iff.mp hc
    have q := List.all_eq_true.mp ((Array.all_eq_true_iff_forall_mem.mp hF) _ (Array.getElem_mem ha)) i (List.mem_range.mpr hi)
    simpa [Array.getElem?_eq_getElem hi] using q
  obtain ⟨i0, ei0⟩ := isL_v ga0
  obtain rfl : w0 = (.long i0) := Option.some.inj ei0
  obtain ⟨i1, ei1⟩ := isL_v ga1
  obtain rfl : w1 = (.long i1) := Option.some.inj ei1
  obtain ⟨i2, ei2⟩ := isL_v ga2
  obtain rfl : w2 = (.long i2) := Option.some.inj ei2
  obtain ⟨i3, ei3⟩ := is_v ga3
  obtain rfl : w3 = (.int i3) := Option.some.inj ei3
  obtain ⟨n, o, h1, h2, h3, _, L, rfl, ⟨rfl, N⟩, hq⟩ := rm0 l s _ hw tables_1 i0 i1 i2 i3 s.heap s.heap.size (Nat.le_refl _) p e ha hc hk s m _ below hf ((Spec.applies_iff_loose hf).mp happ).1 ⟨rfl, State.Warmed39.refl s, rfl⟩ trivial
  refine ⟨n, _, h1, h2, h3, hpost _ _ _ _ _ _ ⟨Cond.after_iff.mpr rfl, Cond.after_iff.mpr (eq_i res_at (Term.int_eval (1)) rfl), trivial⟩ ⟨hq.1, hq.2.1, (hq.2.2.sift fun y hy => Or.inr (N y hy)).mono (by decide) (by decide)⟩⟩
theorem main_1_1 : Claimed_1_1 := comes_1 fun _ _ _ _ _ _ h hF => ⟨h.1, hF⟩
theorem main_1_2 : Claimed_1_2 := comes_1 fun _ _ _ _ _ _ h hF => ⟨h.2.1, hF⟩
end Jvm.Pilot.@@N@@
namespace Jvm.Pilot.@@N@@
open Jvm Jvm.ClassFile Sem Op Lib Jvm.Free Jvm.Stand Jvm.Pilot.@@N@@.Jvm.D
/-! MADE BY PROGRAM (witnessworld.py) out of the Statement's table words and the real class files: 11 classes; the members and pool entries that the words name. The judged class is class 1, her method 2. -/
namespace start1
open Jvm.ClassFile
def u (s : String) : CpInfo := .utf8 (stringToUtf16 s)
/-- a pool by its gaps: so many unusable entries, then the entry; so many at the end -/
def gap : Nat → List CpInfo → List CpInfo
  | 0, r => r
  | n + 1, r => .unusable :: gap n r
def poolList (es : List (Nat × CpInfo)) (last : Nat) : List CpInfo := es.foldr (fun e r => gap e.1 (e.2 :: r)) (gap last [])
def pool (es : List (Nat × CpInfo)) (last : Nat) : Array CpInfo := ⟨poolList es last⟩
def fileOf (pool : Array CpInfo) (this : Nat) (attrs : Array Attribute := #[]) (ms : Array MethodInfo := #[]) (fl : Nat := 33) (sup : Nat := 0) (ifs : Array Nat := #[]) (fds : Array FieldInfo := #[]) : ClassFile where
  minorVersion := 0
  majorVersion := 65
  constantPool := pool
  accessFlags := fl
  thisClass := this
  superClass := sup
  interfaces := ifs
  fields := fds
  methods := ms
  attributes := attrs
def plain (name : String) (sup : Option ClassId) : Class where
  name := name
  kind := .ordinary
  loader := none
  accessFlags := 33
  super := sup
  interfaces := #[]
  cf := none
  fields := #[]
  methods := #[]
  instanceTypes := #[]
  staticTypes := #[]
  resolved := #[]
  callSites := []
  init := .initialized
  statics := none
  mirror := none

def pool0 : Array CpInfo := pool [(5, u "<init>"), (0, u "()V"), (1, .class_ 10), (1, u "java/lang/Object")] 113

def k0c0 : Code := { maxStack := 0, maxLocals := 1, code := object_method_1_code, exceptionTable := #[], attributes := #[] }
def k0m0 : Method := { name := "<init>", desc := "()V", sig := { parameters := [], returnType := none }, accessFlags := 1, code := some k0c0 }
/-- java/lang/Object -/
def k0 : Class := { plain "java/lang/Object" none with
  accessFlags := 33
  interfaces := #[]
  cf := some (fileOf pool0 8 #[] #[{ accessFlags := 1, nameIndex := 5, descriptorIndex := 6, attributes := #[] }] 33 0 #[] #[])
  fields := #[]
  methods := #[k0m0]
  instanceTypes := #[]
  staticTypes := #[]
  resolved := Array.replicate 124 none
  statics := none }

def pool1 : Array CpInfo := pool [(2, .class_ 4), (1, u "java/lang/Object"), (0, u "<init>"), (0, u "()V"), (0, .class_ 8), (0, u "com/example/quillon/quillon/storage/TimeRange"), (0, .methodref 7 10), (0, .nameAndType 5 11), (0, u "(JJ)V"), (0, .methodref 13 14), (0, .class_ 15), (0, .nameAndType 16 17), (0, u "com/example/quillon/quillon/storage/TimeRangeContainsPinLaw"), (0, u "pick"), (0, u "(JJJI)J"), (0, .methodref 7 19), (0, .nameAndType 20 21), (0, u "contains"), (0, u "(J)Z"), (0, .methodref 7 23), (0, .nameAndType 24 25), (0, u "intersect"), (0, u "(Lcom/example/quillon/quillon/storage/TimeRange;)Lcom/example/quillon/quillon/storage/TimeRange;"), (0, .methodref 7 27), (0, .nameAndType 28 29), (0, u "isEmpty"), (0, u "()Z"), (3, u "law"), (0, u "(JJJI)Z")] 2

def k1m0 : Method := { name := "<init>", desc := "()V", sig := { parameters := [], returnType := none }, accessFlags := 2, code := none }
def k1c1 : Code := { maxStack := 4, maxLocals := 8, code := method_2_code, exceptionTable := #[], attributes := #[] }
def k1m1 : Method := { name := "pick", desc := "(JJJI)J", sig := { parameters := [.long, .long, .long, .int], returnType := some .long }, accessFlags := 10, code := some k1c1 }
def k1c2 : Code := { maxStack := 7, maxLocals := 13, code := code, exceptionTable := #[], attributes := #[] }
def k1m2 : Method := { name := "law", desc := "(JJJI)Z", sig := { parameters := [.long, .long, .long, .int], returnType := some .boolean }, accessFlags := 9, code := some k1c2 }
/-- com/example/quillon/quillon/storage/TimeRangeContainsPinLaw -/
def k1 : Class := { plain "com/example/quillon/quillon/storage/TimeRangeContainsPinLaw" (some 0) with
  accessFlags := 49
  interfaces := #[]
  cf := some (fileOf pool1 13 #[] #[{ accessFlags := 2, nameIndex := 5, descriptorIndex := 6, attributes := #[] }, { accessFlags := 10, nameIndex := 16, descriptorIndex := 17, attributes := #[] }, { accessFlags := 9, nameIndex := 33, descriptorIndex := 34, attributes := #[] }] 49 2 #[] #[])
  fields := #[]
  methods := #[k1m0, k1m1, k1m2]
  instanceTypes := #[]
  staticTypes := #[]
  resolved := Array.replicate 37 none
  statics := none }

def pool2 : Array CpInfo := pool [(1, .methodref 2 3), (0, .class_ 4), (0, .nameAndType 5 6), (0, u "java/lang/Object"), (0, u "<init>"), (0, u "()V"), (0, .class_ 8), (0, u "java/lang/Record")] 13

def k2c0 : Code := { maxStack := 1, maxLocals := 1, code := jdk_30_method_1_code, exceptionTable := #[], attributes := #[] }
def k2m0 : Method := { name := "<init>", desc := "()V", sig := { parameters := [], returnType := none }, accessFlags := 4, code := some k2c0 }
/-- java/lang/Record -/
def k2 : Class := { plain "java/lang/Record" (some 0) with
  accessFlags := 1057
  interfaces := #[]
  cf := some (fileOf pool2 7 #[] #[{ accessFlags := 4, nameIndex := 5, descriptorIndex := 6, attributes := #[] }] 1057 2 #[] #[])
  fields := #[]
  methods := #[k2m0]
  instanceTypes := #[]
  staticTypes := #[]
  resolved := Array.replicate 22 none
  statics := none }

def pool3 : Array CpInfo := pool [(1, .methodref 2 3), (0, .class_ 4), (0, .nameAndType 5 6), (0, u "java/lang/Record"), (0, u "<init>"), (0, u "()V"), (0, .fieldref 8 9), (0, .class_ 10), (0, .nameAndType 11 12), (0, u "com/example/quillon/quillon/storage/TimeRange"), (0, u "first"), (0, u "J"), (0, .fieldref 8 14), (0, .nameAndType 15 12), (0, u "last"), (4, .methodref 8 21), (0, .nameAndType 5 22), (0, u "(JJ)V"), (2, u "EMPTY"), (0, u "Lcom/example/quillon/quillon/storage/TimeRange;"), (20, u "()Z"), (6, u "isEmpty"), (0, .methodref 56 57), (0, .class_ 58), (0, .nameAndType 59 60), (0, u "java/lang/Math"), (0, u "min"), (0, u "(JJ)J"), (0, .methodref 56 62), (0, .nameAndType 63 60), (0, u "max"), (14, u "ALL"), (10, u "contains"), (0, u "(J)Z"), (3, u "intersect"), (0, u "(Lcom/example/quillon/quillon/storage/TimeRange;)Lcom/example/quillon/quillon/storage/TimeRange;")] 26

def k3c0 : Code := { maxStack := 3, maxLocals := 5, code := prog_83_method_1_code, exceptionTable := #[], attributes := #[] }
def k3m0 : Method := { name := "<init>", desc := "(JJ)V", sig := { parameters := [.long, .long], returnType := none }, accessFlags := 1, code := some k3c0 }
def k3c1 : Code := { maxStack := 4, maxLocals := 1, code := prog_83_method_7_code, exceptionTable := #[], attributes := #[] }
def k3m1 : Method := { name := "isEmpty", desc := "()Z", sig := { parameters := [], returnType := some .boolean }, accessFlags := 1, code := some k3c1 }
def k3c2 : Code := { maxStack := 4, maxLocals := 3, code := prog_83_method_8_code, exceptionTable := #[], attributes := #[] }
def k3m2 : Method := { name := "contains", desc := "(J)Z", sig := { parameters := [.long], returnType := some .boolean }, accessFlags := 0, code := some k3c2 }
def k3c3 : Code := { maxStack := 8, maxLocals := 2, code := prog_83_method_11_code, exceptionTable := #[], attributes := #[] }
def k3m3 : Method := { name := "intersect", desc := "(Lcom/example/quillon/quillon/storage/TimeRange;)Lcom/example/quillon/quillon/storage/TimeRange;", sig := { parameters := [(.object "com/example/quillon/quillon/storage/TimeRange")], returnType := some (.object "com/example/quillon/quillon/storage/TimeRange") }, accessFlags := 1, code := some k3c3 }
/-- com/example/quillon/quillon/storage/TimeRange -/
def k3 : Class := { plain "com/example/quillon/quillon/storage/TimeRange" (some 2) with
  accessFlags := 49
  interfaces := #[]
  cf := some (fileOf pool3 8 #[] #[{ accessFlags := 1, nameIndex := 5, descriptorIndex := 22, attributes := #[] }, { accessFlags := 1, nameIndex := 54, descriptorIndex := 47, attributes := #[] }, { accessFlags := 0, nameIndex := 89, descriptorIndex := 90, attributes := #[] }, { accessFlags := 1, nameIndex := 94, descriptorIndex := 95, attributes := #[] }] 49 2 #[] #[{ accessFlags := 18, nameIndex := 11, descriptorIndex := 12, attributes := #[] }, { accessFlags := 18, nameIndex := 15, descriptorIndex := 12, attributes := #[] }, { accessFlags := 25, nameIndex := 78, descriptorIndex := 26, attributes := #[] }, { accessFlags := 25, nameIndex := 25, descriptorIndex := 26, attributes := #[] }])
  fields := #[{ name := "first", type := .long, accessFlags := 18, slot := 0, constantValue := 0 }, { name := "last", type := .long, accessFlags := 18, slot := 1, constantValue := 0 }, { name := "ALL", type := (.object "com/example/quillon/quillon/storage/TimeRange"), accessFlags := 25, slot := 0, constantValue := 0 }, { name := "EMPTY", type := (.object "com/example/quillon/quillon/storage/TimeRange"), accessFlags := 25, slot := 1, constantValue := 0 }]
  methods := #[k3m0, k3m1, k3m2, k3m3]
  instanceTypes := #[.long, .long]
  staticTypes := #[(.object "com/example/quillon/quillon/storage/TimeRange"), (.object "com/example/quillon/quillon/storage/TimeRange")]
  resolved := Array.replicate 122 none
  statics := none }

def pool4 : Array CpInfo := pool [(1, .class_ 2), (0, u "java/lang/Math"), (1, .class_ 6), (1, u "java/lang/Object"), (0, u "<init>"), (0, u "()V"), (89, .class_ 100), (1, u "java/lang/Math$RandomNumberGeneratorHolder"), (20, u "(JJ)J"), (50, u "negativeZeroFloatBits"), (0, u "J"), (2, u "negativeZeroDoubleBits"), (21, u "max"), (2, u "min"), (43, u "$assertionsDisabled"), (0, u "Z"), (91, u "twoToTheDoubleScaleDown"), (0, u "D"), (4, u "twoToTheDoubleScaleUp"), (9, u "E"), (3, u "PI"), (2, u "TAU"), (2, u "DEGREES_TO_RADIANS"), (0, u "RADIANS_TO_DEGREES")] 94

def k4m0 : Method := { name := "<init>", desc := "()V", sig := { parameters := [], returnType := none }, accessFlags := 2, code := none }
def k4c1 : Code := { maxStack := 4, maxLocals := 4, code := jdk_29_method_66_code, exceptionTable := #[], attributes := #[] }
def k4m1 : Method := { name := "max", desc := "(JJ)J", sig := { parameters := [.long, .long], returnType := some .long }, accessFlags := 9, code := some k4c1 }
def k4c2 : Code := { maxStack := 4, maxLocals := 4, code := jdk_29_method_70_code, exceptionTable := #[], attributes := #[] }
def k4m2 : Method := { name := "min", desc := "(JJ)J", sig := { parameters := [.long, .long], returnType := some .long }, accessFlags := 9, code := some k4c2 }
/-- java/lang/Math -/
def k4 : Class := { plain "java/lang/Math" (some 0) with
  accessFlags := 49
  interfaces := #[]
  cf := some (fileOf pool4 1 #[.nestMembers #[98]] #[{ accessFlags := 2, nameIndex := 7, descriptorIndex := 8, attributes := #[] }, { accessFlags := 9, nameIndex := 198, descriptorIndex := 121, attributes := #[] }, { accessFlags := 9, nameIndex := 201, descriptorIndex := 121, attributes := #[] }] 49 4 #[] #[{ accessFlags := 25, nameIndex := 354, descriptorIndex := 339, attributes := #[] }, { accessFlags := 25, nameIndex := 358, descriptorIndex := 339, attributes := #[] }, { accessFlags := 25, nameIndex := 361, descriptorIndex := 339, attributes := #[] }, { accessFlags := 26, nameIndex := 364, descriptorIndex := 339, attributes := #[] }, { accessFlags := 26, nameIndex := 365, descriptorIndex := 339, attributes := #[] }, { accessFlags := 26, nameIndex := 172, descriptorIndex := 173, attributes := #[] }, { accessFlags := 26, nameIndex := 176, descriptorIndex := 173, attributes := #[] }, { accessFlags := 8, nameIndex := 344, descriptorIndex := 339, attributes := #[] }, { accessFlags := 8, nameIndex := 338, descriptorIndex := 339, attributes := #[] }, { accessFlags := 4120, nameIndex := 245, descriptorIndex := 246, attributes := #[] }])
  fields := #[{ name := "E", type := .double, accessFlags := 25, slot := 0, constantValue := 0 }, { name := "PI", type := .double, accessFlags := 25, slot := 1, constantValue := 0 }, { name := "TAU", type := .double, accessFlags := 25, slot := 2, constantValue := 0 }, { name := "DEGREES_TO_RADIANS", type := .double, accessFlags := 26, slot := 3, constantValue := 0 }, { name := "RADIANS_TO_DEGREES", type := .double, accessFlags := 26, slot := 4, constantValue := 0 }, { name := "negativeZeroFloatBits", type := .long, accessFlags := 26, slot := 5, constantValue := 0 }, { name := "negativeZeroDoubleBits", type := .long, accessFlags := 26, slot := 6, constantValue := 0 }, { name := "twoToTheDoubleScaleUp", type := .double, accessFlags := 8, slot := 7, constantValue := 0 }, { name := "twoToTheDoubleScaleDown", type := .double, accessFlags := 8, slot := 8, constantValue := 0 }, { name := "$assertionsDisabled", type := .boolean, accessFlags := 4120, slot := 9, constantValue := 0 }]
  methods := #[k4m0, k4m1, k4m2]
  instanceTypes := #[]
  staticTypes := #[.double, .double, .double, .double, .double, .long, .long, .double, .double, .boolean]
  resolved := Array.replicate 460 none
  statics := none }

def pool5 : Array CpInfo := pool [(1, u "java/lang/Cloneable"), (0, .class_ 1), (0, u "java/lang/Object"), (0, .class_ 3)] 3

/-- java/lang/Cloneable -/
def k5 : Class := { plain "java/lang/Cloneable" (some 0) with
  accessFlags := 1537
  interfaces := #[]
  cf := some (fileOf pool5 2 #[] #[] 1537 4 #[] #[])
  fields := #[]
  methods := #[]
  instanceTypes := #[]
  staticTypes := #[]
  resolved := Array.replicate 8 none
  statics := none }

def pool6 : Array CpInfo := pool [(1, u "java/io/Serializable"), (0, .class_ 1), (0, u "java/lang/Object"), (0, .class_ 3)] 3

/-- java/io/Serializable -/
def k6 : Class := { plain "java/io/Serializable" (some 0) with
  accessFlags := 1537
  interfaces := #[]
  cf := some (fileOf pool6 2 #[] #[] 1537 4 #[] #[])
  fields := #[]
  methods := #[]
  instanceTypes := #[]
  staticTypes := #[]
  resolved := Array.replicate 8 none
  statics := none }

/-- the primitive byte -/
def k7 : Class := { plain "byte" none with kind := .primitive 'B', accessFlags := 0x411 }
/-- [B -/
def k8 : Class := { plain "[B" (some 0) with kind := .array 7 .byte, interfaces := #[5, 6], accessFlags := 1041 }

/-- the primitive int -/
def k9 : Class := { plain "int" none with kind := .primitive 'I', accessFlags := 0x411 }
/-- [I -/
def k10 : Class := { plain "[I" (some 0) with kind := .array 9 .int, interfaces := #[5, 6], accessFlags := 1041 }

def heap : Heap := #[]
def classes : Array Class := #[k0, k1, k2, k3, k4, k5, k6, k7, k8, k9, k10]
def interned : List (Array UInt16 × Addr) := []
def slotsUsed : Nat := 0
def theMethod : MethodId := ⟨1, 2⟩
def args0 : Array Value := #[.long 5, .long 7, .long 6, .int 0]
def aboutOver (below : List Frame) : State where
  vm := { classes := classes, interned := interned.toArray }
  heap := heap
  slotsUsed := slotsUsed
  threads := #[{ frames := .invoking theMethod args0 :: below }]
def below0 : List Frame := [.native { method := ⟨0, 0⟩, args := #[] }]
def about1 : State := aboutOver below0
def p0 : Program := .bare "" "" ""
def e0 : Env := launch0.env 0 0 0
theorem w_frames : about1.frames = Frame.invoking theMethod args0 :: below0 := rfl
set_option maxRecDepth 65536 in
theorem w_args : argsFit about1.vm theMethod args0 = true := by decide +kernel
set_option maxRecDepth 65536 in
theorem w_heap : heapFits about1 = true := by decide +kernel
set_option maxRecDepth 65536 in
theorem w_runnable : about1.curStatus? = some .runnable := by decide +kernel
set_option maxRecDepth 65536 in
theorem w_alone : about1.alone = true := by decide +kernel
set_option maxRecDepth 65536 in
theorem w_named : about1.methodNamed? x = some theMethod := by decide +kernel
set_option maxRecDepth 65536 in
theorem w_hears : about1.hears theMethod below0 = true := by decide +kernel
set_option maxRecDepth 65536 in
theorem w_ripe : about1.ripe theMethod args0 below0 = true := by decide +kernel
theorem w_running : about1.status = .running := rfl
set_option maxRecDepth 65536 in
theorem w_room : about1.hasRoom e0.platform room_1 = true :=
  launch0.hasRoom_least _ room_1 (by decide +kernel) (by decide +kernel) (by decide +kernel) (by decide +kernel) (by decide +kernel) (by decide +kernel)
theorem allAtoms_all (ts : List Jvm.Cond) (a : Array Jvm.Value) (st : Jvm.State) : (allAtoms ts).before a st = ts.all (fun c => c.before a st) := by
  induction ts with
  | nil => rfl
  | cons c t ih =>
    show (Jvm.Cond.and c (allAtoms t)).before a st = _
    rw [Jvm.Cond.before_and, ih, List.all_cons]
def words1 : List Jvm.Cond := Jvm.Cond.code x code maxLocals ret :: tables_1
/-- a 'code' word, met by the world's own term for the bytes: nothing is compared byte by byte -/
theorem code_word {y : MethodName} {bytes : ByteArray} {mx : Nat} {rt : Option FieldType} {a : Array Value} {s : State} {m : MethodId} {meth : Method} {c : Code} (h1 : s.methodNamed? y = some m) (h2 : s.vm.method? m = some meth) (h3 : meth.code = some c) (h4 : c.code = bytes)
    (h5 : (c.maxLocals == mx && c.exceptionTable.isEmpty && decide (c.maxStack ≤ mostOperands) && decide (meth.sig.returnType = rt) && !meth.locks && decide (parseMethodDescriptor y.desc = some meth.sig)) = true) : (Jvm.Cond.code y bytes mx rt).before a s = true := by
  simp only [Bool.and_eq_true, beq_iff_eq, Bool.not_eq_true', decide_eq_true_eq] at h5
  obtain ⟨⟨⟨⟨⟨g1, g2⟩, g3⟩, g4⟩, g5⟩, g6⟩ := h5
  simp [Cond.before, Cond.holds, Cond.value, h1, h2, h3, h4, g1, g2, g3, g4, g5, g6]
def isCode : Jvm.Cond → Bool
  | .code _ _ _ _ => true
  | _ => false
theorem all_split {L : List Jvm.Cond} {P : Jvm.Cond → Bool} (h1 : L.all (fun c => isCode c || P c) = true) (h2 : ∀ c ∈ L.filter isCode, P c = true) : L.all P = true := by
  refine List.all_eq_true.mpr fun c hc => ?_
  have h := List.all_eq_true.mp h1 c hc
  rcases Bool.eq_false_or_eq_true (isCode c) with hi | hi
  · exact h2 c (List.mem_filter.mpr ⟨hc, hi⟩)
  · simpa [hi] using h
set_option maxRecDepth 65536 in
theorem w_c0 : (Jvm.Cond.code x code maxLocals ret).before args0 about1 = true := code_word (m := ⟨1, 2⟩) (meth := k1m2) (c := k1c2) (by decide +kernel) rfl rfl rfl (by decide +kernel)
set_option maxRecDepth 65536 in
theorem w_c1 : (Jvm.Cond.code ({ cls := "com/example/quillon/quillon/storage/TimeRange", name := "<init>", desc := "(JJ)V" } : Jvm.MethodName) prog_83_method_1_code (5 : Nat) (Option.none : Option Jvm.ClassFile.FieldType)).before args0 about1 = true := code_word (m := ⟨3, 0⟩) (meth := k3m0) (c := k3c0) (by decide +kernel) rfl rfl rfl (by decide +kernel)
set_option maxRecDepth 65536 in
theorem w_c2 : (Jvm.Cond.code ({ cls := "java/lang/Record", name := "<init>", desc := "()V" } : Jvm.MethodName) jdk_30_method_1_code (1 : Nat) (Option.none : Option Jvm.ClassFile.FieldType)).before args0 about1 = true := code_word (m := ⟨2, 0⟩) (meth := k2m0) (c := k2c0) (by decide +kernel) rfl rfl rfl (by decide +kernel)
set_option maxRecDepth 65536 in
theorem w_c3 : (Jvm.Cond.code ({ cls := "java/lang/Object", name := "<init>", desc := "()V" } : Jvm.MethodName) object_method_1_code (1 : Nat) (Option.none : Option Jvm.ClassFile.FieldType)).before args0 about1 = true := code_word (m := ⟨0, 0⟩) (meth := k0m0) (c := k0c0) (by decide +kernel) rfl rfl rfl (by decide +kernel)
set_option maxRecDepth 65536 in
theorem w_c4 : (Jvm.Cond.code ({ cls := "com/example/quillon/quillon/storage/TimeRangeContainsPinLaw", name := "pick", desc := "(JJJI)J" } : Jvm.MethodName) method_2_code (8 : Nat) (Option.some Jvm.ClassFile.FieldType.long)).before args0 about1 = true := code_word (m := ⟨1, 1⟩) (meth := k1m1) (c := k1c1) (by decide +kernel) rfl rfl rfl (by decide +kernel)
set_option maxRecDepth 65536 in
theorem w_c5 : (Jvm.Cond.code ({ cls := "com/example/quillon/quillon/storage/TimeRange", name := "contains", desc := "(J)Z" } : Jvm.MethodName) prog_83_method_8_code (3 : Nat) (Option.some Jvm.ClassFile.FieldType.boolean)).before args0 about1 = true := code_word (m := ⟨3, 2⟩) (meth := k3m2) (c := k3c2) (by decide +kernel) rfl rfl rfl (by decide +kernel)
set_option maxRecDepth 65536 in
theorem w_c6 : (Jvm.Cond.code ({ cls := "com/example/quillon/quillon/storage/TimeRange", name := "intersect", desc := "(Lcom/example/quillon/quillon/storage/TimeRange;)Lcom/example/quillon/quillon/storage/TimeRange;" } : Jvm.MethodName) prog_83_method_11_code (2 : Nat) (Option.some (Jvm.ClassFile.FieldType.object "com/example/quillon/quillon/storage/TimeRange"))).before args0 about1 = true := code_word (m := ⟨3, 3⟩) (meth := k3m3) (c := k3c3) (by decide +kernel) rfl rfl rfl (by decide +kernel)
set_option maxRecDepth 65536 in
theorem w_c7 : (Jvm.Cond.code ({ cls := "java/lang/Math", name := "max", desc := "(JJ)J" } : Jvm.MethodName) jdk_29_method_66_code (4 : Nat) (Option.some Jvm.ClassFile.FieldType.long)).before args0 about1 = true := code_word (m := ⟨4, 1⟩) (meth := k4m1) (c := k4c1) (by decide +kernel) rfl rfl rfl (by decide +kernel)
set_option maxRecDepth 65536 in
theorem w_c8 : (Jvm.Cond.code ({ cls := "java/lang/Math", name := "min", desc := "(JJ)J" } : Jvm.MethodName) jdk_29_method_70_code (4 : Nat) (Option.some Jvm.ClassFile.FieldType.long)).before args0 about1 = true := code_word (m := ⟨4, 2⟩) (meth := k4m2) (c := k4c2) (by decide +kernel) rfl rfl rfl (by decide +kernel)
set_option maxRecDepth 65536 in
theorem w_c9 : (Jvm.Cond.code ({ cls := "com/example/quillon/quillon/storage/TimeRange", name := "isEmpty", desc := "()Z" } : Jvm.MethodName) prog_83_method_7_code (1 : Nat) (Option.some Jvm.ClassFile.FieldType.boolean)).before args0 about1 = true := code_word (m := ⟨3, 1⟩) (meth := k3m1) (c := k3c1) (by decide +kernel) rfl rfl rfl (by decide +kernel)
def codes1 : List Jvm.Cond := [Jvm.Cond.code x code maxLocals ret, Jvm.Cond.code ({ cls := "com/example/quillon/quillon/storage/TimeRange", name := "<init>", desc := "(JJ)V" } : Jvm.MethodName) prog_83_method_1_code (5 : Nat) (Option.none : Option Jvm.ClassFile.FieldType), Jvm.Cond.code ({ cls := "java/lang/Record", name := "<init>", desc := "()V" } : Jvm.MethodName) jdk_30_method_1_code (1 : Nat) (Option.none : Option Jvm.ClassFile.FieldType), Jvm.Cond.code ({ cls := "java/lang/Object", name := "<init>", desc := "()V" } : Jvm.MethodName) object_method_1_code (1 : Nat) (Option.none : Option Jvm.ClassFile.FieldType), Jvm.Cond.code ({ cls := "com/example/quillon/quillon/storage/TimeRangeContainsPinLaw", name := "pick", desc := "(JJJI)J" } : Jvm.MethodName) method_2_code (8 : Nat) (Option.some Jvm.ClassFile.FieldType.long), Jvm.Cond.code ({ cls := "com/example/quillon/quillon/storage/TimeRange", name := "contains", desc := "(J)Z" } : Jvm.MethodName) prog_83_method_8_code (3 : Nat) (Option.some Jvm.ClassFile.FieldType.boolean), Jvm.Cond.code ({ cls := "com/example/quillon/quillon/storage/TimeRange", name := "intersect", desc := "(Lcom/example/quillon/quillon/storage/TimeRange;)Lcom/example/quillon/quillon/storage/TimeRange;" } : Jvm.MethodName) prog_83_method_11_code (2 : Nat) (Option.some (Jvm.ClassFile.FieldType.object "com/example/quillon/quillon/storage/TimeRange")), Jvm.Cond.code ({ cls := "java/lang/Math", name := "max", desc := "(JJ)J" } : Jvm.MethodName) jdk_29_method_66_code (4 : Nat) (Option.some Jvm.ClassFile.FieldType.long), Jvm.Cond.code ({ cls := "java/lang/Math", name := "min", desc := "(JJ)J" } : Jvm.MethodName) jdk_29_method_70_code (4 : Nat) (Option.some Jvm.ClassFile.FieldType.long), Jvm.Cond.code ({ cls := "com/example/quillon/quillon/storage/TimeRange", name := "isEmpty", desc := "()Z" } : Jvm.MethodName) prog_83_method_7_code (1 : Nat) (Option.some Jvm.ClassFile.FieldType.boolean)]
set_option maxRecDepth 65536 in
theorem codes_eq : words1.filter isCode = codes1 := rfl
theorem w_codes : ∀ c ∈ words1.filter isCode, c.before args0 about1 = true := by
  rw [codes_eq]
  intro c hc
  simp only [codes1, List.mem_cons, List.not_mem_nil, or_false] at hc
  rcases hc with rfl | rfl | rfl | rfl | rfl | rfl | rfl | rfl | rfl | rfl
  · exact w_c0
  · exact w_c1
  · exact w_c2
  · exact w_c3
  · exact w_c4
  · exact w_c5
  · exact w_c6
  · exact w_c7
  · exact w_c8
  · exact w_c9
set_option maxRecDepth 65536 in
theorem w_t1 : (words1.take 24).all (fun c => isCode c || c.before args0 about1) = true := by decide +kernel
set_option maxRecDepth 65536 in
theorem w_t2 : (words1.drop 24).all (fun c => isCode c || c.before args0 about1) = true := by decide +kernel
theorem w_tables : (allAtoms (Jvm.Cond.code x code maxLocals ret :: tables_1)).before args0 about1 = true := by
  rw [allAtoms_all]
  show words1.all (fun c => c.before args0 about1) = true
  refine all_split ?_ w_codes
  rw [← List.take_append_drop 24 words1, List.all_append, w_t1, w_t2]
  rfl
set_option maxRecDepth 65536 in
theorem w_case : (Jvm.Cond.and given_1 narrow_1).before args0 about1 = true := by decide +kernel
theorem w_applies : (headSpec (Jvm.Cond.code x code maxLocals ret :: tables_1) room_1).applies x e0.platform about1 = true :=
  (Spec.applies_iff w_frames).mpr ⟨w_running, w_runnable, w_alone, w_named, w_hears, w_ripe, w_room, w_tables⟩
theorem atStart : AtStart classFile x code maxLocals ret World_1 tables_1 room_1 Calls_1 rest_1 Pre_1 launch0 p0 e0 about1 theMethod args0 below0 :=
  ⟨lists_1, trivial, launch0.admits_env _ _ _, launch0.least_env, fairChoices_fair.cas, fairChoices_fair.clock, w_frames, w_args, w_heap, w_applies, trivial, trivial, w_case⟩
end start1
theorem witness_1 : WitnessClaimed_1 := ⟨start1.p0, start1.e0, start1.about1, start1.theMethod, start1.args0, start1.below0, start1.atStart⟩
end Jvm.Pilot.@@N@@
