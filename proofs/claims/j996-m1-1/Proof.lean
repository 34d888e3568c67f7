import JvmDerived
import JvmDerived.Pilot.@@N@@Statement
import JvmDerived.Pilot.@@N@@Code
set_option linter.unusedVariables false
set_option linter.unusedSimpArgs false
namespace Jvm.RoadKit
open Sem ClassFile Op Lib Jvm.Stand Jvm.Free Jvm.LawKit
section New
variable {p : Program} {l : Launch} {e : Env} {R : Room} {s : State} {m : MethodId} {args : Array Value} {below : List Frame} {meth : Method} {c : Code} {T : State} {locs : List Loc} {cells slots : Nat}
theorem retI (X : Stand p l e R s m args below meth c T locs cells slots) (hx : p.tables.exec = Jvm.exec) {pc : Nat} {Ls : Array Slot} {z : Int32} {rest : List Value} (hret : meth.sig.returnType = some .int) (hd : decode c.code pc = .ok (.ireturn, 1)) {fs : List Frame}
    (hl : ∀ (f : JFrame) (acts : List Action), f.method = m → f.locked = none → f.entered = [] → (doReturn e (T.setTop f) acts (some (.int z))).1 = T.setFrames fs) : Steps p.tables e below (T.setTop (mkF m pc Ls (.int z :: rest))) (T.setFrames fs) := by
  have hm' : T.vm.method? m = some meth := X.method'
  have hn : narrow .int (.int z) = .int z := rfl
  show Steps p.tables e below (T.setTop { method := m, pc := pc, locals := Ls, stack := _ :: rest, locked := none }) _
  jvm_step X.here [X.here.top, hx, hd, hm', hret, hn]
  first | (intro acts; rw [hl _ acts rfl rfl rfl]) | rw [hl _ _ rfl rfl rfl]
  exact Steps.refl _
end New
end Jvm.RoadKit
namespace Jvm.Pilot.@@N@@
open Jvm Jvm.ClassFile Sem Op Lib Jvm.Free Jvm.Stand Jvm.LawKit Jvm.RoadKit Bundle Jvm.Pilot.@@N@@.Jvm.D
/-- from A the run comes to an end of which P is said -/
def own_Go (p : Program) (e : Env) (below : List Frame) (P : State → Outcome → Prop) (A : State) : Prop := ∃ s₂ o, Steps p.tables e below A s₂ ∧ P s₂ o
theorem own_step {p : Program} {e : Env} {below : List Frame} {P : State → Outcome → Prop} {A : State} (B : State) (h : ∀ t, Steps p.tables e below B t → Steps p.tables e below A t) (g : own_Go p e below P B) : own_Go p e below P A := by
  obtain ⟨s₂, o, h1, h2⟩ := g; exact ⟨s₂, o, h s₂ h1, h2⟩
theorem own_comes {p : Program} {e : Env} {below : List Frame} {P : State → Outcome → Prop} {A : State} (B : State) (h : Steps p.tables e below A B) (g : own_Go p e below P B) : own_Go p e below P A := by
  obtain ⟨s₂, o, h1, h2⟩ := g; exact ⟨s₂, o, h.trans h1, h2⟩
theorem own_sta_keep {Z : State} {h h' : Heap} {C n d : String} {w : Value} {ws : List Addr} (F : Sta Z h C n d w) (K : Keep h h' ws) (hw : ∀ x ∈ ws, ∀ cell : Cell, h[x]? = some cell → cell.vm.isStatics = false) : Sta Z h' C n d w := by
  obtain ⟨cf, i, k, f, st, cell, h1, h2, h3, h4, h5, h6, r⟩ := F
  exact ⟨cf, i, k, f, st, cell, h1, h2, h3, h4, K.2.1 _ _ h5 (fun q => by rw [hw _ q _ h5] at h6; cases h6), h6, r⟩
theorem own_sel {s : State} {args : Array Value} {y : MethodName} {n : Nat} (w : (Cond.instantiable y.cls n).before args s = true) (hp : (Cond.privateMethod y).before args s = true) (hi : (Cond.instanceMethod y).before args s = true) (hy : y.cls ≠ "java/lang/invoke/MethodHandle" ∧ y.cls ≠ "java/lang/invoke/VarHandle") : (Cond.selects y.cls y y).before args s = true := by
  obtain ⟨c, k, h1, h2, -, h4, -, -⟩ := Cond.instantiable_spec w
  simp only [Bool.or_eq_false_iff] at h4
  exact Jvm.Stand.selects_self_of_private h1 h2 h4.1 (Cond.privateMethod_at hp) hi hy
def own_lrem (x y : Int64) : Int64 := x - x / y * y
theorem own_vne {a b : Int32} (h : a ≠ b) : Value.int a ≠ Value.int b := fun q => h (Value.int.inj q)
theorem own_lgtT {x y : Int64} (h : y < x) : ifCond.holds .gt (lcmpW x y) = true := (if0 _ _).trans (tlt ((lw_gt x y).mpr h)).2.2.1
theorem own_lgtF {x y : Int64} (h : ¬ y < x) : ifCond.holds .gt (lcmpW x y) = false := (if0 _ _).trans (flt (fun q => h ((lw_gt x y).mp q))).2.2.1
theorem own_lleT {x y : Int64} (h : ¬ y < x) : ifCond.holds .le (lcmpW x y) = true := (if0 _ _).trans (flt (fun q => h ((lw_gt x y).mp q))).2.2.2
theorem own_lleF {x y : Int64} (h : y < x) : ifCond.holds .le (lcmpW x y) = false := (if0 _ _).trans (tlt ((lw_gt x y).mpr h)).2.2.2
theorem own_lltT {x y : Int64} (h : x < y) : ifCond.holds .lt (lcmpW x y) = true := (if0 _ _).trans (tlt ((lw_lt x y).mpr h)).1
theorem own_lltF {x y : Int64} (h : ¬ x < y) : ifCond.holds .lt (lcmpW x y) = false := (if0 _ _).trans (flt (fun q => h ((lw_lt x y).mp q))).1
theorem own_lgeT {x y : Int64} (h : ¬ x < y) : ifCond.holds .ge (lcmpW x y) = true := (if0 _ _).trans (flt (fun q => h ((lw_lt x y).mp q))).2.1
theorem own_lgeF {x y : Int64} (h : x < y) : ifCond.holds .ge (lcmpW x y) = false := (if0 _ _).trans (tlt ((lw_lt x y).mpr h)).2.1
theorem own_leqT {x y : Int64} (h : x = y) : ifCond.holds .eq (lcmpW x y) = true := (if0 _ _).trans (teq ((lw_eq x y).mpr h)).1
theorem own_leqF {x y : Int64} (h : ¬ x = y) : ifCond.holds .eq (lcmpW x y) = false := (if0 _ _).trans (feq (fun q => h ((lw_eq x y).mp q))).1
theorem own_lneT {x y : Int64} (h : ¬ x = y) : ifCond.holds .ne (lcmpW x y) = true := (if0 _ _).trans (feq (fun q => h ((lw_eq x y).mp q))).2
theorem own_lneF {x y : Int64} (h : x = y) : ifCond.holds .ne (lcmpW x y) = false := (if0 _ _).trans (teq ((lw_eq x y).mpr h)).2
def own_Cache (Z : State) (h : Heap) (ca : Addr) : Prop := ∃ c : Cell, Arr Z h ca c (.object "java/lang/Long") ∧ ∀ x : Int64, ¬ x < -128 → ¬ 127 < x → ¬ ((x.toInt32 + 128) < 0 ∨ c.slots.size ≤ (x.toInt32 + 128).toNatClampNeg) ∧ ∃ e : Addr, c.slots[(x.toInt32 + 128).toNatClampNeg]? = some (.ref e) ∧ Exa Z h e "java/lang/Long" ∧ Fld Z h e "java/lang/Long" "value" "J" (.long x)
theorem own_Cache.ext {Z : State} {h h' : Heap} {ca : Addr} (F : own_Cache Z h ca) (E : Ext h h') : own_Cache Z h' ca := by
  obtain ⟨c, A, H⟩ := F
  refine ⟨c, A.ext E, fun x h1 h2 => ?_⟩
  obtain ⟨b, e, q1, q2, q3⟩ := H x h1 h2
  exact ⟨b, e, q1, q2.ext E, q3.ext E⟩
theorem own_Cache.keep {Z : State} {h h' : Heap} {ca : Addr} (F : own_Cache Z h ca) (K : Keep h h' []) (_ : ca ∉ ([] : List Addr)) : own_Cache Z h' ca := by
  obtain ⟨c, A, H⟩ := F
  refine ⟨c, ⟨K.2.1 _ _ A.1 nin0, A.2⟩, fun x h1 h2 => ?_⟩
  obtain ⟨b, e, q1, q2, q3⟩ := H x h1 h2
  exact ⟨b, e, q1, q2.keep K, q3.keep K nin0⟩
theorem own_fld {args : Array Value} {s : State} {t : Term} {x : Addr} {C n d : String} {k : Int32} (ht : t.eval args s none [] s = some (.ref x)) (h : (Cond.eq (Term.field t C n d) (Term.int k)).value args s none s [] = some true) : Fld s s.heap x C n d (.int k) := by
  obtain ⟨u, w, hu, hv, -, hk⟩ := cmp_v (Or.inl h)
  have hw : w = .int k := Option.some.inj (hv.symm.trans (Term.int_eval k))
  subst hw
  obtain ⟨z, rfl⟩ := hk
  have hz : z = k := by
    have h' := h
    simp [Cond.value, hu, hv] at h'
    exact h'
  subst hz
  exact Fld.start ((fld_at ht).symm.trans hu)
theorem own_cache {args : Array Value} {s : State} (hs : ∀ d ∈ jdkStatics_1, d.before args s = true) : ∃ ca, (Term.static "java/lang/Long$LongCache" "cache" "[Ljava/lang/Long;").eval args s none [] s = some (.ref ca) ∧ own_Cache s s.heap ca := by
  have h2 := Cond.before_iff.mp (hs _ (List.mem_of_getElem? (i := 2) rfl))
  have h4 := hs _ (List.mem_of_getElem? (i := 4) rfl)
  have h5 := Cond.before_iff.mp (hs _ (List.mem_of_getElem? (i := 5) rfl))
  obtain ⟨ca, ev⟩ := arr_v h2
  obtain ⟨cl, A⟩ := Arr.start ev h2
  refine ⟨ca, ev, cl, A, fun x h1 h1' => ?_⟩
  have hat := Jvm.Free.IntBox.arrayAt_of A.1 A.2.1 A.2.2
  obtain ⟨hsz, hsize⟩ := Jvm.Free.IntBox.length_fwd h4 ev A.1 A.2.1 A.2.2
  have hsz256 : cl.slots.size = 256 := by
    have e : (cl.slots.size.toInt32).toInt = cl.slots.size := len_toInt hsz
    rw [hsize] at e
    have : ((256 : Int32)).toInt = 256 := by decide
    omega
  obtain ⟨hbnd, hlt⟩ := Jvm.Free.LongBox.place_okL x h1 h1'
  have hj := Cond.all_elim ev hat h5 _ (by rw [hsz256]; exact hlt)
  obtain ⟨hex, heq⟩ := and_e hj
  obtain ⟨hnn, hback⟩ := Jvm.Free.IntBox.place_nonneg _ hlt
  have evi : (Term.static "java/lang/Long$LongCache" "cache" "[Ljava/lang/Long;").eval args s none [(x.toInt32 + 128).toNatClampNeg] s = some (.ref ca) := by rw [← ev]; rfl
  have evE : (Term.elem (Term.static "java/lang/Long$LongCache" "cache" "[Ljava/lang/Long;") (.index 0)).eval args s none [(x.toInt32 + 128).toNatClampNeg] s = cl.slots[(x.toInt32 + 128).toNatClampNeg]? := by
    rw [elem_f evi (j := (x.toInt32 + 128).toNatClampNeg.toInt32) rfl hat hnn, hback]
  have hex' : (Cond.exactly (Term.elem (Term.static "java/lang/Long$LongCache" "cache" "[Ljava/lang/Long;") (.index 0)) "java/lang/Long").holds args s none s [(x.toInt32 + 128).toNatClampNeg] = true := by
    unfold Cond.holds; rw [hex]; rfl
  obtain ⟨e, cB, cellB, kB, heB, hcB, hcellB, hkB, hnsB, hclsB, hsB⟩ := Cond.exactly_spec hex'
  have hE : Exa s s.heap e "java/lang/Long" := ⟨cellB, kB, hcellB, by rw [hclsB]; exact hcB, by rw [hclsB]; exact hkB, hnsB, hsB⟩
  refine ⟨by rw [hsz256]; exact hbnd, e, evE.symm.trans heB, hE, ?_⟩
  have hsub : (Term.op1 .i2l (.sub (.index 0) (.int 128))).eval args s none [(x.toInt32 + 128).toNatClampNeg] s = some (.long x) := by
    conv => rhs; rw [← Jvm.Free.LongBox.place_valL x h1 h1']
    rfl
  obtain ⟨u, w, hu, hv, -, hk⟩ := cmp_v (Or.inl heq)
  obtain rfl := Option.some.inj (hv.symm.trans hsub)
  obtain ⟨z, rfl⟩ := hk
  have hz : z = x := by
    have h' := heq
    simp [Cond.value, hu, hv] at h'
    exact h'
  subst hz
  exact Fld.start ((fld_at heB).symm.trans hu)
theorem pd_0 : parseMethodDescriptor "(J)Ljava/lang/Long;" = some ⟨[.long], some (.object "java/lang/Long")⟩ := by decide +kernel
theorem pd_1 : parseMethodDescriptor "(J)V" = some ⟨[.long], none⟩ := by decide +kernel
theorem pd_2 : parseMethodDescriptor "()V" = some ⟨[], none⟩ := by decide +kernel
theorem pd_3 : parseMethodDescriptor "(JLjava/lang/Long;)Ljava/lang/Long;" = some ⟨[.long, (.object "java/lang/Long")], some (.object "java/lang/Long")⟩ := by decide +kernel
theorem pd_4 : parseMethodDescriptor "()J" = some ⟨[], some .long⟩ := by decide +kernel
theorem d3_0 : decode jdk_18_method_1_code 0 = .ok (.aload_n 0, 1) := by decide +kernel
theorem d3_1 : decode jdk_18_method_1_code 1 = .ok (.invokespecial 1, 3) := by decide +kernel
theorem d3_4 : decode jdk_18_method_1_code 4 = .ok (.return_, 1) := by decide +kernel
theorem pn_3 : plainName "java/lang/Number" = true := by first | (simp [plainName, overriddenIn]; done) | decide +kernel
theorem ef_rm3 (m : MethodId) (a : Addr) : entryFrame m #[(.ref a)] 1 = mkF m 0 #[.val (.ref a)] [] := by first | (simp [entryFrame, mkF, argsToLocals, Value.category]; done) | rfl
def Q_rm3 (Z : State) (a : Addr) (h0 : Heap) (n0 : Nat) (v : Option Value) (h : Heap) (L : List Loc) : Prop := v = none ∧ Fr n0 L ∧ h = h0
set_option maxRecDepth 65536 in
set_option maxHeartbeats 40000000 in
theorem rm3 (l : Launch) (Z : State) (a0 : Array Value) (hw : ∀ d ∈ tables_1, d.before a0 Z = true) (ws : List Jvm.Cond) (a : Addr) (h0 : Heap) (n0 : Nat) (Z0 : n0 ≤ h0.size) :
    MetFree l (⟨"java/lang/Number", "<init>", "()V"⟩ : MethodName) (head1 (Jvm.Cond.code (⟨"java/lang/Number", "<init>", "()V"⟩ : MethodName) jdk_18_method_1_code 1 none :: ws) ({ frames := 1, cells := 0, slots := 0, locals := 12 } : Room)) (fun as₉ U => as₉ = #[(.ref a)] ∧ Z.Warmed39 U.vm ∧ U.heap = h0) (fun _ _ _ _ _ => True) (fun _ U o₉ U' => ∃ v L, o₉ = .returned v ∧ Q_rm3 Z a h0 n0 v U'.heap L ∧ FrameEnd U o₉ U' L ({ frames := 1, cells := 0, slots := 0, locals := 12 } : Room).cells ({ frames := 1, cells := 0, slots := 0, locals := 12 } : Room).slots) := by
  refine MetFree.of_bodySF (plainFor_of_name pn_3) hisR ?_
  intro p e s m args below meth c s₁ Bd hml0 hP hK
  obtain ⟨rfl, hZ, hh⟩ := hP
  have hx := Bd.exec
  have hby := Bd.bytes
  have hml : c.maxLocals = 1 := hml0
  have hown : s.vm.findClass "java/lang/Number" = some m.cls := findClass_of_methodNamed Bd.named
  have hnm := (name_of_methodNamed Bd.named Bd.method).1
  have X0 : Stand p l e ({ frames := 1, cells := 0, slots := 0, locals := 12 } : Room) s m #[(.ref a)] below meth c s₁ [] 0 0 := Stand.of_body Bd
  have e0 : s₁.heap = h0 := by rw [← hh, Bd.state]; rfl
  have N0 := Fr.nil n0
  show own_Go p e below (fun s₂ o₉ => s₂.status = .running ∧ Ended s₂ below o₉ ∧ ∃ v L, o₉ = .returned v ∧ Q_rm3 Z a h0 n0 v s₂.heap L ∧ FrameEnd s o₉ s₂ L ({ frames := 1, cells := 0, slots := 0, locals := 12 } : Room).cells ({ frames := 1, cells := 0, slots := 0, locals := 12 } : Room).slots) (s₁.setTop (entryFrame m #[(.ref a)] 1))
  rw [ef_rm3 m a]
  refine own_step (s₁.setTop (mkF m 1 #[.val (.ref a)] [(.ref a)])) (fun t₀ k₀ => XS.aloadN X0.here hx rfl (hb hby d3_0) rfl rfl k₀) ?_
  obtain ⟨T1, X1, e1, st1⟩ := initO X0 hx hZ hown (hw _ (List.mem_of_getElem? (i := 21) rfl)) (hw _ (List.mem_of_getElem? (i := 22) rfl)) (hw _ (List.mem_of_getElem? (i := 23) rfl)) e0 (g := (mkF m 1 #[.val (.ref a)] [(.ref a)])) rfl (by rw [hml]; rfl) rfl (hb hby d3_1) (by decide) (W := 0) (by show 2 * 0 + _ ≤ _; exact Nat.le_of_eq rfl) (by decide)
  refine own_step (T1.setTop (mkF m 4 #[.val (.ref a)] [])) (fun t₀ k₀ => st1 t₀ k₀) ?_
  obtain ⟨fs, hr, hrun, hended, hW, hsame⟩ := X1.leave (v := none) (fun _ => rfl)
  refine ⟨_, _, ?_, hrun, hended, _, _, rfl, ?_, ⟨_, rfl⟩, hW, hsame.mono (by decide) (by decide)⟩
  · exact X1.returnOut hx Bd.returns (hb hby d3_4) hr
  · show Q_rm3 Z a h0 n0 _ T1.heap _
    rw [e1]
    exact ⟨rfl, N0, rfl⟩
theorem d2_0 : decode jdk_35_method_26_code 0 = .ok (.aload_n 0, 1) := by decide +kernel
theorem d2_1 : decode jdk_35_method_26_code 1 = .ok (.invokespecial 270, 3) := by decide +kernel
theorem d2_4 : decode jdk_35_method_26_code 4 = .ok (.aload_n 0, 1) := by decide +kernel
theorem d2_5 : decode jdk_35_method_26_code 5 = .ok (.lload_n 1, 1) := by decide +kernel
theorem d2_6 : decode jdk_35_method_26_code 6 = .ok (.putfield 273, 3) := by decide +kernel
theorem d2_9 : decode jdk_35_method_26_code 9 = .ok (.return_, 1) := by decide +kernel
theorem pn_2 : plainName "java/lang/Long" = true := by first | (simp [plainName, overriddenIn]; done) | decide +kernel
theorem ef_rm2 (m : MethodId) (a : Addr) (x1 : Int64) : entryFrame m #[(.ref a), (.long x1)] 3 = mkF m 0 #[.val (.ref a), .val (.long x1), .second] [] := by first | (simp [entryFrame, mkF, argsToLocals, Value.category]; done) | rfl
def Q_rm2 (Z : State) (a : Addr) (x1 : Int64) (u1 : Int64) (h0 : Heap) (n0 : Nat) (v : Option Value) (h : Heap) (L : List Loc) : Prop := v = none ∧ Fr n0 L ∧ Keep h0 h [a] ∧ Exa Z h a "java/lang/Long" ∧ Fld Z h a "java/lang/Long" "value" "J" (.long x1)
set_option maxRecDepth 65536 in
set_option maxHeartbeats 40000000 in
theorem rm2 (l : Launch) (Z : State) (a0 : Array Value) (hw : ∀ d ∈ tables_1, d.before a0 Z = true) (ws : List Jvm.Cond) (a : Addr) (x1 : Int64) (u1 : Int64) (h0 : Heap) (n0 : Nat) (Z0 : n0 ≤ h0.size) (Ea : Exa Z h0 a "java/lang/Long") (Fv : Fld Z h0 a "java/lang/Long" "value" "J" (.long u1)) (ga : n0 ≤ a) :
    MetFree l (⟨"java/lang/Long", "<init>", "(J)V"⟩ : MethodName) (head1 (Jvm.Cond.code (⟨"java/lang/Long", "<init>", "(J)V"⟩ : MethodName) jdk_35_method_26_code 3 none :: ws) ({ frames := 2, cells := 0, slots := 0, locals := 24 } : Room)) (fun as₉ U => as₉ = #[(.ref a), (.long x1)] ∧ Z.Warmed39 U.vm ∧ U.heap = h0) (fun _ _ _ _ _ => True) (fun _ U o₉ U' => ∃ v L, o₉ = .returned v ∧ Q_rm2 Z a x1 u1 h0 n0 v U'.heap L ∧ FrameEnd U o₉ U' L ({ frames := 2, cells := 0, slots := 0, locals := 24 } : Room).cells ({ frames := 2, cells := 0, slots := 0, locals := 24 } : Room).slots) := by
  refine MetFree.of_bodySF (plainFor_of_name pn_2) hisR ?_
  intro p e s m args below meth c s₁ Bd hml0 hP hK
  obtain ⟨rfl, hZ, hh⟩ := hP
  have hx := Bd.exec
  have hby := Bd.bytes
  have hml : c.maxLocals = 3 := hml0
  have hown : s.vm.findClass "java/lang/Long" = some m.cls := findClass_of_methodNamed Bd.named
  have hnm := (name_of_methodNamed Bd.named Bd.method).1
  have X0 : Stand p l e ({ frames := 2, cells := 0, slots := 0, locals := 24 } : Room) s m #[(.ref a), (.long x1)] below meth c s₁ [] 0 0 := Stand.of_body Bd
  have e0 : s₁.heap = h0 := by rw [← hh, Bd.state]; rfl
  have N0 := Fr.nil n0
  show own_Go p e below (fun s₂ o₉ => s₂.status = .running ∧ Ended s₂ below o₉ ∧ ∃ v L, o₉ = .returned v ∧ Q_rm2 Z a x1 u1 h0 n0 v s₂.heap L ∧ FrameEnd s o₉ s₂ L ({ frames := 2, cells := 0, slots := 0, locals := 24 } : Room).cells ({ frames := 2, cells := 0, slots := 0, locals := 24 } : Room).slots) (s₁.setTop (entryFrame m #[(.ref a), (.long x1)] 3))
  rw [ef_rm2 m a x1]
  refine own_step (s₁.setTop (mkF m 1 #[.val (.ref a), .val (.long x1), .second] [(.ref a)])) (fun t₀ k₀ => XS.aloadN X0.here hx rfl (hb hby d2_0) rfl rfl k₀) ?_
  obtain ⟨_, _, ⟨T2, L2, k2, n2⟩, -, X2, ⟨Lc2, hQ2, l2, y2, z2⟩, st2⟩ := X0.specialBack hx (y := (⟨"java/lang/Number", "<init>", "()V"⟩ : MethodName)) rfl hown (mvT hZ (hw _ (List.mem_of_getElem? (i := 15) rfl))) (mvT hZ (hw _ (List.mem_of_getElem? (i := 16) rfl))) (mvT hZ (hw _ (List.mem_of_getElem? (i := 20) rfl))) (by decide) (backOf (W := 0) (rm3 l Z a0 hw [] a h0 n0 Z0) hZ (hw _ (List.mem_of_getElem? (i := 20) rfl)) (hw _ (List.mem_of_getElem? (i := 19) rfl)) (by decide) (by decide)) (g := (mkF m 1 #[.val (.ref a), .val (.long x1), .second] [(.ref a)])) rfl (by rw [hml]; rfl) (Steps.refl _) (a := a) (argsL := []) (rest := []) (lenOf pd_2 rfl) rfl (by show 2 * 0 + _ ≤ _; exact Nat.le_of_eq rfl) (hb hby d2_1) (fun _ _ => ⟨rfl, e0, (by decide : 0 + 0 ≤ _), (by decide : 0 + 0 ≤ _)⟩)
  dsimp only [Pt.U, Pt.locs, Pt.cells, Pt.slots] at X2 l2 y2 z2 st2 hQ2
  subst l2 y2 z2
  obtain ⟨rfl, N2q, e2⟩ := hQ2
  have N2 := Fr.app N0 N2q
  refine own_comes (T2.setTop (mkF m 4 #[.val (.ref a), .val (.long x1), .second] [])) st2 ?_
  refine own_step (T2.setTop (mkF m 5 #[.val (.ref a), .val (.long x1), .second] [(.ref a)])) (fun t₀ k₀ => XS.aloadN X2.here hx rfl (hb hby d2_4) rfl rfl k₀) ?_
  refine own_step (T2.setTop (mkF m 6 #[.val (.ref a), .val (.long x1), .second] [(.long x1), (.ref a)])) (fun t₀ k₀ => XS.lloadN X2.here hx rfl (hb hby d2_5) rfl k₀) ?_
  obtain ⟨T3, h3, X3, e3, W3, st3⟩ := putF X2 hx hZ hown (host := "") (Or.inl (hw _ (List.mem_of_getElem? (i := 24) rfl))) Via.refl e2 Fv Ea (Or.inr ⟨(hw _ (List.mem_of_getElem? (i := 25) rfl)), rfl, hnm⟩) (hw _ (List.mem_of_getElem? (i := 10) rfl)) (ty := .long) (by decide) rfl rfl (g := (mkF m 6 #[.val (.ref a), .val (.long x1), .second] [(.long x1), (.ref a)])) rfl rfl (hb hby d2_6)
  have f4 : Fld Z h3 a "java/lang/Long" "value" "J" (.long x1) := Fv.same W3
  have f5 : Exa Z h3 a "java/lang/Long" := Ea.wr W3
  have N3 := Fr.snoc X3 N2 ga
  have z3 : n0 ≤ h3.size := Nat.le_trans Z0 (Keep.of_wr W3).1
  have K3 : Keep h0 h3 [a] := (Keep.refl h0 [a]).wr W3 (Or.inl (List.mem_of_getElem? (i := 0) rfl))
  refine own_step (T3.setTop (mkF m 9 #[.val (.ref a), .val (.long x1), .second] [])) (fun t₀ k₀ => st3 t₀ k₀) ?_
  obtain ⟨fs, hr, hrun, hended, hW, hsame⟩ := X3.leave (v := none) (fun _ => rfl)
  refine ⟨_, _, ?_, hrun, hended, _, _, rfl, ?_, ⟨_, rfl⟩, hW, hsame.mono (by decide) (by decide)⟩
  · exact X3.returnOut hx Bd.returns (hb hby d2_9) hr
  · show Q_rm2 Z a x1 u1 h0 n0 _ T3.heap _
    rw [e3]
    exact ⟨rfl, N3, K3, f5, f4⟩
theorem d1_0 : decode jdk_35_method_24_code 0 = .ok (.sipush 128, 3) := by decide +kernel
theorem d1_3 : decode jdk_35_method_24_code 3 = .ok (.istore_n 2, 1) := by decide +kernel
theorem d1_4 : decode jdk_35_method_24_code 4 = .ok (.lload_n 0, 1) := by decide +kernel
theorem d1_5 : decode jdk_35_method_24_code 5 = .ok (.ldc2_w 230, 3) := by decide +kernel
theorem d1_8 : decode jdk_35_method_24_code 8 = .ok (.lcmp, 1) := by decide +kernel
theorem d1_9 : decode jdk_35_method_24_code 9 = .ok (.ifCond .lt 22, 3) := by decide +kernel
theorem d1_12 : decode jdk_35_method_24_code 12 = .ok (.lload_n 0, 1) := by decide +kernel
theorem d1_13 : decode jdk_35_method_24_code 13 = .ok (.ldc2_w 232, 3) := by decide +kernel
theorem d1_16 : decode jdk_35_method_24_code 16 = .ok (.lcmp, 1) := by decide +kernel
theorem d1_17 : decode jdk_35_method_24_code 17 = .ok (.ifCond .gt 14, 3) := by decide +kernel
theorem d1_20 : decode jdk_35_method_24_code 20 = .ok (.getstatic 234, 3) := by decide +kernel
theorem d1_23 : decode jdk_35_method_24_code 23 = .ok (.lload_n 0, 1) := by decide +kernel
theorem d1_24 : decode jdk_35_method_24_code 24 = .ok (.l2i, 1) := by decide +kernel
theorem d1_25 : decode jdk_35_method_24_code 25 = .ok (.sipush 128, 3) := by decide +kernel
theorem d1_28 : decode jdk_35_method_24_code 28 = .ok (.iadd, 1) := by decide +kernel
theorem d1_29 : decode jdk_35_method_24_code 29 = .ok (.aaload, 1) := by decide +kernel
theorem d1_30 : decode jdk_35_method_24_code 30 = .ok (.areturn, 1) := by decide +kernel
theorem d1_31 : decode jdk_35_method_24_code 31 = .ok (.new 1, 3) := by decide +kernel
theorem d1_34 : decode jdk_35_method_24_code 34 = .ok (.dup, 1) := by decide +kernel
theorem d1_35 : decode jdk_35_method_24_code 35 = .ok (.lload_n 0, 1) := by decide +kernel
theorem d1_36 : decode jdk_35_method_24_code 36 = .ok (.invokespecial 240, 3) := by decide +kernel
theorem d1_39 : decode jdk_35_method_24_code 39 = .ok (.areturn, 1) := by decide +kernel
theorem ef_rm1 (m : MethodId) (x1 : Int64) : entryFrame m #[(.long x1)] 3 = mkF m 0 #[.val (.long x1), .second, .unset] [] := by first | (simp [entryFrame, mkF, argsToLocals, Value.category]; done) | rfl
def Q_rm1 (Z : State) (x1 : Int64) (ca : Addr) (h0 : Heap) (n0 : Nat) (v : Option Value) (h : Heap) (L : List Loc) : Prop := ∃ b : Addr, v = some (.ref b) ∧ Fr n0 L ∧ Keep h0 h [] ∧ Exa Z h b "java/lang/Long" ∧ Fld Z h b "java/lang/Long" "value" "J" (.long x1)
set_option maxRecDepth 65536 in
set_option maxHeartbeats 40000000 in
theorem rm1 (l : Launch) (Z : State) (a0 : Array Value) (hw : ∀ d ∈ tables_1, d.before a0 Z = true) (ws : List Jvm.Cond) (x1 : Int64) (ca : Addr) (h0 : Heap) (n0 : Nat) (Z0 : n0 ≤ h0.size) (Sc : Sta Z h0 "java/lang/Long$LongCache" "cache" "[Ljava/lang/Long;" (.ref ca)) (Oc : own_Cache Z h0 ca) :
    MetFree l (⟨"java/lang/Long", "valueOf", "(J)Ljava/lang/Long;"⟩ : MethodName) (head1 (Jvm.Cond.code (⟨"java/lang/Long", "valueOf", "(J)Ljava/lang/Long;"⟩ : MethodName) jdk_35_method_24_code 3 (some (.object "java/lang/Long")) :: ws) ({ frames := 3, cells := 1, slots := 1, locals := 39 } : Room)) (fun as₉ U => as₉ = #[(.long x1)] ∧ Z.Warmed39 U.vm ∧ U.heap = h0) (fun _ _ _ _ _ => True) (fun _ U o₉ U' => ∃ v L, o₉ = .returned v ∧ Q_rm1 Z x1 ca h0 n0 v U'.heap L ∧ FrameEnd U o₉ U' L ({ frames := 3, cells := 1, slots := 1, locals := 39 } : Room).cells ({ frames := 3, cells := 1, slots := 1, locals := 39 } : Room).slots) := by
  refine MetFree.of_bodySF (plainFor_of_name pn_2) hisR ?_
  intro p e s m args below meth c s₁ Bd hml0 hP hK
  obtain ⟨rfl, hZ, hh⟩ := hP
  have hx := Bd.exec
  have hby := Bd.bytes
  have hml : c.maxLocals = 3 := hml0
  have hown : s.vm.findClass "java/lang/Long" = some m.cls := findClass_of_methodNamed Bd.named
  have hnm := (name_of_methodNamed Bd.named Bd.method).1
  have X0 : Stand p l e ({ frames := 3, cells := 1, slots := 1, locals := 39 } : Room) s m #[(.long x1)] below meth c s₁ [] 0 0 := Stand.of_body Bd
  have e0 : s₁.heap = h0 := by rw [← hh, Bd.state]; rfl
  have N0 := Fr.nil n0
  show own_Go p e below (fun s₂ o₉ => s₂.status = .running ∧ Ended s₂ below o₉ ∧ ∃ v L, o₉ = .returned v ∧ Q_rm1 Z x1 ca h0 n0 v s₂.heap L ∧ FrameEnd s o₉ s₂ L ({ frames := 3, cells := 1, slots := 1, locals := 39 } : Room).cells ({ frames := 3, cells := 1, slots := 1, locals := 39 } : Room).slots) (s₁.setTop (entryFrame m #[(.long x1)] 3))
  rw [ef_rm1 m x1]
  refine own_step (s₁.setTop (mkF m 3 #[.val (.long x1), .second, .unset] [(.int (128 : Int32))])) (fun t₀ k₀ => XS.sipush X0.here hx rfl (hb hby d1_0) k₀) ?_
  refine own_step (s₁.setTop (mkF m 4 #[.val (.long x1), .second, .val (.int (128 : Int32))] [])) (fun t₀ k₀ => XS.istoreN X0.here hx rfl (hb hby d1_3) rfl (l' := #[.val (.long x1), .second, .val (.int (128 : Int32))]) rfl k₀) ?_
  refine own_step (s₁.setTop (mkF m 5 #[.val (.long x1), .second, .val (.int (128 : Int32))] [(.long x1)])) (fun t₀ k₀ => XS.lloadN X0.here hx rfl (hb hby d1_4) rfl k₀) ?_
  refine own_step (s₁.setTop (mkF m 8 #[.val (.long x1), .second, .val (.int (128 : Int32))] [(.long (-128 : Int64)), (.long x1)])) (fun t₀ k₀ => X0.ldc2Long hx hown (mvT hZ (hw _ (List.mem_of_getElem? (i := 8) rfl))) (g := (mkF m 5 #[.val (.long x1), .second, .val (.int (128 : Int32))] [(.long x1)])) rfl (hb hby d1_5) _ k₀) ?_
  refine own_step (s₁.setTop (mkF m 9 #[.val (.long x1), .second, .val (.int (128 : Int32))] [(.int (lcmpW x1 (-128 : Int64)))])) (fun t₀ k₀ => XS.lcmp X0.here hx rfl (hb hby d1_8) rfl k₀) ?_
  by_cases hc9 : x1 < (-128 : Int64)
  · skip
    refine own_step (s₁.setTop (mkF m 31 #[.val (.long x1), .second, .val (.int (128 : Int32))] [])) (fun t₀ k₀ => XS.ifYes X0.here hx rfl (pc0 := 9) (pc' := 31) rfl (hb hby d1_9) rfl (own_lltT hc9) (by decide) (by decide) k₀) ?_
    obtain ⟨T6, h6, X6, e6, E6, A6, D6, -, st6⟩ := newO X0 hx hZ hown (hw _ (List.mem_of_getElem? (i := 9) rfl)) (hw _ (List.mem_of_getElem? (i := 10) rfl)) (hw _ (List.mem_of_getElem? (i := 6) rfl)) e0 (g := (mkF m 31 #[.val (.long x1), .second, .val (.int (128 : Int32))] [])) rfl (hb hby d1_31) (by decide) (by decide)
    obtain ⟨b6, g6⟩ : ∃ z, z = h0.size := ⟨_, rfl⟩
    rw [← g6] at A6 D6 st6
    have fr_b6 : n0 ≤ b6 := Nat.le_trans Z0 (Nat.le_of_eq g6.symm)
    have sz_b6 : h0.size ≤ b6 := Nat.le_trans (Keep.refl h0 []).1 (Nat.le_of_eq g6.symm)
    have f7 : Fld Z h6 b6 "java/lang/Long" "value" "J" (.long (0 : Int64)) := D6 (Or.inr (hw _ (List.mem_of_getElem? (i := 25) rfl))) (ty := .long) (by decide)
    have z6 : n0 ≤ h6.size := Nat.le_trans Z0 E6.1
    have K6 : Keep h0 h6 [] := (Keep.refl h0 []).ext E6
    refine own_step (T6.setTop (mkF m 34 #[.val (.long x1), .second, .val (.int (128 : Int32))] [(.ref b6)])) (fun t₀ k₀ => st6 t₀ k₀) ?_
    refine own_step (T6.setTop (mkF m 35 #[.val (.long x1), .second, .val (.int (128 : Int32))] [(.ref b6), (.ref b6)])) (fun t₀ k₀ => XS.dup X6.here hx rfl (hb hby d1_34) rfl rfl k₀) ?_
    refine own_step (T6.setTop (mkF m 36 #[.val (.long x1), .second, .val (.int (128 : Int32))] [(.long x1), (.ref b6), (.ref b6)])) (fun t₀ k₀ => XS.lloadN X6.here hx rfl (hb hby d1_35) rfl k₀) ?_
    obtain ⟨_, _, ⟨T8, L8, k8, n8⟩, -, X8, ⟨Lc8, hQ8, l8, y8, z8⟩, st8⟩ := X6.specialBack hx (y := (⟨"java/lang/Long", "<init>", "(J)V"⟩ : MethodName)) rfl hown (mvT hZ (hw _ (List.mem_of_getElem? (i := 11) rfl))) (mvT hZ (hw _ (List.mem_of_getElem? (i := 12) rfl))) (mvT hZ (hw _ (List.mem_of_getElem? (i := 14) rfl))) (by decide) (backOf (W := 1) (rm2 l Z a0 hw [] b6 x1 (0 : Int64) h6 n0 z6 A6 f7 fr_b6) hZ (hw _ (List.mem_of_getElem? (i := 14) rfl)) (hw _ (List.mem_of_getElem? (i := 6) rfl)) (by decide) (by decide)) (g := (mkF m 36 #[.val (.long x1), .second, .val (.int (128 : Int32))] [(.long x1), (.ref b6), (.ref b6)])) rfl (by rw [hml]; rfl) (Steps.refl _) (a := b6) (argsL := [(.long x1)]) (rest := [(.ref b6)]) (lenOf pd_1 rfl) rfl (by show 2 * 0 + _ ≤ _; exact Nat.le_of_eq rfl) (hb hby d1_36) (fun _ _ => ⟨rfl, e6, (by decide : 1 + 0 ≤ _), (by decide : 1 + 0 ≤ _)⟩)
    dsimp only [Pt.U, Pt.locs, Pt.cells, Pt.slots] at X8 l8 y8 z8 st8 hQ8
    subst l8 y8 z8
    obtain ⟨rfl, N8q, K8, f9, f10⟩ := hQ8
    have N8 := Fr.app N0 N8q
    have f11 : Exa Z T8.heap b6 "java/lang/Long" := A6.keep K8
    have z8' : n0 ≤ T8.heap.size := Nat.le_trans z6 K8.1
    have K8' : Keep h0 T8.heap [] := K6.trans K8 (allS (Or.inr sz_b6) all0)
    refine own_comes (T8.setTop (mkF m 39 #[.val (.long x1), .second, .val (.int (128 : Int32))] [(.ref b6)])) st8 ?_
    obtain ⟨fs, hr, hrun, hended, hW, hsame⟩ := X8.leave (v := some (.ref b6)) (fun h => by rw [Bd.returns] at h; cases h)
    refine ⟨_, _, ?_, hrun, hended, _, _, rfl, ?_, ⟨_, rfl⟩, hW, hsame.mono (by decide) (by decide)⟩
    · jvm_step X8.here [X8.here.top, hx, (hb hby d1_39), X8.method', Bd.returns, Value.isRef, FieldType.isReference]
      first | (intro acts; rw [hr _ acts rfl rfl rfl]) | rw [hr _ _ rfl rfl rfl]
      exact Steps.refl _
    · show Q_rm1 Z x1 ca h0 n0 _ T8.heap _
      exact ⟨b6, rfl, N8, K8', f9, f10⟩
  · skip
    refine own_step (s₁.setTop (mkF m 12 #[.val (.long x1), .second, .val (.int (128 : Int32))] [])) (fun t₀ k₀ => XS.ifNo X0.here hx rfl (hb hby d1_9) rfl (own_lltF hc9) k₀) ?_
    refine own_step (s₁.setTop (mkF m 13 #[.val (.long x1), .second, .val (.int (128 : Int32))] [(.long x1)])) (fun t₀ k₀ => XS.lloadN X0.here hx rfl (hb hby d1_12) rfl k₀) ?_
    refine own_step (s₁.setTop (mkF m 16 #[.val (.long x1), .second, .val (.int (128 : Int32))] [(.long (127 : Int64)), (.long x1)])) (fun t₀ k₀ => X0.ldc2Long hx hown (mvT hZ (hw _ (List.mem_of_getElem? (i := 41) rfl))) (g := (mkF m 13 #[.val (.long x1), .second, .val (.int (128 : Int32))] [(.long x1)])) rfl (hb hby d1_13) _ k₀) ?_
    refine own_step (s₁.setTop (mkF m 17 #[.val (.long x1), .second, .val (.int (128 : Int32))] [(.int (lcmpW x1 (127 : Int64)))])) (fun t₀ k₀ => XS.lcmp X0.here hx rfl (hb hby d1_16) rfl k₀) ?_
    by_cases hc17 : (127 : Int64) < x1
    · skip
      refine own_step (s₁.setTop (mkF m 31 #[.val (.long x1), .second, .val (.int (128 : Int32))] [])) (fun t₀ k₀ => XS.ifYes X0.here hx rfl (pc0 := 17) (pc' := 31) rfl (hb hby d1_17) rfl (own_lgtT hc17) (by decide) (by decide) k₀) ?_
      obtain ⟨T13, h13, X13, e13, E13, A13, D13, -, st13⟩ := newO X0 hx hZ hown (hw _ (List.mem_of_getElem? (i := 9) rfl)) (hw _ (List.mem_of_getElem? (i := 10) rfl)) (hw _ (List.mem_of_getElem? (i := 6) rfl)) e0 (g := (mkF m 31 #[.val (.long x1), .second, .val (.int (128 : Int32))] [])) rfl (hb hby d1_31) (by decide) (by decide)
      obtain ⟨b13, g13⟩ : ∃ z, z = h0.size := ⟨_, rfl⟩
      rw [← g13] at A13 D13 st13
      have fr_b13 : n0 ≤ b13 := Nat.le_trans Z0 (Nat.le_of_eq g13.symm)
      have sz_b13 : h0.size ≤ b13 := Nat.le_trans (Keep.refl h0 []).1 (Nat.le_of_eq g13.symm)
      have f14 : Fld Z h13 b13 "java/lang/Long" "value" "J" (.long (0 : Int64)) := D13 (Or.inr (hw _ (List.mem_of_getElem? (i := 25) rfl))) (ty := .long) (by decide)
      have z13 : n0 ≤ h13.size := Nat.le_trans Z0 E13.1
      have K13 : Keep h0 h13 [] := (Keep.refl h0 []).ext E13
      refine own_step (T13.setTop (mkF m 34 #[.val (.long x1), .second, .val (.int (128 : Int32))] [(.ref b13)])) (fun t₀ k₀ => st13 t₀ k₀) ?_
      refine own_step (T13.setTop (mkF m 35 #[.val (.long x1), .second, .val (.int (128 : Int32))] [(.ref b13), (.ref b13)])) (fun t₀ k₀ => XS.dup X13.here hx rfl (hb hby d1_34) rfl rfl k₀) ?_
      refine own_step (T13.setTop (mkF m 36 #[.val (.long x1), .second, .val (.int (128 : Int32))] [(.long x1), (.ref b13), (.ref b13)])) (fun t₀ k₀ => XS.lloadN X13.here hx rfl (hb hby d1_35) rfl k₀) ?_
      obtain ⟨_, _, ⟨T15, L15, k15, n15⟩, -, X15, ⟨Lc15, hQ15, l15, y15, z15⟩, st15⟩ := X13.specialBack hx (y := (⟨"java/lang/Long", "<init>", "(J)V"⟩ : MethodName)) rfl hown (mvT hZ (hw _ (List.mem_of_getElem? (i := 11) rfl))) (mvT hZ (hw _ (List.mem_of_getElem? (i := 12) rfl))) (mvT hZ (hw _ (List.mem_of_getElem? (i := 14) rfl))) (by decide) (backOf (W := 1) (rm2 l Z a0 hw [] b13 x1 (0 : Int64) h13 n0 z13 A13 f14 fr_b13) hZ (hw _ (List.mem_of_getElem? (i := 14) rfl)) (hw _ (List.mem_of_getElem? (i := 6) rfl)) (by decide) (by decide)) (g := (mkF m 36 #[.val (.long x1), .second, .val (.int (128 : Int32))] [(.long x1), (.ref b13), (.ref b13)])) rfl (by rw [hml]; rfl) (Steps.refl _) (a := b13) (argsL := [(.long x1)]) (rest := [(.ref b13)]) (lenOf pd_1 rfl) rfl (by show 2 * 0 + _ ≤ _; exact Nat.le_of_eq rfl) (hb hby d1_36) (fun _ _ => ⟨rfl, e13, (by decide : 1 + 0 ≤ _), (by decide : 1 + 0 ≤ _)⟩)
      dsimp only [Pt.U, Pt.locs, Pt.cells, Pt.slots] at X15 l15 y15 z15 st15 hQ15
      subst l15 y15 z15
      obtain ⟨rfl, N15q, K15, f16, f17⟩ := hQ15
      have N15 := Fr.app N0 N15q
      have f18 : Exa Z T15.heap b13 "java/lang/Long" := A13.keep K15
      have z15' : n0 ≤ T15.heap.size := Nat.le_trans z13 K15.1
      have K15' : Keep h0 T15.heap [] := K13.trans K15 (allS (Or.inr sz_b13) all0)
      refine own_comes (T15.setTop (mkF m 39 #[.val (.long x1), .second, .val (.int (128 : Int32))] [(.ref b13)])) st15 ?_
      obtain ⟨fs, hr, hrun, hended, hW, hsame⟩ := X15.leave (v := some (.ref b13)) (fun h => by rw [Bd.returns] at h; cases h)
      refine ⟨_, _, ?_, hrun, hended, _, _, rfl, ?_, ⟨_, rfl⟩, hW, hsame.mono (by decide) (by decide)⟩
      · jvm_step X15.here [X15.here.top, hx, (hb hby d1_39), X15.method', Bd.returns, Value.isRef, FieldType.isReference]
        first | (intro acts; rw [hr _ acts rfl rfl rfl]) | rw [hr _ _ rfl rfl rfl]
        exact Steps.refl _
      · show Q_rm1 Z x1 ca h0 n0 _ T15.heap _
        exact ⟨b13, rfl, N15, K15', f16, f17⟩
    · skip
      refine own_step (s₁.setTop (mkF m 20 #[.val (.long x1), .second, .val (.int (128 : Int32))] [])) (fun t₀ k₀ => XS.ifNo X0.here hx rfl (hb hby d1_17) rfl (own_lgtF hc17) k₀) ?_
      obtain ⟨T20, X20, e20, st20⟩ := getS2 X0 hx hZ hown (host := "") (Or.inl (hw _ (List.mem_of_getElem? (i := 42) rfl))) Via.refl e0 Sc (g := (mkF m 20 #[.val (.long x1), .second, .val (.int (128 : Int32))] [])) rfl (hb hby d1_20)
      refine own_step (T20.setTop (mkF m 23 #[.val (.long x1), .second, .val (.int (128 : Int32))] [(.ref ca)])) (fun t₀ k₀ => st20 t₀ k₀) ?_
      refine own_step (T20.setTop (mkF m 24 #[.val (.long x1), .second, .val (.int (128 : Int32))] [(.long x1), (.ref ca)])) (fun t₀ k₀ => XS.lloadN X20.here hx rfl (hb hby d1_23) rfl k₀) ?_
      refine own_step (T20.setTop (mkF m 25 #[.val (.long x1), .second, .val (.int (128 : Int32))] [(.int (x1.toInt32)), (.ref ca)])) (fun t₀ k₀ => XS.l2i X20.here hx rfl (hb hby d1_24) rfl k₀) ?_
      refine own_step (T20.setTop (mkF m 28 #[.val (.long x1), .second, .val (.int (128 : Int32))] [(.int (128 : Int32)), (.int (x1.toInt32)), (.ref ca)])) (fun t₀ k₀ => XS.sipush X20.here hx rfl (hb hby d1_25) k₀) ?_
      refine own_step (T20.setTop (mkF m 29 #[.val (.long x1), .second, .val (.int (128 : Int32))] [(.int ((x1.toInt32) + (128 : Int32))), (.ref ca)])) (fun t₀ k₀ => XS.iadd X20.here hx rfl (hb hby d1_28) rfl k₀) ?_
      obtain ⟨clc21, Arc21, alc21⟩ := id Oc
      obtain ⟨hinc21, ec21, hatc21, Ec21, Fc21⟩ := alc21 _ hc9 hc17
      refine own_step (T20.setTop (mkF m 30 #[.val (.long x1), .second, .val (.int (128 : Int32))] [(.ref ec21)])) (fun t₀ k₀ => X20.aaload hx (j := ((x1.toInt32) + (128 : Int32))) (v := (.ref ec21)) (by rw [e20]; exact Arc21.1) (State.isArrayOf_alike hZ.alike Arc21.2.1) rfl Arc21.2.2 hinc21 hatc21 (g := (mkF m 29 #[.val (.long x1), .second, .val (.int (128 : Int32))] [(.int ((x1.toInt32) + (128 : Int32))), (.ref ca)])) rfl rfl (hb hby d1_29) _ k₀) ?_
      obtain ⟨fs, hr, hrun, hended, hW, hsame⟩ := X20.leave (v := some (.ref ec21)) (fun h => by rw [Bd.returns] at h; cases h)
      refine ⟨_, _, ?_, hrun, hended, _, _, rfl, ?_, ⟨_, rfl⟩, hW, hsame.mono (by decide) (by decide)⟩
      · jvm_step X20.here [X20.here.top, hx, (hb hby d1_30), X20.method', Bd.returns, Value.isRef, FieldType.isReference]
        first | (intro acts; rw [hr _ acts rfl rfl rfl]) | rw [hr _ _ rfl rfl rfl]
        exact Steps.refl _
      · show Q_rm1 Z x1 ca h0 n0 _ T20.heap _
        rw [e20]
        exact ⟨ec21, rfl, N0, (Keep.refl h0 []), Ec21, Fc21⟩
theorem d5_0 : decode prog_18_method_4_code 0 = .ok (.aconst_null, 1) := by decide +kernel
theorem d5_1 : decode prog_18_method_4_code 1 = .ok (.astore 4, 2) := by decide +kernel
theorem d5_3 : decode prog_18_method_4_code 3 = .ok (.aload_n 0, 1) := by decide +kernel
theorem d5_4 : decode prog_18_method_4_code 4 = .ok (.getstatic 3, 3) := by decide +kernel
theorem d5_7 : decode prog_18_method_4_code 7 = .ok (.if_acmp .ne 9, 3) := by decide +kernel
theorem d5_10 : decode prog_18_method_4_code 10 = .ok (.aload_n 3, 1) := by decide +kernel
theorem d5_11 : decode prog_18_method_4_code 11 = .ok (.astore 4, 2) := by decide +kernel
theorem d5_13 : decode prog_18_method_4_code 13 = .ok (.goto 16, 3) := by decide +kernel
theorem d5_16 : decode prog_18_method_4_code 16 = .ok (.aload_n 0, 1) := by decide +kernel
theorem d5_17 : decode prog_18_method_4_code 17 = .ok (.getstatic 7, 3) := by decide +kernel
theorem d5_20 : decode prog_18_method_4_code 20 = .ok (.if_acmp .ne 9, 3) := by decide +kernel
theorem d5_23 : decode prog_18_method_4_code 23 = .ok (.lload_n 1, 1) := by decide +kernel
theorem d5_24 : decode prog_18_method_4_code 24 = .ok (.invokestatic 32, 3) := by decide +kernel
theorem d5_27 : decode prog_18_method_4_code 27 = .ok (.astore 4, 2) := by decide +kernel
theorem d5_29 : decode prog_18_method_4_code 29 = .ok (.aload 4, 2) := by decide +kernel
theorem d5_31 : decode prog_18_method_4_code 31 = .ok (.areturn, 1) := by decide +kernel
theorem pn_5 : plainName "com/example/annalist/annalist/RemovalTimeStrategy" = true := by first | (simp [plainName, overriddenIn]; done) | decide +kernel
theorem ef_rm5_0_1 (m : MethodId) (x1 : Int64) (ad0 : Addr) : entryFrame m #[(.ref ad0), (.long x1), .null] 5 = mkF m 0 #[.val (.ref ad0), .val (.long x1), .second, .val .null, .unset] [] := by first | (simp [entryFrame, mkF, argsToLocals, Value.category]; done) | rfl
def Q_rm5_0_1 (Z : State) (x1 : Int64) (ad0 : Addr) (ad1 : Addr) (ad2 : Addr) (ca : Addr) (h0 : Heap) (n0 : Nat) (v : Option Value) (h : Heap) (L : List Loc) : Prop := v = some .null ∧ Fr n0 L ∧ h = h0
set_option maxRecDepth 65536 in
set_option maxHeartbeats 40000000 in
theorem rm5_0_1 (l : Launch) (Z : State) (a0 : Array Value) (hw : ∀ d ∈ tables_1, d.before a0 Z = true) (ws : List Jvm.Cond) (x1 : Int64) (ad0 : Addr) (ad1 : Addr) (ad2 : Addr) (ca : Addr) (h0 : Heap) (n0 : Nat) (Z0 : n0 ≤ h0.size) (S0 : Sta Z h0 "com/example/annalist/annalist/RemovalTimeStrategy" "END" "Lcom/example/annalist/annalist/RemovalTimeStrategy;" (.ref ad0)) (S1 : Sta Z h0 "com/example/annalist/annalist/RemovalTimeStrategy" "START" "Lcom/example/annalist/annalist/RemovalTimeStrategy;" (.ref ad1)) (S2 : Sta Z h0 "com/example/annalist/annalist/RemovalTimeStrategy" "NONE" "Lcom/example/annalist/annalist/RemovalTimeStrategy;" (.ref ad2)) (O0 : Fld Z h0 ad0 "java/lang/Enum" "ordinal" "I" (.int (0 : Int32))) (O1 : Fld Z h0 ad1 "java/lang/Enum" "ordinal" "I" (.int (1 : Int32))) (O2 : Fld Z h0 ad2 "java/lang/Enum" "ordinal" "I" (.int (2 : Int32))) (Sc : Sta Z h0 "java/lang/Long$LongCache" "cache" "[Ljava/lang/Long;" (.ref ca)) (Oc : own_Cache Z h0 ca) :
    MetFree l (⟨"com/example/annalist/annalist/RemovalTimeStrategy", "baseTime", "(JLjava/lang/Long;)Ljava/lang/Long;"⟩ : MethodName) (head1 (Jvm.Cond.code (⟨"com/example/annalist/annalist/RemovalTimeStrategy", "baseTime", "(JLjava/lang/Long;)Ljava/lang/Long;"⟩ : MethodName) prog_18_method_4_code 5 (some (.object "java/lang/Long")) :: ws) ({ frames := 0, cells := 0, slots := 0, locals := 0 } : Room)) (fun as₉ U => as₉ = #[(.ref ad0), (.long x1), .null] ∧ Z.Warmed39 U.vm ∧ U.heap = h0) (fun _ _ _ _ _ => True) (fun _ U o₉ U' => ∃ v L, o₉ = .returned v ∧ Q_rm5_0_1 Z x1 ad0 ad1 ad2 ca h0 n0 v U'.heap L ∧ FrameEnd U o₉ U' L ({ frames := 0, cells := 0, slots := 0, locals := 0 } : Room).cells ({ frames := 0, cells := 0, slots := 0, locals := 0 } : Room).slots) := by
  refine MetFree.of_bodySF (plainFor_of_name pn_5) hisR ?_
  intro p e s m args below meth c s₁ Bd hml0 hP hK
  obtain ⟨rfl, hZ, hh⟩ := hP
  have hx := Bd.exec
  have hby := Bd.bytes
  have hml : c.maxLocals = 5 := hml0
  have hown : s.vm.findClass "com/example/annalist/annalist/RemovalTimeStrategy" = some m.cls := findClass_of_methodNamed Bd.named
  have hnm := (name_of_methodNamed Bd.named Bd.method).1
  have X0 : Stand p l e ({ frames := 0, cells := 0, slots := 0, locals := 0 } : Room) s m #[(.ref ad0), (.long x1), .null] below meth c s₁ [] 0 0 := Stand.of_body Bd
  have e0 : s₁.heap = h0 := by rw [← hh, Bd.state]; rfl
  have N0 := Fr.nil n0
  show own_Go p e below (fun s₂ o₉ => s₂.status = .running ∧ Ended s₂ below o₉ ∧ ∃ v L, o₉ = .returned v ∧ Q_rm5_0_1 Z x1 ad0 ad1 ad2 ca h0 n0 v s₂.heap L ∧ FrameEnd s o₉ s₂ L ({ frames := 0, cells := 0, slots := 0, locals := 0 } : Room).cells ({ frames := 0, cells := 0, slots := 0, locals := 0 } : Room).slots) (s₁.setTop (entryFrame m #[(.ref ad0), (.long x1), .null] 5))
  rw [ef_rm5_0_1 m x1 ad0]
  refine own_step (s₁.setTop (mkF m 1 #[.val (.ref ad0), .val (.long x1), .second, .val .null, .unset] [.null])) (fun t₀ k₀ => XS.aconstNull X0.here hx rfl (hb hby d5_0) k₀) ?_
  refine own_step (s₁.setTop (mkF m 3 #[.val (.ref ad0), .val (.long x1), .second, .val .null, .val .null] [])) (fun t₀ k₀ => XS.astore X0.here hx rfl (hb hby d5_1) rfl rfl (l' := #[.val (.ref ad0), .val (.long x1), .second, .val .null, .val .null]) rfl k₀) ?_
  refine own_step (s₁.setTop (mkF m 4 #[.val (.ref ad0), .val (.long x1), .second, .val .null, .val .null] [(.ref ad0)])) (fun t₀ k₀ => XS.aloadN X0.here hx rfl (hb hby d5_3) rfl rfl k₀) ?_
  obtain ⟨T22, X22, e22, st22⟩ := getS2 X0 hx hZ hown (host := "") (Or.inl (hw _ (List.mem_of_getElem? (i := 31) rfl))) Via.refl e0 S0 (g := (mkF m 4 #[.val (.ref ad0), .val (.long x1), .second, .val .null, .val .null] [(.ref ad0)])) rfl (hb hby d5_4)
  refine own_step (T22.setTop (mkF m 7 #[.val (.ref ad0), .val (.long x1), .second, .val .null, .val .null] [(.ref ad0), (.ref ad0)])) (fun t₀ k₀ => st22 t₀ k₀) ?_
  refine own_step (T22.setTop (mkF m 10 #[.val (.ref ad0), .val (.long x1), .second, .val .null, .val .null] [])) (fun t₀ k₀ => Jvm.RoadKit.acmp (g := (mkF m 7 #[.val (.ref ad0), .val (.long x1), .second, .val .null, .val .null] [(.ref ad0), (.ref ad0)])) X22 hx rfl rfl rfl (pc0 := 7) (pc' := 10) (same := true) rfl (hb hby d5_7) rfl (decide_eq_true rfl) (by decide) (by decide) k₀) ?_
  refine own_step (T22.setTop (mkF m 11 #[.val (.ref ad0), .val (.long x1), .second, .val .null, .val .null] [.null])) (fun t₀ k₀ => XS.aloadN X22.here hx rfl (hb hby d5_10) rfl rfl k₀) ?_
  refine own_step (T22.setTop (mkF m 13 #[.val (.ref ad0), .val (.long x1), .second, .val .null, .val .null] [])) (fun t₀ k₀ => XS.astore X22.here hx rfl (hb hby d5_11) rfl rfl (l' := #[.val (.ref ad0), .val (.long x1), .second, .val .null, .val .null]) rfl k₀) ?_
  refine own_step (T22.setTop (mkF m 29 #[.val (.ref ad0), .val (.long x1), .second, .val .null, .val .null] [])) (fun t₀ k₀ => XS.goto X22.here hx rfl (pc0 := 13) (pc' := 29) rfl (hb hby d5_13) (by decide) (by decide) k₀) ?_
  refine own_step (T22.setTop (mkF m 31 #[.val (.ref ad0), .val (.long x1), .second, .val .null, .val .null] [.null])) (fun t₀ k₀ => XS.aload X22.here hx rfl (hb hby d5_29) rfl rfl k₀) ?_
  obtain ⟨fs, hr, hrun, hended, hW, hsame⟩ := X22.leave (v := some .null) (fun h => by rw [Bd.returns] at h; cases h)
  refine ⟨_, _, ?_, hrun, hended, _, _, rfl, ?_, ⟨_, rfl⟩, hW, hsame.mono (by decide) (by decide)⟩
  · jvm_step X22.here [X22.here.top, hx, (hb hby d5_31), X22.method', Bd.returns, Value.isRef, FieldType.isReference]
    first | (intro acts; rw [hr _ acts rfl rfl rfl]) | rw [hr _ _ rfl rfl rfl]
    exact Steps.refl _
  · show Q_rm5_0_1 Z x1 ad0 ad1 ad2 ca h0 n0 _ T22.heap _
    rw [e22]
    exact ⟨rfl, N0, rfl⟩
theorem ef_rm5_1_1 (m : MethodId) (x1 : Int64) (ad1 : Addr) : entryFrame m #[(.ref ad1), (.long x1), .null] 5 = mkF m 0 #[.val (.ref ad1), .val (.long x1), .second, .val .null, .unset] [] := by first | (simp [entryFrame, mkF, argsToLocals, Value.category]; done) | rfl
def Q_rm5_1_1 (Z : State) (x1 : Int64) (ad0 : Addr) (ad1 : Addr) (ad2 : Addr) (ca : Addr) (h0 : Heap) (n0 : Nat) (v : Option Value) (h : Heap) (L : List Loc) : Prop := ∃ b : Addr, v = some (.ref b) ∧ Fr n0 L ∧ Keep h0 h [] ∧ Exa Z h b "java/lang/Long" ∧ Fld Z h b "java/lang/Long" "value" "J" (.long x1)
set_option maxRecDepth 65536 in
set_option maxHeartbeats 40000000 in
theorem rm5_1_1 (l : Launch) (Z : State) (a0 : Array Value) (hw : ∀ d ∈ tables_1, d.before a0 Z = true) (ws : List Jvm.Cond) (x1 : Int64) (ad0 : Addr) (ad1 : Addr) (ad2 : Addr) (ca : Addr) (h0 : Heap) (n0 : Nat) (Z0 : n0 ≤ h0.size) (S0 : Sta Z h0 "com/example/annalist/annalist/RemovalTimeStrategy" "END" "Lcom/example/annalist/annalist/RemovalTimeStrategy;" (.ref ad0)) (S1 : Sta Z h0 "com/example/annalist/annalist/RemovalTimeStrategy" "START" "Lcom/example/annalist/annalist/RemovalTimeStrategy;" (.ref ad1)) (S2 : Sta Z h0 "com/example/annalist/annalist/RemovalTimeStrategy" "NONE" "Lcom/example/annalist/annalist/RemovalTimeStrategy;" (.ref ad2)) (O0 : Fld Z h0 ad0 "java/lang/Enum" "ordinal" "I" (.int (0 : Int32))) (O1 : Fld Z h0 ad1 "java/lang/Enum" "ordinal" "I" (.int (1 : Int32))) (O2 : Fld Z h0 ad2 "java/lang/Enum" "ordinal" "I" (.int (2 : Int32))) (Sc : Sta Z h0 "java/lang/Long$LongCache" "cache" "[Ljava/lang/Long;" (.ref ca)) (Oc : own_Cache Z h0 ca) :
    MetFree l (⟨"com/example/annalist/annalist/RemovalTimeStrategy", "baseTime", "(JLjava/lang/Long;)Ljava/lang/Long;"⟩ : MethodName) (head1 (Jvm.Cond.code (⟨"com/example/annalist/annalist/RemovalTimeStrategy", "baseTime", "(JLjava/lang/Long;)Ljava/lang/Long;"⟩ : MethodName) prog_18_method_4_code 5 (some (.object "java/lang/Long")) :: ws) ({ frames := 4, cells := 1, slots := 1, locals := 53 } : Room)) (fun as₉ U => as₉ = #[(.ref ad1), (.long x1), .null] ∧ Z.Warmed39 U.vm ∧ U.heap = h0) (fun _ _ _ _ _ => True) (fun _ U o₉ U' => ∃ v L, o₉ = .returned v ∧ Q_rm5_1_1 Z x1 ad0 ad1 ad2 ca h0 n0 v U'.heap L ∧ FrameEnd U o₉ U' L ({ frames := 4, cells := 1, slots := 1, locals := 53 } : Room).cells ({ frames := 4, cells := 1, slots := 1, locals := 53 } : Room).slots) := by
  refine MetFree.of_bodySF (plainFor_of_name pn_5) hisR ?_
  intro p e s m args below meth c s₁ Bd hml0 hP hK
  obtain ⟨rfl, hZ, hh⟩ := hP
  have hx := Bd.exec
  have hby := Bd.bytes
  have hml : c.maxLocals = 5 := hml0
  have hown : s.vm.findClass "com/example/annalist/annalist/RemovalTimeStrategy" = some m.cls := findClass_of_methodNamed Bd.named
  have hnm := (name_of_methodNamed Bd.named Bd.method).1
  have X0 : Stand p l e ({ frames := 4, cells := 1, slots := 1, locals := 53 } : Room) s m #[(.ref ad1), (.long x1), .null] below meth c s₁ [] 0 0 := Stand.of_body Bd
  have e0 : s₁.heap = h0 := by rw [← hh, Bd.state]; rfl
  have N0 := Fr.nil n0
  show own_Go p e below (fun s₂ o₉ => s₂.status = .running ∧ Ended s₂ below o₉ ∧ ∃ v L, o₉ = .returned v ∧ Q_rm5_1_1 Z x1 ad0 ad1 ad2 ca h0 n0 v s₂.heap L ∧ FrameEnd s o₉ s₂ L ({ frames := 4, cells := 1, slots := 1, locals := 53 } : Room).cells ({ frames := 4, cells := 1, slots := 1, locals := 53 } : Room).slots) (s₁.setTop (entryFrame m #[(.ref ad1), (.long x1), .null] 5))
  rw [ef_rm5_1_1 m x1 ad1]
  refine own_step (s₁.setTop (mkF m 1 #[.val (.ref ad1), .val (.long x1), .second, .val .null, .unset] [.null])) (fun t₀ k₀ => XS.aconstNull X0.here hx rfl (hb hby d5_0) k₀) ?_
  refine own_step (s₁.setTop (mkF m 3 #[.val (.ref ad1), .val (.long x1), .second, .val .null, .val .null] [])) (fun t₀ k₀ => XS.astore X0.here hx rfl (hb hby d5_1) rfl rfl (l' := #[.val (.ref ad1), .val (.long x1), .second, .val .null, .val .null]) rfl k₀) ?_
  refine own_step (s₁.setTop (mkF m 4 #[.val (.ref ad1), .val (.long x1), .second, .val .null, .val .null] [(.ref ad1)])) (fun t₀ k₀ => XS.aloadN X0.here hx rfl (hb hby d5_3) rfl rfl k₀) ?_
  obtain ⟨T23, X23, e23, st23⟩ := getS2 X0 hx hZ hown (host := "") (Or.inl (hw _ (List.mem_of_getElem? (i := 31) rfl))) Via.refl e0 S0 (g := (mkF m 4 #[.val (.ref ad1), .val (.long x1), .second, .val .null, .val .null] [(.ref ad1)])) rfl (hb hby d5_4)
  refine own_step (T23.setTop (mkF m 7 #[.val (.ref ad1), .val (.long x1), .second, .val .null, .val .null] [(.ref ad0), (.ref ad1)])) (fun t₀ k₀ => st23 t₀ k₀) ?_
  refine own_step (T23.setTop (mkF m 16 #[.val (.ref ad1), .val (.long x1), .second, .val .null, .val .null] [])) (fun t₀ k₀ => Jvm.RoadKit.acmp (g := (mkF m 7 #[.val (.ref ad1), .val (.long x1), .second, .val .null, .val .null] [(.ref ad0), (.ref ad1)])) X23 hx rfl rfl rfl (pc0 := 7) (pc' := 16) (same := false) rfl (hb hby d5_7) rfl (decide_eq_false fun q => (Fld.ne O1 O0 (own_vne (by decide))) (Value.ref.inj q)) (by decide) (by decide) k₀) ?_
  refine own_step (T23.setTop (mkF m 17 #[.val (.ref ad1), .val (.long x1), .second, .val .null, .val .null] [(.ref ad1)])) (fun t₀ k₀ => XS.aloadN X23.here hx rfl (hb hby d5_16) rfl rfl k₀) ?_
  obtain ⟨T24, X24, e24, st24⟩ := getS2 X23 hx hZ hown (host := "") (Or.inl (hw _ (List.mem_of_getElem? (i := 39) rfl))) Via.refl e23 S1 (g := (mkF m 17 #[.val (.ref ad1), .val (.long x1), .second, .val .null, .val .null] [(.ref ad1)])) rfl (hb hby d5_17)
  refine own_step (T24.setTop (mkF m 20 #[.val (.ref ad1), .val (.long x1), .second, .val .null, .val .null] [(.ref ad1), (.ref ad1)])) (fun t₀ k₀ => st24 t₀ k₀) ?_
  refine own_step (T24.setTop (mkF m 23 #[.val (.ref ad1), .val (.long x1), .second, .val .null, .val .null] [])) (fun t₀ k₀ => Jvm.RoadKit.acmp (g := (mkF m 20 #[.val (.ref ad1), .val (.long x1), .second, .val .null, .val .null] [(.ref ad1), (.ref ad1)])) X24 hx rfl rfl rfl (pc0 := 20) (pc' := 23) (same := true) rfl (hb hby d5_20) rfl (decide_eq_true rfl) (by decide) (by decide) k₀) ?_
  refine own_step (T24.setTop (mkF m 24 #[.val (.ref ad1), .val (.long x1), .second, .val .null, .val .null] [(.long x1)])) (fun t₀ k₀ => XS.lloadN X24.here hx rfl (hb hby d5_23) rfl k₀) ?_
  obtain ⟨_, _, ⟨T25, L25, k25, n25⟩, -, X25, ⟨Lc25, hQ25, l25, y25, z25⟩, st25⟩ := Jvm.LawKit.callS X24 hx (y := (⟨"java/lang/Long", "valueOf", "(J)Ljava/lang/Long;"⟩ : MethodName)) hown (mvT hZ (hw _ (List.mem_of_getElem? (i := 40) rfl))) (mvT hZ (hw _ (List.mem_of_getElem? (i := 5) rfl))) (mvT hZ (hw _ (List.mem_of_getElem? (i := 6) rfl))) (mvT hZ (hw _ (List.mem_of_getElem? (i := 7) rfl))) (by decide) (backOf (W := 0) (rm1 l Z a0 hw [] x1 ca h0 n0 Z0 Sc Oc) hZ (hw _ (List.mem_of_getElem? (i := 7) rfl)) (hw _ (List.mem_of_getElem? (i := 6) rfl)) (by decide) (by decide)) (g := (mkF m 24 #[.val (.ref ad1), .val (.long x1), .second, .val .null, .val .null] [(.long x1)])) rfl (by rw [hml]; rfl) (argsL := [(.long x1)]) (rest := []) (lenOf pd_0 rfl) rfl (by show 2 * 0 + _ ≤ _; exact Nat.le_of_eq rfl) (hb hby d5_24) (fun _ _ => ⟨rfl, e24, (by decide : 0 + 1 ≤ _), (by decide : 0 + 1 ≤ _)⟩)
  dsimp only [Pt.U, Pt.locs, Pt.cells, Pt.slots] at X25 l25 y25 z25 st25 hQ25
  subst l25 y25 z25
  obtain ⟨b26, rfl, N25q, K25, f27, f28⟩ := hQ25
  have N25 := Fr.app N0 N25q
  have f29 : Sta Z T25.heap "com/example/annalist/annalist/RemovalTimeStrategy" "END" "Lcom/example/annalist/annalist/RemovalTimeStrategy;" (.ref ad0) := own_sta_keep S0 K25 ns0
  have f30 : Sta Z T25.heap "com/example/annalist/annalist/RemovalTimeStrategy" "START" "Lcom/example/annalist/annalist/RemovalTimeStrategy;" (.ref ad1) := own_sta_keep S1 K25 ns0
  have f31 : Sta Z T25.heap "com/example/annalist/annalist/RemovalTimeStrategy" "NONE" "Lcom/example/annalist/annalist/RemovalTimeStrategy;" (.ref ad2) := own_sta_keep S2 K25 ns0
  have f32 : Fld Z T25.heap ad0 "java/lang/Enum" "ordinal" "I" (.int (0 : Int32)) := O0.keep K25 nin0
  have f33 : Fld Z T25.heap ad1 "java/lang/Enum" "ordinal" "I" (.int (1 : Int32)) := O1.keep K25 nin0
  have f34 : Fld Z T25.heap ad2 "java/lang/Enum" "ordinal" "I" (.int (2 : Int32)) := O2.keep K25 nin0
  have f35 : Sta Z T25.heap "java/lang/Long$LongCache" "cache" "[Ljava/lang/Long;" (.ref ca) := own_sta_keep Sc K25 ns0
  have f36 : own_Cache Z T25.heap ca := Oc.keep K25 nin0
  have z25' : n0 ≤ T25.heap.size := Nat.le_trans Z0 K25.1
  have K25' : Keep h0 T25.heap [] := (Keep.refl h0 []).trans K25 all0
  refine own_step (T25.setTop (mkF m 27 #[.val (.ref ad1), .val (.long x1), .second, .val .null, .val .null] [(.ref b26)])) (fun t₀ k₀ => st25 t₀ k₀) ?_
  refine own_step (T25.setTop (mkF m 29 #[.val (.ref ad1), .val (.long x1), .second, .val .null, .val (.ref b26)] [])) (fun t₀ k₀ => XS.astore X25.here hx rfl (hb hby d5_27) rfl rfl (l' := #[.val (.ref ad1), .val (.long x1), .second, .val .null, .val (.ref b26)]) rfl k₀) ?_
  refine own_step (T25.setTop (mkF m 31 #[.val (.ref ad1), .val (.long x1), .second, .val .null, .val (.ref b26)] [(.ref b26)])) (fun t₀ k₀ => XS.aload X25.here hx rfl (hb hby d5_29) rfl rfl k₀) ?_
  obtain ⟨fs, hr, hrun, hended, hW, hsame⟩ := X25.leave (v := some (.ref b26)) (fun h => by rw [Bd.returns] at h; cases h)
  refine ⟨_, _, ?_, hrun, hended, _, _, rfl, ?_, ⟨_, rfl⟩, hW, hsame.mono (by decide) (by decide)⟩
  · jvm_step X25.here [X25.here.top, hx, (hb hby d5_31), X25.method', Bd.returns, Value.isRef, FieldType.isReference]
    first | (intro acts; rw [hr _ acts rfl rfl rfl]) | rw [hr _ _ rfl rfl rfl]
    exact Steps.refl _
  · show Q_rm5_1_1 Z x1 ad0 ad1 ad2 ca h0 n0 _ T25.heap _
    exact ⟨b26, rfl, N25, K25', f27, f28⟩
theorem ef_rm5_2_1 (m : MethodId) (x1 : Int64) (ad2 : Addr) : entryFrame m #[(.ref ad2), (.long x1), .null] 5 = mkF m 0 #[.val (.ref ad2), .val (.long x1), .second, .val .null, .unset] [] := by first | (simp [entryFrame, mkF, argsToLocals, Value.category]; done) | rfl
def Q_rm5_2_1 (Z : State) (x1 : Int64) (ad0 : Addr) (ad1 : Addr) (ad2 : Addr) (ca : Addr) (h0 : Heap) (n0 : Nat) (v : Option Value) (h : Heap) (L : List Loc) : Prop := v = some .null ∧ Fr n0 L ∧ h = h0
set_option maxRecDepth 65536 in
set_option maxHeartbeats 40000000 in
theorem rm5_2_1 (l : Launch) (Z : State) (a0 : Array Value) (hw : ∀ d ∈ tables_1, d.before a0 Z = true) (ws : List Jvm.Cond) (x1 : Int64) (ad0 : Addr) (ad1 : Addr) (ad2 : Addr) (ca : Addr) (h0 : Heap) (n0 : Nat) (Z0 : n0 ≤ h0.size) (S0 : Sta Z h0 "com/example/annalist/annalist/RemovalTimeStrategy" "END" "Lcom/example/annalist/annalist/RemovalTimeStrategy;" (.ref ad0)) (S1 : Sta Z h0 "com/example/annalist/annalist/RemovalTimeStrategy" "START" "Lcom/example/annalist/annalist/RemovalTimeStrategy;" (.ref ad1)) (S2 : Sta Z h0 "com/example/annalist/annalist/RemovalTimeStrategy" "NONE" "Lcom/example/annalist/annalist/RemovalTimeStrategy;" (.ref ad2)) (O0 : Fld Z h0 ad0 "java/lang/Enum" "ordinal" "I" (.int (0 : Int32))) (O1 : Fld Z h0 ad1 "java/lang/Enum" "ordinal" "I" (.int (1 : Int32))) (O2 : Fld Z h0 ad2 "java/lang/Enum" "ordinal" "I" (.int (2 : Int32))) (Sc : Sta Z h0 "java/lang/Long$LongCache" "cache" "[Ljava/lang/Long;" (.ref ca)) (Oc : own_Cache Z h0 ca) :
    MetFree l (⟨"com/example/annalist/annalist/RemovalTimeStrategy", "baseTime", "(JLjava/lang/Long;)Ljava/lang/Long;"⟩ : MethodName) (head1 (Jvm.Cond.code (⟨"com/example/annalist/annalist/RemovalTimeStrategy", "baseTime", "(JLjava/lang/Long;)Ljava/lang/Long;"⟩ : MethodName) prog_18_method_4_code 5 (some (.object "java/lang/Long")) :: ws) ({ frames := 0, cells := 0, slots := 0, locals := 0 } : Room)) (fun as₉ U => as₉ = #[(.ref ad2), (.long x1), .null] ∧ Z.Warmed39 U.vm ∧ U.heap = h0) (fun _ _ _ _ _ => True) (fun _ U o₉ U' => ∃ v L, o₉ = .returned v ∧ Q_rm5_2_1 Z x1 ad0 ad1 ad2 ca h0 n0 v U'.heap L ∧ FrameEnd U o₉ U' L ({ frames := 0, cells := 0, slots := 0, locals := 0 } : Room).cells ({ frames := 0, cells := 0, slots := 0, locals := 0 } : Room).slots) := by
  refine MetFree.of_bodySF (plainFor_of_name pn_5) hisR ?_
  intro p e s m args below meth c s₁ Bd hml0 hP hK
  obtain ⟨rfl, hZ, hh⟩ := hP
  have hx := Bd.exec
  have hby := Bd.bytes
  have hml : c.maxLocals = 5 := hml0
  have hown : s.vm.findClass "com/example/annalist/annalist/RemovalTimeStrategy" = some m.cls := findClass_of_methodNamed Bd.named
  have hnm := (name_of_methodNamed Bd.named Bd.method).1
  have X0 : Stand p l e ({ frames := 0, cells := 0, slots := 0, locals := 0 } : Room) s m #[(.ref ad2), (.long x1), .null] below meth c s₁ [] 0 0 := Stand.of_body Bd
  have e0 : s₁.heap = h0 := by rw [← hh, Bd.state]; rfl
  have N0 := Fr.nil n0
  show own_Go p e below (fun s₂ o₉ => s₂.status = .running ∧ Ended s₂ below o₉ ∧ ∃ v L, o₉ = .returned v ∧ Q_rm5_2_1 Z x1 ad0 ad1 ad2 ca h0 n0 v s₂.heap L ∧ FrameEnd s o₉ s₂ L ({ frames := 0, cells := 0, slots := 0, locals := 0 } : Room).cells ({ frames := 0, cells := 0, slots := 0, locals := 0 } : Room).slots) (s₁.setTop (entryFrame m #[(.ref ad2), (.long x1), .null] 5))
  rw [ef_rm5_2_1 m x1 ad2]
  refine own_step (s₁.setTop (mkF m 1 #[.val (.ref ad2), .val (.long x1), .second, .val .null, .unset] [.null])) (fun t₀ k₀ => XS.aconstNull X0.here hx rfl (hb hby d5_0) k₀) ?_
  refine own_step (s₁.setTop (mkF m 3 #[.val (.ref ad2), .val (.long x1), .second, .val .null, .val .null] [])) (fun t₀ k₀ => XS.astore X0.here hx rfl (hb hby d5_1) rfl rfl (l' := #[.val (.ref ad2), .val (.long x1), .second, .val .null, .val .null]) rfl k₀) ?_
  refine own_step (s₁.setTop (mkF m 4 #[.val (.ref ad2), .val (.long x1), .second, .val .null, .val .null] [(.ref ad2)])) (fun t₀ k₀ => XS.aloadN X0.here hx rfl (hb hby d5_3) rfl rfl k₀) ?_
  obtain ⟨T37, X37, e37, st37⟩ := getS2 X0 hx hZ hown (host := "") (Or.inl (hw _ (List.mem_of_getElem? (i := 31) rfl))) Via.refl e0 S0 (g := (mkF m 4 #[.val (.ref ad2), .val (.long x1), .second, .val .null, .val .null] [(.ref ad2)])) rfl (hb hby d5_4)
  refine own_step (T37.setTop (mkF m 7 #[.val (.ref ad2), .val (.long x1), .second, .val .null, .val .null] [(.ref ad0), (.ref ad2)])) (fun t₀ k₀ => st37 t₀ k₀) ?_
  refine own_step (T37.setTop (mkF m 16 #[.val (.ref ad2), .val (.long x1), .second, .val .null, .val .null] [])) (fun t₀ k₀ => Jvm.RoadKit.acmp (g := (mkF m 7 #[.val (.ref ad2), .val (.long x1), .second, .val .null, .val .null] [(.ref ad0), (.ref ad2)])) X37 hx rfl rfl rfl (pc0 := 7) (pc' := 16) (same := false) rfl (hb hby d5_7) rfl (decide_eq_false fun q => (Fld.ne O2 O0 (own_vne (by decide))) (Value.ref.inj q)) (by decide) (by decide) k₀) ?_
  refine own_step (T37.setTop (mkF m 17 #[.val (.ref ad2), .val (.long x1), .second, .val .null, .val .null] [(.ref ad2)])) (fun t₀ k₀ => XS.aloadN X37.here hx rfl (hb hby d5_16) rfl rfl k₀) ?_
  obtain ⟨T38, X38, e38, st38⟩ := getS2 X37 hx hZ hown (host := "") (Or.inl (hw _ (List.mem_of_getElem? (i := 39) rfl))) Via.refl e37 S1 (g := (mkF m 17 #[.val (.ref ad2), .val (.long x1), .second, .val .null, .val .null] [(.ref ad2)])) rfl (hb hby d5_17)
  refine own_step (T38.setTop (mkF m 20 #[.val (.ref ad2), .val (.long x1), .second, .val .null, .val .null] [(.ref ad1), (.ref ad2)])) (fun t₀ k₀ => st38 t₀ k₀) ?_
  refine own_step (T38.setTop (mkF m 29 #[.val (.ref ad2), .val (.long x1), .second, .val .null, .val .null] [])) (fun t₀ k₀ => Jvm.RoadKit.acmp (g := (mkF m 20 #[.val (.ref ad2), .val (.long x1), .second, .val .null, .val .null] [(.ref ad1), (.ref ad2)])) X38 hx rfl rfl rfl (pc0 := 20) (pc' := 29) (same := false) rfl (hb hby d5_20) rfl (decide_eq_false fun q => (Fld.ne O2 O1 (own_vne (by decide))) (Value.ref.inj q)) (by decide) (by decide) k₀) ?_
  refine own_step (T38.setTop (mkF m 31 #[.val (.ref ad2), .val (.long x1), .second, .val .null, .val .null] [.null])) (fun t₀ k₀ => XS.aload X38.here hx rfl (hb hby d5_29) rfl rfl k₀) ?_
  obtain ⟨fs, hr, hrun, hended, hW, hsame⟩ := X38.leave (v := some .null) (fun h => by rw [Bd.returns] at h; cases h)
  refine ⟨_, _, ?_, hrun, hended, _, _, rfl, ?_, ⟨_, rfl⟩, hW, hsame.mono (by decide) (by decide)⟩
  · jvm_step X38.here [X38.here.top, hx, (hb hby d5_31), X38.method', Bd.returns, Value.isRef, FieldType.isReference]
    first | (intro acts; rw [hr _ acts rfl rfl rfl]) | rw [hr _ _ rfl rfl rfl]
    exact Steps.refl _
  · show Q_rm5_2_1 Z x1 ad0 ad1 ad2 ca h0 n0 _ T38.heap _
    rw [e38]
    exact ⟨rfl, N0, rfl⟩
theorem ef_rm5_0_0 (m : MethodId) (x1 : Int64) (en : Addr) (ad0 : Addr) : entryFrame m #[(.ref ad0), (.long x1), (.ref en)] 5 = mkF m 0 #[.val (.ref ad0), .val (.long x1), .second, .val (.ref en), .unset] [] := by first | (simp [entryFrame, mkF, argsToLocals, Value.category]; done) | rfl
def Q_rm5_0_0 (Z : State) (x1 : Int64) (en : Addr) (ad0 : Addr) (ad1 : Addr) (ad2 : Addr) (ca : Addr) (h0 : Heap) (n0 : Nat) (v : Option Value) (h : Heap) (L : List Loc) : Prop := v = some (.ref en) ∧ Fr n0 L ∧ h = h0
set_option maxRecDepth 65536 in
set_option maxHeartbeats 40000000 in
theorem rm5_0_0 (l : Launch) (Z : State) (a0 : Array Value) (hw : ∀ d ∈ tables_1, d.before a0 Z = true) (ws : List Jvm.Cond) (x1 : Int64) (en : Addr) (ad0 : Addr) (ad1 : Addr) (ad2 : Addr) (ca : Addr) (h0 : Heap) (n0 : Nat) (Z0 : n0 ≤ h0.size) (S0 : Sta Z h0 "com/example/annalist/annalist/RemovalTimeStrategy" "END" "Lcom/example/annalist/annalist/RemovalTimeStrategy;" (.ref ad0)) (S1 : Sta Z h0 "com/example/annalist/annalist/RemovalTimeStrategy" "START" "Lcom/example/annalist/annalist/RemovalTimeStrategy;" (.ref ad1)) (S2 : Sta Z h0 "com/example/annalist/annalist/RemovalTimeStrategy" "NONE" "Lcom/example/annalist/annalist/RemovalTimeStrategy;" (.ref ad2)) (O0 : Fld Z h0 ad0 "java/lang/Enum" "ordinal" "I" (.int (0 : Int32))) (O1 : Fld Z h0 ad1 "java/lang/Enum" "ordinal" "I" (.int (1 : Int32))) (O2 : Fld Z h0 ad2 "java/lang/Enum" "ordinal" "I" (.int (2 : Int32))) (Sc : Sta Z h0 "java/lang/Long$LongCache" "cache" "[Ljava/lang/Long;" (.ref ca)) (Oc : own_Cache Z h0 ca) :
    MetFree l (⟨"com/example/annalist/annalist/RemovalTimeStrategy", "baseTime", "(JLjava/lang/Long;)Ljava/lang/Long;"⟩ : MethodName) (head1 (Jvm.Cond.code (⟨"com/example/annalist/annalist/RemovalTimeStrategy", "baseTime", "(JLjava/lang/Long;)Ljava/lang/Long;"⟩ : MethodName) prog_18_method_4_code 5 (some (.object "java/lang/Long")) :: ws) ({ frames := 0, cells := 0, slots := 0, locals := 0 } : Room)) (fun as₉ U => as₉ = #[(.ref ad0), (.long x1), (.ref en)] ∧ Z.Warmed39 U.vm ∧ U.heap = h0) (fun _ _ _ _ _ => True) (fun _ U o₉ U' => ∃ v L, o₉ = .returned v ∧ Q_rm5_0_0 Z x1 en ad0 ad1 ad2 ca h0 n0 v U'.heap L ∧ FrameEnd U o₉ U' L ({ frames := 0, cells := 0, slots := 0, locals := 0 } : Room).cells ({ frames := 0, cells := 0, slots := 0, locals := 0 } : Room).slots) := by
  refine MetFree.of_bodySF (plainFor_of_name pn_5) hisR ?_
  intro p e s m args below meth c s₁ Bd hml0 hP hK
  obtain ⟨rfl, hZ, hh⟩ := hP
  have hx := Bd.exec
  have hby := Bd.bytes
  have hml : c.maxLocals = 5 := hml0
  have hown : s.vm.findClass "com/example/annalist/annalist/RemovalTimeStrategy" = some m.cls := findClass_of_methodNamed Bd.named
  have hnm := (name_of_methodNamed Bd.named Bd.method).1
  have X0 : Stand p l e ({ frames := 0, cells := 0, slots := 0, locals := 0 } : Room) s m #[(.ref ad0), (.long x1), (.ref en)] below meth c s₁ [] 0 0 := Stand.of_body Bd
  have e0 : s₁.heap = h0 := by rw [← hh, Bd.state]; rfl
  have N0 := Fr.nil n0
  show own_Go p e below (fun s₂ o₉ => s₂.status = .running ∧ Ended s₂ below o₉ ∧ ∃ v L, o₉ = .returned v ∧ Q_rm5_0_0 Z x1 en ad0 ad1 ad2 ca h0 n0 v s₂.heap L ∧ FrameEnd s o₉ s₂ L ({ frames := 0, cells := 0, slots := 0, locals := 0 } : Room).cells ({ frames := 0, cells := 0, slots := 0, locals := 0 } : Room).slots) (s₁.setTop (entryFrame m #[(.ref ad0), (.long x1), (.ref en)] 5))
  rw [ef_rm5_0_0 m x1 en ad0]
  refine own_step (s₁.setTop (mkF m 1 #[.val (.ref ad0), .val (.long x1), .second, .val (.ref en), .unset] [.null])) (fun t₀ k₀ => XS.aconstNull X0.here hx rfl (hb hby d5_0) k₀) ?_
  refine own_step (s₁.setTop (mkF m 3 #[.val (.ref ad0), .val (.long x1), .second, .val (.ref en), .val .null] [])) (fun t₀ k₀ => XS.astore X0.here hx rfl (hb hby d5_1) rfl rfl (l' := #[.val (.ref ad0), .val (.long x1), .second, .val (.ref en), .val .null]) rfl k₀) ?_
  refine own_step (s₁.setTop (mkF m 4 #[.val (.ref ad0), .val (.long x1), .second, .val (.ref en), .val .null] [(.ref ad0)])) (fun t₀ k₀ => XS.aloadN X0.here hx rfl (hb hby d5_3) rfl rfl k₀) ?_
  obtain ⟨T39, X39, e39, st39⟩ := getS2 X0 hx hZ hown (host := "") (Or.inl (hw _ (List.mem_of_getElem? (i := 31) rfl))) Via.refl e0 S0 (g := (mkF m 4 #[.val (.ref ad0), .val (.long x1), .second, .val (.ref en), .val .null] [(.ref ad0)])) rfl (hb hby d5_4)
  refine own_step (T39.setTop (mkF m 7 #[.val (.ref ad0), .val (.long x1), .second, .val (.ref en), .val .null] [(.ref ad0), (.ref ad0)])) (fun t₀ k₀ => st39 t₀ k₀) ?_
  refine own_step (T39.setTop (mkF m 10 #[.val (.ref ad0), .val (.long x1), .second, .val (.ref en), .val .null] [])) (fun t₀ k₀ => Jvm.RoadKit.acmp (g := (mkF m 7 #[.val (.ref ad0), .val (.long x1), .second, .val (.ref en), .val .null] [(.ref ad0), (.ref ad0)])) X39 hx rfl rfl rfl (pc0 := 7) (pc' := 10) (same := true) rfl (hb hby d5_7) rfl (decide_eq_true rfl) (by decide) (by decide) k₀) ?_
  refine own_step (T39.setTop (mkF m 11 #[.val (.ref ad0), .val (.long x1), .second, .val (.ref en), .val .null] [(.ref en)])) (fun t₀ k₀ => XS.aloadN X39.here hx rfl (hb hby d5_10) rfl rfl k₀) ?_
  refine own_step (T39.setTop (mkF m 13 #[.val (.ref ad0), .val (.long x1), .second, .val (.ref en), .val (.ref en)] [])) (fun t₀ k₀ => XS.astore X39.here hx rfl (hb hby d5_11) rfl rfl (l' := #[.val (.ref ad0), .val (.long x1), .second, .val (.ref en), .val (.ref en)]) rfl k₀) ?_
  refine own_step (T39.setTop (mkF m 29 #[.val (.ref ad0), .val (.long x1), .second, .val (.ref en), .val (.ref en)] [])) (fun t₀ k₀ => XS.goto X39.here hx rfl (pc0 := 13) (pc' := 29) rfl (hb hby d5_13) (by decide) (by decide) k₀) ?_
  refine own_step (T39.setTop (mkF m 31 #[.val (.ref ad0), .val (.long x1), .second, .val (.ref en), .val (.ref en)] [(.ref en)])) (fun t₀ k₀ => XS.aload X39.here hx rfl (hb hby d5_29) rfl rfl k₀) ?_
  obtain ⟨fs, hr, hrun, hended, hW, hsame⟩ := X39.leave (v := some (.ref en)) (fun h => by rw [Bd.returns] at h; cases h)
  refine ⟨_, _, ?_, hrun, hended, _, _, rfl, ?_, ⟨_, rfl⟩, hW, hsame.mono (by decide) (by decide)⟩
  · jvm_step X39.here [X39.here.top, hx, (hb hby d5_31), X39.method', Bd.returns, Value.isRef, FieldType.isReference]
    first | (intro acts; rw [hr _ acts rfl rfl rfl]) | rw [hr _ _ rfl rfl rfl]
    exact Steps.refl _
  · show Q_rm5_0_0 Z x1 en ad0 ad1 ad2 ca h0 n0 _ T39.heap _
    rw [e39]
    exact ⟨rfl, N0, rfl⟩
theorem ef_rm5_1_0 (m : MethodId) (x1 : Int64) (en : Addr) (ad1 : Addr) : entryFrame m #[(.ref ad1), (.long x1), (.ref en)] 5 = mkF m 0 #[.val (.ref ad1), .val (.long x1), .second, .val (.ref en), .unset] [] := by first | (simp [entryFrame, mkF, argsToLocals, Value.category]; done) | rfl
def Q_rm5_1_0 (Z : State) (x1 : Int64) (en : Addr) (ad0 : Addr) (ad1 : Addr) (ad2 : Addr) (ca : Addr) (h0 : Heap) (n0 : Nat) (v : Option Value) (h : Heap) (L : List Loc) : Prop := ∃ b : Addr, v = some (.ref b) ∧ Fr n0 L ∧ Keep h0 h [] ∧ Exa Z h b "java/lang/Long" ∧ Fld Z h b "java/lang/Long" "value" "J" (.long x1)
set_option maxRecDepth 65536 in
set_option maxHeartbeats 40000000 in
theorem rm5_1_0 (l : Launch) (Z : State) (a0 : Array Value) (hw : ∀ d ∈ tables_1, d.before a0 Z = true) (ws : List Jvm.Cond) (x1 : Int64) (en : Addr) (ad0 : Addr) (ad1 : Addr) (ad2 : Addr) (ca : Addr) (h0 : Heap) (n0 : Nat) (Z0 : n0 ≤ h0.size) (S0 : Sta Z h0 "com/example/annalist/annalist/RemovalTimeStrategy" "END" "Lcom/example/annalist/annalist/RemovalTimeStrategy;" (.ref ad0)) (S1 : Sta Z h0 "com/example/annalist/annalist/RemovalTimeStrategy" "START" "Lcom/example/annalist/annalist/RemovalTimeStrategy;" (.ref ad1)) (S2 : Sta Z h0 "com/example/annalist/annalist/RemovalTimeStrategy" "NONE" "Lcom/example/annalist/annalist/RemovalTimeStrategy;" (.ref ad2)) (O0 : Fld Z h0 ad0 "java/lang/Enum" "ordinal" "I" (.int (0 : Int32))) (O1 : Fld Z h0 ad1 "java/lang/Enum" "ordinal" "I" (.int (1 : Int32))) (O2 : Fld Z h0 ad2 "java/lang/Enum" "ordinal" "I" (.int (2 : Int32))) (Sc : Sta Z h0 "java/lang/Long$LongCache" "cache" "[Ljava/lang/Long;" (.ref ca)) (Oc : own_Cache Z h0 ca) :
    MetFree l (⟨"com/example/annalist/annalist/RemovalTimeStrategy", "baseTime", "(JLjava/lang/Long;)Ljava/lang/Long;"⟩ : MethodName) (head1 (Jvm.Cond.code (⟨"com/example/annalist/annalist/RemovalTimeStrategy", "baseTime", "(JLjava/lang/Long;)Ljava/lang/Long;"⟩ : MethodName) prog_18_method_4_code 5 (some (.object "java/lang/Long")) :: ws) ({ frames := 4, cells := 1, slots := 1, locals := 53 } : Room)) (fun as₉ U => as₉ = #[(.ref ad1), (.long x1), (.ref en)] ∧ Z.Warmed39 U.vm ∧ U.heap = h0) (fun _ _ _ _ _ => True) (fun _ U o₉ U' => ∃ v L, o₉ = .returned v ∧ Q_rm5_1_0 Z x1 en ad0 ad1 ad2 ca h0 n0 v U'.heap L ∧ FrameEnd U o₉ U' L ({ frames := 4, cells := 1, slots := 1, locals := 53 } : Room).cells ({ frames := 4, cells := 1, slots := 1, locals := 53 } : Room).slots) := by
  refine MetFree.of_bodySF (plainFor_of_name pn_5) hisR ?_
  intro p e s m args below meth c s₁ Bd hml0 hP hK
  obtain ⟨rfl, hZ, hh⟩ := hP
  have hx := Bd.exec
  have hby := Bd.bytes
  have hml : c.maxLocals = 5 := hml0
  have hown : s.vm.findClass "com/example/annalist/annalist/RemovalTimeStrategy" = some m.cls := findClass_of_methodNamed Bd.named
  have hnm := (name_of_methodNamed Bd.named Bd.method).1
  have X0 : Stand p l e ({ frames := 4, cells := 1, slots := 1, locals := 53 } : Room) s m #[(.ref ad1), (.long x1), (.ref en)] below meth c s₁ [] 0 0 := Stand.of_body Bd
  have e0 : s₁.heap = h0 := by rw [← hh, Bd.state]; rfl
  have N0 := Fr.nil n0
  show own_Go p e below (fun s₂ o₉ => s₂.status = .running ∧ Ended s₂ below o₉ ∧ ∃ v L, o₉ = .returned v ∧ Q_rm5_1_0 Z x1 en ad0 ad1 ad2 ca h0 n0 v s₂.heap L ∧ FrameEnd s o₉ s₂ L ({ frames := 4, cells := 1, slots := 1, locals := 53 } : Room).cells ({ frames := 4, cells := 1, slots := 1, locals := 53 } : Room).slots) (s₁.setTop (entryFrame m #[(.ref ad1), (.long x1), (.ref en)] 5))
  rw [ef_rm5_1_0 m x1 en ad1]
  refine own_step (s₁.setTop (mkF m 1 #[.val (.ref ad1), .val (.long x1), .second, .val (.ref en), .unset] [.null])) (fun t₀ k₀ => XS.aconstNull X0.here hx rfl (hb hby d5_0) k₀) ?_
  refine own_step (s₁.setTop (mkF m 3 #[.val (.ref ad1), .val (.long x1), .second, .val (.ref en), .val .null] [])) (fun t₀ k₀ => XS.astore X0.here hx rfl (hb hby d5_1) rfl rfl (l' := #[.val (.ref ad1), .val (.long x1), .second, .val (.ref en), .val .null]) rfl k₀) ?_
  refine own_step (s₁.setTop (mkF m 4 #[.val (.ref ad1), .val (.long x1), .second, .val (.ref en), .val .null] [(.ref ad1)])) (fun t₀ k₀ => XS.aloadN X0.here hx rfl (hb hby d5_3) rfl rfl k₀) ?_
  obtain ⟨T40, X40, e40, st40⟩ := getS2 X0 hx hZ hown (host := "") (Or.inl (hw _ (List.mem_of_getElem? (i := 31) rfl))) Via.refl e0 S0 (g := (mkF m 4 #[.val (.ref ad1), .val (.long x1), .second, .val (.ref en), .val .null] [(.ref ad1)])) rfl (hb hby d5_4)
  refine own_step (T40.setTop (mkF m 7 #[.val (.ref ad1), .val (.long x1), .second, .val (.ref en), .val .null] [(.ref ad0), (.ref ad1)])) (fun t₀ k₀ => st40 t₀ k₀) ?_
  refine own_step (T40.setTop (mkF m 16 #[.val (.ref ad1), .val (.long x1), .second, .val (.ref en), .val .null] [])) (fun t₀ k₀ => Jvm.RoadKit.acmp (g := (mkF m 7 #[.val (.ref ad1), .val (.long x1), .second, .val (.ref en), .val .null] [(.ref ad0), (.ref ad1)])) X40 hx rfl rfl rfl (pc0 := 7) (pc' := 16) (same := false) rfl (hb hby d5_7) rfl (decide_eq_false fun q => (Fld.ne O1 O0 (own_vne (by decide))) (Value.ref.inj q)) (by decide) (by decide) k₀) ?_
  refine own_step (T40.setTop (mkF m 17 #[.val (.ref ad1), .val (.long x1), .second, .val (.ref en), .val .null] [(.ref ad1)])) (fun t₀ k₀ => XS.aloadN X40.here hx rfl (hb hby d5_16) rfl rfl k₀) ?_
  obtain ⟨T41, X41, e41, st41⟩ := getS2 X40 hx hZ hown (host := "") (Or.inl (hw _ (List.mem_of_getElem? (i := 39) rfl))) Via.refl e40 S1 (g := (mkF m 17 #[.val (.ref ad1), .val (.long x1), .second, .val (.ref en), .val .null] [(.ref ad1)])) rfl (hb hby d5_17)
  refine own_step (T41.setTop (mkF m 20 #[.val (.ref ad1), .val (.long x1), .second, .val (.ref en), .val .null] [(.ref ad1), (.ref ad1)])) (fun t₀ k₀ => st41 t₀ k₀) ?_
  refine own_step (T41.setTop (mkF m 23 #[.val (.ref ad1), .val (.long x1), .second, .val (.ref en), .val .null] [])) (fun t₀ k₀ => Jvm.RoadKit.acmp (g := (mkF m 20 #[.val (.ref ad1), .val (.long x1), .second, .val (.ref en), .val .null] [(.ref ad1), (.ref ad1)])) X41 hx rfl rfl rfl (pc0 := 20) (pc' := 23) (same := true) rfl (hb hby d5_20) rfl (decide_eq_true rfl) (by decide) (by decide) k₀) ?_
  refine own_step (T41.setTop (mkF m 24 #[.val (.ref ad1), .val (.long x1), .second, .val (.ref en), .val .null] [(.long x1)])) (fun t₀ k₀ => XS.lloadN X41.here hx rfl (hb hby d5_23) rfl k₀) ?_
  obtain ⟨_, _, ⟨T42, L42, k42, n42⟩, -, X42, ⟨Lc42, hQ42, l42, y42, z42⟩, st42⟩ := Jvm.LawKit.callS X41 hx (y := (⟨"java/lang/Long", "valueOf", "(J)Ljava/lang/Long;"⟩ : MethodName)) hown (mvT hZ (hw _ (List.mem_of_getElem? (i := 40) rfl))) (mvT hZ (hw _ (List.mem_of_getElem? (i := 5) rfl))) (mvT hZ (hw _ (List.mem_of_getElem? (i := 6) rfl))) (mvT hZ (hw _ (List.mem_of_getElem? (i := 7) rfl))) (by decide) (backOf (W := 0) (rm1 l Z a0 hw [] x1 ca h0 n0 Z0 Sc Oc) hZ (hw _ (List.mem_of_getElem? (i := 7) rfl)) (hw _ (List.mem_of_getElem? (i := 6) rfl)) (by decide) (by decide)) (g := (mkF m 24 #[.val (.ref ad1), .val (.long x1), .second, .val (.ref en), .val .null] [(.long x1)])) rfl (by rw [hml]; rfl) (argsL := [(.long x1)]) (rest := []) (lenOf pd_0 rfl) rfl (by show 2 * 0 + _ ≤ _; exact Nat.le_of_eq rfl) (hb hby d5_24) (fun _ _ => ⟨rfl, e41, (by decide : 0 + 1 ≤ _), (by decide : 0 + 1 ≤ _)⟩)
  dsimp only [Pt.U, Pt.locs, Pt.cells, Pt.slots] at X42 l42 y42 z42 st42 hQ42
  subst l42 y42 z42
  obtain ⟨b43, rfl, N42q, K42, f44, f45⟩ := hQ42
  have N42 := Fr.app N0 N42q
  have f46 : Sta Z T42.heap "com/example/annalist/annalist/RemovalTimeStrategy" "END" "Lcom/example/annalist/annalist/RemovalTimeStrategy;" (.ref ad0) := own_sta_keep S0 K42 ns0
  have f47 : Sta Z T42.heap "com/example/annalist/annalist/RemovalTimeStrategy" "START" "Lcom/example/annalist/annalist/RemovalTimeStrategy;" (.ref ad1) := own_sta_keep S1 K42 ns0
  have f48 : Sta Z T42.heap "com/example/annalist/annalist/RemovalTimeStrategy" "NONE" "Lcom/example/annalist/annalist/RemovalTimeStrategy;" (.ref ad2) := own_sta_keep S2 K42 ns0
  have f49 : Fld Z T42.heap ad0 "java/lang/Enum" "ordinal" "I" (.int (0 : Int32)) := O0.keep K42 nin0
  have f50 : Fld Z T42.heap ad1 "java/lang/Enum" "ordinal" "I" (.int (1 : Int32)) := O1.keep K42 nin0
  have f51 : Fld Z T42.heap ad2 "java/lang/Enum" "ordinal" "I" (.int (2 : Int32)) := O2.keep K42 nin0
  have f52 : Sta Z T42.heap "java/lang/Long$LongCache" "cache" "[Ljava/lang/Long;" (.ref ca) := own_sta_keep Sc K42 ns0
  have f53 : own_Cache Z T42.heap ca := Oc.keep K42 nin0
  have z42' : n0 ≤ T42.heap.size := Nat.le_trans Z0 K42.1
  have K42' : Keep h0 T42.heap [] := (Keep.refl h0 []).trans K42 all0
  refine own_step (T42.setTop (mkF m 27 #[.val (.ref ad1), .val (.long x1), .second, .val (.ref en), .val .null] [(.ref b43)])) (fun t₀ k₀ => st42 t₀ k₀) ?_
  refine own_step (T42.setTop (mkF m 29 #[.val (.ref ad1), .val (.long x1), .second, .val (.ref en), .val (.ref b43)] [])) (fun t₀ k₀ => XS.astore X42.here hx rfl (hb hby d5_27) rfl rfl (l' := #[.val (.ref ad1), .val (.long x1), .second, .val (.ref en), .val (.ref b43)]) rfl k₀) ?_
  refine own_step (T42.setTop (mkF m 31 #[.val (.ref ad1), .val (.long x1), .second, .val (.ref en), .val (.ref b43)] [(.ref b43)])) (fun t₀ k₀ => XS.aload X42.here hx rfl (hb hby d5_29) rfl rfl k₀) ?_
  obtain ⟨fs, hr, hrun, hended, hW, hsame⟩ := X42.leave (v := some (.ref b43)) (fun h => by rw [Bd.returns] at h; cases h)
  refine ⟨_, _, ?_, hrun, hended, _, _, rfl, ?_, ⟨_, rfl⟩, hW, hsame.mono (by decide) (by decide)⟩
  · jvm_step X42.here [X42.here.top, hx, (hb hby d5_31), X42.method', Bd.returns, Value.isRef, FieldType.isReference]
    first | (intro acts; rw [hr _ acts rfl rfl rfl]) | rw [hr _ _ rfl rfl rfl]
    exact Steps.refl _
  · show Q_rm5_1_0 Z x1 en ad0 ad1 ad2 ca h0 n0 _ T42.heap _
    exact ⟨b43, rfl, N42, K42', f44, f45⟩
theorem ef_rm5_2_0 (m : MethodId) (x1 : Int64) (en : Addr) (ad2 : Addr) : entryFrame m #[(.ref ad2), (.long x1), (.ref en)] 5 = mkF m 0 #[.val (.ref ad2), .val (.long x1), .second, .val (.ref en), .unset] [] := by first | (simp [entryFrame, mkF, argsToLocals, Value.category]; done) | rfl
def Q_rm5_2_0 (Z : State) (x1 : Int64) (en : Addr) (ad0 : Addr) (ad1 : Addr) (ad2 : Addr) (ca : Addr) (h0 : Heap) (n0 : Nat) (v : Option Value) (h : Heap) (L : List Loc) : Prop := v = some .null ∧ Fr n0 L ∧ h = h0
set_option maxRecDepth 65536 in
set_option maxHeartbeats 40000000 in
theorem rm5_2_0 (l : Launch) (Z : State) (a0 : Array Value) (hw : ∀ d ∈ tables_1, d.before a0 Z = true) (ws : List Jvm.Cond) (x1 : Int64) (en : Addr) (ad0 : Addr) (ad1 : Addr) (ad2 : Addr) (ca : Addr) (h0 : Heap) (n0 : Nat) (Z0 : n0 ≤ h0.size) (S0 : Sta Z h0 "com/example/annalist/annalist/RemovalTimeStrategy" "END" "Lcom/example/annalist/annalist/RemovalTimeStrategy;" (.ref ad0)) (S1 : Sta Z h0 "com/example/annalist/annalist/RemovalTimeStrategy" "START" "Lcom/example/annalist/annalist/RemovalTimeStrategy;" (.ref ad1)) (S2 : Sta Z h0 "com/example/annalist/annalist/RemovalTimeStrategy" "NONE" "Lcom/example/annalist/annalist/RemovalTimeStrategy;" (.ref ad2)) (O0 : Fld Z h0 ad0 "java/lang/Enum" "ordinal" "I" (.int (0 : Int32))) (O1 : Fld Z h0 ad1 "java/lang/Enum" "ordinal" "I" (.int (1 : Int32))) (O2 : Fld Z h0 ad2 "java/lang/Enum" "ordinal" "I" (.int (2 : Int32))) (Sc : Sta Z h0 "java/lang/Long$LongCache" "cache" "[Ljava/lang/Long;" (.ref ca)) (Oc : own_Cache Z h0 ca) :
    MetFree l (⟨"com/example/annalist/annalist/RemovalTimeStrategy", "baseTime", "(JLjava/lang/Long;)Ljava/lang/Long;"⟩ : MethodName) (head1 (Jvm.Cond.code (⟨"com/example/annalist/annalist/RemovalTimeStrategy", "baseTime", "(JLjava/lang/Long;)Ljava/lang/Long;"⟩ : MethodName) prog_18_method_4_code 5 (some (.object "java/lang/Long")) :: ws) ({ frames := 0, cells := 0, slots := 0, locals := 0 } : Room)) (fun as₉ U => as₉ = #[(.ref ad2), (.long x1), (.ref en)] ∧ Z.Warmed39 U.vm ∧ U.heap = h0) (fun _ _ _ _ _ => True) (fun _ U o₉ U' => ∃ v L, o₉ = .returned v ∧ Q_rm5_2_0 Z x1 en ad0 ad1 ad2 ca h0 n0 v U'.heap L ∧ FrameEnd U o₉ U' L ({ frames := 0, cells := 0, slots := 0, locals := 0 } : Room).cells ({ frames := 0, cells := 0, slots := 0, locals := 0 } : Room).slots) := by
  refine MetFree.of_bodySF (plainFor_of_name pn_5) hisR ?_
  intro p e s m args below meth c s₁ Bd hml0 hP hK
  obtain ⟨rfl, hZ, hh⟩ := hP
  have hx := Bd.exec
  have hby := Bd.bytes
  have hml : c.maxLocals = 5 := hml0
  have hown : s.vm.findClass "com/example/annalist/annalist/RemovalTimeStrategy" = some m.cls := findClass_of_methodNamed Bd.named
  have hnm := (name_of_methodNamed Bd.named Bd.method).1
  have X0 : Stand p l e ({ frames := 0, cells := 0, slots := 0, locals := 0 } : Room) s m #[(.ref ad2), (.long x1), (.ref en)] below meth c s₁ [] 0 0 := Stand.of_body Bd
  have e0 : s₁.heap = h0 := by rw [← hh, Bd.state]; rfl
  have N0 := Fr.nil n0
  show own_Go p e below (fun s₂ o₉ => s₂.status = .running ∧ Ended s₂ below o₉ ∧ ∃ v L, o₉ = .returned v ∧ Q_rm5_2_0 Z x1 en ad0 ad1 ad2 ca h0 n0 v s₂.heap L ∧ FrameEnd s o₉ s₂ L ({ frames := 0, cells := 0, slots := 0, locals := 0 } : Room).cells ({ frames := 0, cells := 0, slots := 0, locals := 0 } : Room).slots) (s₁.setTop (entryFrame m #[(.ref ad2), (.long x1), (.ref en)] 5))
  rw [ef_rm5_2_0 m x1 en ad2]
  refine own_step (s₁.setTop (mkF m 1 #[.val (.ref ad2), .val (.long x1), .second, .val (.ref en), .unset] [.null])) (fun t₀ k₀ => XS.aconstNull X0.here hx rfl (hb hby d5_0) k₀) ?_
  refine own_step (s₁.setTop (mkF m 3 #[.val (.ref ad2), .val (.long x1), .second, .val (.ref en), .val .null] [])) (fun t₀ k₀ => XS.astore X0.here hx rfl (hb hby d5_1) rfl rfl (l' := #[.val (.ref ad2), .val (.long x1), .second, .val (.ref en), .val .null]) rfl k₀) ?_
  refine own_step (s₁.setTop (mkF m 4 #[.val (.ref ad2), .val (.long x1), .second, .val (.ref en), .val .null] [(.ref ad2)])) (fun t₀ k₀ => XS.aloadN X0.here hx rfl (hb hby d5_3) rfl rfl k₀) ?_
  obtain ⟨T54, X54, e54, st54⟩ := getS2 X0 hx hZ hown (host := "") (Or.inl (hw _ (List.mem_of_getElem? (i := 31) rfl))) Via.refl e0 S0 (g := (mkF m 4 #[.val (.ref ad2), .val (.long x1), .second, .val (.ref en), .val .null] [(.ref ad2)])) rfl (hb hby d5_4)
  refine own_step (T54.setTop (mkF m 7 #[.val (.ref ad2), .val (.long x1), .second, .val (.ref en), .val .null] [(.ref ad0), (.ref ad2)])) (fun t₀ k₀ => st54 t₀ k₀) ?_
  refine own_step (T54.setTop (mkF m 16 #[.val (.ref ad2), .val (.long x1), .second, .val (.ref en), .val .null] [])) (fun t₀ k₀ => Jvm.RoadKit.acmp (g := (mkF m 7 #[.val (.ref ad2), .val (.long x1), .second, .val (.ref en), .val .null] [(.ref ad0), (.ref ad2)])) X54 hx rfl rfl rfl (pc0 := 7) (pc' := 16) (same := false) rfl (hb hby d5_7) rfl (decide_eq_false fun q => (Fld.ne O2 O0 (own_vne (by decide))) (Value.ref.inj q)) (by decide) (by decide) k₀) ?_
  refine own_step (T54.setTop (mkF m 17 #[.val (.ref ad2), .val (.long x1), .second, .val (.ref en), .val .null] [(.ref ad2)])) (fun t₀ k₀ => XS.aloadN X54.here hx rfl (hb hby d5_16) rfl rfl k₀) ?_
  obtain ⟨T55, X55, e55, st55⟩ := getS2 X54 hx hZ hown (host := "") (Or.inl (hw _ (List.mem_of_getElem? (i := 39) rfl))) Via.refl e54 S1 (g := (mkF m 17 #[.val (.ref ad2), .val (.long x1), .second, .val (.ref en), .val .null] [(.ref ad2)])) rfl (hb hby d5_17)
  refine own_step (T55.setTop (mkF m 20 #[.val (.ref ad2), .val (.long x1), .second, .val (.ref en), .val .null] [(.ref ad1), (.ref ad2)])) (fun t₀ k₀ => st55 t₀ k₀) ?_
  refine own_step (T55.setTop (mkF m 29 #[.val (.ref ad2), .val (.long x1), .second, .val (.ref en), .val .null] [])) (fun t₀ k₀ => Jvm.RoadKit.acmp (g := (mkF m 20 #[.val (.ref ad2), .val (.long x1), .second, .val (.ref en), .val .null] [(.ref ad1), (.ref ad2)])) X55 hx rfl rfl rfl (pc0 := 20) (pc' := 29) (same := false) rfl (hb hby d5_20) rfl (decide_eq_false fun q => (Fld.ne O2 O1 (own_vne (by decide))) (Value.ref.inj q)) (by decide) (by decide) k₀) ?_
  refine own_step (T55.setTop (mkF m 31 #[.val (.ref ad2), .val (.long x1), .second, .val (.ref en), .val .null] [.null])) (fun t₀ k₀ => XS.aload X55.here hx rfl (hb hby d5_29) rfl rfl k₀) ?_
  obtain ⟨fs, hr, hrun, hended, hW, hsame⟩ := X55.leave (v := some .null) (fun h => by rw [Bd.returns] at h; cases h)
  refine ⟨_, _, ?_, hrun, hended, _, _, rfl, ?_, ⟨_, rfl⟩, hW, hsame.mono (by decide) (by decide)⟩
  · jvm_step X55.here [X55.here.top, hx, (hb hby d5_31), X55.method', Bd.returns, Value.isRef, FieldType.isReference]
    first | (intro acts; rw [hr _ acts rfl rfl rfl]) | rw [hr _ _ rfl rfl rfl]
    exact Steps.refl _
  · show Q_rm5_2_0 Z x1 en ad0 ad1 ad2 ca h0 n0 _ T55.heap _
    rw [e55]
    exact ⟨rfl, N0, rfl⟩
theorem d6_0 : decode jdk_35_method_31_code 0 = .ok (.aload_n 0, 1) := by decide +kernel
theorem d6_1 : decode jdk_35_method_31_code 1 = .ok (.getfield 273, 3) := by decide +kernel
theorem d6_4 : decode jdk_35_method_31_code 4 = .ok (.lreturn, 1) := by decide +kernel
theorem ef_rm6 (m : MethodId) (a : Addr) : entryFrame m #[(.ref a)] 1 = mkF m 0 #[.val (.ref a)] [] := by first | (simp [entryFrame, mkF, argsToLocals, Value.category]; done) | rfl
def Q_rm6 (Z : State) (a : Addr) (z : Int64) (h0 : Heap) (n0 : Nat) (v : Option Value) (h : Heap) (L : List Loc) : Prop := v = some (.long z) ∧ Fr n0 L ∧ h = h0
set_option maxRecDepth 65536 in
set_option maxHeartbeats 40000000 in
theorem rm6 (l : Launch) (Z : State) (a0 : Array Value) (hw : ∀ d ∈ tables_1, d.before a0 Z = true) (ws : List Jvm.Cond) (a : Addr) (z : Int64) (h0 : Heap) (n0 : Nat) (Z0 : n0 ≤ h0.size) (Fv : Fld Z h0 a "java/lang/Long" "value" "J" (.long z)) :
    MetFree l (⟨"java/lang/Long", "longValue", "()J"⟩ : MethodName) (head1 (Jvm.Cond.code (⟨"java/lang/Long", "longValue", "()J"⟩ : MethodName) jdk_35_method_31_code 1 (some .long) :: ws) ({ frames := 0, cells := 0, slots := 0, locals := 0 } : Room)) (fun as₉ U => as₉ = #[(.ref a)] ∧ Z.Warmed39 U.vm ∧ U.heap = h0) (fun _ _ _ _ _ => True) (fun _ U o₉ U' => ∃ v L, o₉ = .returned v ∧ Q_rm6 Z a z h0 n0 v U'.heap L ∧ FrameEnd U o₉ U' L ({ frames := 0, cells := 0, slots := 0, locals := 0 } : Room).cells ({ frames := 0, cells := 0, slots := 0, locals := 0 } : Room).slots) := by
  refine MetFree.of_bodySF (plainFor_of_name pn_2) hisR ?_
  intro p e s m args below meth c s₁ Bd hml0 hP hK
  obtain ⟨rfl, hZ, hh⟩ := hP
  have hx := Bd.exec
  have hby := Bd.bytes
  have hml : c.maxLocals = 1 := hml0
  have hown : s.vm.findClass "java/lang/Long" = some m.cls := findClass_of_methodNamed Bd.named
  have hnm := (name_of_methodNamed Bd.named Bd.method).1
  have X0 : Stand p l e ({ frames := 0, cells := 0, slots := 0, locals := 0 } : Room) s m #[(.ref a)] below meth c s₁ [] 0 0 := Stand.of_body Bd
  have e0 : s₁.heap = h0 := by rw [← hh, Bd.state]; rfl
  have N0 := Fr.nil n0
  show own_Go p e below (fun s₂ o₉ => s₂.status = .running ∧ Ended s₂ below o₉ ∧ ∃ v L, o₉ = .returned v ∧ Q_rm6 Z a z h0 n0 v s₂.heap L ∧ FrameEnd s o₉ s₂ L ({ frames := 0, cells := 0, slots := 0, locals := 0 } : Room).cells ({ frames := 0, cells := 0, slots := 0, locals := 0 } : Room).slots) (s₁.setTop (entryFrame m #[(.ref a)] 1))
  rw [ef_rm6 m a]
  refine own_step (s₁.setTop (mkF m 1 #[.val (.ref a)] [(.ref a)])) (fun t₀ k₀ => XS.aloadN X0.here hx rfl (hb hby d6_0) rfl rfl k₀) ?_
  obtain ⟨T56, X56, e56, st56⟩ := getF X0 hx hZ hown (host := "") (Or.inl (hw _ (List.mem_of_getElem? (i := 24) rfl))) Via.refl e0 Fv (g := (mkF m 1 #[.val (.ref a)] [(.ref a)])) rfl rfl (hb hby d6_1)
  refine own_step (T56.setTop (mkF m 4 #[.val (.ref a)] [(.long z)])) (fun t₀ k₀ => st56 t₀ k₀) ?_
  obtain ⟨fs, hr, hrun, hended, hW, hsame⟩ := X56.leave (v := some (.long z)) (fun h => by rw [Bd.returns] at h; cases h)
  refine ⟨_, _, ?_, hrun, hended, _, _, rfl, ?_, ⟨_, rfl⟩, hW, hsame.mono (by decide) (by decide)⟩
  · jvm_step X56.here [X56.here.top, hx, (hb hby d6_4), X56.method', Bd.returns, narrow]
    first | (intro acts; rw [hr _ acts rfl rfl rfl]) | rw [hr _ _ rfl rfl rfl]
    exact Steps.refl _
  · show Q_rm6 Z a z h0 n0 _ T56.heap _
    rw [e56]
    exact ⟨rfl, N0, rfl⟩
theorem pn_0 : plainName "com/example/annalist/annalist/RemovalTimeStrategyBaseTimePinLaw" = true := by first | (simp [plainName, overriddenIn]; done) | decide +kernel
theorem ef_rm0 (m : MethodId) (wh : Int32) (start : Int64) (en : Int64) (flag : Int32) : entryFrame m #[(.int wh), (.long start), (.long en), (.int flag)] maxLocals = mkF m 0 #[.val (.int wh), .val (.long start), .second, .val (.long en), .second, .val (.int flag), .unset, .unset, .unset, .unset, .unset] [] := by first | (simp [entryFrame, mkF, argsToLocals, Value.category, maxLocals]; done) | rfl
def Q_rm0 (Z : State) (wh : Int32) (start : Int64) (en : Int64) (flag : Int32) (ad0 : Addr) (ad1 : Addr) (ad2 : Addr) (ca : Addr) (h0 : Heap) (n0 : Nat) (v : Option Value) (h : Heap) (L : List Loc) : Prop := v = some (.int 1) ∧ Fr n0 L
set_option maxRecDepth 65536 in
set_option maxHeartbeats 40000000 in
theorem rm0 (l : Launch) (Z : State) (a0 : Array Value) (hw : ∀ d ∈ tables_1, d.before a0 Z = true) (ws : List Jvm.Cond) (wh : Int32) (start : Int64) (en : Int64) (flag : Int32) (ad0 : Addr) (ad1 : Addr) (ad2 : Addr) (ca : Addr) (h0 : Heap) (n0 : Nat) (Z0 : n0 ≤ h0.size) (S0 : Sta Z h0 "com/example/annalist/annalist/RemovalTimeStrategy" "END" "Lcom/example/annalist/annalist/RemovalTimeStrategy;" (.ref ad0)) (S1 : Sta Z h0 "com/example/annalist/annalist/RemovalTimeStrategy" "START" "Lcom/example/annalist/annalist/RemovalTimeStrategy;" (.ref ad1)) (S2 : Sta Z h0 "com/example/annalist/annalist/RemovalTimeStrategy" "NONE" "Lcom/example/annalist/annalist/RemovalTimeStrategy;" (.ref ad2)) (A0 : Exa Z h0 ad0 "com/example/annalist/annalist/RemovalTimeStrategy") (A1 : Exa Z h0 ad1 "com/example/annalist/annalist/RemovalTimeStrategy") (A2 : Exa Z h0 ad2 "com/example/annalist/annalist/RemovalTimeStrategy") (O0 : Fld Z h0 ad0 "java/lang/Enum" "ordinal" "I" (.int (0 : Int32))) (O1 : Fld Z h0 ad1 "java/lang/Enum" "ordinal" "I" (.int (1 : Int32))) (O2 : Fld Z h0 ad2 "java/lang/Enum" "ordinal" "I" (.int (2 : Int32))) (Sc : Sta Z h0 "java/lang/Long$LongCache" "cache" "[Ljava/lang/Long;" (.ref ca)) (Oc : own_Cache Z h0 ca) :
    MetFree l x (head1 (Jvm.Cond.code x code maxLocals ret :: ws) room_1) (fun as₉ U => as₉ = #[(.int wh), (.long start), (.long en), (.int flag)] ∧ Z.Warmed39 U.vm ∧ U.heap = h0) (fun _ _ _ _ _ => True) (fun _ U o₉ U' => ∃ v L, o₉ = .returned v ∧ Q_rm0 Z wh start en flag ad0 ad1 ad2 ca h0 n0 v U'.heap L ∧ FrameEnd U o₉ U' L room_1.cells room_1.slots) := by
  refine MetFree.of_bodySF (plainFor_of_name pn_0) hisR ?_
  intro p e s m args below meth c s₁ Bd hml0 hP hK
  obtain ⟨rfl, hZ, hh⟩ := hP
  have hx := Bd.exec
  have hby := Bd.bytes
  have hml : c.maxLocals = 11 := hml0
  have hown : s.vm.findClass "com/example/annalist/annalist/RemovalTimeStrategyBaseTimePinLaw" = some m.cls := findClass_of_methodNamed Bd.named
  have hnm := (name_of_methodNamed Bd.named Bd.method).1
  have X0 : Stand p l e room_1 s m #[(.int wh), (.long start), (.long en), (.int flag)] below meth c s₁ [] 0 0 := Stand.of_body Bd
  have e0 : s₁.heap = h0 := by rw [← hh, Bd.state]; rfl
  have N0 := Fr.nil n0
  show own_Go p e below (fun s₂ o₉ => s₂.status = .running ∧ Ended s₂ below o₉ ∧ ∃ v L, o₉ = .returned v ∧ Q_rm0 Z wh start en flag ad0 ad1 ad2 ca h0 n0 v s₂.heap L ∧ FrameEnd s o₉ s₂ L room_1.cells room_1.slots) (s₁.setTop (entryFrame m #[(.int wh), (.long start), (.long en), (.int flag)] maxLocals))
  rw [ef_rm0 m wh start en flag]
  refine own_step (s₁.setTop (mkF m 1 #[.val (.int wh), .val (.long start), .second, .val (.long en), .second, .val (.int flag), .unset, .unset, .unset, .unset, .unset] [(.int wh)])) (fun t₀ k₀ => XS.iloadN X0.here hx rfl (hb hby at_0) rfl k₀) ?_
  refine own_step (s₁.setTop (mkF m 3 #[.val (.int wh), .val (.long start), .second, .val (.long en), .second, .val (.int flag), .unset, .unset, .unset, .unset, .unset] [(.int (2147483647 : Int32)), (.int wh)])) (fun t₀ k₀ => X0.ldcInt hx hown (mvT hZ (hw _ (List.mem_of_getElem? (i := 0) rfl))) (g := (mkF m 1 #[.val (.int wh), .val (.long start), .second, .val (.long en), .second, .val (.int flag), .unset, .unset, .unset, .unset, .unset] [(.int wh)])) rfl (hb hby at_1) _ k₀) ?_
  refine own_step (s₁.setTop (mkF m 4 #[.val (.int wh), .val (.long start), .second, .val (.long en), .second, .val (.int flag), .unset, .unset, .unset, .unset, .unset] [(.int (wh &&& (2147483647 : Int32)))])) (fun t₀ k₀ => XS.iand X0.here hx rfl (hb hby at_3) rfl k₀) ?_
  refine own_step (s₁.setTop (mkF m 5 #[.val (.int wh), .val (.long start), .second, .val (.long en), .second, .val (.int flag), .unset, .unset, .unset, .unset, .unset] [(.int (3 : Int32)), (.int (wh &&& (2147483647 : Int32)))])) (fun t₀ k₀ => XS.iconst X0.here hx rfl (hb hby at_4) k₀) ?_
  refine own_step (s₁.setTop (mkF m 6 #[.val (.int wh), .val (.long start), .second, .val (.long en), .second, .val (.int flag), .unset, .unset, .unset, .unset, .unset] [(.int ((wh &&& (2147483647 : Int32)) % (3 : Int32)))])) (fun t₀ k₀ => Jvm.RoadKit.iremM X0 hx rfl (hb hby at_5) rfl (by decide) k₀) ?_
  refine own_step (s₁.setTop (mkF m 8 #[.val (.int wh), .val (.long start), .second, .val (.long en), .second, .val (.int flag), .val (.int ((wh &&& (2147483647 : Int32)) % (3 : Int32))), .unset, .unset, .unset, .unset] [])) (fun t₀ k₀ => XS.istore X0.here hx rfl (hb hby at_6) rfl (l' := #[.val (.int wh), .val (.long start), .second, .val (.long en), .second, .val (.int flag), .val (.int ((wh &&& (2147483647 : Int32)) % (3 : Int32))), .unset, .unset, .unset, .unset]) rfl k₀) ?_
  refine own_step (s₁.setTop (mkF m 10 #[.val (.int wh), .val (.long start), .second, .val (.long en), .second, .val (.int flag), .val (.int ((wh &&& (2147483647 : Int32)) % (3 : Int32))), .unset, .unset, .unset, .unset] [(.int ((wh &&& (2147483647 : Int32)) % (3 : Int32)))])) (fun t₀ k₀ => XS.iload X0.here hx rfl (hb hby at_8) rfl k₀) ?_
  by_cases hc10 : ((wh &&& (2147483647 : Int32)) % (3 : Int32)) = (0 : Int32)
  · skip
    refine own_step (s₁.setTop (mkF m 13 #[.val (.int wh), .val (.long start), .second, .val (.long en), .second, .val (.int flag), .val (.int ((wh &&& (2147483647 : Int32)) % (3 : Int32))), .unset, .unset, .unset, .unset] [])) (fun t₀ k₀ => XS.ifNo X0.here hx rfl (hb hby at_10) rfl ((if0 _ _).trans (teq hc10).2) k₀) ?_
    obtain ⟨T57, X57, e57, st57⟩ := getS2 X0 hx hZ hown (host := "") (Or.inl (hw _ (List.mem_of_getElem? (i := 1) rfl))) Via.refl e0 S0 (g := (mkF m 13 #[.val (.int wh), .val (.long start), .second, .val (.long en), .second, .val (.int flag), .val (.int ((wh &&& (2147483647 : Int32)) % (3 : Int32))), .unset, .unset, .unset, .unset] [])) rfl (hb hby at_13)
    refine own_step (T57.setTop (mkF m 16 #[.val (.int wh), .val (.long start), .second, .val (.long en), .second, .val (.int flag), .val (.int ((wh &&& (2147483647 : Int32)) % (3 : Int32))), .unset, .unset, .unset, .unset] [(.ref ad0)])) (fun t₀ k₀ => st57 t₀ k₀) ?_
    refine own_step (T57.setTop (mkF m 18 #[.val (.int wh), .val (.long start), .second, .val (.long en), .second, .val (.int flag), .val (.int ((wh &&& (2147483647 : Int32)) % (3 : Int32))), .val (.ref ad0), .unset, .unset, .unset] [])) (fun t₀ k₀ => XS.astore X57.here hx rfl (hb hby at_16) rfl rfl (l' := #[.val (.int wh), .val (.long start), .second, .val (.long en), .second, .val (.int flag), .val (.int ((wh &&& (2147483647 : Int32)) % (3 : Int32))), .val (.ref ad0), .unset, .unset, .unset]) rfl k₀) ?_
    refine own_step (T57.setTop (mkF m 40 #[.val (.int wh), .val (.long start), .second, .val (.long en), .second, .val (.int flag), .val (.int ((wh &&& (2147483647 : Int32)) % (3 : Int32))), .val (.ref ad0), .unset, .unset, .unset] [])) (fun t₀ k₀ => XS.goto X57.here hx rfl (pc0 := 18) (pc' := 40) rfl (hb hby at_18) (by decide) (by decide) k₀) ?_
    refine own_step (T57.setTop (mkF m 42 #[.val (.int wh), .val (.long start), .second, .val (.long en), .second, .val (.int flag), .val (.int ((wh &&& (2147483647 : Int32)) % (3 : Int32))), .val (.ref ad0), .unset, .unset, .unset] [(.int flag)])) (fun t₀ k₀ => XS.iload X57.here hx rfl (hb hby at_40) rfl k₀) ?_
    refine own_step (T57.setTop (mkF m 43 #[.val (.int wh), .val (.long start), .second, .val (.long en), .second, .val (.int flag), .val (.int ((wh &&& (2147483647 : Int32)) % (3 : Int32))), .val (.ref ad0), .unset, .unset, .unset] [(.int (1 : Int32)), (.int flag)])) (fun t₀ k₀ => XS.iconst X57.here hx rfl (hb hby at_42) k₀) ?_
    refine own_step (T57.setTop (mkF m 44 #[.val (.int wh), .val (.long start), .second, .val (.long en), .second, .val (.int flag), .val (.int ((wh &&& (2147483647 : Int32)) % (3 : Int32))), .val (.ref ad0), .unset, .unset, .unset] [(.int (flag &&& (1 : Int32)))])) (fun t₀ k₀ => XS.iand X57.here hx rfl (hb hby at_43) rfl k₀) ?_
    by_cases hc44 : (flag &&& (1 : Int32)) = (0 : Int32)
    · skip
      refine own_step (T57.setTop (mkF m 51 #[.val (.int wh), .val (.long start), .second, .val (.long en), .second, .val (.int flag), .val (.int ((wh &&& (2147483647 : Int32)) % (3 : Int32))), .val (.ref ad0), .unset, .unset, .unset] [])) (fun t₀ k₀ => XS.ifYes X57.here hx rfl (pc0 := 44) (pc' := 51) rfl (hb hby at_44) rfl ((if0 _ _).trans (teq hc44).1) (by decide) (by decide) k₀) ?_
      refine own_step (T57.setTop (mkF m 52 #[.val (.int wh), .val (.long start), .second, .val (.long en), .second, .val (.int flag), .val (.int ((wh &&& (2147483647 : Int32)) % (3 : Int32))), .val (.ref ad0), .unset, .unset, .unset] [(.int (0 : Int32))])) (fun t₀ k₀ => XS.iconst X57.here hx rfl (hb hby at_51) k₀) ?_
      refine own_step (T57.setTop (mkF m 54 #[.val (.int wh), .val (.long start), .second, .val (.long en), .second, .val (.int flag), .val (.int ((wh &&& (2147483647 : Int32)) % (3 : Int32))), .val (.ref ad0), .val (.int (0 : Int32)), .unset, .unset] [])) (fun t₀ k₀ => XS.istore X57.here hx rfl (hb hby at_52) rfl (l' := #[.val (.int wh), .val (.long start), .second, .val (.long en), .second, .val (.int flag), .val (.int ((wh &&& (2147483647 : Int32)) % (3 : Int32))), .val (.ref ad0), .val (.int (0 : Int32)), .unset, .unset]) rfl k₀) ?_
      refine own_step (T57.setTop (mkF m 56 #[.val (.int wh), .val (.long start), .second, .val (.long en), .second, .val (.int flag), .val (.int ((wh &&& (2147483647 : Int32)) % (3 : Int32))), .val (.ref ad0), .val (.int (0 : Int32)), .unset, .unset] [(.int (0 : Int32))])) (fun t₀ k₀ => XS.iload X57.here hx rfl (hb hby at_54) rfl k₀) ?_
      refine own_step (T57.setTop (mkF m 63 #[.val (.int wh), .val (.long start), .second, .val (.long en), .second, .val (.int flag), .val (.int ((wh &&& (2147483647 : Int32)) % (3 : Int32))), .val (.ref ad0), .val (.int (0 : Int32)), .unset, .unset] [])) (fun t₀ k₀ => XS.ifYes X57.here hx rfl (pc0 := 56) (pc' := 63) rfl (hb hby at_56) rfl (by decide) (by decide) (by decide) k₀) ?_
      refine own_step (T57.setTop (mkF m 64 #[.val (.int wh), .val (.long start), .second, .val (.long en), .second, .val (.int flag), .val (.int ((wh &&& (2147483647 : Int32)) % (3 : Int32))), .val (.ref ad0), .val (.int (0 : Int32)), .unset, .unset] [(.long en)])) (fun t₀ k₀ => XS.lloadN X57.here hx rfl (hb hby at_63) rfl k₀) ?_
      obtain ⟨_, _, ⟨T58, L58, k58, n58⟩, -, X58, ⟨Lc58, hQ58, l58, y58, z58⟩, st58⟩ := Jvm.LawKit.callS X57 hx (y := (⟨"java/lang/Long", "valueOf", "(J)Ljava/lang/Long;"⟩ : MethodName)) hown (mvT hZ (hw _ (List.mem_of_getElem? (i := 4) rfl))) (mvT hZ (hw _ (List.mem_of_getElem? (i := 5) rfl))) (mvT hZ (hw _ (List.mem_of_getElem? (i := 6) rfl))) (mvT hZ (hw _ (List.mem_of_getElem? (i := 7) rfl))) (by decide) (backOf (W := 0) (rm1 l Z a0 hw [] en ca h0 n0 Z0 Sc Oc) hZ (hw _ (List.mem_of_getElem? (i := 7) rfl)) (hw _ (List.mem_of_getElem? (i := 6) rfl)) (by decide) (by decide)) (g := (mkF m 64 #[.val (.int wh), .val (.long start), .second, .val (.long en), .second, .val (.int flag), .val (.int ((wh &&& (2147483647 : Int32)) % (3 : Int32))), .val (.ref ad0), .val (.int (0 : Int32)), .unset, .unset] [(.long en)])) rfl (by rw [hml]; rfl) (argsL := [(.long en)]) (rest := []) (lenOf pd_0 rfl) rfl (by show 2 * 0 + _ ≤ _; exact Nat.le_of_eq rfl) (hb hby at_64) (fun _ _ => ⟨rfl, e57, (by decide : 0 + 1 ≤ _), (by decide : 0 + 1 ≤ _)⟩)
      dsimp only [Pt.U, Pt.locs, Pt.cells, Pt.slots] at X58 l58 y58 z58 st58 hQ58
      subst l58 y58 z58
      obtain ⟨b59, rfl, N58q, K58, f60, f61⟩ := hQ58
      have N58 := Fr.app N0 N58q
      have f62 : Sta Z T58.heap "com/example/annalist/annalist/RemovalTimeStrategy" "END" "Lcom/example/annalist/annalist/RemovalTimeStrategy;" (.ref ad0) := own_sta_keep S0 K58 ns0
      have f63 : Sta Z T58.heap "com/example/annalist/annalist/RemovalTimeStrategy" "START" "Lcom/example/annalist/annalist/RemovalTimeStrategy;" (.ref ad1) := own_sta_keep S1 K58 ns0
      have f64 : Sta Z T58.heap "com/example/annalist/annalist/RemovalTimeStrategy" "NONE" "Lcom/example/annalist/annalist/RemovalTimeStrategy;" (.ref ad2) := own_sta_keep S2 K58 ns0
      have f65 : Exa Z T58.heap ad0 "com/example/annalist/annalist/RemovalTimeStrategy" := A0.keep K58
      have f66 : Exa Z T58.heap ad1 "com/example/annalist/annalist/RemovalTimeStrategy" := A1.keep K58
      have f67 : Exa Z T58.heap ad2 "com/example/annalist/annalist/RemovalTimeStrategy" := A2.keep K58
      have f68 : Fld Z T58.heap ad0 "java/lang/Enum" "ordinal" "I" (.int (0 : Int32)) := O0.keep K58 nin0
      have f69 : Fld Z T58.heap ad1 "java/lang/Enum" "ordinal" "I" (.int (1 : Int32)) := O1.keep K58 nin0
      have f70 : Fld Z T58.heap ad2 "java/lang/Enum" "ordinal" "I" (.int (2 : Int32)) := O2.keep K58 nin0
      have f71 : Sta Z T58.heap "java/lang/Long$LongCache" "cache" "[Ljava/lang/Long;" (.ref ca) := own_sta_keep Sc K58 ns0
      have f72 : own_Cache Z T58.heap ca := Oc.keep K58 nin0
      have z58' : n0 ≤ T58.heap.size := Nat.le_trans Z0 K58.1
      refine own_step (T58.setTop (mkF m 67 #[.val (.int wh), .val (.long start), .second, .val (.long en), .second, .val (.int flag), .val (.int ((wh &&& (2147483647 : Int32)) % (3 : Int32))), .val (.ref ad0), .val (.int (0 : Int32)), .unset, .unset] [(.ref b59)])) (fun t₀ k₀ => st58 t₀ k₀) ?_
      refine own_step (T58.setTop (mkF m 69 #[.val (.int wh), .val (.long start), .second, .val (.long en), .second, .val (.int flag), .val (.int ((wh &&& (2147483647 : Int32)) % (3 : Int32))), .val (.ref ad0), .val (.int (0 : Int32)), .val (.ref b59), .unset] [])) (fun t₀ k₀ => XS.astore X58.here hx rfl (hb hby at_67) rfl rfl (l' := #[.val (.int wh), .val (.long start), .second, .val (.long en), .second, .val (.int flag), .val (.int ((wh &&& (2147483647 : Int32)) % (3 : Int32))), .val (.ref ad0), .val (.int (0 : Int32)), .val (.ref b59), .unset]) rfl k₀) ?_
      refine own_step (T58.setTop (mkF m 71 #[.val (.int wh), .val (.long start), .second, .val (.long en), .second, .val (.int flag), .val (.int ((wh &&& (2147483647 : Int32)) % (3 : Int32))), .val (.ref ad0), .val (.int (0 : Int32)), .val (.ref b59), .unset] [(.ref ad0)])) (fun t₀ k₀ => XS.aload X58.here hx rfl (hb hby at_69) rfl rfl k₀) ?_
      refine own_step (T58.setTop (mkF m 72 #[.val (.int wh), .val (.long start), .second, .val (.long en), .second, .val (.int flag), .val (.int ((wh &&& (2147483647 : Int32)) % (3 : Int32))), .val (.ref ad0), .val (.int (0 : Int32)), .val (.ref b59), .unset] [(.long start), (.ref ad0)])) (fun t₀ k₀ => XS.lloadN X58.here hx rfl (hb hby at_71) rfl k₀) ?_
      refine own_step (T58.setTop (mkF m 74 #[.val (.int wh), .val (.long start), .second, .val (.long en), .second, .val (.int flag), .val (.int ((wh &&& (2147483647 : Int32)) % (3 : Int32))), .val (.ref ad0), .val (.int (0 : Int32)), .val (.ref b59), .unset] [(.ref b59), (.long start), (.ref ad0)])) (fun t₀ k₀ => XS.aload X58.here hx rfl (hb hby at_72) rfl rfl k₀) ?_
      obtain ⟨cq73, kq73, q73a, q73b, q73c⟩ := isOf hZ rfl f65
      obtain ⟨_, _, ⟨T73, L73, k73, n73⟩, -, X73, ⟨Lc73, hQ73, l73, y73, z73⟩, st73⟩ := X58.virtualBack hx (y := (⟨"com/example/annalist/annalist/RemovalTimeStrategy", "baseTime", "(JLjava/lang/Long;)Ljava/lang/Long;"⟩ : MethodName)) (z := (⟨"com/example/annalist/annalist/RemovalTimeStrategy", "baseTime", "(JLjava/lang/Long;)Ljava/lang/Long;"⟩ : MethodName)) hown (mvT hZ (hw _ (List.mem_of_getElem? (i := 26) rfl))) (mvT hZ (hw _ (List.mem_of_getElem? (i := 27) rfl))) (notFace_of_selects (args := #[]) (mvT hZ (hw _ (List.mem_of_getElem? (i := 29) rfl)))) (mvT hZ (hw _ (List.mem_of_getElem? (i := 29) rfl))) (mvT hZ (hw _ (List.mem_of_getElem? (i := 28) rfl))) (by decide) (backOf (W := 0) (rm5_0_0 l Z a0 hw [] start b59 ad0 ad1 ad2 ca T58.heap n0 z58' f62 f63 f64 f68 f69 f70 f71 f72) hZ (hw _ (List.mem_of_getElem? (i := 30) rfl)) (hw _ (List.mem_of_getElem? (i := 2) rfl)) (by decide) (by decide)) q73a q73c (g := (mkF m 74 #[.val (.int wh), .val (.long start), .second, .val (.long en), .second, .val (.int flag), .val (.int ((wh &&& (2147483647 : Int32)) % (3 : Int32))), .val (.ref ad0), .val (.int (0 : Int32)), .val (.ref b59), .unset] [(.ref b59), (.long start), (.ref ad0)])) rfl (by rw [hml]; rfl) (Steps.refl _) (argsL := [(.long start), (.ref b59)]) (rest := []) (lenOf pd_3 rfl) rfl (by show 2 * 0 + _ ≤ _; exact Nat.le_of_eq rfl) (hb hby at_74) (fun _ _ => ⟨rfl, rfl, (by decide : 1 + 0 ≤ _), (by decide : 1 + 0 ≤ _)⟩)
      dsimp only [Pt.U, Pt.locs, Pt.cells, Pt.slots] at X73 l73 y73 z73 st73 hQ73
      subst l73 y73 z73
      obtain ⟨rfl, N73q, e73⟩ := hQ73
      have N73 := Fr.app N58 N73q
      refine own_comes (T73.setTop (mkF m 77 #[.val (.int wh), .val (.long start), .second, .val (.long en), .second, .val (.int flag), .val (.int ((wh &&& (2147483647 : Int32)) % (3 : Int32))), .val (.ref ad0), .val (.int (0 : Int32)), .val (.ref b59), .unset] [(.ref b59)])) st73 ?_
      refine own_step (T73.setTop (mkF m 79 #[.val (.int wh), .val (.long start), .second, .val (.long en), .second, .val (.int flag), .val (.int ((wh &&& (2147483647 : Int32)) % (3 : Int32))), .val (.ref ad0), .val (.int (0 : Int32)), .val (.ref b59), .val (.ref b59)] [])) (fun t₀ k₀ => XS.astore X73.here hx rfl (hb hby at_77) rfl rfl (l' := #[.val (.int wh), .val (.long start), .second, .val (.long en), .second, .val (.int flag), .val (.int ((wh &&& (2147483647 : Int32)) % (3 : Int32))), .val (.ref ad0), .val (.int (0 : Int32)), .val (.ref b59), .val (.ref b59)]) rfl k₀) ?_
      refine own_step (T73.setTop (mkF m 81 #[.val (.int wh), .val (.long start), .second, .val (.long en), .second, .val (.int flag), .val (.int ((wh &&& (2147483647 : Int32)) % (3 : Int32))), .val (.ref ad0), .val (.int (0 : Int32)), .val (.ref b59), .val (.ref b59)] [(.int ((wh &&& (2147483647 : Int32)) % (3 : Int32)))])) (fun t₀ k₀ => XS.iload X73.here hx rfl (hb hby at_79) rfl k₀) ?_
      have hk74 : ((wh &&& (2147483647 : Int32)) % (3 : Int32)) = (0 : Int32) := hc10
      refine own_step (T73.setTop (mkF m 84 #[.val (.int wh), .val (.long start), .second, .val (.long en), .second, .val (.int flag), .val (.int ((wh &&& (2147483647 : Int32)) % (3 : Int32))), .val (.ref ad0), .val (.int (0 : Int32)), .val (.ref b59), .val (.ref b59)] [])) (fun t₀ k₀ => XS.ifNo X73.here hx rfl (hb hby at_81) rfl ((if0 _ _).trans (teq hk74).2) k₀) ?_
      refine own_step (T73.setTop (mkF m 86 #[.val (.int wh), .val (.long start), .second, .val (.long en), .second, .val (.int flag), .val (.int ((wh &&& (2147483647 : Int32)) % (3 : Int32))), .val (.ref ad0), .val (.int (0 : Int32)), .val (.ref b59), .val (.ref b59)] [(.int (0 : Int32))])) (fun t₀ k₀ => XS.iload X73.here hx rfl (hb hby at_84) rfl k₀) ?_
      refine own_step (T73.setTop (mkF m 100 #[.val (.int wh), .val (.long start), .second, .val (.long en), .second, .val (.int flag), .val (.int ((wh &&& (2147483647 : Int32)) % (3 : Int32))), .val (.ref ad0), .val (.int (0 : Int32)), .val (.ref b59), .val (.ref b59)] [])) (fun t₀ k₀ => XS.ifYes X73.here hx rfl (pc0 := 86) (pc' := 100) rfl (hb hby at_86) rfl (by decide) (by decide) (by decide) k₀) ?_
      refine own_step (T73.setTop (mkF m 102 #[.val (.int wh), .val (.long start), .second, .val (.long en), .second, .val (.int flag), .val (.int ((wh &&& (2147483647 : Int32)) % (3 : Int32))), .val (.ref ad0), .val (.int (0 : Int32)), .val (.ref b59), .val (.ref b59)] [(.ref b59)])) (fun t₀ k₀ => XS.aload X73.here hx rfl (hb hby at_100) rfl rfl k₀) ?_
      refine own_step (T73.setTop (mkF m 105 #[.val (.int wh), .val (.long start), .second, .val (.long en), .second, .val (.int flag), .val (.int ((wh &&& (2147483647 : Int32)) % (3 : Int32))), .val (.ref ad0), .val (.int (0 : Int32)), .val (.ref b59), .val (.ref b59)] [])) (fun t₀ k₀ => XS.ifnullNo X73.here hx rfl (hb hby at_102) rfl k₀) ?_
      refine own_step (T73.setTop (mkF m 107 #[.val (.int wh), .val (.long start), .second, .val (.long en), .second, .val (.int flag), .val (.int ((wh &&& (2147483647 : Int32)) % (3 : Int32))), .val (.ref ad0), .val (.int (0 : Int32)), .val (.ref b59), .val (.ref b59)] [(.ref b59)])) (fun t₀ k₀ => XS.aload X73.here hx rfl (hb hby at_105) rfl rfl k₀) ?_
      obtain ⟨cq75, kq75, q75a, q75b, q75c⟩ := isOf hZ e73 f60
      obtain ⟨_, _, ⟨T75, L75, k75, n75⟩, -, X75, ⟨Lc75, hQ75, l75, y75, z75⟩, st75⟩ := X73.virtualBack hx (y := (⟨"java/lang/Long", "longValue", "()J"⟩ : MethodName)) (z := (⟨"java/lang/Long", "longValue", "()J"⟩ : MethodName)) hown (mvT hZ (hw _ (List.mem_of_getElem? (i := 32) rfl))) (mvT hZ (hw _ (List.mem_of_getElem? (i := 33) rfl))) (notFace_of_selects (args := #[]) (mvT hZ (hw _ (List.mem_of_getElem? (i := 35) rfl)))) (mvT hZ (hw _ (List.mem_of_getElem? (i := 35) rfl))) (mvT hZ (hw _ (List.mem_of_getElem? (i := 34) rfl))) (by decide) (backOf (W := 0) (rm6 l Z a0 hw [] b59 en T58.heap n0 z58' f61) hZ (hw _ (List.mem_of_getElem? (i := 36) rfl)) (hw _ (List.mem_of_getElem? (i := 6) rfl)) (by decide) (by decide)) q75a q75c (g := (mkF m 107 #[.val (.int wh), .val (.long start), .second, .val (.long en), .second, .val (.int flag), .val (.int ((wh &&& (2147483647 : Int32)) % (3 : Int32))), .val (.ref ad0), .val (.int (0 : Int32)), .val (.ref b59), .val (.ref b59)] [(.ref b59)])) rfl (by rw [hml]; rfl) (Steps.refl _) (argsL := []) (rest := []) (lenOf pd_4 rfl) rfl (by show 2 * 0 + _ ≤ _; exact Nat.le_of_eq rfl) (hb hby at_107) (fun _ _ => ⟨rfl, e73, (by decide : 1 + 0 ≤ _), (by decide : 1 + 0 ≤ _)⟩)
      dsimp only [Pt.U, Pt.locs, Pt.cells, Pt.slots] at X75 l75 y75 z75 st75 hQ75
      subst l75 y75 z75
      obtain ⟨rfl, N75q, e75⟩ := hQ75
      have N75 := Fr.app N73 N75q
      refine own_comes (T75.setTop (mkF m 110 #[.val (.int wh), .val (.long start), .second, .val (.long en), .second, .val (.int flag), .val (.int ((wh &&& (2147483647 : Int32)) % (3 : Int32))), .val (.ref ad0), .val (.int (0 : Int32)), .val (.ref b59), .val (.ref b59)] [(.long en)])) st75 ?_
      refine own_step (T75.setTop (mkF m 111 #[.val (.int wh), .val (.long start), .second, .val (.long en), .second, .val (.int flag), .val (.int ((wh &&& (2147483647 : Int32)) % (3 : Int32))), .val (.ref ad0), .val (.int (0 : Int32)), .val (.ref b59), .val (.ref b59)] [(.long en), (.long en)])) (fun t₀ k₀ => XS.lloadN X75.here hx rfl (hb hby at_110) rfl k₀) ?_
      refine own_step (T75.setTop (mkF m 112 #[.val (.int wh), .val (.long start), .second, .val (.long en), .second, .val (.int flag), .val (.int ((wh &&& (2147483647 : Int32)) % (3 : Int32))), .val (.ref ad0), .val (.int (0 : Int32)), .val (.ref b59), .val (.ref b59)] [(.int (lcmpW en en))])) (fun t₀ k₀ => XS.lcmp X75.here hx rfl (hb hby at_111) rfl k₀) ?_
      have hk76 : en = en := rfl
      refine own_step (T75.setTop (mkF m 115 #[.val (.int wh), .val (.long start), .second, .val (.long en), .second, .val (.int flag), .val (.int ((wh &&& (2147483647 : Int32)) % (3 : Int32))), .val (.ref ad0), .val (.int (0 : Int32)), .val (.ref b59), .val (.ref b59)] [])) (fun t₀ k₀ => XS.ifNo X75.here hx rfl (hb hby at_112) rfl (own_lneF hk76) k₀) ?_
      refine own_step (T75.setTop (mkF m 116 #[.val (.int wh), .val (.long start), .second, .val (.long en), .second, .val (.int flag), .val (.int ((wh &&& (2147483647 : Int32)) % (3 : Int32))), .val (.ref ad0), .val (.int (0 : Int32)), .val (.ref b59), .val (.ref b59)] [(.int (1 : Int32))])) (fun t₀ k₀ => XS.iconst X75.here hx rfl (hb hby at_115) k₀) ?_
      refine own_step (T75.setTop (mkF m 120 #[.val (.int wh), .val (.long start), .second, .val (.long en), .second, .val (.int flag), .val (.int ((wh &&& (2147483647 : Int32)) % (3 : Int32))), .val (.ref ad0), .val (.int (0 : Int32)), .val (.ref b59), .val (.ref b59)] [(.int (1 : Int32))])) (fun t₀ k₀ => XS.goto X75.here hx rfl (pc0 := 116) (pc' := 120) rfl (hb hby at_116) (by decide) (by decide) k₀) ?_
      obtain ⟨fs, hr, hrun, hended, hW, hsame⟩ := X75.leave (v := some (.int (1 : Int32))) (fun h => by rw [Bd.returns] at h; cases h)
      refine ⟨_, _, ?_, hrun, hended, _, _, rfl, ?_, ⟨_, rfl⟩, hW, hsame.mono (by decide) (by decide)⟩
      · exact retN X75 hx (t := .boolean) Bd.returns (by simp) (hb hby at_120) hr
      · show Q_rm0 Z wh start en flag ad0 ad1 ad2 ca h0 n0 _ T75.heap _
        rw [e75]
        exact ⟨rfl, N75⟩
    · skip
      refine own_step (T57.setTop (mkF m 47 #[.val (.int wh), .val (.long start), .second, .val (.long en), .second, .val (.int flag), .val (.int ((wh &&& (2147483647 : Int32)) % (3 : Int32))), .val (.ref ad0), .unset, .unset, .unset] [])) (fun t₀ k₀ => XS.ifNo X57.here hx rfl (hb hby at_44) rfl ((if0 _ _).trans (feq hc44).1) k₀) ?_
      refine own_step (T57.setTop (mkF m 48 #[.val (.int wh), .val (.long start), .second, .val (.long en), .second, .val (.int flag), .val (.int ((wh &&& (2147483647 : Int32)) % (3 : Int32))), .val (.ref ad0), .unset, .unset, .unset] [(.int (1 : Int32))])) (fun t₀ k₀ => XS.iconst X57.here hx rfl (hb hby at_47) k₀) ?_
      refine own_step (T57.setTop (mkF m 52 #[.val (.int wh), .val (.long start), .second, .val (.long en), .second, .val (.int flag), .val (.int ((wh &&& (2147483647 : Int32)) % (3 : Int32))), .val (.ref ad0), .unset, .unset, .unset] [(.int (1 : Int32))])) (fun t₀ k₀ => XS.goto X57.here hx rfl (pc0 := 48) (pc' := 52) rfl (hb hby at_48) (by decide) (by decide) k₀) ?_
      refine own_step (T57.setTop (mkF m 54 #[.val (.int wh), .val (.long start), .second, .val (.long en), .second, .val (.int flag), .val (.int ((wh &&& (2147483647 : Int32)) % (3 : Int32))), .val (.ref ad0), .val (.int (1 : Int32)), .unset, .unset] [])) (fun t₀ k₀ => XS.istore X57.here hx rfl (hb hby at_52) rfl (l' := #[.val (.int wh), .val (.long start), .second, .val (.long en), .second, .val (.int flag), .val (.int ((wh &&& (2147483647 : Int32)) % (3 : Int32))), .val (.ref ad0), .val (.int (1 : Int32)), .unset, .unset]) rfl k₀) ?_
      refine own_step (T57.setTop (mkF m 56 #[.val (.int wh), .val (.long start), .second, .val (.long en), .second, .val (.int flag), .val (.int ((wh &&& (2147483647 : Int32)) % (3 : Int32))), .val (.ref ad0), .val (.int (1 : Int32)), .unset, .unset] [(.int (1 : Int32))])) (fun t₀ k₀ => XS.iload X57.here hx rfl (hb hby at_54) rfl k₀) ?_
      refine own_step (T57.setTop (mkF m 59 #[.val (.int wh), .val (.long start), .second, .val (.long en), .second, .val (.int flag), .val (.int ((wh &&& (2147483647 : Int32)) % (3 : Int32))), .val (.ref ad0), .val (.int (1 : Int32)), .unset, .unset] [])) (fun t₀ k₀ => XS.ifNo X57.here hx rfl (hb hby at_56) rfl (by decide) k₀) ?_
      refine own_step (T57.setTop (mkF m 60 #[.val (.int wh), .val (.long start), .second, .val (.long en), .second, .val (.int flag), .val (.int ((wh &&& (2147483647 : Int32)) % (3 : Int32))), .val (.ref ad0), .val (.int (1 : Int32)), .unset, .unset] [.null])) (fun t₀ k₀ => XS.aconstNull X57.here hx rfl (hb hby at_59) k₀) ?_
      refine own_step (T57.setTop (mkF m 67 #[.val (.int wh), .val (.long start), .second, .val (.long en), .second, .val (.int flag), .val (.int ((wh &&& (2147483647 : Int32)) % (3 : Int32))), .val (.ref ad0), .val (.int (1 : Int32)), .unset, .unset] [.null])) (fun t₀ k₀ => XS.goto X57.here hx rfl (pc0 := 60) (pc' := 67) rfl (hb hby at_60) (by decide) (by decide) k₀) ?_
      refine own_step (T57.setTop (mkF m 69 #[.val (.int wh), .val (.long start), .second, .val (.long en), .second, .val (.int flag), .val (.int ((wh &&& (2147483647 : Int32)) % (3 : Int32))), .val (.ref ad0), .val (.int (1 : Int32)), .val .null, .unset] [])) (fun t₀ k₀ => XS.astore X57.here hx rfl (hb hby at_67) rfl rfl (l' := #[.val (.int wh), .val (.long start), .second, .val (.long en), .second, .val (.int flag), .val (.int ((wh &&& (2147483647 : Int32)) % (3 : Int32))), .val (.ref ad0), .val (.int (1 : Int32)), .val .null, .unset]) rfl k₀) ?_
      refine own_step (T57.setTop (mkF m 71 #[.val (.int wh), .val (.long start), .second, .val (.long en), .second, .val (.int flag), .val (.int ((wh &&& (2147483647 : Int32)) % (3 : Int32))), .val (.ref ad0), .val (.int (1 : Int32)), .val .null, .unset] [(.ref ad0)])) (fun t₀ k₀ => XS.aload X57.here hx rfl (hb hby at_69) rfl rfl k₀) ?_
      refine own_step (T57.setTop (mkF m 72 #[.val (.int wh), .val (.long start), .second, .val (.long en), .second, .val (.int flag), .val (.int ((wh &&& (2147483647 : Int32)) % (3 : Int32))), .val (.ref ad0), .val (.int (1 : Int32)), .val .null, .unset] [(.long start), (.ref ad0)])) (fun t₀ k₀ => XS.lloadN X57.here hx rfl (hb hby at_71) rfl k₀) ?_
      refine own_step (T57.setTop (mkF m 74 #[.val (.int wh), .val (.long start), .second, .val (.long en), .second, .val (.int flag), .val (.int ((wh &&& (2147483647 : Int32)) % (3 : Int32))), .val (.ref ad0), .val (.int (1 : Int32)), .val .null, .unset] [.null, (.long start), (.ref ad0)])) (fun t₀ k₀ => XS.aload X57.here hx rfl (hb hby at_72) rfl rfl k₀) ?_
      obtain ⟨cq77, kq77, q77a, q77b, q77c⟩ := isOf hZ e57 A0
      obtain ⟨_, _, ⟨T77, L77, k77, n77⟩, -, X77, ⟨Lc77, hQ77, l77, y77, z77⟩, st77⟩ := X57.virtualBack hx (y := (⟨"com/example/annalist/annalist/RemovalTimeStrategy", "baseTime", "(JLjava/lang/Long;)Ljava/lang/Long;"⟩ : MethodName)) (z := (⟨"com/example/annalist/annalist/RemovalTimeStrategy", "baseTime", "(JLjava/lang/Long;)Ljava/lang/Long;"⟩ : MethodName)) hown (mvT hZ (hw _ (List.mem_of_getElem? (i := 26) rfl))) (mvT hZ (hw _ (List.mem_of_getElem? (i := 27) rfl))) (notFace_of_selects (args := #[]) (mvT hZ (hw _ (List.mem_of_getElem? (i := 29) rfl)))) (mvT hZ (hw _ (List.mem_of_getElem? (i := 29) rfl))) (mvT hZ (hw _ (List.mem_of_getElem? (i := 28) rfl))) (by decide) (backOf (W := 0) (rm5_0_1 l Z a0 hw [] start ad0 ad1 ad2 ca h0 n0 Z0 S0 S1 S2 O0 O1 O2 Sc Oc) hZ (hw _ (List.mem_of_getElem? (i := 30) rfl)) (hw _ (List.mem_of_getElem? (i := 2) rfl)) (by decide) (by decide)) q77a q77c (g := (mkF m 74 #[.val (.int wh), .val (.long start), .second, .val (.long en), .second, .val (.int flag), .val (.int ((wh &&& (2147483647 : Int32)) % (3 : Int32))), .val (.ref ad0), .val (.int (1 : Int32)), .val .null, .unset] [.null, (.long start), (.ref ad0)])) rfl (by rw [hml]; rfl) (Steps.refl _) (argsL := [(.long start), .null]) (rest := []) (lenOf pd_3 rfl) rfl (by show 2 * 0 + _ ≤ _; exact Nat.le_of_eq rfl) (hb hby at_74) (fun _ _ => ⟨rfl, e57, (by decide : 0 + 0 ≤ _), (by decide : 0 + 0 ≤ _)⟩)
      dsimp only [Pt.U, Pt.locs, Pt.cells, Pt.slots] at X77 l77 y77 z77 st77 hQ77
      subst l77 y77 z77
      obtain ⟨rfl, N77q, e77⟩ := hQ77
      have N77 := Fr.app N0 N77q
      refine own_comes (T77.setTop (mkF m 77 #[.val (.int wh), .val (.long start), .second, .val (.long en), .second, .val (.int flag), .val (.int ((wh &&& (2147483647 : Int32)) % (3 : Int32))), .val (.ref ad0), .val (.int (1 : Int32)), .val .null, .unset] [.null])) st77 ?_
      refine own_step (T77.setTop (mkF m 79 #[.val (.int wh), .val (.long start), .second, .val (.long en), .second, .val (.int flag), .val (.int ((wh &&& (2147483647 : Int32)) % (3 : Int32))), .val (.ref ad0), .val (.int (1 : Int32)), .val .null, .val .null] [])) (fun t₀ k₀ => XS.astore X77.here hx rfl (hb hby at_77) rfl rfl (l' := #[.val (.int wh), .val (.long start), .second, .val (.long en), .second, .val (.int flag), .val (.int ((wh &&& (2147483647 : Int32)) % (3 : Int32))), .val (.ref ad0), .val (.int (1 : Int32)), .val .null, .val .null]) rfl k₀) ?_
      refine own_step (T77.setTop (mkF m 81 #[.val (.int wh), .val (.long start), .second, .val (.long en), .second, .val (.int flag), .val (.int ((wh &&& (2147483647 : Int32)) % (3 : Int32))), .val (.ref ad0), .val (.int (1 : Int32)), .val .null, .val .null] [(.int ((wh &&& (2147483647 : Int32)) % (3 : Int32)))])) (fun t₀ k₀ => XS.iload X77.here hx rfl (hb hby at_79) rfl k₀) ?_
      have hk78 : ((wh &&& (2147483647 : Int32)) % (3 : Int32)) = (0 : Int32) := hc10
      refine own_step (T77.setTop (mkF m 84 #[.val (.int wh), .val (.long start), .second, .val (.long en), .second, .val (.int flag), .val (.int ((wh &&& (2147483647 : Int32)) % (3 : Int32))), .val (.ref ad0), .val (.int (1 : Int32)), .val .null, .val .null] [])) (fun t₀ k₀ => XS.ifNo X77.here hx rfl (hb hby at_81) rfl ((if0 _ _).trans (teq hk78).2) k₀) ?_
      refine own_step (T77.setTop (mkF m 86 #[.val (.int wh), .val (.long start), .second, .val (.long en), .second, .val (.int flag), .val (.int ((wh &&& (2147483647 : Int32)) % (3 : Int32))), .val (.ref ad0), .val (.int (1 : Int32)), .val .null, .val .null] [(.int (1 : Int32))])) (fun t₀ k₀ => XS.iload X77.here hx rfl (hb hby at_84) rfl k₀) ?_
      refine own_step (T77.setTop (mkF m 89 #[.val (.int wh), .val (.long start), .second, .val (.long en), .second, .val (.int flag), .val (.int ((wh &&& (2147483647 : Int32)) % (3 : Int32))), .val (.ref ad0), .val (.int (1 : Int32)), .val .null, .val .null] [])) (fun t₀ k₀ => XS.ifNo X77.here hx rfl (hb hby at_86) rfl (by decide) k₀) ?_
      refine own_step (T77.setTop (mkF m 91 #[.val (.int wh), .val (.long start), .second, .val (.long en), .second, .val (.int flag), .val (.int ((wh &&& (2147483647 : Int32)) % (3 : Int32))), .val (.ref ad0), .val (.int (1 : Int32)), .val .null, .val .null] [.null])) (fun t₀ k₀ => XS.aload X77.here hx rfl (hb hby at_89) rfl rfl k₀) ?_
      refine own_step (T77.setTop (mkF m 94 #[.val (.int wh), .val (.long start), .second, .val (.long en), .second, .val (.int flag), .val (.int ((wh &&& (2147483647 : Int32)) % (3 : Int32))), .val (.ref ad0), .val (.int (1 : Int32)), .val .null, .val .null] [])) (fun t₀ k₀ => XS.ifnonnullNo X77.here hx rfl (hb hby at_91) rfl k₀) ?_
      refine own_step (T77.setTop (mkF m 95 #[.val (.int wh), .val (.long start), .second, .val (.long en), .second, .val (.int flag), .val (.int ((wh &&& (2147483647 : Int32)) % (3 : Int32))), .val (.ref ad0), .val (.int (1 : Int32)), .val .null, .val .null] [(.int (1 : Int32))])) (fun t₀ k₀ => XS.iconst X77.here hx rfl (hb hby at_94) k₀) ?_
      refine own_step (T77.setTop (mkF m 99 #[.val (.int wh), .val (.long start), .second, .val (.long en), .second, .val (.int flag), .val (.int ((wh &&& (2147483647 : Int32)) % (3 : Int32))), .val (.ref ad0), .val (.int (1 : Int32)), .val .null, .val .null] [(.int (1 : Int32))])) (fun t₀ k₀ => XS.goto X77.here hx rfl (pc0 := 95) (pc' := 99) rfl (hb hby at_95) (by decide) (by decide) k₀) ?_
      obtain ⟨fs, hr, hrun, hended, hW, hsame⟩ := X77.leave (v := some (.int (1 : Int32))) (fun h => by rw [Bd.returns] at h; cases h)
      refine ⟨_, _, ?_, hrun, hended, _, _, rfl, ?_, ⟨_, rfl⟩, hW, hsame.mono (by decide) (by decide)⟩
      · exact retN X77 hx (t := .boolean) Bd.returns (by simp) (hb hby at_99) hr
      · show Q_rm0 Z wh start en flag ad0 ad1 ad2 ca h0 n0 _ T77.heap _
        rw [e77]
        exact ⟨rfl, N77⟩
  · skip
    refine own_step (s₁.setTop (mkF m 21 #[.val (.int wh), .val (.long start), .second, .val (.long en), .second, .val (.int flag), .val (.int ((wh &&& (2147483647 : Int32)) % (3 : Int32))), .unset, .unset, .unset, .unset] [])) (fun t₀ k₀ => XS.ifYes X0.here hx rfl (pc0 := 10) (pc' := 21) rfl (hb hby at_10) rfl ((if0 _ _).trans (feq hc10).2) (by decide) (by decide) k₀) ?_
    refine own_step (s₁.setTop (mkF m 23 #[.val (.int wh), .val (.long start), .second, .val (.long en), .second, .val (.int flag), .val (.int ((wh &&& (2147483647 : Int32)) % (3 : Int32))), .unset, .unset, .unset, .unset] [(.int ((wh &&& (2147483647 : Int32)) % (3 : Int32)))])) (fun t₀ k₀ => XS.iload X0.here hx rfl (hb hby at_21) rfl k₀) ?_
    refine own_step (s₁.setTop (mkF m 24 #[.val (.int wh), .val (.long start), .second, .val (.long en), .second, .val (.int flag), .val (.int ((wh &&& (2147483647 : Int32)) % (3 : Int32))), .unset, .unset, .unset, .unset] [(.int (1 : Int32)), (.int ((wh &&& (2147483647 : Int32)) % (3 : Int32)))])) (fun t₀ k₀ => XS.iconst X0.here hx rfl (hb hby at_23) k₀) ?_
    by_cases hc24 : ((wh &&& (2147483647 : Int32)) % (3 : Int32)) = (1 : Int32)
    · skip
      refine own_step (s₁.setTop (mkF m 27 #[.val (.int wh), .val (.long start), .second, .val (.long en), .second, .val (.int flag), .val (.int ((wh &&& (2147483647 : Int32)) % (3 : Int32))), .unset, .unset, .unset, .unset] [])) (fun t₀ k₀ => XS.icmpNo X0.here hx rfl (hb hby at_24) rfl (teq hc24).2 k₀) ?_
      obtain ⟨T79, X79, e79, st79⟩ := getS2 X0 hx hZ hown (host := "") (Or.inl (hw _ (List.mem_of_getElem? (i := 37) rfl))) Via.refl e0 S1 (g := (mkF m 27 #[.val (.int wh), .val (.long start), .second, .val (.long en), .second, .val (.int flag), .val (.int ((wh &&& (2147483647 : Int32)) % (3 : Int32))), .unset, .unset, .unset, .unset] [])) rfl (hb hby at_27)
      refine own_step (T79.setTop (mkF m 30 #[.val (.int wh), .val (.long start), .second, .val (.long en), .second, .val (.int flag), .val (.int ((wh &&& (2147483647 : Int32)) % (3 : Int32))), .unset, .unset, .unset, .unset] [(.ref ad1)])) (fun t₀ k₀ => st79 t₀ k₀) ?_
      refine own_step (T79.setTop (mkF m 32 #[.val (.int wh), .val (.long start), .second, .val (.long en), .second, .val (.int flag), .val (.int ((wh &&& (2147483647 : Int32)) % (3 : Int32))), .val (.ref ad1), .unset, .unset, .unset] [])) (fun t₀ k₀ => XS.astore X79.here hx rfl (hb hby at_30) rfl rfl (l' := #[.val (.int wh), .val (.long start), .second, .val (.long en), .second, .val (.int flag), .val (.int ((wh &&& (2147483647 : Int32)) % (3 : Int32))), .val (.ref ad1), .unset, .unset, .unset]) rfl k₀) ?_
      refine own_step (T79.setTop (mkF m 40 #[.val (.int wh), .val (.long start), .second, .val (.long en), .second, .val (.int flag), .val (.int ((wh &&& (2147483647 : Int32)) % (3 : Int32))), .val (.ref ad1), .unset, .unset, .unset] [])) (fun t₀ k₀ => XS.goto X79.here hx rfl (pc0 := 32) (pc' := 40) rfl (hb hby at_32) (by decide) (by decide) k₀) ?_
      refine own_step (T79.setTop (mkF m 42 #[.val (.int wh), .val (.long start), .second, .val (.long en), .second, .val (.int flag), .val (.int ((wh &&& (2147483647 : Int32)) % (3 : Int32))), .val (.ref ad1), .unset, .unset, .unset] [(.int flag)])) (fun t₀ k₀ => XS.iload X79.here hx rfl (hb hby at_40) rfl k₀) ?_
      refine own_step (T79.setTop (mkF m 43 #[.val (.int wh), .val (.long start), .second, .val (.long en), .second, .val (.int flag), .val (.int ((wh &&& (2147483647 : Int32)) % (3 : Int32))), .val (.ref ad1), .unset, .unset, .unset] [(.int (1 : Int32)), (.int flag)])) (fun t₀ k₀ => XS.iconst X79.here hx rfl (hb hby at_42) k₀) ?_
      refine own_step (T79.setTop (mkF m 44 #[.val (.int wh), .val (.long start), .second, .val (.long en), .second, .val (.int flag), .val (.int ((wh &&& (2147483647 : Int32)) % (3 : Int32))), .val (.ref ad1), .unset, .unset, .unset] [(.int (flag &&& (1 : Int32)))])) (fun t₀ k₀ => XS.iand X79.here hx rfl (hb hby at_43) rfl k₀) ?_
      by_cases hc44 : (flag &&& (1 : Int32)) = (0 : Int32)
      · skip
        refine own_step (T79.setTop (mkF m 51 #[.val (.int wh), .val (.long start), .second, .val (.long en), .second, .val (.int flag), .val (.int ((wh &&& (2147483647 : Int32)) % (3 : Int32))), .val (.ref ad1), .unset, .unset, .unset] [])) (fun t₀ k₀ => XS.ifYes X79.here hx rfl (pc0 := 44) (pc' := 51) rfl (hb hby at_44) rfl ((if0 _ _).trans (teq hc44).1) (by decide) (by decide) k₀) ?_
        refine own_step (T79.setTop (mkF m 52 #[.val (.int wh), .val (.long start), .second, .val (.long en), .second, .val (.int flag), .val (.int ((wh &&& (2147483647 : Int32)) % (3 : Int32))), .val (.ref ad1), .unset, .unset, .unset] [(.int (0 : Int32))])) (fun t₀ k₀ => XS.iconst X79.here hx rfl (hb hby at_51) k₀) ?_
        refine own_step (T79.setTop (mkF m 54 #[.val (.int wh), .val (.long start), .second, .val (.long en), .second, .val (.int flag), .val (.int ((wh &&& (2147483647 : Int32)) % (3 : Int32))), .val (.ref ad1), .val (.int (0 : Int32)), .unset, .unset] [])) (fun t₀ k₀ => XS.istore X79.here hx rfl (hb hby at_52) rfl (l' := #[.val (.int wh), .val (.long start), .second, .val (.long en), .second, .val (.int flag), .val (.int ((wh &&& (2147483647 : Int32)) % (3 : Int32))), .val (.ref ad1), .val (.int (0 : Int32)), .unset, .unset]) rfl k₀) ?_
        refine own_step (T79.setTop (mkF m 56 #[.val (.int wh), .val (.long start), .second, .val (.long en), .second, .val (.int flag), .val (.int ((wh &&& (2147483647 : Int32)) % (3 : Int32))), .val (.ref ad1), .val (.int (0 : Int32)), .unset, .unset] [(.int (0 : Int32))])) (fun t₀ k₀ => XS.iload X79.here hx rfl (hb hby at_54) rfl k₀) ?_
        refine own_step (T79.setTop (mkF m 63 #[.val (.int wh), .val (.long start), .second, .val (.long en), .second, .val (.int flag), .val (.int ((wh &&& (2147483647 : Int32)) % (3 : Int32))), .val (.ref ad1), .val (.int (0 : Int32)), .unset, .unset] [])) (fun t₀ k₀ => XS.ifYes X79.here hx rfl (pc0 := 56) (pc' := 63) rfl (hb hby at_56) rfl (by decide) (by decide) (by decide) k₀) ?_
        refine own_step (T79.setTop (mkF m 64 #[.val (.int wh), .val (.long start), .second, .val (.long en), .second, .val (.int flag), .val (.int ((wh &&& (2147483647 : Int32)) % (3 : Int32))), .val (.ref ad1), .val (.int (0 : Int32)), .unset, .unset] [(.long en)])) (fun t₀ k₀ => XS.lloadN X79.here hx rfl (hb hby at_63) rfl k₀) ?_
        obtain ⟨_, _, ⟨T80, L80, k80, n80⟩, -, X80, ⟨Lc80, hQ80, l80, y80, z80⟩, st80⟩ := Jvm.LawKit.callS X79 hx (y := (⟨"java/lang/Long", "valueOf", "(J)Ljava/lang/Long;"⟩ : MethodName)) hown (mvT hZ (hw _ (List.mem_of_getElem? (i := 4) rfl))) (mvT hZ (hw _ (List.mem_of_getElem? (i := 5) rfl))) (mvT hZ (hw _ (List.mem_of_getElem? (i := 6) rfl))) (mvT hZ (hw _ (List.mem_of_getElem? (i := 7) rfl))) (by decide) (backOf (W := 0) (rm1 l Z a0 hw [] en ca h0 n0 Z0 Sc Oc) hZ (hw _ (List.mem_of_getElem? (i := 7) rfl)) (hw _ (List.mem_of_getElem? (i := 6) rfl)) (by decide) (by decide)) (g := (mkF m 64 #[.val (.int wh), .val (.long start), .second, .val (.long en), .second, .val (.int flag), .val (.int ((wh &&& (2147483647 : Int32)) % (3 : Int32))), .val (.ref ad1), .val (.int (0 : Int32)), .unset, .unset] [(.long en)])) rfl (by rw [hml]; rfl) (argsL := [(.long en)]) (rest := []) (lenOf pd_0 rfl) rfl (by show 2 * 0 + _ ≤ _; exact Nat.le_of_eq rfl) (hb hby at_64) (fun _ _ => ⟨rfl, e79, (by decide : 0 + 1 ≤ _), (by decide : 0 + 1 ≤ _)⟩)
        dsimp only [Pt.U, Pt.locs, Pt.cells, Pt.slots] at X80 l80 y80 z80 st80 hQ80
        subst l80 y80 z80
        obtain ⟨b81, rfl, N80q, K80, f82, f83⟩ := hQ80
        have N80 := Fr.app N0 N80q
        have f84 : Sta Z T80.heap "com/example/annalist/annalist/RemovalTimeStrategy" "END" "Lcom/example/annalist/annalist/RemovalTimeStrategy;" (.ref ad0) := own_sta_keep S0 K80 ns0
        have f85 : Sta Z T80.heap "com/example/annalist/annalist/RemovalTimeStrategy" "START" "Lcom/example/annalist/annalist/RemovalTimeStrategy;" (.ref ad1) := own_sta_keep S1 K80 ns0
        have f86 : Sta Z T80.heap "com/example/annalist/annalist/RemovalTimeStrategy" "NONE" "Lcom/example/annalist/annalist/RemovalTimeStrategy;" (.ref ad2) := own_sta_keep S2 K80 ns0
        have f87 : Exa Z T80.heap ad0 "com/example/annalist/annalist/RemovalTimeStrategy" := A0.keep K80
        have f88 : Exa Z T80.heap ad1 "com/example/annalist/annalist/RemovalTimeStrategy" := A1.keep K80
        have f89 : Exa Z T80.heap ad2 "com/example/annalist/annalist/RemovalTimeStrategy" := A2.keep K80
        have f90 : Fld Z T80.heap ad0 "java/lang/Enum" "ordinal" "I" (.int (0 : Int32)) := O0.keep K80 nin0
        have f91 : Fld Z T80.heap ad1 "java/lang/Enum" "ordinal" "I" (.int (1 : Int32)) := O1.keep K80 nin0
        have f92 : Fld Z T80.heap ad2 "java/lang/Enum" "ordinal" "I" (.int (2 : Int32)) := O2.keep K80 nin0
        have f93 : Sta Z T80.heap "java/lang/Long$LongCache" "cache" "[Ljava/lang/Long;" (.ref ca) := own_sta_keep Sc K80 ns0
        have f94 : own_Cache Z T80.heap ca := Oc.keep K80 nin0
        have z80' : n0 ≤ T80.heap.size := Nat.le_trans Z0 K80.1
        refine own_step (T80.setTop (mkF m 67 #[.val (.int wh), .val (.long start), .second, .val (.long en), .second, .val (.int flag), .val (.int ((wh &&& (2147483647 : Int32)) % (3 : Int32))), .val (.ref ad1), .val (.int (0 : Int32)), .unset, .unset] [(.ref b81)])) (fun t₀ k₀ => st80 t₀ k₀) ?_
        refine own_step (T80.setTop (mkF m 69 #[.val (.int wh), .val (.long start), .second, .val (.long en), .second, .val (.int flag), .val (.int ((wh &&& (2147483647 : Int32)) % (3 : Int32))), .val (.ref ad1), .val (.int (0 : Int32)), .val (.ref b81), .unset] [])) (fun t₀ k₀ => XS.astore X80.here hx rfl (hb hby at_67) rfl rfl (l' := #[.val (.int wh), .val (.long start), .second, .val (.long en), .second, .val (.int flag), .val (.int ((wh &&& (2147483647 : Int32)) % (3 : Int32))), .val (.ref ad1), .val (.int (0 : Int32)), .val (.ref b81), .unset]) rfl k₀) ?_
        refine own_step (T80.setTop (mkF m 71 #[.val (.int wh), .val (.long start), .second, .val (.long en), .second, .val (.int flag), .val (.int ((wh &&& (2147483647 : Int32)) % (3 : Int32))), .val (.ref ad1), .val (.int (0 : Int32)), .val (.ref b81), .unset] [(.ref ad1)])) (fun t₀ k₀ => XS.aload X80.here hx rfl (hb hby at_69) rfl rfl k₀) ?_
        refine own_step (T80.setTop (mkF m 72 #[.val (.int wh), .val (.long start), .second, .val (.long en), .second, .val (.int flag), .val (.int ((wh &&& (2147483647 : Int32)) % (3 : Int32))), .val (.ref ad1), .val (.int (0 : Int32)), .val (.ref b81), .unset] [(.long start), (.ref ad1)])) (fun t₀ k₀ => XS.lloadN X80.here hx rfl (hb hby at_71) rfl k₀) ?_
        refine own_step (T80.setTop (mkF m 74 #[.val (.int wh), .val (.long start), .second, .val (.long en), .second, .val (.int flag), .val (.int ((wh &&& (2147483647 : Int32)) % (3 : Int32))), .val (.ref ad1), .val (.int (0 : Int32)), .val (.ref b81), .unset] [(.ref b81), (.long start), (.ref ad1)])) (fun t₀ k₀ => XS.aload X80.here hx rfl (hb hby at_72) rfl rfl k₀) ?_
        obtain ⟨cq95, kq95, q95a, q95b, q95c⟩ := isOf hZ rfl f88
        obtain ⟨_, _, ⟨T95, L95, k95, n95⟩, -, X95, ⟨Lc95, hQ95, l95, y95, z95⟩, st95⟩ := X80.virtualBack hx (y := (⟨"com/example/annalist/annalist/RemovalTimeStrategy", "baseTime", "(JLjava/lang/Long;)Ljava/lang/Long;"⟩ : MethodName)) (z := (⟨"com/example/annalist/annalist/RemovalTimeStrategy", "baseTime", "(JLjava/lang/Long;)Ljava/lang/Long;"⟩ : MethodName)) hown (mvT hZ (hw _ (List.mem_of_getElem? (i := 26) rfl))) (mvT hZ (hw _ (List.mem_of_getElem? (i := 27) rfl))) (notFace_of_selects (args := #[]) (mvT hZ (hw _ (List.mem_of_getElem? (i := 29) rfl)))) (mvT hZ (hw _ (List.mem_of_getElem? (i := 29) rfl))) (mvT hZ (hw _ (List.mem_of_getElem? (i := 28) rfl))) (by decide) (backOf (W := 0) (rm5_1_0 l Z a0 hw [] start b81 ad0 ad1 ad2 ca T80.heap n0 z80' f84 f85 f86 f90 f91 f92 f93 f94) hZ (hw _ (List.mem_of_getElem? (i := 30) rfl)) (hw _ (List.mem_of_getElem? (i := 2) rfl)) (by decide) (by decide)) q95a q95c (g := (mkF m 74 #[.val (.int wh), .val (.long start), .second, .val (.long en), .second, .val (.int flag), .val (.int ((wh &&& (2147483647 : Int32)) % (3 : Int32))), .val (.ref ad1), .val (.int (0 : Int32)), .val (.ref b81), .unset] [(.ref b81), (.long start), (.ref ad1)])) rfl (by rw [hml]; rfl) (Steps.refl _) (argsL := [(.long start), (.ref b81)]) (rest := []) (lenOf pd_3 rfl) rfl (by show 2 * 0 + _ ≤ _; exact Nat.le_of_eq rfl) (hb hby at_74) (fun _ _ => ⟨rfl, rfl, (by decide : 1 + 1 ≤ _), (by decide : 1 + 1 ≤ _)⟩)
        dsimp only [Pt.U, Pt.locs, Pt.cells, Pt.slots] at X95 l95 y95 z95 st95 hQ95
        subst l95 y95 z95
        obtain ⟨b96, rfl, N95q, K95, f97, f98⟩ := hQ95
        have N95 := Fr.app N80 N95q
        have f99 : Sta Z T95.heap "com/example/annalist/annalist/RemovalTimeStrategy" "END" "Lcom/example/annalist/annalist/RemovalTimeStrategy;" (.ref ad0) := own_sta_keep f84 K95 ns0
        have f100 : Sta Z T95.heap "com/example/annalist/annalist/RemovalTimeStrategy" "START" "Lcom/example/annalist/annalist/RemovalTimeStrategy;" (.ref ad1) := own_sta_keep f85 K95 ns0
        have f101 : Sta Z T95.heap "com/example/annalist/annalist/RemovalTimeStrategy" "NONE" "Lcom/example/annalist/annalist/RemovalTimeStrategy;" (.ref ad2) := own_sta_keep f86 K95 ns0
        have f102 : Exa Z T95.heap ad0 "com/example/annalist/annalist/RemovalTimeStrategy" := f87.keep K95
        have f103 : Exa Z T95.heap ad1 "com/example/annalist/annalist/RemovalTimeStrategy" := f88.keep K95
        have f104 : Exa Z T95.heap ad2 "com/example/annalist/annalist/RemovalTimeStrategy" := f89.keep K95
        have f105 : Fld Z T95.heap ad0 "java/lang/Enum" "ordinal" "I" (.int (0 : Int32)) := f90.keep K95 nin0
        have f106 : Fld Z T95.heap ad1 "java/lang/Enum" "ordinal" "I" (.int (1 : Int32)) := f91.keep K95 nin0
        have f107 : Fld Z T95.heap ad2 "java/lang/Enum" "ordinal" "I" (.int (2 : Int32)) := f92.keep K95 nin0
        have f108 : Sta Z T95.heap "java/lang/Long$LongCache" "cache" "[Ljava/lang/Long;" (.ref ca) := own_sta_keep f93 K95 ns0
        have f109 : own_Cache Z T95.heap ca := f94.keep K95 nin0
        have f110 : Exa Z T95.heap b81 "java/lang/Long" := f82.keep K95
        have f111 : Fld Z T95.heap b81 "java/lang/Long" "value" "J" (.long en) := f83.keep K95 nin0
        have z95' : n0 ≤ T95.heap.size := Nat.le_trans z80' K95.1
        refine own_comes (T95.setTop (mkF m 77 #[.val (.int wh), .val (.long start), .second, .val (.long en), .second, .val (.int flag), .val (.int ((wh &&& (2147483647 : Int32)) % (3 : Int32))), .val (.ref ad1), .val (.int (0 : Int32)), .val (.ref b81), .unset] [(.ref b96)])) st95 ?_
        refine own_step (T95.setTop (mkF m 79 #[.val (.int wh), .val (.long start), .second, .val (.long en), .second, .val (.int flag), .val (.int ((wh &&& (2147483647 : Int32)) % (3 : Int32))), .val (.ref ad1), .val (.int (0 : Int32)), .val (.ref b81), .val (.ref b96)] [])) (fun t₀ k₀ => XS.astore X95.here hx rfl (hb hby at_77) rfl rfl (l' := #[.val (.int wh), .val (.long start), .second, .val (.long en), .second, .val (.int flag), .val (.int ((wh &&& (2147483647 : Int32)) % (3 : Int32))), .val (.ref ad1), .val (.int (0 : Int32)), .val (.ref b81), .val (.ref b96)]) rfl k₀) ?_
        refine own_step (T95.setTop (mkF m 81 #[.val (.int wh), .val (.long start), .second, .val (.long en), .second, .val (.int flag), .val (.int ((wh &&& (2147483647 : Int32)) % (3 : Int32))), .val (.ref ad1), .val (.int (0 : Int32)), .val (.ref b81), .val (.ref b96)] [(.int ((wh &&& (2147483647 : Int32)) % (3 : Int32)))])) (fun t₀ k₀ => XS.iload X95.here hx rfl (hb hby at_79) rfl k₀) ?_
        have hk112 : ¬ (((wh &&& (2147483647 : Int32)) % (3 : Int32)) = (0 : Int32)) := hc10
        refine own_step (T95.setTop (mkF m 121 #[.val (.int wh), .val (.long start), .second, .val (.long en), .second, .val (.int flag), .val (.int ((wh &&& (2147483647 : Int32)) % (3 : Int32))), .val (.ref ad1), .val (.int (0 : Int32)), .val (.ref b81), .val (.ref b96)] [])) (fun t₀ k₀ => XS.ifYes X95.here hx rfl (pc0 := 81) (pc' := 121) rfl (hb hby at_81) rfl ((if0 _ _).trans (feq hk112).2) (by decide) (by decide) k₀) ?_
        refine own_step (T95.setTop (mkF m 123 #[.val (.int wh), .val (.long start), .second, .val (.long en), .second, .val (.int flag), .val (.int ((wh &&& (2147483647 : Int32)) % (3 : Int32))), .val (.ref ad1), .val (.int (0 : Int32)), .val (.ref b81), .val (.ref b96)] [(.int ((wh &&& (2147483647 : Int32)) % (3 : Int32)))])) (fun t₀ k₀ => XS.iload X95.here hx rfl (hb hby at_121) rfl k₀) ?_
        refine own_step (T95.setTop (mkF m 124 #[.val (.int wh), .val (.long start), .second, .val (.long en), .second, .val (.int flag), .val (.int ((wh &&& (2147483647 : Int32)) % (3 : Int32))), .val (.ref ad1), .val (.int (0 : Int32)), .val (.ref b81), .val (.ref b96)] [(.int (1 : Int32)), (.int ((wh &&& (2147483647 : Int32)) % (3 : Int32)))])) (fun t₀ k₀ => XS.iconst X95.here hx rfl (hb hby at_123) k₀) ?_
        have hk113 : ((wh &&& (2147483647 : Int32)) % (3 : Int32)) = (1 : Int32) := hc24
        refine own_step (T95.setTop (mkF m 127 #[.val (.int wh), .val (.long start), .second, .val (.long en), .second, .val (.int flag), .val (.int ((wh &&& (2147483647 : Int32)) % (3 : Int32))), .val (.ref ad1), .val (.int (0 : Int32)), .val (.ref b81), .val (.ref b96)] [])) (fun t₀ k₀ => XS.icmpNo X95.here hx rfl (hb hby at_124) rfl (teq hk113).2 k₀) ?_
        refine own_step (T95.setTop (mkF m 129 #[.val (.int wh), .val (.long start), .second, .val (.long en), .second, .val (.int flag), .val (.int ((wh &&& (2147483647 : Int32)) % (3 : Int32))), .val (.ref ad1), .val (.int (0 : Int32)), .val (.ref b81), .val (.ref b96)] [(.ref b96)])) (fun t₀ k₀ => XS.aload X95.here hx rfl (hb hby at_127) rfl rfl k₀) ?_
        refine own_step (T95.setTop (mkF m 132 #[.val (.int wh), .val (.long start), .second, .val (.long en), .second, .val (.int flag), .val (.int ((wh &&& (2147483647 : Int32)) % (3 : Int32))), .val (.ref ad1), .val (.int (0 : Int32)), .val (.ref b81), .val (.ref b96)] [])) (fun t₀ k₀ => XS.ifnullNo X95.here hx rfl (hb hby at_129) rfl k₀) ?_
        refine own_step (T95.setTop (mkF m 134 #[.val (.int wh), .val (.long start), .second, .val (.long en), .second, .val (.int flag), .val (.int ((wh &&& (2147483647 : Int32)) % (3 : Int32))), .val (.ref ad1), .val (.int (0 : Int32)), .val (.ref b81), .val (.ref b96)] [(.ref b96)])) (fun t₀ k₀ => XS.aload X95.here hx rfl (hb hby at_132) rfl rfl k₀) ?_
        obtain ⟨cq114, kq114, q114a, q114b, q114c⟩ := isOf hZ rfl f97
        obtain ⟨_, _, ⟨T114, L114, k114, n114⟩, -, X114, ⟨Lc114, hQ114, l114, y114, z114⟩, st114⟩ := X95.virtualBack hx (y := (⟨"java/lang/Long", "longValue", "()J"⟩ : MethodName)) (z := (⟨"java/lang/Long", "longValue", "()J"⟩ : MethodName)) hown (mvT hZ (hw _ (List.mem_of_getElem? (i := 32) rfl))) (mvT hZ (hw _ (List.mem_of_getElem? (i := 33) rfl))) (notFace_of_selects (args := #[]) (mvT hZ (hw _ (List.mem_of_getElem? (i := 35) rfl)))) (mvT hZ (hw _ (List.mem_of_getElem? (i := 35) rfl))) (mvT hZ (hw _ (List.mem_of_getElem? (i := 34) rfl))) (by decide) (backOf (W := 0) (rm6 l Z a0 hw [] b96 start T95.heap n0 z95' f98) hZ (hw _ (List.mem_of_getElem? (i := 36) rfl)) (hw _ (List.mem_of_getElem? (i := 6) rfl)) (by decide) (by decide)) q114a q114c (g := (mkF m 134 #[.val (.int wh), .val (.long start), .second, .val (.long en), .second, .val (.int flag), .val (.int ((wh &&& (2147483647 : Int32)) % (3 : Int32))), .val (.ref ad1), .val (.int (0 : Int32)), .val (.ref b81), .val (.ref b96)] [(.ref b96)])) rfl (by rw [hml]; rfl) (Steps.refl _) (argsL := []) (rest := []) (lenOf pd_4 rfl) rfl (by show 2 * 0 + _ ≤ _; exact Nat.le_of_eq rfl) (hb hby at_134) (fun _ _ => ⟨rfl, rfl, (by decide : 2 + 0 ≤ _), (by decide : 2 + 0 ≤ _)⟩)
        dsimp only [Pt.U, Pt.locs, Pt.cells, Pt.slots] at X114 l114 y114 z114 st114 hQ114
        subst l114 y114 z114
        obtain ⟨rfl, N114q, e114⟩ := hQ114
        have N114 := Fr.app N95 N114q
        refine own_comes (T114.setTop (mkF m 137 #[.val (.int wh), .val (.long start), .second, .val (.long en), .second, .val (.int flag), .val (.int ((wh &&& (2147483647 : Int32)) % (3 : Int32))), .val (.ref ad1), .val (.int (0 : Int32)), .val (.ref b81), .val (.ref b96)] [(.long start)])) st114 ?_
        refine own_step (T114.setTop (mkF m 138 #[.val (.int wh), .val (.long start), .second, .val (.long en), .second, .val (.int flag), .val (.int ((wh &&& (2147483647 : Int32)) % (3 : Int32))), .val (.ref ad1), .val (.int (0 : Int32)), .val (.ref b81), .val (.ref b96)] [(.long start), (.long start)])) (fun t₀ k₀ => XS.lloadN X114.here hx rfl (hb hby at_137) rfl k₀) ?_
        refine own_step (T114.setTop (mkF m 139 #[.val (.int wh), .val (.long start), .second, .val (.long en), .second, .val (.int flag), .val (.int ((wh &&& (2147483647 : Int32)) % (3 : Int32))), .val (.ref ad1), .val (.int (0 : Int32)), .val (.ref b81), .val (.ref b96)] [(.int (lcmpW start start))])) (fun t₀ k₀ => XS.lcmp X114.here hx rfl (hb hby at_138) rfl k₀) ?_
        have hk115 : start = start := rfl
        refine own_step (T114.setTop (mkF m 142 #[.val (.int wh), .val (.long start), .second, .val (.long en), .second, .val (.int flag), .val (.int ((wh &&& (2147483647 : Int32)) % (3 : Int32))), .val (.ref ad1), .val (.int (0 : Int32)), .val (.ref b81), .val (.ref b96)] [])) (fun t₀ k₀ => XS.ifNo X114.here hx rfl (hb hby at_139) rfl (own_lneF hk115) k₀) ?_
        refine own_step (T114.setTop (mkF m 143 #[.val (.int wh), .val (.long start), .second, .val (.long en), .second, .val (.int flag), .val (.int ((wh &&& (2147483647 : Int32)) % (3 : Int32))), .val (.ref ad1), .val (.int (0 : Int32)), .val (.ref b81), .val (.ref b96)] [(.int (1 : Int32))])) (fun t₀ k₀ => XS.iconst X114.here hx rfl (hb hby at_142) k₀) ?_
        refine own_step (T114.setTop (mkF m 147 #[.val (.int wh), .val (.long start), .second, .val (.long en), .second, .val (.int flag), .val (.int ((wh &&& (2147483647 : Int32)) % (3 : Int32))), .val (.ref ad1), .val (.int (0 : Int32)), .val (.ref b81), .val (.ref b96)] [(.int (1 : Int32))])) (fun t₀ k₀ => XS.goto X114.here hx rfl (pc0 := 143) (pc' := 147) rfl (hb hby at_143) (by decide) (by decide) k₀) ?_
        obtain ⟨fs, hr, hrun, hended, hW, hsame⟩ := X114.leave (v := some (.int (1 : Int32))) (fun h => by rw [Bd.returns] at h; cases h)
        refine ⟨_, _, ?_, hrun, hended, _, _, rfl, ?_, ⟨_, rfl⟩, hW, hsame.mono (by decide) (by decide)⟩
        · exact retN X114 hx (t := .boolean) Bd.returns (by simp) (hb hby at_147) hr
        · show Q_rm0 Z wh start en flag ad0 ad1 ad2 ca h0 n0 _ T114.heap _
          rw [e114]
          exact ⟨rfl, N114⟩
      · skip
        refine own_step (T79.setTop (mkF m 47 #[.val (.int wh), .val (.long start), .second, .val (.long en), .second, .val (.int flag), .val (.int ((wh &&& (2147483647 : Int32)) % (3 : Int32))), .val (.ref ad1), .unset, .unset, .unset] [])) (fun t₀ k₀ => XS.ifNo X79.here hx rfl (hb hby at_44) rfl ((if0 _ _).trans (feq hc44).1) k₀) ?_
        refine own_step (T79.setTop (mkF m 48 #[.val (.int wh), .val (.long start), .second, .val (.long en), .second, .val (.int flag), .val (.int ((wh &&& (2147483647 : Int32)) % (3 : Int32))), .val (.ref ad1), .unset, .unset, .unset] [(.int (1 : Int32))])) (fun t₀ k₀ => XS.iconst X79.here hx rfl (hb hby at_47) k₀) ?_
        refine own_step (T79.setTop (mkF m 52 #[.val (.int wh), .val (.long start), .second, .val (.long en), .second, .val (.int flag), .val (.int ((wh &&& (2147483647 : Int32)) % (3 : Int32))), .val (.ref ad1), .unset, .unset, .unset] [(.int (1 : Int32))])) (fun t₀ k₀ => XS.goto X79.here hx rfl (pc0 := 48) (pc' := 52) rfl (hb hby at_48) (by decide) (by decide) k₀) ?_
        refine own_step (T79.setTop (mkF m 54 #[.val (.int wh), .val (.long start), .second, .val (.long en), .second, .val (.int flag), .val (.int ((wh &&& (2147483647 : Int32)) % (3 : Int32))), .val (.ref ad1), .val (.int (1 : Int32)), .unset, .unset] [])) (fun t₀ k₀ => XS.istore X79.here hx rfl (hb hby at_52) rfl (l' := #[.val (.int wh), .val (.long start), .second, .val (.long en), .second, .val (.int flag), .val (.int ((wh &&& (2147483647 : Int32)) % (3 : Int32))), .val (.ref ad1), .val (.int (1 : Int32)), .unset, .unset]) rfl k₀) ?_
        refine own_step (T79.setTop (mkF m 56 #[.val (.int wh), .val (.long start), .second, .val (.long en), .second, .val (.int flag), .val (.int ((wh &&& (2147483647 : Int32)) % (3 : Int32))), .val (.ref ad1), .val (.int (1 : Int32)), .unset, .unset] [(.int (1 : Int32))])) (fun t₀ k₀ => XS.iload X79.here hx rfl (hb hby at_54) rfl k₀) ?_
        refine own_step (T79.setTop (mkF m 59 #[.val (.int wh), .val (.long start), .second, .val (.long en), .second, .val (.int flag), .val (.int ((wh &&& (2147483647 : Int32)) % (3 : Int32))), .val (.ref ad1), .val (.int (1 : Int32)), .unset, .unset] [])) (fun t₀ k₀ => XS.ifNo X79.here hx rfl (hb hby at_56) rfl (by decide) k₀) ?_
        refine own_step (T79.setTop (mkF m 60 #[.val (.int wh), .val (.long start), .second, .val (.long en), .second, .val (.int flag), .val (.int ((wh &&& (2147483647 : Int32)) % (3 : Int32))), .val (.ref ad1), .val (.int (1 : Int32)), .unset, .unset] [.null])) (fun t₀ k₀ => XS.aconstNull X79.here hx rfl (hb hby at_59) k₀) ?_
        refine own_step (T79.setTop (mkF m 67 #[.val (.int wh), .val (.long start), .second, .val (.long en), .second, .val (.int flag), .val (.int ((wh &&& (2147483647 : Int32)) % (3 : Int32))), .val (.ref ad1), .val (.int (1 : Int32)), .unset, .unset] [.null])) (fun t₀ k₀ => XS.goto X79.here hx rfl (pc0 := 60) (pc' := 67) rfl (hb hby at_60) (by decide) (by decide) k₀) ?_
        refine own_step (T79.setTop (mkF m 69 #[.val (.int wh), .val (.long start), .second, .val (.long en), .second, .val (.int flag), .val (.int ((wh &&& (2147483647 : Int32)) % (3 : Int32))), .val (.ref ad1), .val (.int (1 : Int32)), .val .null, .unset] [])) (fun t₀ k₀ => XS.astore X79.here hx rfl (hb hby at_67) rfl rfl (l' := #[.val (.int wh), .val (.long start), .second, .val (.long en), .second, .val (.int flag), .val (.int ((wh &&& (2147483647 : Int32)) % (3 : Int32))), .val (.ref ad1), .val (.int (1 : Int32)), .val .null, .unset]) rfl k₀) ?_
        refine own_step (T79.setTop (mkF m 71 #[.val (.int wh), .val (.long start), .second, .val (.long en), .second, .val (.int flag), .val (.int ((wh &&& (2147483647 : Int32)) % (3 : Int32))), .val (.ref ad1), .val (.int (1 : Int32)), .val .null, .unset] [(.ref ad1)])) (fun t₀ k₀ => XS.aload X79.here hx rfl (hb hby at_69) rfl rfl k₀) ?_
        refine own_step (T79.setTop (mkF m 72 #[.val (.int wh), .val (.long start), .second, .val (.long en), .second, .val (.int flag), .val (.int ((wh &&& (2147483647 : Int32)) % (3 : Int32))), .val (.ref ad1), .val (.int (1 : Int32)), .val .null, .unset] [(.long start), (.ref ad1)])) (fun t₀ k₀ => XS.lloadN X79.here hx rfl (hb hby at_71) rfl k₀) ?_
        refine own_step (T79.setTop (mkF m 74 #[.val (.int wh), .val (.long start), .second, .val (.long en), .second, .val (.int flag), .val (.int ((wh &&& (2147483647 : Int32)) % (3 : Int32))), .val (.ref ad1), .val (.int (1 : Int32)), .val .null, .unset] [.null, (.long start), (.ref ad1)])) (fun t₀ k₀ => XS.aload X79.here hx rfl (hb hby at_72) rfl rfl k₀) ?_
        obtain ⟨cq116, kq116, q116a, q116b, q116c⟩ := isOf hZ e79 A1
        obtain ⟨_, _, ⟨T116, L116, k116, n116⟩, -, X116, ⟨Lc116, hQ116, l116, y116, z116⟩, st116⟩ := X79.virtualBack hx (y := (⟨"com/example/annalist/annalist/RemovalTimeStrategy", "baseTime", "(JLjava/lang/Long;)Ljava/lang/Long;"⟩ : MethodName)) (z := (⟨"com/example/annalist/annalist/RemovalTimeStrategy", "baseTime", "(JLjava/lang/Long;)Ljava/lang/Long;"⟩ : MethodName)) hown (mvT hZ (hw _ (List.mem_of_getElem? (i := 26) rfl))) (mvT hZ (hw _ (List.mem_of_getElem? (i := 27) rfl))) (notFace_of_selects (args := #[]) (mvT hZ (hw _ (List.mem_of_getElem? (i := 29) rfl)))) (mvT hZ (hw _ (List.mem_of_getElem? (i := 29) rfl))) (mvT hZ (hw _ (List.mem_of_getElem? (i := 28) rfl))) (by decide) (backOf (W := 0) (rm5_1_1 l Z a0 hw [] start ad0 ad1 ad2 ca h0 n0 Z0 S0 S1 S2 O0 O1 O2 Sc Oc) hZ (hw _ (List.mem_of_getElem? (i := 30) rfl)) (hw _ (List.mem_of_getElem? (i := 2) rfl)) (by decide) (by decide)) q116a q116c (g := (mkF m 74 #[.val (.int wh), .val (.long start), .second, .val (.long en), .second, .val (.int flag), .val (.int ((wh &&& (2147483647 : Int32)) % (3 : Int32))), .val (.ref ad1), .val (.int (1 : Int32)), .val .null, .unset] [.null, (.long start), (.ref ad1)])) rfl (by rw [hml]; rfl) (Steps.refl _) (argsL := [(.long start), .null]) (rest := []) (lenOf pd_3 rfl) rfl (by show 2 * 0 + _ ≤ _; exact Nat.le_of_eq rfl) (hb hby at_74) (fun _ _ => ⟨rfl, e79, (by decide : 0 + 1 ≤ _), (by decide : 0 + 1 ≤ _)⟩)
        dsimp only [Pt.U, Pt.locs, Pt.cells, Pt.slots] at X116 l116 y116 z116 st116 hQ116
        subst l116 y116 z116
        obtain ⟨b117, rfl, N116q, K116, f118, f119⟩ := hQ116
        have N116 := Fr.app N0 N116q
        have f120 : Sta Z T116.heap "com/example/annalist/annalist/RemovalTimeStrategy" "END" "Lcom/example/annalist/annalist/RemovalTimeStrategy;" (.ref ad0) := own_sta_keep S0 K116 ns0
        have f121 : Sta Z T116.heap "com/example/annalist/annalist/RemovalTimeStrategy" "START" "Lcom/example/annalist/annalist/RemovalTimeStrategy;" (.ref ad1) := own_sta_keep S1 K116 ns0
        have f122 : Sta Z T116.heap "com/example/annalist/annalist/RemovalTimeStrategy" "NONE" "Lcom/example/annalist/annalist/RemovalTimeStrategy;" (.ref ad2) := own_sta_keep S2 K116 ns0
        have f123 : Exa Z T116.heap ad0 "com/example/annalist/annalist/RemovalTimeStrategy" := A0.keep K116
        have f124 : Exa Z T116.heap ad1 "com/example/annalist/annalist/RemovalTimeStrategy" := A1.keep K116
        have f125 : Exa Z T116.heap ad2 "com/example/annalist/annalist/RemovalTimeStrategy" := A2.keep K116
        have f126 : Fld Z T116.heap ad0 "java/lang/Enum" "ordinal" "I" (.int (0 : Int32)) := O0.keep K116 nin0
        have f127 : Fld Z T116.heap ad1 "java/lang/Enum" "ordinal" "I" (.int (1 : Int32)) := O1.keep K116 nin0
        have f128 : Fld Z T116.heap ad2 "java/lang/Enum" "ordinal" "I" (.int (2 : Int32)) := O2.keep K116 nin0
        have f129 : Sta Z T116.heap "java/lang/Long$LongCache" "cache" "[Ljava/lang/Long;" (.ref ca) := own_sta_keep Sc K116 ns0
        have f130 : own_Cache Z T116.heap ca := Oc.keep K116 nin0
        have z116' : n0 ≤ T116.heap.size := Nat.le_trans Z0 K116.1
        refine own_comes (T116.setTop (mkF m 77 #[.val (.int wh), .val (.long start), .second, .val (.long en), .second, .val (.int flag), .val (.int ((wh &&& (2147483647 : Int32)) % (3 : Int32))), .val (.ref ad1), .val (.int (1 : Int32)), .val .null, .unset] [(.ref b117)])) st116 ?_
        refine own_step (T116.setTop (mkF m 79 #[.val (.int wh), .val (.long start), .second, .val (.long en), .second, .val (.int flag), .val (.int ((wh &&& (2147483647 : Int32)) % (3 : Int32))), .val (.ref ad1), .val (.int (1 : Int32)), .val .null, .val (.ref b117)] [])) (fun t₀ k₀ => XS.astore X116.here hx rfl (hb hby at_77) rfl rfl (l' := #[.val (.int wh), .val (.long start), .second, .val (.long en), .second, .val (.int flag), .val (.int ((wh &&& (2147483647 : Int32)) % (3 : Int32))), .val (.ref ad1), .val (.int (1 : Int32)), .val .null, .val (.ref b117)]) rfl k₀) ?_
        refine own_step (T116.setTop (mkF m 81 #[.val (.int wh), .val (.long start), .second, .val (.long en), .second, .val (.int flag), .val (.int ((wh &&& (2147483647 : Int32)) % (3 : Int32))), .val (.ref ad1), .val (.int (1 : Int32)), .val .null, .val (.ref b117)] [(.int ((wh &&& (2147483647 : Int32)) % (3 : Int32)))])) (fun t₀ k₀ => XS.iload X116.here hx rfl (hb hby at_79) rfl k₀) ?_
        have hk131 : ¬ (((wh &&& (2147483647 : Int32)) % (3 : Int32)) = (0 : Int32)) := hc10
        refine own_step (T116.setTop (mkF m 121 #[.val (.int wh), .val (.long start), .second, .val (.long en), .second, .val (.int flag), .val (.int ((wh &&& (2147483647 : Int32)) % (3 : Int32))), .val (.ref ad1), .val (.int (1 : Int32)), .val .null, .val (.ref b117)] [])) (fun t₀ k₀ => XS.ifYes X116.here hx rfl (pc0 := 81) (pc' := 121) rfl (hb hby at_81) rfl ((if0 _ _).trans (feq hk131).2) (by decide) (by decide) k₀) ?_
        refine own_step (T116.setTop (mkF m 123 #[.val (.int wh), .val (.long start), .second, .val (.long en), .second, .val (.int flag), .val (.int ((wh &&& (2147483647 : Int32)) % (3 : Int32))), .val (.ref ad1), .val (.int (1 : Int32)), .val .null, .val (.ref b117)] [(.int ((wh &&& (2147483647 : Int32)) % (3 : Int32)))])) (fun t₀ k₀ => XS.iload X116.here hx rfl (hb hby at_121) rfl k₀) ?_
        refine own_step (T116.setTop (mkF m 124 #[.val (.int wh), .val (.long start), .second, .val (.long en), .second, .val (.int flag), .val (.int ((wh &&& (2147483647 : Int32)) % (3 : Int32))), .val (.ref ad1), .val (.int (1 : Int32)), .val .null, .val (.ref b117)] [(.int (1 : Int32)), (.int ((wh &&& (2147483647 : Int32)) % (3 : Int32)))])) (fun t₀ k₀ => XS.iconst X116.here hx rfl (hb hby at_123) k₀) ?_
        have hk132 : ((wh &&& (2147483647 : Int32)) % (3 : Int32)) = (1 : Int32) := hc24
        refine own_step (T116.setTop (mkF m 127 #[.val (.int wh), .val (.long start), .second, .val (.long en), .second, .val (.int flag), .val (.int ((wh &&& (2147483647 : Int32)) % (3 : Int32))), .val (.ref ad1), .val (.int (1 : Int32)), .val .null, .val (.ref b117)] [])) (fun t₀ k₀ => XS.icmpNo X116.here hx rfl (hb hby at_124) rfl (teq hk132).2 k₀) ?_
        refine own_step (T116.setTop (mkF m 129 #[.val (.int wh), .val (.long start), .second, .val (.long en), .second, .val (.int flag), .val (.int ((wh &&& (2147483647 : Int32)) % (3 : Int32))), .val (.ref ad1), .val (.int (1 : Int32)), .val .null, .val (.ref b117)] [(.ref b117)])) (fun t₀ k₀ => XS.aload X116.here hx rfl (hb hby at_127) rfl rfl k₀) ?_
        refine own_step (T116.setTop (mkF m 132 #[.val (.int wh), .val (.long start), .second, .val (.long en), .second, .val (.int flag), .val (.int ((wh &&& (2147483647 : Int32)) % (3 : Int32))), .val (.ref ad1), .val (.int (1 : Int32)), .val .null, .val (.ref b117)] [])) (fun t₀ k₀ => XS.ifnullNo X116.here hx rfl (hb hby at_129) rfl k₀) ?_
        refine own_step (T116.setTop (mkF m 134 #[.val (.int wh), .val (.long start), .second, .val (.long en), .second, .val (.int flag), .val (.int ((wh &&& (2147483647 : Int32)) % (3 : Int32))), .val (.ref ad1), .val (.int (1 : Int32)), .val .null, .val (.ref b117)] [(.ref b117)])) (fun t₀ k₀ => XS.aload X116.here hx rfl (hb hby at_132) rfl rfl k₀) ?_
        obtain ⟨cq133, kq133, q133a, q133b, q133c⟩ := isOf hZ rfl f118
        obtain ⟨_, _, ⟨T133, L133, k133, n133⟩, -, X133, ⟨Lc133, hQ133, l133, y133, z133⟩, st133⟩ := X116.virtualBack hx (y := (⟨"java/lang/Long", "longValue", "()J"⟩ : MethodName)) (z := (⟨"java/lang/Long", "longValue", "()J"⟩ : MethodName)) hown (mvT hZ (hw _ (List.mem_of_getElem? (i := 32) rfl))) (mvT hZ (hw _ (List.mem_of_getElem? (i := 33) rfl))) (notFace_of_selects (args := #[]) (mvT hZ (hw _ (List.mem_of_getElem? (i := 35) rfl)))) (mvT hZ (hw _ (List.mem_of_getElem? (i := 35) rfl))) (mvT hZ (hw _ (List.mem_of_getElem? (i := 34) rfl))) (by decide) (backOf (W := 0) (rm6 l Z a0 hw [] b117 start T116.heap n0 z116' f119) hZ (hw _ (List.mem_of_getElem? (i := 36) rfl)) (hw _ (List.mem_of_getElem? (i := 6) rfl)) (by decide) (by decide)) q133a q133c (g := (mkF m 134 #[.val (.int wh), .val (.long start), .second, .val (.long en), .second, .val (.int flag), .val (.int ((wh &&& (2147483647 : Int32)) % (3 : Int32))), .val (.ref ad1), .val (.int (1 : Int32)), .val .null, .val (.ref b117)] [(.ref b117)])) rfl (by rw [hml]; rfl) (Steps.refl _) (argsL := []) (rest := []) (lenOf pd_4 rfl) rfl (by show 2 * 0 + _ ≤ _; exact Nat.le_of_eq rfl) (hb hby at_134) (fun _ _ => ⟨rfl, rfl, (by decide : 1 + 0 ≤ _), (by decide : 1 + 0 ≤ _)⟩)
        dsimp only [Pt.U, Pt.locs, Pt.cells, Pt.slots] at X133 l133 y133 z133 st133 hQ133
        subst l133 y133 z133
        obtain ⟨rfl, N133q, e133⟩ := hQ133
        have N133 := Fr.app N116 N133q
        refine own_comes (T133.setTop (mkF m 137 #[.val (.int wh), .val (.long start), .second, .val (.long en), .second, .val (.int flag), .val (.int ((wh &&& (2147483647 : Int32)) % (3 : Int32))), .val (.ref ad1), .val (.int (1 : Int32)), .val .null, .val (.ref b117)] [(.long start)])) st133 ?_
        refine own_step (T133.setTop (mkF m 138 #[.val (.int wh), .val (.long start), .second, .val (.long en), .second, .val (.int flag), .val (.int ((wh &&& (2147483647 : Int32)) % (3 : Int32))), .val (.ref ad1), .val (.int (1 : Int32)), .val .null, .val (.ref b117)] [(.long start), (.long start)])) (fun t₀ k₀ => XS.lloadN X133.here hx rfl (hb hby at_137) rfl k₀) ?_
        refine own_step (T133.setTop (mkF m 139 #[.val (.int wh), .val (.long start), .second, .val (.long en), .second, .val (.int flag), .val (.int ((wh &&& (2147483647 : Int32)) % (3 : Int32))), .val (.ref ad1), .val (.int (1 : Int32)), .val .null, .val (.ref b117)] [(.int (lcmpW start start))])) (fun t₀ k₀ => XS.lcmp X133.here hx rfl (hb hby at_138) rfl k₀) ?_
        have hk134 : start = start := rfl
        refine own_step (T133.setTop (mkF m 142 #[.val (.int wh), .val (.long start), .second, .val (.long en), .second, .val (.int flag), .val (.int ((wh &&& (2147483647 : Int32)) % (3 : Int32))), .val (.ref ad1), .val (.int (1 : Int32)), .val .null, .val (.ref b117)] [])) (fun t₀ k₀ => XS.ifNo X133.here hx rfl (hb hby at_139) rfl (own_lneF hk134) k₀) ?_
        refine own_step (T133.setTop (mkF m 143 #[.val (.int wh), .val (.long start), .second, .val (.long en), .second, .val (.int flag), .val (.int ((wh &&& (2147483647 : Int32)) % (3 : Int32))), .val (.ref ad1), .val (.int (1 : Int32)), .val .null, .val (.ref b117)] [(.int (1 : Int32))])) (fun t₀ k₀ => XS.iconst X133.here hx rfl (hb hby at_142) k₀) ?_
        refine own_step (T133.setTop (mkF m 147 #[.val (.int wh), .val (.long start), .second, .val (.long en), .second, .val (.int flag), .val (.int ((wh &&& (2147483647 : Int32)) % (3 : Int32))), .val (.ref ad1), .val (.int (1 : Int32)), .val .null, .val (.ref b117)] [(.int (1 : Int32))])) (fun t₀ k₀ => XS.goto X133.here hx rfl (pc0 := 143) (pc' := 147) rfl (hb hby at_143) (by decide) (by decide) k₀) ?_
        obtain ⟨fs, hr, hrun, hended, hW, hsame⟩ := X133.leave (v := some (.int (1 : Int32))) (fun h => by rw [Bd.returns] at h; cases h)
        refine ⟨_, _, ?_, hrun, hended, _, _, rfl, ?_, ⟨_, rfl⟩, hW, hsame.mono (by decide) (by decide)⟩
        · exact retN X133 hx (t := .boolean) Bd.returns (by simp) (hb hby at_147) hr
        · show Q_rm0 Z wh start en flag ad0 ad1 ad2 ca h0 n0 _ T133.heap _
          rw [e133]
          exact ⟨rfl, N133⟩
    · skip
      refine own_step (s₁.setTop (mkF m 35 #[.val (.int wh), .val (.long start), .second, .val (.long en), .second, .val (.int flag), .val (.int ((wh &&& (2147483647 : Int32)) % (3 : Int32))), .unset, .unset, .unset, .unset] [])) (fun t₀ k₀ => XS.icmpYes X0.here hx rfl (pc0 := 24) (pc' := 35) rfl (hb hby at_24) rfl (feq hc24).2 (by decide) (by decide) k₀) ?_
      obtain ⟨T135, X135, e135, st135⟩ := getS2 X0 hx hZ hown (host := "") (Or.inl (hw _ (List.mem_of_getElem? (i := 44) rfl))) Via.refl e0 S2 (g := (mkF m 35 #[.val (.int wh), .val (.long start), .second, .val (.long en), .second, .val (.int flag), .val (.int ((wh &&& (2147483647 : Int32)) % (3 : Int32))), .unset, .unset, .unset, .unset] [])) rfl (hb hby at_35)
      refine own_step (T135.setTop (mkF m 38 #[.val (.int wh), .val (.long start), .second, .val (.long en), .second, .val (.int flag), .val (.int ((wh &&& (2147483647 : Int32)) % (3 : Int32))), .unset, .unset, .unset, .unset] [(.ref ad2)])) (fun t₀ k₀ => st135 t₀ k₀) ?_
      refine own_step (T135.setTop (mkF m 40 #[.val (.int wh), .val (.long start), .second, .val (.long en), .second, .val (.int flag), .val (.int ((wh &&& (2147483647 : Int32)) % (3 : Int32))), .val (.ref ad2), .unset, .unset, .unset] [])) (fun t₀ k₀ => XS.astore X135.here hx rfl (hb hby at_38) rfl rfl (l' := #[.val (.int wh), .val (.long start), .second, .val (.long en), .second, .val (.int flag), .val (.int ((wh &&& (2147483647 : Int32)) % (3 : Int32))), .val (.ref ad2), .unset, .unset, .unset]) rfl k₀) ?_
      refine own_step (T135.setTop (mkF m 42 #[.val (.int wh), .val (.long start), .second, .val (.long en), .second, .val (.int flag), .val (.int ((wh &&& (2147483647 : Int32)) % (3 : Int32))), .val (.ref ad2), .unset, .unset, .unset] [(.int flag)])) (fun t₀ k₀ => XS.iload X135.here hx rfl (hb hby at_40) rfl k₀) ?_
      refine own_step (T135.setTop (mkF m 43 #[.val (.int wh), .val (.long start), .second, .val (.long en), .second, .val (.int flag), .val (.int ((wh &&& (2147483647 : Int32)) % (3 : Int32))), .val (.ref ad2), .unset, .unset, .unset] [(.int (1 : Int32)), (.int flag)])) (fun t₀ k₀ => XS.iconst X135.here hx rfl (hb hby at_42) k₀) ?_
      refine own_step (T135.setTop (mkF m 44 #[.val (.int wh), .val (.long start), .second, .val (.long en), .second, .val (.int flag), .val (.int ((wh &&& (2147483647 : Int32)) % (3 : Int32))), .val (.ref ad2), .unset, .unset, .unset] [(.int (flag &&& (1 : Int32)))])) (fun t₀ k₀ => XS.iand X135.here hx rfl (hb hby at_43) rfl k₀) ?_
      by_cases hc44 : (flag &&& (1 : Int32)) = (0 : Int32)
      · skip
        refine own_step (T135.setTop (mkF m 51 #[.val (.int wh), .val (.long start), .second, .val (.long en), .second, .val (.int flag), .val (.int ((wh &&& (2147483647 : Int32)) % (3 : Int32))), .val (.ref ad2), .unset, .unset, .unset] [])) (fun t₀ k₀ => XS.ifYes X135.here hx rfl (pc0 := 44) (pc' := 51) rfl (hb hby at_44) rfl ((if0 _ _).trans (teq hc44).1) (by decide) (by decide) k₀) ?_
        refine own_step (T135.setTop (mkF m 52 #[.val (.int wh), .val (.long start), .second, .val (.long en), .second, .val (.int flag), .val (.int ((wh &&& (2147483647 : Int32)) % (3 : Int32))), .val (.ref ad2), .unset, .unset, .unset] [(.int (0 : Int32))])) (fun t₀ k₀ => XS.iconst X135.here hx rfl (hb hby at_51) k₀) ?_
        refine own_step (T135.setTop (mkF m 54 #[.val (.int wh), .val (.long start), .second, .val (.long en), .second, .val (.int flag), .val (.int ((wh &&& (2147483647 : Int32)) % (3 : Int32))), .val (.ref ad2), .val (.int (0 : Int32)), .unset, .unset] [])) (fun t₀ k₀ => XS.istore X135.here hx rfl (hb hby at_52) rfl (l' := #[.val (.int wh), .val (.long start), .second, .val (.long en), .second, .val (.int flag), .val (.int ((wh &&& (2147483647 : Int32)) % (3 : Int32))), .val (.ref ad2), .val (.int (0 : Int32)), .unset, .unset]) rfl k₀) ?_
        refine own_step (T135.setTop (mkF m 56 #[.val (.int wh), .val (.long start), .second, .val (.long en), .second, .val (.int flag), .val (.int ((wh &&& (2147483647 : Int32)) % (3 : Int32))), .val (.ref ad2), .val (.int (0 : Int32)), .unset, .unset] [(.int (0 : Int32))])) (fun t₀ k₀ => XS.iload X135.here hx rfl (hb hby at_54) rfl k₀) ?_
        refine own_step (T135.setTop (mkF m 63 #[.val (.int wh), .val (.long start), .second, .val (.long en), .second, .val (.int flag), .val (.int ((wh &&& (2147483647 : Int32)) % (3 : Int32))), .val (.ref ad2), .val (.int (0 : Int32)), .unset, .unset] [])) (fun t₀ k₀ => XS.ifYes X135.here hx rfl (pc0 := 56) (pc' := 63) rfl (hb hby at_56) rfl (by decide) (by decide) (by decide) k₀) ?_
        refine own_step (T135.setTop (mkF m 64 #[.val (.int wh), .val (.long start), .second, .val (.long en), .second, .val (.int flag), .val (.int ((wh &&& (2147483647 : Int32)) % (3 : Int32))), .val (.ref ad2), .val (.int (0 : Int32)), .unset, .unset] [(.long en)])) (fun t₀ k₀ => XS.lloadN X135.here hx rfl (hb hby at_63) rfl k₀) ?_
        obtain ⟨_, _, ⟨T136, L136, k136, n136⟩, -, X136, ⟨Lc136, hQ136, l136, y136, z136⟩, st136⟩ := Jvm.LawKit.callS X135 hx (y := (⟨"java/lang/Long", "valueOf", "(J)Ljava/lang/Long;"⟩ : MethodName)) hown (mvT hZ (hw _ (List.mem_of_getElem? (i := 4) rfl))) (mvT hZ (hw _ (List.mem_of_getElem? (i := 5) rfl))) (mvT hZ (hw _ (List.mem_of_getElem? (i := 6) rfl))) (mvT hZ (hw _ (List.mem_of_getElem? (i := 7) rfl))) (by decide) (backOf (W := 0) (rm1 l Z a0 hw [] en ca h0 n0 Z0 Sc Oc) hZ (hw _ (List.mem_of_getElem? (i := 7) rfl)) (hw _ (List.mem_of_getElem? (i := 6) rfl)) (by decide) (by decide)) (g := (mkF m 64 #[.val (.int wh), .val (.long start), .second, .val (.long en), .second, .val (.int flag), .val (.int ((wh &&& (2147483647 : Int32)) % (3 : Int32))), .val (.ref ad2), .val (.int (0 : Int32)), .unset, .unset] [(.long en)])) rfl (by rw [hml]; rfl) (argsL := [(.long en)]) (rest := []) (lenOf pd_0 rfl) rfl (by show 2 * 0 + _ ≤ _; exact Nat.le_of_eq rfl) (hb hby at_64) (fun _ _ => ⟨rfl, e135, (by decide : 0 + 1 ≤ _), (by decide : 0 + 1 ≤ _)⟩)
        dsimp only [Pt.U, Pt.locs, Pt.cells, Pt.slots] at X136 l136 y136 z136 st136 hQ136
        subst l136 y136 z136
        obtain ⟨b137, rfl, N136q, K136, f138, f139⟩ := hQ136
        have N136 := Fr.app N0 N136q
        have f140 : Sta Z T136.heap "com/example/annalist/annalist/RemovalTimeStrategy" "END" "Lcom/example/annalist/annalist/RemovalTimeStrategy;" (.ref ad0) := own_sta_keep S0 K136 ns0
        have f141 : Sta Z T136.heap "com/example/annalist/annalist/RemovalTimeStrategy" "START" "Lcom/example/annalist/annalist/RemovalTimeStrategy;" (.ref ad1) := own_sta_keep S1 K136 ns0
        have f142 : Sta Z T136.heap "com/example/annalist/annalist/RemovalTimeStrategy" "NONE" "Lcom/example/annalist/annalist/RemovalTimeStrategy;" (.ref ad2) := own_sta_keep S2 K136 ns0
        have f143 : Exa Z T136.heap ad0 "com/example/annalist/annalist/RemovalTimeStrategy" := A0.keep K136
        have f144 : Exa Z T136.heap ad1 "com/example/annalist/annalist/RemovalTimeStrategy" := A1.keep K136
        have f145 : Exa Z T136.heap ad2 "com/example/annalist/annalist/RemovalTimeStrategy" := A2.keep K136
        have f146 : Fld Z T136.heap ad0 "java/lang/Enum" "ordinal" "I" (.int (0 : Int32)) := O0.keep K136 nin0
        have f147 : Fld Z T136.heap ad1 "java/lang/Enum" "ordinal" "I" (.int (1 : Int32)) := O1.keep K136 nin0
        have f148 : Fld Z T136.heap ad2 "java/lang/Enum" "ordinal" "I" (.int (2 : Int32)) := O2.keep K136 nin0
        have f149 : Sta Z T136.heap "java/lang/Long$LongCache" "cache" "[Ljava/lang/Long;" (.ref ca) := own_sta_keep Sc K136 ns0
        have f150 : own_Cache Z T136.heap ca := Oc.keep K136 nin0
        have z136' : n0 ≤ T136.heap.size := Nat.le_trans Z0 K136.1
        refine own_step (T136.setTop (mkF m 67 #[.val (.int wh), .val (.long start), .second, .val (.long en), .second, .val (.int flag), .val (.int ((wh &&& (2147483647 : Int32)) % (3 : Int32))), .val (.ref ad2), .val (.int (0 : Int32)), .unset, .unset] [(.ref b137)])) (fun t₀ k₀ => st136 t₀ k₀) ?_
        refine own_step (T136.setTop (mkF m 69 #[.val (.int wh), .val (.long start), .second, .val (.long en), .second, .val (.int flag), .val (.int ((wh &&& (2147483647 : Int32)) % (3 : Int32))), .val (.ref ad2), .val (.int (0 : Int32)), .val (.ref b137), .unset] [])) (fun t₀ k₀ => XS.astore X136.here hx rfl (hb hby at_67) rfl rfl (l' := #[.val (.int wh), .val (.long start), .second, .val (.long en), .second, .val (.int flag), .val (.int ((wh &&& (2147483647 : Int32)) % (3 : Int32))), .val (.ref ad2), .val (.int (0 : Int32)), .val (.ref b137), .unset]) rfl k₀) ?_
        refine own_step (T136.setTop (mkF m 71 #[.val (.int wh), .val (.long start), .second, .val (.long en), .second, .val (.int flag), .val (.int ((wh &&& (2147483647 : Int32)) % (3 : Int32))), .val (.ref ad2), .val (.int (0 : Int32)), .val (.ref b137), .unset] [(.ref ad2)])) (fun t₀ k₀ => XS.aload X136.here hx rfl (hb hby at_69) rfl rfl k₀) ?_
        refine own_step (T136.setTop (mkF m 72 #[.val (.int wh), .val (.long start), .second, .val (.long en), .second, .val (.int flag), .val (.int ((wh &&& (2147483647 : Int32)) % (3 : Int32))), .val (.ref ad2), .val (.int (0 : Int32)), .val (.ref b137), .unset] [(.long start), (.ref ad2)])) (fun t₀ k₀ => XS.lloadN X136.here hx rfl (hb hby at_71) rfl k₀) ?_
        refine own_step (T136.setTop (mkF m 74 #[.val (.int wh), .val (.long start), .second, .val (.long en), .second, .val (.int flag), .val (.int ((wh &&& (2147483647 : Int32)) % (3 : Int32))), .val (.ref ad2), .val (.int (0 : Int32)), .val (.ref b137), .unset] [(.ref b137), (.long start), (.ref ad2)])) (fun t₀ k₀ => XS.aload X136.here hx rfl (hb hby at_72) rfl rfl k₀) ?_
        obtain ⟨cq151, kq151, q151a, q151b, q151c⟩ := isOf hZ rfl f145
        obtain ⟨_, _, ⟨T151, L151, k151, n151⟩, -, X151, ⟨Lc151, hQ151, l151, y151, z151⟩, st151⟩ := X136.virtualBack hx (y := (⟨"com/example/annalist/annalist/RemovalTimeStrategy", "baseTime", "(JLjava/lang/Long;)Ljava/lang/Long;"⟩ : MethodName)) (z := (⟨"com/example/annalist/annalist/RemovalTimeStrategy", "baseTime", "(JLjava/lang/Long;)Ljava/lang/Long;"⟩ : MethodName)) hown (mvT hZ (hw _ (List.mem_of_getElem? (i := 26) rfl))) (mvT hZ (hw _ (List.mem_of_getElem? (i := 27) rfl))) (notFace_of_selects (args := #[]) (mvT hZ (hw _ (List.mem_of_getElem? (i := 29) rfl)))) (mvT hZ (hw _ (List.mem_of_getElem? (i := 29) rfl))) (mvT hZ (hw _ (List.mem_of_getElem? (i := 28) rfl))) (by decide) (backOf (W := 0) (rm5_2_0 l Z a0 hw [] start b137 ad0 ad1 ad2 ca T136.heap n0 z136' f140 f141 f142 f146 f147 f148 f149 f150) hZ (hw _ (List.mem_of_getElem? (i := 30) rfl)) (hw _ (List.mem_of_getElem? (i := 2) rfl)) (by decide) (by decide)) q151a q151c (g := (mkF m 74 #[.val (.int wh), .val (.long start), .second, .val (.long en), .second, .val (.int flag), .val (.int ((wh &&& (2147483647 : Int32)) % (3 : Int32))), .val (.ref ad2), .val (.int (0 : Int32)), .val (.ref b137), .unset] [(.ref b137), (.long start), (.ref ad2)])) rfl (by rw [hml]; rfl) (Steps.refl _) (argsL := [(.long start), (.ref b137)]) (rest := []) (lenOf pd_3 rfl) rfl (by show 2 * 0 + _ ≤ _; exact Nat.le_of_eq rfl) (hb hby at_74) (fun _ _ => ⟨rfl, rfl, (by decide : 1 + 0 ≤ _), (by decide : 1 + 0 ≤ _)⟩)
        dsimp only [Pt.U, Pt.locs, Pt.cells, Pt.slots] at X151 l151 y151 z151 st151 hQ151
        subst l151 y151 z151
        obtain ⟨rfl, N151q, e151⟩ := hQ151
        have N151 := Fr.app N136 N151q
        refine own_comes (T151.setTop (mkF m 77 #[.val (.int wh), .val (.long start), .second, .val (.long en), .second, .val (.int flag), .val (.int ((wh &&& (2147483647 : Int32)) % (3 : Int32))), .val (.ref ad2), .val (.int (0 : Int32)), .val (.ref b137), .unset] [.null])) st151 ?_
        refine own_step (T151.setTop (mkF m 79 #[.val (.int wh), .val (.long start), .second, .val (.long en), .second, .val (.int flag), .val (.int ((wh &&& (2147483647 : Int32)) % (3 : Int32))), .val (.ref ad2), .val (.int (0 : Int32)), .val (.ref b137), .val .null] [])) (fun t₀ k₀ => XS.astore X151.here hx rfl (hb hby at_77) rfl rfl (l' := #[.val (.int wh), .val (.long start), .second, .val (.long en), .second, .val (.int flag), .val (.int ((wh &&& (2147483647 : Int32)) % (3 : Int32))), .val (.ref ad2), .val (.int (0 : Int32)), .val (.ref b137), .val .null]) rfl k₀) ?_
        refine own_step (T151.setTop (mkF m 81 #[.val (.int wh), .val (.long start), .second, .val (.long en), .second, .val (.int flag), .val (.int ((wh &&& (2147483647 : Int32)) % (3 : Int32))), .val (.ref ad2), .val (.int (0 : Int32)), .val (.ref b137), .val .null] [(.int ((wh &&& (2147483647 : Int32)) % (3 : Int32)))])) (fun t₀ k₀ => XS.iload X151.here hx rfl (hb hby at_79) rfl k₀) ?_
        have hk152 : ¬ (((wh &&& (2147483647 : Int32)) % (3 : Int32)) = (0 : Int32)) := hc10
        refine own_step (T151.setTop (mkF m 121 #[.val (.int wh), .val (.long start), .second, .val (.long en), .second, .val (.int flag), .val (.int ((wh &&& (2147483647 : Int32)) % (3 : Int32))), .val (.ref ad2), .val (.int (0 : Int32)), .val (.ref b137), .val .null] [])) (fun t₀ k₀ => XS.ifYes X151.here hx rfl (pc0 := 81) (pc' := 121) rfl (hb hby at_81) rfl ((if0 _ _).trans (feq hk152).2) (by decide) (by decide) k₀) ?_
        refine own_step (T151.setTop (mkF m 123 #[.val (.int wh), .val (.long start), .second, .val (.long en), .second, .val (.int flag), .val (.int ((wh &&& (2147483647 : Int32)) % (3 : Int32))), .val (.ref ad2), .val (.int (0 : Int32)), .val (.ref b137), .val .null] [(.int ((wh &&& (2147483647 : Int32)) % (3 : Int32)))])) (fun t₀ k₀ => XS.iload X151.here hx rfl (hb hby at_121) rfl k₀) ?_
        refine own_step (T151.setTop (mkF m 124 #[.val (.int wh), .val (.long start), .second, .val (.long en), .second, .val (.int flag), .val (.int ((wh &&& (2147483647 : Int32)) % (3 : Int32))), .val (.ref ad2), .val (.int (0 : Int32)), .val (.ref b137), .val .null] [(.int (1 : Int32)), (.int ((wh &&& (2147483647 : Int32)) % (3 : Int32)))])) (fun t₀ k₀ => XS.iconst X151.here hx rfl (hb hby at_123) k₀) ?_
        have hk153 : ¬ (((wh &&& (2147483647 : Int32)) % (3 : Int32)) = (1 : Int32)) := hc24
        refine own_step (T151.setTop (mkF m 148 #[.val (.int wh), .val (.long start), .second, .val (.long en), .second, .val (.int flag), .val (.int ((wh &&& (2147483647 : Int32)) % (3 : Int32))), .val (.ref ad2), .val (.int (0 : Int32)), .val (.ref b137), .val .null] [])) (fun t₀ k₀ => XS.icmpYes X151.here hx rfl (pc0 := 124) (pc' := 148) rfl (hb hby at_124) rfl (feq hk153).2 (by decide) (by decide) k₀) ?_
        refine own_step (T151.setTop (mkF m 150 #[.val (.int wh), .val (.long start), .second, .val (.long en), .second, .val (.int flag), .val (.int ((wh &&& (2147483647 : Int32)) % (3 : Int32))), .val (.ref ad2), .val (.int (0 : Int32)), .val (.ref b137), .val .null] [.null])) (fun t₀ k₀ => XS.aload X151.here hx rfl (hb hby at_148) rfl rfl k₀) ?_
        refine own_step (T151.setTop (mkF m 153 #[.val (.int wh), .val (.long start), .second, .val (.long en), .second, .val (.int flag), .val (.int ((wh &&& (2147483647 : Int32)) % (3 : Int32))), .val (.ref ad2), .val (.int (0 : Int32)), .val (.ref b137), .val .null] [])) (fun t₀ k₀ => XS.ifnonnullNo X151.here hx rfl (hb hby at_150) rfl k₀) ?_
        refine own_step (T151.setTop (mkF m 154 #[.val (.int wh), .val (.long start), .second, .val (.long en), .second, .val (.int flag), .val (.int ((wh &&& (2147483647 : Int32)) % (3 : Int32))), .val (.ref ad2), .val (.int (0 : Int32)), .val (.ref b137), .val .null] [(.int (1 : Int32))])) (fun t₀ k₀ => XS.iconst X151.here hx rfl (hb hby at_153) k₀) ?_
        refine own_step (T151.setTop (mkF m 158 #[.val (.int wh), .val (.long start), .second, .val (.long en), .second, .val (.int flag), .val (.int ((wh &&& (2147483647 : Int32)) % (3 : Int32))), .val (.ref ad2), .val (.int (0 : Int32)), .val (.ref b137), .val .null] [(.int (1 : Int32))])) (fun t₀ k₀ => XS.goto X151.here hx rfl (pc0 := 154) (pc' := 158) rfl (hb hby at_154) (by decide) (by decide) k₀) ?_
        obtain ⟨fs, hr, hrun, hended, hW, hsame⟩ := X151.leave (v := some (.int (1 : Int32))) (fun h => by rw [Bd.returns] at h; cases h)
        refine ⟨_, _, ?_, hrun, hended, _, _, rfl, ?_, ⟨_, rfl⟩, hW, hsame.mono (by decide) (by decide)⟩
        · exact retN X151 hx (t := .boolean) Bd.returns (by simp) (hb hby at_158) hr
        · show Q_rm0 Z wh start en flag ad0 ad1 ad2 ca h0 n0 _ T151.heap _
          rw [e151]
          exact ⟨rfl, N151⟩
      · skip
        refine own_step (T135.setTop (mkF m 47 #[.val (.int wh), .val (.long start), .second, .val (.long en), .second, .val (.int flag), .val (.int ((wh &&& (2147483647 : Int32)) % (3 : Int32))), .val (.ref ad2), .unset, .unset, .unset] [])) (fun t₀ k₀ => XS.ifNo X135.here hx rfl (hb hby at_44) rfl ((if0 _ _).trans (feq hc44).1) k₀) ?_
        refine own_step (T135.setTop (mkF m 48 #[.val (.int wh), .val (.long start), .second, .val (.long en), .second, .val (.int flag), .val (.int ((wh &&& (2147483647 : Int32)) % (3 : Int32))), .val (.ref ad2), .unset, .unset, .unset] [(.int (1 : Int32))])) (fun t₀ k₀ => XS.iconst X135.here hx rfl (hb hby at_47) k₀) ?_
        refine own_step (T135.setTop (mkF m 52 #[.val (.int wh), .val (.long start), .second, .val (.long en), .second, .val (.int flag), .val (.int ((wh &&& (2147483647 : Int32)) % (3 : Int32))), .val (.ref ad2), .unset, .unset, .unset] [(.int (1 : Int32))])) (fun t₀ k₀ => XS.goto X135.here hx rfl (pc0 := 48) (pc' := 52) rfl (hb hby at_48) (by decide) (by decide) k₀) ?_
        refine own_step (T135.setTop (mkF m 54 #[.val (.int wh), .val (.long start), .second, .val (.long en), .second, .val (.int flag), .val (.int ((wh &&& (2147483647 : Int32)) % (3 : Int32))), .val (.ref ad2), .val (.int (1 : Int32)), .unset, .unset] [])) (fun t₀ k₀ => XS.istore X135.here hx rfl (hb hby at_52) rfl (l' := #[.val (.int wh), .val (.long start), .second, .val (.long en), .second, .val (.int flag), .val (.int ((wh &&& (2147483647 : Int32)) % (3 : Int32))), .val (.ref ad2), .val (.int (1 : Int32)), .unset, .unset]) rfl k₀) ?_
        refine own_step (T135.setTop (mkF m 56 #[.val (.int wh), .val (.long start), .second, .val (.long en), .second, .val (.int flag), .val (.int ((wh &&& (2147483647 : Int32)) % (3 : Int32))), .val (.ref ad2), .val (.int (1 : Int32)), .unset, .unset] [(.int (1 : Int32))])) (fun t₀ k₀ => XS.iload X135.here hx rfl (hb hby at_54) rfl k₀) ?_
        refine own_step (T135.setTop (mkF m 59 #[.val (.int wh), .val (.long start), .second, .val (.long en), .second, .val (.int flag), .val (.int ((wh &&& (2147483647 : Int32)) % (3 : Int32))), .val (.ref ad2), .val (.int (1 : Int32)), .unset, .unset] [])) (fun t₀ k₀ => XS.ifNo X135.here hx rfl (hb hby at_56) rfl (by decide) k₀) ?_
        refine own_step (T135.setTop (mkF m 60 #[.val (.int wh), .val (.long start), .second, .val (.long en), .second, .val (.int flag), .val (.int ((wh &&& (2147483647 : Int32)) % (3 : Int32))), .val (.ref ad2), .val (.int (1 : Int32)), .unset, .unset] [.null])) (fun t₀ k₀ => XS.aconstNull X135.here hx rfl (hb hby at_59) k₀) ?_
        refine own_step (T135.setTop (mkF m 67 #[.val (.int wh), .val (.long start), .second, .val (.long en), .second, .val (.int flag), .val (.int ((wh &&& (2147483647 : Int32)) % (3 : Int32))), .val (.ref ad2), .val (.int (1 : Int32)), .unset, .unset] [.null])) (fun t₀ k₀ => XS.goto X135.here hx rfl (pc0 := 60) (pc' := 67) rfl (hb hby at_60) (by decide) (by decide) k₀) ?_
        refine own_step (T135.setTop (mkF m 69 #[.val (.int wh), .val (.long start), .second, .val (.long en), .second, .val (.int flag), .val (.int ((wh &&& (2147483647 : Int32)) % (3 : Int32))), .val (.ref ad2), .val (.int (1 : Int32)), .val .null, .unset] [])) (fun t₀ k₀ => XS.astore X135.here hx rfl (hb hby at_67) rfl rfl (l' := #[.val (.int wh), .val (.long start), .second, .val (.long en), .second, .val (.int flag), .val (.int ((wh &&& (2147483647 : Int32)) % (3 : Int32))), .val (.ref ad2), .val (.int (1 : Int32)), .val .null, .unset]) rfl k₀) ?_
        refine own_step (T135.setTop (mkF m 71 #[.val (.int wh), .val (.long start), .second, .val (.long en), .second, .val (.int flag), .val (.int ((wh &&& (2147483647 : Int32)) % (3 : Int32))), .val (.ref ad2), .val (.int (1 : Int32)), .val .null, .unset] [(.ref ad2)])) (fun t₀ k₀ => XS.aload X135.here hx rfl (hb hby at_69) rfl rfl k₀) ?_
        refine own_step (T135.setTop (mkF m 72 #[.val (.int wh), .val (.long start), .second, .val (.long en), .second, .val (.int flag), .val (.int ((wh &&& (2147483647 : Int32)) % (3 : Int32))), .val (.ref ad2), .val (.int (1 : Int32)), .val .null, .unset] [(.long start), (.ref ad2)])) (fun t₀ k₀ => XS.lloadN X135.here hx rfl (hb hby at_71) rfl k₀) ?_
        refine own_step (T135.setTop (mkF m 74 #[.val (.int wh), .val (.long start), .second, .val (.long en), .second, .val (.int flag), .val (.int ((wh &&& (2147483647 : Int32)) % (3 : Int32))), .val (.ref ad2), .val (.int (1 : Int32)), .val .null, .unset] [.null, (.long start), (.ref ad2)])) (fun t₀ k₀ => XS.aload X135.here hx rfl (hb hby at_72) rfl rfl k₀) ?_
        obtain ⟨cq154, kq154, q154a, q154b, q154c⟩ := isOf hZ e135 A2
        obtain ⟨_, _, ⟨T154, L154, k154, n154⟩, -, X154, ⟨Lc154, hQ154, l154, y154, z154⟩, st154⟩ := X135.virtualBack hx (y := (⟨"com/example/annalist/annalist/RemovalTimeStrategy", "baseTime", "(JLjava/lang/Long;)Ljava/lang/Long;"⟩ : MethodName)) (z := (⟨"com/example/annalist/annalist/RemovalTimeStrategy", "baseTime", "(JLjava/lang/Long;)Ljava/lang/Long;"⟩ : MethodName)) hown (mvT hZ (hw _ (List.mem_of_getElem? (i := 26) rfl))) (mvT hZ (hw _ (List.mem_of_getElem? (i := 27) rfl))) (notFace_of_selects (args := #[]) (mvT hZ (hw _ (List.mem_of_getElem? (i := 29) rfl)))) (mvT hZ (hw _ (List.mem_of_getElem? (i := 29) rfl))) (mvT hZ (hw _ (List.mem_of_getElem? (i := 28) rfl))) (by decide) (backOf (W := 0) (rm5_2_1 l Z a0 hw [] start ad0 ad1 ad2 ca h0 n0 Z0 S0 S1 S2 O0 O1 O2 Sc Oc) hZ (hw _ (List.mem_of_getElem? (i := 30) rfl)) (hw _ (List.mem_of_getElem? (i := 2) rfl)) (by decide) (by decide)) q154a q154c (g := (mkF m 74 #[.val (.int wh), .val (.long start), .second, .val (.long en), .second, .val (.int flag), .val (.int ((wh &&& (2147483647 : Int32)) % (3 : Int32))), .val (.ref ad2), .val (.int (1 : Int32)), .val .null, .unset] [.null, (.long start), (.ref ad2)])) rfl (by rw [hml]; rfl) (Steps.refl _) (argsL := [(.long start), .null]) (rest := []) (lenOf pd_3 rfl) rfl (by show 2 * 0 + _ ≤ _; exact Nat.le_of_eq rfl) (hb hby at_74) (fun _ _ => ⟨rfl, e135, (by decide : 0 + 0 ≤ _), (by decide : 0 + 0 ≤ _)⟩)
        dsimp only [Pt.U, Pt.locs, Pt.cells, Pt.slots] at X154 l154 y154 z154 st154 hQ154
        subst l154 y154 z154
        obtain ⟨rfl, N154q, e154⟩ := hQ154
        have N154 := Fr.app N0 N154q
        refine own_comes (T154.setTop (mkF m 77 #[.val (.int wh), .val (.long start), .second, .val (.long en), .second, .val (.int flag), .val (.int ((wh &&& (2147483647 : Int32)) % (3 : Int32))), .val (.ref ad2), .val (.int (1 : Int32)), .val .null, .unset] [.null])) st154 ?_
        refine own_step (T154.setTop (mkF m 79 #[.val (.int wh), .val (.long start), .second, .val (.long en), .second, .val (.int flag), .val (.int ((wh &&& (2147483647 : Int32)) % (3 : Int32))), .val (.ref ad2), .val (.int (1 : Int32)), .val .null, .val .null] [])) (fun t₀ k₀ => XS.astore X154.here hx rfl (hb hby at_77) rfl rfl (l' := #[.val (.int wh), .val (.long start), .second, .val (.long en), .second, .val (.int flag), .val (.int ((wh &&& (2147483647 : Int32)) % (3 : Int32))), .val (.ref ad2), .val (.int (1 : Int32)), .val .null, .val .null]) rfl k₀) ?_
        refine own_step (T154.setTop (mkF m 81 #[.val (.int wh), .val (.long start), .second, .val (.long en), .second, .val (.int flag), .val (.int ((wh &&& (2147483647 : Int32)) % (3 : Int32))), .val (.ref ad2), .val (.int (1 : Int32)), .val .null, .val .null] [(.int ((wh &&& (2147483647 : Int32)) % (3 : Int32)))])) (fun t₀ k₀ => XS.iload X154.here hx rfl (hb hby at_79) rfl k₀) ?_
        have hk155 : ¬ (((wh &&& (2147483647 : Int32)) % (3 : Int32)) = (0 : Int32)) := hc10
        refine own_step (T154.setTop (mkF m 121 #[.val (.int wh), .val (.long start), .second, .val (.long en), .second, .val (.int flag), .val (.int ((wh &&& (2147483647 : Int32)) % (3 : Int32))), .val (.ref ad2), .val (.int (1 : Int32)), .val .null, .val .null] [])) (fun t₀ k₀ => XS.ifYes X154.here hx rfl (pc0 := 81) (pc' := 121) rfl (hb hby at_81) rfl ((if0 _ _).trans (feq hk155).2) (by decide) (by decide) k₀) ?_
        refine own_step (T154.setTop (mkF m 123 #[.val (.int wh), .val (.long start), .second, .val (.long en), .second, .val (.int flag), .val (.int ((wh &&& (2147483647 : Int32)) % (3 : Int32))), .val (.ref ad2), .val (.int (1 : Int32)), .val .null, .val .null] [(.int ((wh &&& (2147483647 : Int32)) % (3 : Int32)))])) (fun t₀ k₀ => XS.iload X154.here hx rfl (hb hby at_121) rfl k₀) ?_
        refine own_step (T154.setTop (mkF m 124 #[.val (.int wh), .val (.long start), .second, .val (.long en), .second, .val (.int flag), .val (.int ((wh &&& (2147483647 : Int32)) % (3 : Int32))), .val (.ref ad2), .val (.int (1 : Int32)), .val .null, .val .null] [(.int (1 : Int32)), (.int ((wh &&& (2147483647 : Int32)) % (3 : Int32)))])) (fun t₀ k₀ => XS.iconst X154.here hx rfl (hb hby at_123) k₀) ?_
        have hk156 : ¬ (((wh &&& (2147483647 : Int32)) % (3 : Int32)) = (1 : Int32)) := hc24
        refine own_step (T154.setTop (mkF m 148 #[.val (.int wh), .val (.long start), .second, .val (.long en), .second, .val (.int flag), .val (.int ((wh &&& (2147483647 : Int32)) % (3 : Int32))), .val (.ref ad2), .val (.int (1 : Int32)), .val .null, .val .null] [])) (fun t₀ k₀ => XS.icmpYes X154.here hx rfl (pc0 := 124) (pc' := 148) rfl (hb hby at_124) rfl (feq hk156).2 (by decide) (by decide) k₀) ?_
        refine own_step (T154.setTop (mkF m 150 #[.val (.int wh), .val (.long start), .second, .val (.long en), .second, .val (.int flag), .val (.int ((wh &&& (2147483647 : Int32)) % (3 : Int32))), .val (.ref ad2), .val (.int (1 : Int32)), .val .null, .val .null] [.null])) (fun t₀ k₀ => XS.aload X154.here hx rfl (hb hby at_148) rfl rfl k₀) ?_
        refine own_step (T154.setTop (mkF m 153 #[.val (.int wh), .val (.long start), .second, .val (.long en), .second, .val (.int flag), .val (.int ((wh &&& (2147483647 : Int32)) % (3 : Int32))), .val (.ref ad2), .val (.int (1 : Int32)), .val .null, .val .null] [])) (fun t₀ k₀ => XS.ifnonnullNo X154.here hx rfl (hb hby at_150) rfl k₀) ?_
        refine own_step (T154.setTop (mkF m 154 #[.val (.int wh), .val (.long start), .second, .val (.long en), .second, .val (.int flag), .val (.int ((wh &&& (2147483647 : Int32)) % (3 : Int32))), .val (.ref ad2), .val (.int (1 : Int32)), .val .null, .val .null] [(.int (1 : Int32))])) (fun t₀ k₀ => XS.iconst X154.here hx rfl (hb hby at_153) k₀) ?_
        refine own_step (T154.setTop (mkF m 158 #[.val (.int wh), .val (.long start), .second, .val (.long en), .second, .val (.int flag), .val (.int ((wh &&& (2147483647 : Int32)) % (3 : Int32))), .val (.ref ad2), .val (.int (1 : Int32)), .val .null, .val .null] [(.int (1 : Int32))])) (fun t₀ k₀ => XS.goto X154.here hx rfl (pc0 := 154) (pc' := 158) rfl (hb hby at_154) (by decide) (by decide) k₀) ?_
        obtain ⟨fs, hr, hrun, hended, hW, hsame⟩ := X154.leave (v := some (.int (1 : Int32))) (fun h => by rw [Bd.returns] at h; cases h)
        refine ⟨_, _, ?_, hrun, hended, _, _, rfl, ?_, ⟨_, rfl⟩, hW, hsame.mono (by decide) (by decide)⟩
        · exact retN X154 hx (t := .boolean) Bd.returns (by simp) (hb hby at_158) hr
        · show Q_rm0 Z wh start en flag ad0 ad1 ad2 ca h0 n0 _ T154.heap _
          rw [e154]
          exact ⟨rfl, N154⟩
set_option maxRecDepth 65536 in
set_option maxHeartbeats 40000000 in
theorem comes_1 {Post : Tables → Env → Array Value → State → Outcome → State → Prop} (hpost : ∀ tb e args s v u, (limb_1_1.after args s (.returned v) u = true ∧ limb_1_2.after args s (.returned v) u = true ∧ True) → FrameEnd s (.returned v) u (Jvm.fieldLocs frame_1_writes args s ++ Jvm.arrayLocs frame_1_arrays args s ++ Jvm.staticLocs frame_1_statics s) 16 128 → Post tb e args s (.returned v) u) :
    ArmFor flags0 classFile x code maxLocals ret World_1 tables_1 room_1 Calls_1 rest_1 Pre_1 Post := by
  intro l hfl _ _ p e ha hc hk s m args below hf hA hF happ hP
  obtain ⟨hcalls, hrest, hpre⟩ := hP
  obtain ⟨-, -, -, hnamed, -, -, -, hat⟩ := (Spec.applies_iff hf).mp happ
  obtain ⟨hg, hn⟩ := and_e (Cond.before_iff.mp (show (Jvm.Cond.and given_1 narrow_1).before args s = true from hpre))
  obtain ⟨hcount, hg0⟩ := and_e hg
  obtain ⟨ga0, hg1⟩ := and_e hg0
  obtain ⟨ga1, hg2⟩ := and_e hg1
  obtain ⟨ga2, hg3⟩ := and_e hg2
  have ga3 := hg3
  obtain ⟨w0, w1, w2, w3, rfl⟩ : ∃ w0 w1 w2 w3 : Value, args = #[w0, w1, w2, w3] := by
    have hs : args.size = 4 := by simpa [Cond.value, given_1] using hcount
    obtain ⟨L⟩ := args
    match L, hs with
    | [w0, w1, w2, w3], _ => exact ⟨w0, w1, w2, w3, rfl⟩
  have hw := fun d (hd : d ∈ tables_1) => atoms_spec (ws := Jvm.Cond.code x code maxLocals ret :: tables_1) hat d (List.mem_cons_of_mem _ hd)
  have hfit : Fit s := fun {y c} hc i hi => by
    obtain ⟨ha, rfl⟩ := Array.getElem?_eq_some_iff.mp hc
    have q := List.all_eq_true.mp ((Array.all_eq_true_iff_forall_mem.mp hF) _ (Array.getElem_mem ha)) i (List.mem_range.mpr hi)
    simpa [Array.getElem?_eq_getElem hi] using q
  obtain ⟨hsets, hown0⟩ := atoms_of _ (rest_1_c_eq ▸ (show rest_1_c.before _ s = true from hrest))
  have hr0 := Cond.before_iff.mp hown0
  obtain ⟨i0, ei0⟩ := is_v ga0
  obtain rfl : w0 = (.int i0) := Option.some.inj ei0
  obtain ⟨i1, ei1⟩ := isL_v ga1
  obtain rfl : w1 = (.long i1) := Option.some.inj ei1
  obtain ⟨i2, ei2⟩ := isL_v ga2
  obtain rfl : w2 = (.long i2) := Option.some.inj ei2
  obtain ⟨i3, ei3⟩ := is_v ga3
  obtain rfl : w3 = (.int i3) := Option.some.inj ei3
  obtain ⟨p0, r0⟩ := and_e hn
  obtain ⟨p1, r1⟩ := and_e r0
  obtain ⟨p2, r2⟩ := and_e r1
  obtain ⟨p3, r3⟩ := and_e r2
  obtain ⟨p4, r4⟩ := and_e r3
  have p5 := r4
  obtain ⟨ad0, ev0⟩ := exa_v p0
  have A0 := Exa.start ev0 p0
  have S0 : Sta s s.heap "com/example/annalist/annalist/RemovalTimeStrategy" "END" "Lcom/example/annalist/annalist/RemovalTimeStrategy;" (.ref ad0) := Sta.start ev0 (Or.inr ⟨(hw _ (List.mem_of_getElem? (i := 2) rfl)), (hw _ (List.mem_of_getElem? (i := 3) rfl))⟩)
  obtain ⟨ad1, ev1⟩ := exa_v p1
  have A1 := Exa.start ev1 p1
  have S1 : Sta s s.heap "com/example/annalist/annalist/RemovalTimeStrategy" "START" "Lcom/example/annalist/annalist/RemovalTimeStrategy;" (.ref ad1) := Sta.start ev1 (Or.inr ⟨(hw _ (List.mem_of_getElem? (i := 2) rfl)), (hw _ (List.mem_of_getElem? (i := 38) rfl))⟩)
  obtain ⟨ad2, ev2⟩ := exa_v p4
  have A2 := Exa.start ev2 p4
  have S2 : Sta s s.heap "com/example/annalist/annalist/RemovalTimeStrategy" "NONE" "Lcom/example/annalist/annalist/RemovalTimeStrategy;" (.ref ad2) := Sta.start ev2 (Or.inr ⟨(hw _ (List.mem_of_getElem? (i := 2) rfl)), (hw _ (List.mem_of_getElem? (i := 45) rfl))⟩)
  have O1 := own_fld ev1 p2
  have O0 := own_fld ev0 p3
  have O2 := own_fld ev2 p5
  obtain ⟨ca, eca, Oc⟩ := own_cache hsets
  have Sc : Sta s s.heap "java/lang/Long$LongCache" "cache" "[Ljava/lang/Long;" (.ref ca) := Sta.start eca (Or.inl (hsets _ (List.mem_of_getElem? (i := 1) rfl)))
  obtain ⟨n, o, h1, h2, h3, _, L, rfl, ⟨rfl, N⟩, hq⟩ := rm0 l s _ hw tables_1 i0 i1 i2 i3 ad0 ad1 ad2 ca s.heap s.heap.size (Nat.le_refl _) S0 S1 S2 A0 A1 A2 O0 O1 O2 Sc Oc p e ha hc hk s m _ below hf ((Spec.applies_iff_loose hf).mp happ).1 ⟨rfl, State.Warmed39.refl s, rfl⟩ trivial
  refine ⟨n, _, h1, h2, h3, hpost _ _ _ _ _ _ ⟨Cond.after_iff.mpr rfl, Cond.after_iff.mpr (eq_i res_at (Term.int_eval (1)) rfl), trivial⟩ ⟨hq.1, hq.2.1, (hq.2.2.sift fun y hy => Or.inr (N y hy)).mono (by decide) (by decide)⟩⟩
theorem main_1_1 : Claimed_1_1 := comes_1 fun _ _ _ _ _ _ h hF => ⟨h.1, hF⟩
theorem main_1_2 : Claimed_1_2 := comes_1 fun _ _ _ _ _ _ h hF => ⟨h.2.1, hF⟩
end Jvm.Pilot.@@N@@
namespace Jvm.Pilot.@@N@@
open Jvm Jvm.ClassFile Sem Op Lib Jvm.Free Jvm.Stand Jvm.Pilot.@@N@@.Jvm.D
/-! MADE BY PROGRAM (witnessworld.py) out of the Statement's table words and the real class files: 17 classes; the members and pool entries that the words name. The judged class is class 1, her method 1. -/
namespace start1
open Jvm.ClassFile
def u (s : String) : CpInfo := .utf8 (stringToUtf16 s)
/-- a pool by its gaps: so many unusable entries, then the entry; so many at the end -/
def gap : Nat → List CpInfo → List CpInfo
  | 0, r => r
  | n + 1, r => .unusable :: gap n r
def poolList (es : List (Nat × CpInfo)) (last : Nat) : List CpInfo := es.foldr (fun e r => gap e.1 (e.2 :: r)) (gap last [])
def pool (es : List (Nat × CpInfo)) (last : Nat) : Array CpInfo := ⟨poolList es last⟩
def fileOf (pool : Array CpInfo) (this : Nat) (attrs : Array Attribute := #[]) (ms : Array MethodInfo := #[]) (fl : Nat := 33) (sup : Nat := 0) (ifs : Array Nat := #[]) (fds : Array FieldInfo := #[]) : ClassFile where
  minorVersion := 0
  majorVersion := 65
  constantPool := pool
  accessFlags := fl
  thisClass := this
  superClass := sup
  interfaces := ifs
  fields := fds
  methods := ms
  attributes := attrs
def plain (name : String) (sup : Option ClassId) : Class where
  name := name
  kind := .ordinary
  loader := none
  accessFlags := 33
  super := sup
  interfaces := #[]
  cf := none
  fields := #[]
  methods := #[]
  instanceTypes := #[]
  staticTypes := #[]
  resolved := #[]
  callSites := []
  init := .initialized
  statics := none
  mirror := none

def pool0 : Array CpInfo := pool [(5, u "<init>"), (0, u "()V"), (1, .class_ 10), (1, u "java/lang/Object")] 113

def k0c0 : Code := { maxStack := 0, maxLocals := 1, code := object_method_1_code, exceptionTable := #[], attributes := #[] }
def k0m0 : Method := { name := "<init>", desc := "()V", sig := { parameters := [], returnType := none }, accessFlags := 1, code := some k0c0 }
/-- java/lang/Object -/
def k0 : Class := { plain "java/lang/Object" none with
  accessFlags := 33
  interfaces := #[]
  cf := some (fileOf pool0 8 #[] #[{ accessFlags := 1, nameIndex := 5, descriptorIndex := 6, attributes := #[] }] 33 0 #[] #[])
  fields := #[]
  methods := #[k0m0]
  instanceTypes := #[]
  staticTypes := #[]
  resolved := Array.replicate 124 none
  statics := none }

def pool1 : Array CpInfo := pool [(2, .class_ 4), (1, u "java/lang/Object"), (0, u "<init>"), (0, u "()V"), (0, .integer 2147483647), (0, .fieldref 9 10), (0, .class_ 11), (0, .nameAndType 12 13), (0, u "com/example/annalist/annalist/RemovalTimeStrategy"), (0, u "END"), (0, u "Lcom/example/annalist/annalist/RemovalTimeStrategy;"), (0, .fieldref 9 15), (0, .nameAndType 16 13), (0, u "START"), (0, .fieldref 9 18), (0, .nameAndType 19 13), (0, u "NONE"), (0, .methodref 21 22), (0, .class_ 23), (0, .nameAndType 24 25), (0, u "java/lang/Long"), (0, u "valueOf"), (0, u "(J)Ljava/lang/Long;"), (0, .methodref 9 27), (0, .nameAndType 28 29), (0, u "baseTime"), (0, u "(JLjava/lang/Long;)Ljava/lang/Long;"), (0, .methodref 21 31), (0, .nameAndType 32 33), (0, u "longValue"), (0, u "()J"), (0, .class_ 35), (0, u "com/example/annalist/annalist/RemovalTimeStrategyBaseTimePinLaw"), (2, u "law"), (0, u "(IJJI)Z")] 3

def k1m0 : Method := { name := "<init>", desc := "()V", sig := { parameters := [], returnType := none }, accessFlags := 1, code := none }
def k1c1 : Code := { maxStack := 4, maxLocals := 11, code := code, exceptionTable := #[], attributes := #[] }
def k1m1 : Method := { name := "law", desc := "(IJJI)Z", sig := { parameters := [.int, .long, .long, .int], returnType := some .boolean }, accessFlags := 9, code := some k1c1 }
/-- com/example/annalist/annalist/RemovalTimeStrategyBaseTimePinLaw -/
def k1 : Class := { plain "com/example/annalist/annalist/RemovalTimeStrategyBaseTimePinLaw" (some 0) with
  accessFlags := 49
  interfaces := #[]
  cf := some (fileOf pool1 34 #[] #[{ accessFlags := 1, nameIndex := 5, descriptorIndex := 6, attributes := #[] }, { accessFlags := 9, nameIndex := 38, descriptorIndex := 39, attributes := #[] }] 49 2 #[] #[])
  fields := #[]
  methods := #[k1m0, k1m1]
  instanceTypes := #[]
  staticTypes := #[]
  resolved := Array.replicate 43 none
  statics := none }

def pool2 : Array CpInfo := pool [(1, .class_ 2), (0, u "java/lang/constant/Constable"), (0, .class_ 4), (0, u "java/lang/Object")] 6

/-- java/lang/constant/Constable -/
def k2 : Class := { plain "java/lang/constant/Constable" (some 0) with
  accessFlags := 1537
  interfaces := #[]
  cf := some (fileOf pool2 1 #[] #[] 1537 3 #[] #[])
  fields := #[]
  methods := #[]
  instanceTypes := #[]
  staticTypes := #[]
  resolved := Array.replicate 11 none
  statics := none }

def pool3 : Array CpInfo := pool [(1, .class_ 2), (0, u "java/lang/Comparable"), (0, .class_ 4), (0, u "java/lang/Object")] 7

/-- java/lang/Comparable -/
def k3 : Class := { plain "java/lang/Comparable" (some 0) with
  accessFlags := 1537
  interfaces := #[]
  cf := some (fileOf pool3 1 #[] #[] 1537 3 #[] #[])
  fields := #[]
  methods := #[]
  instanceTypes := #[]
  staticTypes := #[]
  resolved := Array.replicate 12 none
  statics := none }

def pool4 : Array CpInfo := pool [(1, .class_ 2), (0, u "java/io/Serializable"), (0, .class_ 4), (0, u "java/lang/Object")] 2

/-- java/io/Serializable -/
def k4 : Class := { plain "java/io/Serializable" (some 0) with
  accessFlags := 1537
  interfaces := #[]
  cf := some (fileOf pool4 1 #[] #[] 1537 3 #[] #[])
  fields := #[]
  methods := #[]
  instanceTypes := #[]
  staticTypes := #[]
  resolved := Array.replicate 7 none
  statics := none }

def pool5 : Array CpInfo := pool [(2, .class_ 4), (1, u "java/lang/Enum"), (0, u "name"), (0, u "Ljava/lang/String;"), (2, u "ordinal"), (0, u "I"), (1, .class_ 14), (1, u "java/lang/Object"), (4, u "hash"), (86, .class_ 108), (1, u "java/lang/Enum$EnumDesc"), (2, .class_ 112), (0, u "java/lang/constant/Constable"), (0, .class_ 114), (0, u "java/lang/Comparable"), (0, .class_ 116), (0, u "java/io/Serializable")] 87

/-- java/lang/Enum -/
def k5 : Class := { plain "java/lang/Enum" (some 0) with
  accessFlags := 1057
  interfaces := #[2, 3, 4]
  cf := some (fileOf pool5 2 #[.nestMembers #[106]] #[] 1057 12 #[111, 113, 115] #[{ accessFlags := 18, nameIndex := 5, descriptorIndex := 6, attributes := #[] }, { accessFlags := 18, nameIndex := 9, descriptorIndex := 10, attributes := #[] }, { accessFlags := 2, nameIndex := 19, descriptorIndex := 10, attributes := #[] }])
  fields := #[{ name := "name", type := (.object "java/lang/String"), accessFlags := 18, slot := 0, constantValue := 0 }, { name := "ordinal", type := .int, accessFlags := 18, slot := 1, constantValue := 0 }, { name := "hash", type := .int, accessFlags := 2, slot := 2, constantValue := 0 }]
  methods := #[]
  instanceTypes := #[(.object "java/lang/String"), .int, .int]
  staticTypes := #[]
  resolved := Array.replicate 204 none
  statics := none }

def pool6 : Array CpInfo := pool [(1, .class_ 2), (0, u "com/example/annalist/annalist/RemovalTimeStrategy"), (0, .fieldref 1 4), (0, .nameAndType 5 6), (0, u "END"), (0, u "Lcom/example/annalist/annalist/RemovalTimeStrategy;"), (0, .fieldref 1 8), (0, .nameAndType 9 6), (0, u "START"), (2, u "NONE"), (2, u "$VALUES"), (0, u "[Lcom/example/annalist/annalist/RemovalTimeStrategy;"), (6, .class_ 25), (1, u "java/lang/Enum"), (0, u "valueOf"), (5, .methodref 33 34), (0, .class_ 35), (0, .nameAndType 26 36), (0, u "java/lang/Long"), (0, u "(J)Ljava/lang/Long;"), (15, u "baseTime"), (0, u "(JLjava/lang/Long;)Ljava/lang/Long;")] 5

def k6c0 : Code := { maxStack := 2, maxLocals := 5, code := prog_18_method_4_code, exceptionTable := #[], attributes := #[] }
def k6m0 : Method := { name := "baseTime", desc := "(JLjava/lang/Long;)Ljava/lang/Long;", sig := { parameters := [.long, (.object "java/lang/Long")], returnType := some (.object "java/lang/Long") }, accessFlags := 0, code := some k6c0 }
/-- com/example/annalist/annalist/RemovalTimeStrategy -/
def k6 : Class := { plain "com/example/annalist/annalist/RemovalTimeStrategy" (some 5) with
  accessFlags := 16432
  interfaces := #[]
  cf := some (fileOf pool6 1 #[] #[{ accessFlags := 0, nameIndex := 52, descriptorIndex := 53, attributes := #[] }] 16432 23 #[] #[{ accessFlags := 16409, nameIndex := 5, descriptorIndex := 6, attributes := #[] }, { accessFlags := 16409, nameIndex := 9, descriptorIndex := 6, attributes := #[] }, { accessFlags := 16409, nameIndex := 12, descriptorIndex := 6, attributes := #[] }, { accessFlags := 4122, nameIndex := 15, descriptorIndex := 16, attributes := #[] }])
  fields := #[{ name := "END", type := (.object "com/example/annalist/annalist/RemovalTimeStrategy"), accessFlags := 16409, slot := 0, constantValue := 0 }, { name := "START", type := (.object "com/example/annalist/annalist/RemovalTimeStrategy"), accessFlags := 16409, slot := 1, constantValue := 0 }, { name := "NONE", type := (.object "com/example/annalist/annalist/RemovalTimeStrategy"), accessFlags := 16409, slot := 2, constantValue := 0 }, { name := "$VALUES", type := (.array (.object "com/example/annalist/annalist/RemovalTimeStrategy")), accessFlags := 4122, slot := 3, constantValue := 0 }]
  methods := #[k6m0]
  instanceTypes := #[(.object "java/lang/String"), .int, .int]
  staticTypes := #[(.object "com/example/annalist/annalist/RemovalTimeStrategy"), (.object "com/example/annalist/annalist/RemovalTimeStrategy"), (.object "com/example/annalist/annalist/RemovalTimeStrategy"), (.array (.object "com/example/annalist/annalist/RemovalTimeStrategy"))]
  resolved := Array.replicate 59 none
  statics := some 0 }

def pool7 : Array CpInfo := pool [(1, .methodref 2 3), (0, .class_ 4), (0, .nameAndType 5 6), (0, u "java/lang/Object"), (0, u "<init>"), (0, u "()V"), (1, .class_ 10), (1, u "java/lang/Number"), (2, .class_ 14), (0, u "java/io/Serializable"), (0, u "serialVersionUID"), (0, u "J")] 20

def k7c0 : Code := { maxStack := 1, maxLocals := 1, code := jdk_18_method_1_code, exceptionTable := #[], attributes := #[] }
def k7m0 : Method := { name := "<init>", desc := "()V", sig := { parameters := [], returnType := none }, accessFlags := 1, code := some k7c0 }
/-- java/lang/Number -/
def k7 : Class := { plain "java/lang/Number" (some 0) with
  accessFlags := 1057
  interfaces := #[4]
  cf := some (fileOf pool7 8 #[] #[{ accessFlags := 1, nameIndex := 5, descriptorIndex := 6, attributes := #[] }] 1057 2 #[13] #[{ accessFlags := 26, nameIndex := 15, descriptorIndex := 16, attributes := #[] }])
  fields := #[{ name := "serialVersionUID", type := .long, accessFlags := 26, slot := 0, constantValue := 0 }]
  methods := #[k7m0]
  instanceTypes := #[]
  staticTypes := #[.long]
  resolved := Array.replicate 37 none
  statics := none }

def pool8 : Array CpInfo := pool [(1, .class_ 2), (0, u "java/lang/constant/ConstantDesc"), (0, .class_ 4), (0, u "java/lang/Object")] 32

/-- java/lang/constant/ConstantDesc -/
def k8 : Class := { plain "java/lang/constant/ConstantDesc" (some 0) with
  accessFlags := 1537
  interfaces := #[]
  cf := some (fileOf pool8 1 #[] #[] 1537 3 #[] #[])
  fields := #[]
  methods := #[]
  instanceTypes := #[]
  staticTypes := #[]
  resolved := Array.replicate 37 none
  statics := none }

def pool9 : Array CpInfo := pool [(1, .class_ 2), (0, u "java/lang/Long"), (55, .nameAndType 59 60), (0, u "<init>"), (0, u "()V"), (24, u "valueOf"), (143, u "(J)Ljava/lang/Long;"), (0, .long 18446744073709551488), (1, .long 127), (1, .fieldref 235 236), (0, .class_ 237), (0, .nameAndType 238 239), (0, u "java/lang/Long$LongCache"), (0, u "cache"), (0, u "[Ljava/lang/Long;"), (0, .methodref 1 241), (0, .nameAndType 59 242), (0, u "(J)V"), (27, .methodref 271 58), (0, .class_ 272), (0, u "java/lang/Number"), (0, .fieldref 1 274), (0, .nameAndType 275 276), (0, u "value"), (0, u "J"), (5, u "longValue"), (0, u "()J"), (77, u "TYPE"), (0, u "Ljava/lang/Class;"), (0, .class_ 364), (0, u "java/lang/Comparable"), (0, .class_ 366), (0, u "java/lang/constant/Constable"), (0, .class_ 368), (0, u "java/lang/constant/ConstantDesc"), (0, u "MIN_VALUE"), (1, u "MAX_VALUE"), (4, u "SIZE"), (0, u "I"), (1, u "BYTES"), (1, u "serialVersionUID")] 142

def k9c0 : Code := { maxStack := 4, maxLocals := 3, code := jdk_35_method_24_code, exceptionTable := #[], attributes := #[] }
def k9m0 : Method := { name := "valueOf", desc := "(J)Ljava/lang/Long;", sig := { parameters := [.long], returnType := some (.object "java/lang/Long") }, accessFlags := 9, code := some k9c0 }
def k9c1 : Code := { maxStack := 3, maxLocals := 3, code := jdk_35_method_26_code, exceptionTable := #[], attributes := #[] }
def k9m1 : Method := { name := "<init>", desc := "(J)V", sig := { parameters := [.long], returnType := none }, accessFlags := 1, code := some k9c1 }
def k9c2 : Code := { maxStack := 2, maxLocals := 1, code := jdk_35_method_31_code, exceptionTable := #[], attributes := #[] }
def k9m2 : Method := { name := "longValue", desc := "()J", sig := { parameters := [], returnType := some .long }, accessFlags := 1, code := some k9c2 }
/-- java/lang/Long -/
def k9 : Class := { plain "java/lang/Long" (some 7) with
  accessFlags := 49
  interfaces := #[3, 2, 8]
  cf := some (fileOf pool9 1 #[.nestMembers #[235]] #[{ accessFlags := 9, nameIndex := 85, descriptorIndex := 229, attributes := #[] }, { accessFlags := 1, nameIndex := 59, descriptorIndex := 242, attributes := #[] }, { accessFlags := 1, nameIndex := 282, descriptorIndex := 283, attributes := #[] }] 49 271 #[363, 365, 367] #[{ accessFlags := 25, nameIndex := 369, descriptorIndex := 276, attributes := #[] }, { accessFlags := 25, nameIndex := 371, descriptorIndex := 276, attributes := #[] }, { accessFlags := 25, nameIndex := 361, descriptorIndex := 362, attributes := #[] }, { accessFlags := 18, nameIndex := 275, descriptorIndex := 276, attributes := #[] }, { accessFlags := 25, nameIndex := 376, descriptorIndex := 377, attributes := #[] }, { accessFlags := 25, nameIndex := 379, descriptorIndex := 377, attributes := #[] }, { accessFlags := 26, nameIndex := 381, descriptorIndex := 276, attributes := #[] }])
  fields := #[{ name := "MIN_VALUE", type := .long, accessFlags := 25, slot := 0, constantValue := 0 }, { name := "MAX_VALUE", type := .long, accessFlags := 25, slot := 1, constantValue := 0 }, { name := "TYPE", type := (.object "java/lang/Class"), accessFlags := 25, slot := 2, constantValue := 0 }, { name := "value", type := .long, accessFlags := 18, slot := 0, constantValue := 0 }, { name := "SIZE", type := .int, accessFlags := 25, slot := 3, constantValue := 0 }, { name := "BYTES", type := .int, accessFlags := 25, slot := 4, constantValue := 0 }, { name := "serialVersionUID", type := .long, accessFlags := 26, slot := 5, constantValue := 0 }]
  methods := #[k9m0, k9m1, k9m2]
  instanceTypes := #[.long]
  staticTypes := #[.long, .long, (.object "java/lang/Class"), .int, .int, .long]
  resolved := Array.replicate 524 none
  statics := none }

def pool10 : Array CpInfo := pool [(2, .class_ 4), (1, u "java/lang/Object"), (0, u "<init>"), (0, u "()V"), (0, .class_ 8), (0, u "java/lang/Long"), (7, .class_ 18), (1, u "java/lang/Long$LongCache"), (0, u "$assertionsDisabled"), (0, u "Z"), (8, u "archivedCache"), (0, u "[Ljava/lang/Long;"), (7, u "cache")] 24

def k10m0 : Method := { name := "<init>", desc := "()V", sig := { parameters := [], returnType := none }, accessFlags := 2, code := none }
/-- java/lang/Long$LongCache -/
def k10 : Class := { plain "java/lang/Long$LongCache" (some 0) with
  accessFlags := 48
  interfaces := #[]
  cf := some (fileOf pool10 16 #[.nestHost 7] #[{ accessFlags := 2, nameIndex := 5, descriptorIndex := 6, attributes := #[] }] 48 2 #[] #[{ accessFlags := 24, nameIndex := 38, descriptorIndex := 30, attributes := #[] }, { accessFlags := 8, nameIndex := 29, descriptorIndex := 30, attributes := #[] }, { accessFlags := 4120, nameIndex := 19, descriptorIndex := 20, attributes := #[] }])
  fields := #[{ name := "cache", type := (.array (.object "java/lang/Long")), accessFlags := 24, slot := 0, constantValue := 0 }, { name := "archivedCache", type := (.array (.object "java/lang/Long")), accessFlags := 8, slot := 1, constantValue := 0 }, { name := "$assertionsDisabled", type := .boolean, accessFlags := 4120, slot := 2, constantValue := 0 }]
  methods := #[k10m0]
  instanceTypes := #[]
  staticTypes := #[(.array (.object "java/lang/Long")), (.array (.object "java/lang/Long")), .boolean]
  resolved := Array.replicate 63 none
  statics := some 1 }

def pool11 : Array CpInfo := pool [(1, u "java/lang/Cloneable"), (0, .class_ 1), (0, u "java/lang/Object"), (0, .class_ 3)] 3

/-- java/lang/Cloneable -/
def k11 : Class := { plain "java/lang/Cloneable" (some 0) with
  accessFlags := 1537
  interfaces := #[]
  cf := some (fileOf pool11 2 #[] #[] 1537 4 #[] #[])
  fields := #[]
  methods := #[]
  instanceTypes := #[]
  staticTypes := #[]
  resolved := Array.replicate 8 none
  statics := none }

/-- the primitive byte -/
def k12 : Class := { plain "byte" none with kind := .primitive 'B', accessFlags := 0x411 }
/-- [B -/
def k13 : Class := { plain "[B" (some 0) with kind := .array 12 .byte, interfaces := #[11, 4], accessFlags := 1041 }

/-- the primitive int -/
def k14 : Class := { plain "int" none with kind := .primitive 'I', accessFlags := 0x411 }
/-- [I -/
def k15 : Class := { plain "[I" (some 0) with kind := .array 14 .int, interfaces := #[11, 4], accessFlags := 1041 }

/-- [Ljava/lang/Long; -/
def k16 : Class := { plain "[Ljava/lang/Long;" (some 0) with kind := .array 9 (.object "java/lang/Long"), interfaces := #[11, 4], accessFlags := 1041 }

def heap : Heap := #[{ cls := 6, slots := #[.ref 259, .ref 260, .ref 261, .null], vm := .statics 6 },
  { cls := 10, slots := #[.ref 2, .null, .int 0], vm := .statics 10 },
  { cls := 16, slots := #[.ref 3, .ref 4, .ref 5, .ref 6, .ref 7, .ref 8, .ref 9, .ref 10, .ref 11, .ref 12, .ref 13, .ref 14, .ref 15, .ref 16, .ref 17, .ref 18, .ref 19, .ref 20, .ref 21, .ref 22, .ref 23, .ref 24, .ref 25, .ref 26, .ref 27, .ref 28, .ref 29, .ref 30, .ref 31, .ref 32, .ref 33, .ref 34, .ref 35, .ref 36, .ref 37, .ref 38, .ref 39, .ref 40, .ref 41, .ref 42, .ref 43, .ref 44, .ref 45, .ref 46, .ref 47, .ref 48, .ref 49, .ref 50, .ref 51, .ref 52, .ref 53, .ref 54, .ref 55, .ref 56, .ref 57, .ref 58, .ref 59, .ref 60, .ref 61, .ref 62, .ref 63, .ref 64, .ref 65, .ref 66, .ref 67, .ref 68, .ref 69, .ref 70, .ref 71, .ref 72, .ref 73, .ref 74, .ref 75, .ref 76, .ref 77, .ref 78, .ref 79, .ref 80, .ref 81, .ref 82, .ref 83, .ref 84, .ref 85, .ref 86, .ref 87, .ref 88, .ref 89, .ref 90, .ref 91, .ref 92, .ref 93, .ref 94, .ref 95, .ref 96, .ref 97, .ref 98, .ref 99, .ref 100, .ref 101, .ref 102, .ref 103, .ref 104, .ref 105, .ref 106, .ref 107, .ref 108, .ref 109, .ref 110, .ref 111, .ref 112, .ref 113, .ref 114, .ref 115, .ref 116, .ref 117, .ref 118, .ref 119, .ref 120, .ref 121, .ref 122, .ref 123, .ref 124, .ref 125, .ref 126, .ref 127, .ref 128, .ref 129, .ref 130, .ref 131, .ref 132, .ref 133, .ref 134, .ref 135, .ref 136, .ref 137, .ref 138, .ref 139, .ref 140, .ref 141, .ref 142, .ref 143, .ref 144, .ref 145, .ref 146, .ref 147, .ref 148, .ref 149, .ref 150, .ref 151, .ref 152, .ref 153, .ref 154, .ref 155, .ref 156, .ref 157, .ref 158, .ref 159, .ref 160, .ref 161, .ref 162, .ref 163, .ref 164, .ref 165, .ref 166, .ref 167, .ref 168, .ref 169, .ref 170, .ref 171, .ref 172, .ref 173, .ref 174, .ref 175, .ref 176, .ref 177, .ref 178, .ref 179, .ref 180, .ref 181, .ref 182, .ref 183, .ref 184, .ref 185, .ref 186, .ref 187, .ref 188, .ref 189, .ref 190, .ref 191, .ref 192, .ref 193, .ref 194, .ref 195, .ref 196, .ref 197, .ref 198, .ref 199, .ref 200, .ref 201, .ref 202, .ref 203, .ref 204, .ref 205, .ref 206, .ref 207, .ref 208, .ref 209, .ref 210, .ref 211, .ref 212, .ref 213, .ref 214, .ref 215, .ref 216, .ref 217, .ref 218, .ref 219, .ref 220, .ref 221, .ref 222, .ref 223, .ref 224, .ref 225, .ref 226, .ref 227, .ref 228, .ref 229, .ref 230, .ref 231, .ref 232, .ref 233, .ref 234, .ref 235, .ref 236, .ref 237, .ref 238, .ref 239, .ref 240, .ref 241, .ref 242, .ref 243, .ref 244, .ref 245, .ref 246, .ref 247, .ref 248, .ref 249, .ref 250, .ref 251, .ref 252, .ref 253, .ref 254, .ref 255, .ref 256, .ref 257, .ref 258], vm := .none },
  { cls := 9, slots := #[.long (-128)], vm := .none },
  { cls := 9, slots := #[.long (-127)], vm := .none },
  { cls := 9, slots := #[.long (-126)], vm := .none },
  { cls := 9, slots := #[.long (-125)], vm := .none },
  { cls := 9, slots := #[.long (-124)], vm := .none },
  { cls := 9, slots := #[.long (-123)], vm := .none },
  { cls := 9, slots := #[.long (-122)], vm := .none },
  { cls := 9, slots := #[.long (-121)], vm := .none },
  { cls := 9, slots := #[.long (-120)], vm := .none },
  { cls := 9, slots := #[.long (-119)], vm := .none },
  { cls := 9, slots := #[.long (-118)], vm := .none },
  { cls := 9, slots := #[.long (-117)], vm := .none },
  { cls := 9, slots := #[.long (-116)], vm := .none },
  { cls := 9, slots := #[.long (-115)], vm := .none },
  { cls := 9, slots := #[.long (-114)], vm := .none },
  { cls := 9, slots := #[.long (-113)], vm := .none },
  { cls := 9, slots := #[.long (-112)], vm := .none },
  { cls := 9, slots := #[.long (-111)], vm := .none },
  { cls := 9, slots := #[.long (-110)], vm := .none },
  { cls := 9, slots := #[.long (-109)], vm := .none },
  { cls := 9, slots := #[.long (-108)], vm := .none },
  { cls := 9, slots := #[.long (-107)], vm := .none },
  { cls := 9, slots := #[.long (-106)], vm := .none },
  { cls := 9, slots := #[.long (-105)], vm := .none },
  { cls := 9, slots := #[.long (-104)], vm := .none },
  { cls := 9, slots := #[.long (-103)], vm := .none },
  { cls := 9, slots := #[.long (-102)], vm := .none },
  { cls := 9, slots := #[.long (-101)], vm := .none },
  { cls := 9, slots := #[.long (-100)], vm := .none },
  { cls := 9, slots := #[.long (-99)], vm := .none },
  { cls := 9, slots := #[.long (-98)], vm := .none },
  { cls := 9, slots := #[.long (-97)], vm := .none },
  { cls := 9, slots := #[.long (-96)], vm := .none },
  { cls := 9, slots := #[.long (-95)], vm := .none },
  { cls := 9, slots := #[.long (-94)], vm := .none },
  { cls := 9, slots := #[.long (-93)], vm := .none },
  { cls := 9, slots := #[.long (-92)], vm := .none },
  { cls := 9, slots := #[.long (-91)], vm := .none },
  { cls := 9, slots := #[.long (-90)], vm := .none },
  { cls := 9, slots := #[.long (-89)], vm := .none },
  { cls := 9, slots := #[.long (-88)], vm := .none },
  { cls := 9, slots := #[.long (-87)], vm := .none },
  { cls := 9, slots := #[.long (-86)], vm := .none },
  { cls := 9, slots := #[.long (-85)], vm := .none },
  { cls := 9, slots := #[.long (-84)], vm := .none },
  { cls := 9, slots := #[.long (-83)], vm := .none },
  { cls := 9, slots := #[.long (-82)], vm := .none },
  { cls := 9, slots := #[.long (-81)], vm := .none },
  { cls := 9, slots := #[.long (-80)], vm := .none },
  { cls := 9, slots := #[.long (-79)], vm := .none },
  { cls := 9, slots := #[.long (-78)], vm := .none },
  { cls := 9, slots := #[.long (-77)], vm := .none },
  { cls := 9, slots := #[.long (-76)], vm := .none },
  { cls := 9, slots := #[.long (-75)], vm := .none },
  { cls := 9, slots := #[.long (-74)], vm := .none },
  { cls := 9, slots := #[.long (-73)], vm := .none },
  { cls := 9, slots := #[.long (-72)], vm := .none },
  { cls := 9, slots := #[.long (-71)], vm := .none },
  { cls := 9, slots := #[.long (-70)], vm := .none },
  { cls := 9, slots := #[.long (-69)], vm := .none },
  { cls := 9, slots := #[.long (-68)], vm := .none },
  { cls := 9, slots := #[.long (-67)], vm := .none },
  { cls := 9, slots := #[.long (-66)], vm := .none },
  { cls := 9, slots := #[.long (-65)], vm := .none },
  { cls := 9, slots := #[.long (-64)], vm := .none },
  { cls := 9, slots := #[.long (-63)], vm := .none },
  { cls := 9, slots := #[.long (-62)], vm := .none },
  { cls := 9, slots := #[.long (-61)], vm := .none },
  { cls := 9, slots := #[.long (-60)], vm := .none },
  { cls := 9, slots := #[.long (-59)], vm := .none },
  { cls := 9, slots := #[.long (-58)], vm := .none },
  { cls := 9, slots := #[.long (-57)], vm := .none },
  { cls := 9, slots := #[.long (-56)], vm := .none },
  { cls := 9, slots := #[.long (-55)], vm := .none },
  { cls := 9, slots := #[.long (-54)], vm := .none },
  { cls := 9, slots := #[.long (-53)], vm := .none },
  { cls := 9, slots := #[.long (-52)], vm := .none },
  { cls := 9, slots := #[.long (-51)], vm := .none },
  { cls := 9, slots := #[.long (-50)], vm := .none },
  { cls := 9, slots := #[.long (-49)], vm := .none },
  { cls := 9, slots := #[.long (-48)], vm := .none },
  { cls := 9, slots := #[.long (-47)], vm := .none },
  { cls := 9, slots := #[.long (-46)], vm := .none },
  { cls := 9, slots := #[.long (-45)], vm := .none },
  { cls := 9, slots := #[.long (-44)], vm := .none },
  { cls := 9, slots := #[.long (-43)], vm := .none },
  { cls := 9, slots := #[.long (-42)], vm := .none },
  { cls := 9, slots := #[.long (-41)], vm := .none },
  { cls := 9, slots := #[.long (-40)], vm := .none },
  { cls := 9, slots := #[.long (-39)], vm := .none },
  { cls := 9, slots := #[.long (-38)], vm := .none },
  { cls := 9, slots := #[.long (-37)], vm := .none },
  { cls := 9, slots := #[.long (-36)], vm := .none },
  { cls := 9, slots := #[.long (-35)], vm := .none },
  { cls := 9, slots := #[.long (-34)], vm := .none },
  { cls := 9, slots := #[.long (-33)], vm := .none },
  { cls := 9, slots := #[.long (-32)], vm := .none },
  { cls := 9, slots := #[.long (-31)], vm := .none },
  { cls := 9, slots := #[.long (-30)], vm := .none },
  { cls := 9, slots := #[.long (-29)], vm := .none },
  { cls := 9, slots := #[.long (-28)], vm := .none },
  { cls := 9, slots := #[.long (-27)], vm := .none },
  { cls := 9, slots := #[.long (-26)], vm := .none },
  { cls := 9, slots := #[.long (-25)], vm := .none },
  { cls := 9, slots := #[.long (-24)], vm := .none },
  { cls := 9, slots := #[.long (-23)], vm := .none },
  { cls := 9, slots := #[.long (-22)], vm := .none },
  { cls := 9, slots := #[.long (-21)], vm := .none },
  { cls := 9, slots := #[.long (-20)], vm := .none },
  { cls := 9, slots := #[.long (-19)], vm := .none },
  { cls := 9, slots := #[.long (-18)], vm := .none },
  { cls := 9, slots := #[.long (-17)], vm := .none },
  { cls := 9, slots := #[.long (-16)], vm := .none },
  { cls := 9, slots := #[.long (-15)], vm := .none },
  { cls := 9, slots := #[.long (-14)], vm := .none },
  { cls := 9, slots := #[.long (-13)], vm := .none },
  { cls := 9, slots := #[.long (-12)], vm := .none },
  { cls := 9, slots := #[.long (-11)], vm := .none },
  { cls := 9, slots := #[.long (-10)], vm := .none },
  { cls := 9, slots := #[.long (-9)], vm := .none },
  { cls := 9, slots := #[.long (-8)], vm := .none },
  { cls := 9, slots := #[.long (-7)], vm := .none },
  { cls := 9, slots := #[.long (-6)], vm := .none },
  { cls := 9, slots := #[.long (-5)], vm := .none },
  { cls := 9, slots := #[.long (-4)], vm := .none },
  { cls := 9, slots := #[.long (-3)], vm := .none },
  { cls := 9, slots := #[.long (-2)], vm := .none },
  { cls := 9, slots := #[.long (-1)], vm := .none },
  { cls := 9, slots := #[.long (0)], vm := .none },
  { cls := 9, slots := #[.long (1)], vm := .none },
  { cls := 9, slots := #[.long (2)], vm := .none },
  { cls := 9, slots := #[.long (3)], vm := .none },
  { cls := 9, slots := #[.long (4)], vm := .none },
  { cls := 9, slots := #[.long (5)], vm := .none },
  { cls := 9, slots := #[.long (6)], vm := .none },
  { cls := 9, slots := #[.long (7)], vm := .none },
  { cls := 9, slots := #[.long (8)], vm := .none },
  { cls := 9, slots := #[.long (9)], vm := .none },
  { cls := 9, slots := #[.long (10)], vm := .none },
  { cls := 9, slots := #[.long (11)], vm := .none },
  { cls := 9, slots := #[.long (12)], vm := .none },
  { cls := 9, slots := #[.long (13)], vm := .none },
  { cls := 9, slots := #[.long (14)], vm := .none },
  { cls := 9, slots := #[.long (15)], vm := .none },
  { cls := 9, slots := #[.long (16)], vm := .none },
  { cls := 9, slots := #[.long (17)], vm := .none },
  { cls := 9, slots := #[.long (18)], vm := .none },
  { cls := 9, slots := #[.long (19)], vm := .none },
  { cls := 9, slots := #[.long (20)], vm := .none },
  { cls := 9, slots := #[.long (21)], vm := .none },
  { cls := 9, slots := #[.long (22)], vm := .none },
  { cls := 9, slots := #[.long (23)], vm := .none },
  { cls := 9, slots := #[.long (24)], vm := .none },
  { cls := 9, slots := #[.long (25)], vm := .none },
  { cls := 9, slots := #[.long (26)], vm := .none },
  { cls := 9, slots := #[.long (27)], vm := .none },
  { cls := 9, slots := #[.long (28)], vm := .none },
  { cls := 9, slots := #[.long (29)], vm := .none },
  { cls := 9, slots := #[.long (30)], vm := .none },
  { cls := 9, slots := #[.long (31)], vm := .none },
  { cls := 9, slots := #[.long (32)], vm := .none },
  { cls := 9, slots := #[.long (33)], vm := .none },
  { cls := 9, slots := #[.long (34)], vm := .none },
  { cls := 9, slots := #[.long (35)], vm := .none },
  { cls := 9, slots := #[.long (36)], vm := .none },
  { cls := 9, slots := #[.long (37)], vm := .none },
  { cls := 9, slots := #[.long (38)], vm := .none },
  { cls := 9, slots := #[.long (39)], vm := .none },
  { cls := 9, slots := #[.long (40)], vm := .none },
  { cls := 9, slots := #[.long (41)], vm := .none },
  { cls := 9, slots := #[.long (42)], vm := .none },
  { cls := 9, slots := #[.long (43)], vm := .none },
  { cls := 9, slots := #[.long (44)], vm := .none },
  { cls := 9, slots := #[.long (45)], vm := .none },
  { cls := 9, slots := #[.long (46)], vm := .none },
  { cls := 9, slots := #[.long (47)], vm := .none },
  { cls := 9, slots := #[.long (48)], vm := .none },
  { cls := 9, slots := #[.long (49)], vm := .none },
  { cls := 9, slots := #[.long (50)], vm := .none },
  { cls := 9, slots := #[.long (51)], vm := .none },
  { cls := 9, slots := #[.long (52)], vm := .none },
  { cls := 9, slots := #[.long (53)], vm := .none },
  { cls := 9, slots := #[.long (54)], vm := .none },
  { cls := 9, slots := #[.long (55)], vm := .none },
  { cls := 9, slots := #[.long (56)], vm := .none },
  { cls := 9, slots := #[.long (57)], vm := .none },
  { cls := 9, slots := #[.long (58)], vm := .none },
  { cls := 9, slots := #[.long (59)], vm := .none },
  { cls := 9, slots := #[.long (60)], vm := .none },
  { cls := 9, slots := #[.long (61)], vm := .none },
  { cls := 9, slots := #[.long (62)], vm := .none },
  { cls := 9, slots := #[.long (63)], vm := .none },
  { cls := 9, slots := #[.long (64)], vm := .none },
  { cls := 9, slots := #[.long (65)], vm := .none },
  { cls := 9, slots := #[.long (66)], vm := .none },
  { cls := 9, slots := #[.long (67)], vm := .none },
  { cls := 9, slots := #[.long (68)], vm := .none },
  { cls := 9, slots := #[.long (69)], vm := .none },
  { cls := 9, slots := #[.long (70)], vm := .none },
  { cls := 9, slots := #[.long (71)], vm := .none },
  { cls := 9, slots := #[.long (72)], vm := .none },
  { cls := 9, slots := #[.long (73)], vm := .none },
  { cls := 9, slots := #[.long (74)], vm := .none },
  { cls := 9, slots := #[.long (75)], vm := .none },
  { cls := 9, slots := #[.long (76)], vm := .none },
  { cls := 9, slots := #[.long (77)], vm := .none },
  { cls := 9, slots := #[.long (78)], vm := .none },
  { cls := 9, slots := #[.long (79)], vm := .none },
  { cls := 9, slots := #[.long (80)], vm := .none },
  { cls := 9, slots := #[.long (81)], vm := .none },
  { cls := 9, slots := #[.long (82)], vm := .none },
  { cls := 9, slots := #[.long (83)], vm := .none },
  { cls := 9, slots := #[.long (84)], vm := .none },
  { cls := 9, slots := #[.long (85)], vm := .none },
  { cls := 9, slots := #[.long (86)], vm := .none },
  { cls := 9, slots := #[.long (87)], vm := .none },
  { cls := 9, slots := #[.long (88)], vm := .none },
  { cls := 9, slots := #[.long (89)], vm := .none },
  { cls := 9, slots := #[.long (90)], vm := .none },
  { cls := 9, slots := #[.long (91)], vm := .none },
  { cls := 9, slots := #[.long (92)], vm := .none },
  { cls := 9, slots := #[.long (93)], vm := .none },
  { cls := 9, slots := #[.long (94)], vm := .none },
  { cls := 9, slots := #[.long (95)], vm := .none },
  { cls := 9, slots := #[.long (96)], vm := .none },
  { cls := 9, slots := #[.long (97)], vm := .none },
  { cls := 9, slots := #[.long (98)], vm := .none },
  { cls := 9, slots := #[.long (99)], vm := .none },
  { cls := 9, slots := #[.long (100)], vm := .none },
  { cls := 9, slots := #[.long (101)], vm := .none },
  { cls := 9, slots := #[.long (102)], vm := .none },
  { cls := 9, slots := #[.long (103)], vm := .none },
  { cls := 9, slots := #[.long (104)], vm := .none },
  { cls := 9, slots := #[.long (105)], vm := .none },
  { cls := 9, slots := #[.long (106)], vm := .none },
  { cls := 9, slots := #[.long (107)], vm := .none },
  { cls := 9, slots := #[.long (108)], vm := .none },
  { cls := 9, slots := #[.long (109)], vm := .none },
  { cls := 9, slots := #[.long (110)], vm := .none },
  { cls := 9, slots := #[.long (111)], vm := .none },
  { cls := 9, slots := #[.long (112)], vm := .none },
  { cls := 9, slots := #[.long (113)], vm := .none },
  { cls := 9, slots := #[.long (114)], vm := .none },
  { cls := 9, slots := #[.long (115)], vm := .none },
  { cls := 9, slots := #[.long (116)], vm := .none },
  { cls := 9, slots := #[.long (117)], vm := .none },
  { cls := 9, slots := #[.long (118)], vm := .none },
  { cls := 9, slots := #[.long (119)], vm := .none },
  { cls := 9, slots := #[.long (120)], vm := .none },
  { cls := 9, slots := #[.long (121)], vm := .none },
  { cls := 9, slots := #[.long (122)], vm := .none },
  { cls := 9, slots := #[.long (123)], vm := .none },
  { cls := 9, slots := #[.long (124)], vm := .none },
  { cls := 9, slots := #[.long (125)], vm := .none },
  { cls := 9, slots := #[.long (126)], vm := .none },
  { cls := 9, slots := #[.long (127)], vm := .none },
  { cls := 6, slots := #[.null, .int 0, .int 0], vm := .none },
  { cls := 6, slots := #[.null, .int 1, .int 0], vm := .none },
  { cls := 6, slots := #[.null, .int 2, .int 0], vm := .none }]
def classes : Array Class := #[k0, k1, k2, k3, k4, k5, k6, k7, k8, k9, k10, k11, k12, k13, k14, k15, k16]
def interned : List (Array UInt16 × Addr) := []
def slotsUsed : Nat := 528
def theMethod : MethodId := ⟨1, 1⟩
def args0 : Array Value := #[.int 5, .long 7, .long 600, .int 0]
def aboutOver (below : List Frame) : State where
  vm := { classes := classes, interned := interned.toArray }
  heap := heap
  slotsUsed := slotsUsed
  threads := #[{ frames := .invoking theMethod args0 :: below }]
def below0 : List Frame := [.native { method := ⟨0, 0⟩, args := #[] }]
def about1 : State := aboutOver below0
def p0 : Program := .bare "" "" ""
def e0 : Env := launch0.env 0 0 0
theorem w_frames : about1.frames = Frame.invoking theMethod args0 :: below0 := rfl
set_option maxRecDepth 65536 in
theorem w_args : argsFit about1.vm theMethod args0 = true := by decide +kernel
set_option maxRecDepth 65536 in
theorem w_heap : heapFits about1 = true := by decide +kernel
set_option maxRecDepth 65536 in
theorem w_runnable : about1.curStatus? = some .runnable := by decide +kernel
set_option maxRecDepth 65536 in
theorem w_alone : about1.alone = true := by decide +kernel
set_option maxRecDepth 65536 in
theorem w_named : about1.methodNamed? x = some theMethod := by decide +kernel
set_option maxRecDepth 65536 in
theorem w_hears : about1.hears theMethod below0 = true := by decide +kernel
set_option maxRecDepth 65536 in
theorem w_ripe : about1.ripe theMethod args0 below0 = true := by decide +kernel
theorem w_running : about1.status = .running := rfl
set_option maxRecDepth 65536 in
theorem w_room : about1.hasRoom e0.platform room_1 = true :=
  launch0.hasRoom_least _ room_1 (by decide +kernel) (by decide +kernel) (by decide +kernel) (by decide +kernel) (by decide +kernel) (by decide +kernel)
theorem allAtoms_all (ts : List Jvm.Cond) (a : Array Jvm.Value) (st : Jvm.State) : (allAtoms ts).before a st = ts.all (fun c => c.before a st) := by
  induction ts with
  | nil => rfl
  | cons c t ih =>
    show (Jvm.Cond.and c (allAtoms t)).before a st = _
    rw [Jvm.Cond.before_and, ih, List.all_cons]
def words1 : List Jvm.Cond := Jvm.Cond.code x code maxLocals ret :: tables_1
/-- a 'code' word, met by the world's own term for the bytes: nothing is compared byte by byte -/
theorem code_word {y : MethodName} {bytes : ByteArray} {mx : Nat} {rt : Option FieldType} {a : Array Value} {s : State} {m : MethodId} {meth : Method} {c : Code} (h1 : s.methodNamed? y = some m) (h2 : s.vm.method? m = some meth) (h3 : meth.code = some c) (h4 : c.code = bytes)
    (h5 : (c.maxLocals == mx && c.exceptionTable.isEmpty && decide (c.maxStack ≤ mostOperands) && decide (meth.sig.returnType = rt) && !meth.locks && decide (parseMethodDescriptor y.desc = some meth.sig)) = true) : (Jvm.Cond.code y bytes mx rt).before a s = true := by
  simp only [Bool.and_eq_true, beq_iff_eq, Bool.not_eq_true', decide_eq_true_eq] at h5
  obtain ⟨⟨⟨⟨⟨g1, g2⟩, g3⟩, g4⟩, g5⟩, g6⟩ := h5
  simp [Cond.before, Cond.holds, Cond.value, h1, h2, h3, h4, g1, g2, g3, g4, g5, g6]
def isCode : Jvm.Cond → Bool
  | .code _ _ _ _ => true
  | _ => false
theorem all_split {L : List Jvm.Cond} {P : Jvm.Cond → Bool} (h1 : L.all (fun c => isCode c || P c) = true) (h2 : ∀ c ∈ L.filter isCode, P c = true) : L.all P = true := by
  refine List.all_eq_true.mpr fun c hc => ?_
  have h := List.all_eq_true.mp h1 c hc
  rcases Bool.eq_false_or_eq_true (isCode c) with hi | hi
  · exact h2 c (List.mem_filter.mpr ⟨hc, hi⟩)
  · simpa [hi] using h
set_option maxRecDepth 65536 in
theorem w_c0 : (Jvm.Cond.code x code maxLocals ret).before args0 about1 = true := code_word (m := ⟨1, 1⟩) (meth := k1m1) (c := k1c1) (by decide +kernel) rfl rfl rfl (by decide +kernel)
set_option maxRecDepth 65536 in
theorem w_c1 : (Jvm.Cond.code ({ cls := "java/lang/Long", name := "valueOf", desc := "(J)Ljava/lang/Long;" } : Jvm.MethodName) jdk_35_method_24_code (3 : Nat) (Option.some (Jvm.ClassFile.FieldType.object "java/lang/Long"))).before args0 about1 = true := code_word (m := ⟨9, 0⟩) (meth := k9m0) (c := k9c0) (by decide +kernel) rfl rfl rfl (by decide +kernel)
set_option maxRecDepth 65536 in
theorem w_c2 : (Jvm.Cond.code ({ cls := "java/lang/Long", name := "<init>", desc := "(J)V" } : Jvm.MethodName) jdk_35_method_26_code (3 : Nat) (Option.none : Option Jvm.ClassFile.FieldType)).before args0 about1 = true := code_word (m := ⟨9, 1⟩) (meth := k9m1) (c := k9c1) (by decide +kernel) rfl rfl rfl (by decide +kernel)
set_option maxRecDepth 65536 in
theorem w_c3 : (Jvm.Cond.code ({ cls := "java/lang/Number", name := "<init>", desc := "()V" } : Jvm.MethodName) jdk_18_method_1_code (1 : Nat) (Option.none : Option Jvm.ClassFile.FieldType)).before args0 about1 = true := code_word (m := ⟨7, 0⟩) (meth := k7m0) (c := k7c0) (by decide +kernel) rfl rfl rfl (by decide +kernel)
set_option maxRecDepth 65536 in
theorem w_c4 : (Jvm.Cond.code ({ cls := "java/lang/Object", name := "<init>", desc := "()V" } : Jvm.MethodName) object_method_1_code (1 : Nat) (Option.none : Option Jvm.ClassFile.FieldType)).before args0 about1 = true := code_word (m := ⟨0, 0⟩) (meth := k0m0) (c := k0c0) (by decide +kernel) rfl rfl rfl (by decide +kernel)
set_option maxRecDepth 65536 in
theorem w_c5 : (Jvm.Cond.code ({ cls := "com/example/annalist/annalist/RemovalTimeStrategy", name := "baseTime", desc := "(JLjava/lang/Long;)Ljava/lang/Long;" } : Jvm.MethodName) prog_18_method_4_code (5 : Nat) (Option.some (Jvm.ClassFile.FieldType.object "java/lang/Long"))).before args0 about1 = true := code_word (m := ⟨6, 0⟩) (meth := k6m0) (c := k6c0) (by decide +kernel) rfl rfl rfl (by decide +kernel)
set_option maxRecDepth 65536 in
theorem w_c6 : (Jvm.Cond.code ({ cls := "java/lang/Long", name := "longValue", desc := "()J" } : Jvm.MethodName) jdk_35_method_31_code (1 : Nat) (Option.some Jvm.ClassFile.FieldType.long)).before args0 about1 = true := code_word (m := ⟨9, 2⟩) (meth := k9m2) (c := k9c2) (by decide +kernel) rfl rfl rfl (by decide +kernel)
def codes1 : List Jvm.Cond := [Jvm.Cond.code x code maxLocals ret, Jvm.Cond.code ({ cls := "java/lang/Long", name := "valueOf", desc := "(J)Ljava/lang/Long;" } : Jvm.MethodName) jdk_35_method_24_code (3 : Nat) (Option.some (Jvm.ClassFile.FieldType.object "java/lang/Long")), Jvm.Cond.code ({ cls := "java/lang/Long", name := "<init>", desc := "(J)V" } : Jvm.MethodName) jdk_35_method_26_code (3 : Nat) (Option.none : Option Jvm.ClassFile.FieldType), Jvm.Cond.code ({ cls := "java/lang/Number", name := "<init>", desc := "()V" } : Jvm.MethodName) jdk_18_method_1_code (1 : Nat) (Option.none : Option Jvm.ClassFile.FieldType), Jvm.Cond.code ({ cls := "java/lang/Object", name := "<init>", desc := "()V" } : Jvm.MethodName) object_method_1_code (1 : Nat) (Option.none : Option Jvm.ClassFile.FieldType), Jvm.Cond.code ({ cls := "com/example/annalist/annalist/RemovalTimeStrategy", name := "baseTime", desc := "(JLjava/lang/Long;)Ljava/lang/Long;" } : Jvm.MethodName) prog_18_method_4_code (5 : Nat) (Option.some (Jvm.ClassFile.FieldType.object "java/lang/Long")), Jvm.Cond.code ({ cls := "java/lang/Long", name := "longValue", desc := "()J" } : Jvm.MethodName) jdk_35_method_31_code (1 : Nat) (Option.some Jvm.ClassFile.FieldType.long)]
set_option maxRecDepth 65536 in
theorem codes_eq : words1.filter isCode = codes1 := rfl
theorem w_codes : ∀ c ∈ words1.filter isCode, c.before args0 about1 = true := by
  rw [codes_eq]
  intro c hc
  simp only [codes1, List.mem_cons, List.not_mem_nil, or_false] at hc
  rcases hc with rfl | rfl | rfl | rfl | rfl | rfl | rfl
  · exact w_c0
  · exact w_c1
  · exact w_c2
  · exact w_c3
  · exact w_c4
  · exact w_c5
  · exact w_c6
set_option maxRecDepth 65536 in
theorem w_t1 : (words1.take 24).all (fun c => isCode c || c.before args0 about1) = true := by decide +kernel
set_option maxRecDepth 65536 in
theorem w_t2 : (words1.drop 24).all (fun c => isCode c || c.before args0 about1) = true := by decide +kernel
theorem w_tables : (allAtoms (Jvm.Cond.code x code maxLocals ret :: tables_1)).before args0 about1 = true := by
  rw [allAtoms_all]
  show words1.all (fun c => c.before args0 about1) = true
  refine all_split ?_ w_codes
  rw [← List.take_append_drop 24 words1, List.all_append, w_t1, w_t2]
  rfl
set_option maxRecDepth 65536 in
theorem w_rest : rest_1_c.before args0 about1 = true := by decide +kernel
set_option maxRecDepth 65536 in
theorem w_case : (Jvm.Cond.and given_1 narrow_1).before args0 about1 = true := by decide +kernel
theorem w_applies : (headSpec (Jvm.Cond.code x code maxLocals ret :: tables_1) room_1).applies x e0.platform about1 = true :=
  (Spec.applies_iff w_frames).mpr ⟨w_running, w_runnable, w_alone, w_named, w_hears, w_ripe, w_room, w_tables⟩
theorem atStart : AtStart classFile x code maxLocals ret World_1 tables_1 room_1 Calls_1 rest_1 Pre_1 launch0 p0 e0 about1 theMethod args0 below0 :=
  ⟨lists_1, trivial, launch0.admits_env _ _ _, launch0.least_env, fairChoices_fair.cas, fairChoices_fair.clock, w_frames, w_args, w_heap, w_applies, trivial, w_rest, w_case⟩
end start1
theorem witness_1 : WitnessClaimed_1 := ⟨start1.p0, start1.e0, start1.about1, start1.theMethod, start1.args0, start1.below0, start1.atStart⟩
end Jvm.Pilot.@@N@@
