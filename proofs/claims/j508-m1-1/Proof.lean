import JvmDerived
import JvmDerived.Pilot.@@N@@Statement
import JvmDerived.Pilot.@@N@@Code
set_option linter.unusedVariables false
set_option linter.unusedSimpArgs false
@@BLOCK:NumsL.lean.txt@@
namespace Jvm.RoadKit
open Sem ClassFile Op Lib Jvm.Stand Jvm.Free Jvm.LawKit
section New
variable {p : Program} {l : Launch} {e : Env} {R : Room} {s : State} {m : MethodId} {args : Array Value} {below : List Frame} {meth : Method} {c : Code} {T : State} {locs : List Loc} {cells slots : Nat}
theorem retI (X : Stand p l e R s m args below meth c T locs cells slots) (hx : p.tables.exec = Jvm.exec) {pc : Nat} {Ls : Array Slot} {z : Int32} {rest : List Value} (hret : meth.sig.returnType = some .int) (hd : decode c.code pc = .ok (.ireturn, 1)) {fs : List Frame}
    (hl : ∀ (f : JFrame) (acts : List Action), f.method = m → f.locked = none → f.entered = [] → (doReturn e (T.setTop f) acts (some (.int z))).1 = T.setFrames fs) : Steps p.tables e below (T.setTop (mkF m pc Ls (.int z :: rest))) (T.setFrames fs) := by
  have hm' : T.vm.method? m = some meth := X.method'
  have hn : narrow .int (.int z) = .int z := rfl
  show Steps p.tables e below (T.setTop { method := m, pc := pc, locals := Ls, stack := _ :: rest, locked := none }) _
  jvm_step X.here [X.here.top, hx, hd, hm', hret, hn]
  first | (intro acts; rw [hl _ acts rfl rfl rfl]) | rw [hl _ _ rfl rfl rfl]
  exact Steps.refl _
end New
end Jvm.RoadKit
namespace Jvm.Pilot.@@N@@
open Jvm Jvm.ClassFile Sem Op Lib Jvm.Free Jvm.Stand Jvm.LawKit Jvm.RoadKit Bundle Jvm.Pilot.@@N@@.Jvm.D
/-- from A the run comes to an end of which P is said -/
def own_Go (p : Program) (e : Env) (below : List Frame) (P : State → Outcome → Prop) (A : State) : Prop := ∃ s₂ o, Steps p.tables e below A s₂ ∧ P s₂ o
theorem own_step {p : Program} {e : Env} {below : List Frame} {P : State → Outcome → Prop} {A : State} (B : State) (h : ∀ t, Steps p.tables e below B t → Steps p.tables e below A t) (g : own_Go p e below P B) : own_Go p e below P A := by
  obtain ⟨s₂, o, h1, h2⟩ := g; exact ⟨s₂, o, h s₂ h1, h2⟩
theorem own_comes {p : Program} {e : Env} {below : List Frame} {P : State → Outcome → Prop} {A : State} (B : State) (h : Steps p.tables e below A B) (g : own_Go p e below P B) : own_Go p e below P A := by
  obtain ⟨s₂, o, h1, h2⟩ := g; exact ⟨s₂, o, h.trans h1, h2⟩
theorem own_sta_keep {Z : State} {h h' : Heap} {C n d : String} {w : Value} {ws : List Addr} (F : Sta Z h C n d w) (K : Keep h h' ws) (hw : ∀ x ∈ ws, ∀ cell : Cell, h[x]? = some cell → cell.vm.isStatics = false) : Sta Z h' C n d w := by
  obtain ⟨cf, i, k, f, st, cell, h1, h2, h3, h4, h5, h6, r⟩ := F
  exact ⟨cf, i, k, f, st, cell, h1, h2, h3, h4, K.2.1 _ _ h5 (fun q => by rw [hw _ q _ h5] at h6; cases h6), h6, r⟩
theorem own_sel {s : State} {args : Array Value} {y : MethodName} {n : Nat} (w : (Cond.instantiable y.cls n).before args s = true) (hp : (Cond.privateMethod y).before args s = true) (hi : (Cond.instanceMethod y).before args s = true) (hy : y.cls ≠ "java/lang/invoke/MethodHandle" ∧ y.cls ≠ "java/lang/invoke/VarHandle") : (Cond.selects y.cls y y).before args s = true := by
  obtain ⟨c, k, h1, h2, -, h4, -, -⟩ := Cond.instantiable_spec w
  simp only [Bool.or_eq_false_iff] at h4
  exact Jvm.Stand.selects_self_of_private h1 h2 h4.1 (Cond.privateMethod_at hp) hi hy
def own_lrem (x y : Int64) : Int64 := x - x / y * y
theorem own_vne {a b : Int32} (h : a ≠ b) : Value.int a ≠ Value.int b := fun q => h (Value.int.inj q)
theorem own_lgtT {x y : Int64} (h : y < x) : ifCond.holds .gt (lcmpW x y) = true := (if0 _ _).trans (tlt ((lw_gt x y).mpr h)).2.2.1
theorem own_lgtF {x y : Int64} (h : ¬ y < x) : ifCond.holds .gt (lcmpW x y) = false := (if0 _ _).trans (flt (fun q => h ((lw_gt x y).mp q))).2.2.1
theorem own_lleT {x y : Int64} (h : ¬ y < x) : ifCond.holds .le (lcmpW x y) = true := (if0 _ _).trans (flt (fun q => h ((lw_gt x y).mp q))).2.2.2
theorem own_lleF {x y : Int64} (h : y < x) : ifCond.holds .le (lcmpW x y) = false := (if0 _ _).trans (tlt ((lw_gt x y).mpr h)).2.2.2
theorem own_lltT {x y : Int64} (h : x < y) : ifCond.holds .lt (lcmpW x y) = true := (if0 _ _).trans (tlt ((lw_lt x y).mpr h)).1
theorem own_lltF {x y : Int64} (h : ¬ x < y) : ifCond.holds .lt (lcmpW x y) = false := (if0 _ _).trans (flt (fun q => h ((lw_lt x y).mp q))).1
theorem own_lgeT {x y : Int64} (h : ¬ x < y) : ifCond.holds .ge (lcmpW x y) = true := (if0 _ _).trans (flt (fun q => h ((lw_lt x y).mp q))).2.1
theorem own_lgeF {x y : Int64} (h : x < y) : ifCond.holds .ge (lcmpW x y) = false := (if0 _ _).trans (tlt ((lw_lt x y).mpr h)).2.1
theorem own_leqT {x y : Int64} (h : x = y) : ifCond.holds .eq (lcmpW x y) = true := (if0 _ _).trans (teq ((lw_eq x y).mpr h)).1
theorem own_leqF {x y : Int64} (h : ¬ x = y) : ifCond.holds .eq (lcmpW x y) = false := (if0 _ _).trans (feq (fun q => h ((lw_eq x y).mp q))).1
theorem own_lneT {x y : Int64} (h : ¬ x = y) : ifCond.holds .ne (lcmpW x y) = true := (if0 _ _).trans (feq (fun q => h ((lw_eq x y).mp q))).2
theorem own_lneF {x y : Int64} (h : x = y) : ifCond.holds .ne (lcmpW x y) = false := (if0 _ _).trans (teq ((lw_eq x y).mpr h)).2
def own_e (b : Int32) : Int32 := if b = 13 ∨ b = 10 then 1 else 0
def own_st (j fr to b e : Int32) : Int32 := if ¬ (j < fr) ∧ j < to ∧ ¬ own_e b = 0 then j else e
def own_all (fr to b0 b1 b2 b3 : Int32) : Int32 := own_st 0 fr to b0 (own_st 1 fr to b1 (own_st 2 fr to b2 (own_st 3 fr to b3 to)))
def own_FT (fr to : Int32) : Prop := 0 ≤ fr.toInt ∧ fr.toInt ≤ to.toInt ∧ to.toInt ≤ 4
theorem own_lit {x : Int32} (h0 : 0 ≤ x.toInt) (h1 : x.toInt ≤ 4) : x = 0 ∨ x = 1 ∨ x = 2 ∨ x = 3 ∨ x = 4 := by
  have e0 : (0 : Int32).toInt = 0 := rfl
  have e1 : (1 : Int32).toInt = 1 := rfl
  have e2 : (2 : Int32).toInt = 2 := rfl
  have e3 : (3 : Int32).toInt = 3 := rfl
  have e4 : (4 : Int32).toInt = 4 := rfl
  simp only [← Int32.toInt_inj, e0, e1, e2, e3, e4]
  omega
theorem own_15 {fr to : Int32} (h : own_FT fr to) : (fr = 0 ∧ to = 0) ∨ (fr = 0 ∧ to = 1) ∨ (fr = 0 ∧ to = 2) ∨ (fr = 0 ∧ to = 3) ∨ (fr = 0 ∧ to = 4) ∨ (fr = 1 ∧ to = 1) ∨ (fr = 1 ∧ to = 2) ∨ (fr = 1 ∧ to = 3) ∨ (fr = 1 ∧ to = 4) ∨ (fr = 2 ∧ to = 2) ∨ (fr = 2 ∧ to = 3) ∨ (fr = 2 ∧ to = 4) ∨ (fr = 3 ∧ to = 3) ∨ (fr = 3 ∧ to = 4) ∨ (fr = 4 ∧ to = 4) := by
  obtain ⟨h1, h2, h3⟩ := h
  have a := own_lit h1 (by omega)
  have b := own_lit (x := to) (by omega) h3
  clear h1 h3
  rcases a with rfl | rfl | rfl | rfl | rfl <;> rcases b with rfl | rfl | rfl | rfl | rfl <;> revert h2 <;> decide
theorem own_fr (f : Int32) : 0 ≤ ((f &&& (2147483647 : Int32)) % (5 : Int32)).toInt ∧ ((f &&& (2147483647 : Int32)) % (5 : Int32)).toInt ≤ 4 := by
  have e : (f &&& (2147483647 : Int32)).toInt = f.toInt % 2 ^ 31 := Jvm.Kit.i32_mask f 2147483647 (k := 31) (by decide) (by decide)
  rw [Jvm.Kit.i32_rem_nonneg (by omega)]
  have e5 : (5 : Int32).toInt = 5 := rfl
  rw [e5]; omega
theorem own_5 {x : Int32} (h0 : 0 ≤ x.toInt) (h1 : x.toInt ≤ 4) : ((5 : Int32) - x).toInt = 5 - x.toInt := by
  have e5 : (5 : Int32).toInt = 5 := rfl
  rw [Jvm.Kit.i32_sub, e5] <;> rw [e5] <;> omega
theorem own_nz5 (f : Int32) : ((5 : Int32) - ((f &&& (2147483647 : Int32)) % (5 : Int32))) ≠ 0 := fun q => by
  have h := own_fr f
  have e := own_5 h.1 h.2
  rw [q] at e
  have e0 : (0 : Int32).toInt = 0 := rfl
  omega
theorem own_ft (f t : Int32) : own_FT ((f &&& (2147483647 : Int32)) % (5 : Int32)) (((f &&& (2147483647 : Int32)) % (5 : Int32)) + ((t &&& (2147483647 : Int32)) % ((5 : Int32) - ((f &&& (2147483647 : Int32)) % (5 : Int32))))) := by
  have h := own_fr f
  generalize ((f &&& (2147483647 : Int32)) % (5 : Int32)) = x at *
  have e : (t &&& (2147483647 : Int32)).toInt = t.toInt % 2 ^ 31 := Jvm.Kit.i32_mask t 2147483647 (k := 31) (by decide) (by decide)
  have e5 := own_5 h.1 h.2
  have er : ((t &&& (2147483647 : Int32)) % ((5 : Int32) - x)).toInt = (t &&& (2147483647 : Int32)).toInt % (5 - x.toInt) := by
    rw [Jvm.Kit.i32_rem_nonneg (by omega), e5]
  have a1 : 0 ≤ (t &&& (2147483647 : Int32)).toInt % (5 - x.toInt) := Int.emod_nonneg _ (by omega)
  have a2 : (t &&& (2147483647 : Int32)).toInt % (5 - x.toInt) < 5 - x.toInt := Int.emod_lt_of_pos _ (by omega)
  have es : (x + ((t &&& (2147483647 : Int32)) % ((5 : Int32) - x))).toInt = x.toInt + (t &&& (2147483647 : Int32)).toInt % (5 - x.toInt) := by
    rw [Jvm.Kit.i32_add, er] <;> rw [er] <;> omega
  unfold own_FT
  rw [es]
  omega
theorem own_e1 {b : Int32} (h : b = 13) : ¬ own_e b = 0 := by simp [own_e, h]
theorem own_e2 {b : Int32} (h : b = 10) : ¬ own_e b = 0 := by simp [own_e, h]
theorem own_e0 {b : Int32} (h1 : ¬ b = 13) (h2 : ¬ b = 10) : own_e b = 0 := by simp [own_e, h1, h2]
theorem pd_0 : parseMethodDescriptor "(I)B" = some ⟨[.int], some .byte⟩ := by decide +kernel
theorem pd_1 : parseMethodDescriptor "(B)Z" = some ⟨[.byte], some .boolean⟩ := by decide +kernel
theorem pd_2 : parseMethodDescriptor "([BII)I" = some ⟨[(.array .byte), .int, .int], some .int⟩ := by decide +kernel
theorem d1_0 : decode method_2_code 0 = .ok (.iload_n 0, 1) := by decide +kernel
theorem d1_1 : decode method_2_code 1 = .ok (.iconst 3, 1) := by decide +kernel
theorem d1_2 : decode method_2_code 2 = .ok (.iand, 1) := by decide +kernel
theorem d1_3 : decode method_2_code 3 = .ok (.istore_n 1, 1) := by decide +kernel
theorem d1_4 : decode method_2_code 4 = .ok (.iload_n 1, 1) := by decide +kernel
theorem d1_5 : decode method_2_code 5 = .ok (.ifCond .ne 6, 3) := by decide +kernel
theorem d1_8 : decode method_2_code 8 = .ok (.bipush 13, 2) := by decide +kernel
theorem d1_10 : decode method_2_code 10 = .ok (.ireturn, 1) := by decide +kernel
theorem d1_11 : decode method_2_code 11 = .ok (.iload_n 1, 1) := by decide +kernel
theorem d1_12 : decode method_2_code 12 = .ok (.iconst 1, 1) := by decide +kernel
theorem d1_13 : decode method_2_code 13 = .ok (.if_icmp .ne 6, 3) := by decide +kernel
theorem d1_16 : decode method_2_code 16 = .ok (.bipush 10, 2) := by decide +kernel
theorem d1_18 : decode method_2_code 18 = .ok (.ireturn, 1) := by decide +kernel
theorem d1_19 : decode method_2_code 19 = .ok (.iload_n 0, 1) := by decide +kernel
theorem d1_20 : decode method_2_code 20 = .ok (.iconst 2, 1) := by decide +kernel
theorem d1_21 : decode method_2_code 21 = .ok (.ishr, 1) := by decide +kernel
theorem d1_22 : decode method_2_code 22 = .ok (.i2b, 1) := by decide +kernel
theorem d1_23 : decode method_2_code 23 = .ok (.ireturn, 1) := by decide +kernel
theorem pn_1 : plainName "com/example/labrelay/labrelay/model/SegmentMakerTextEndPinLaw" = true := by first | (simp [plainName, overriddenIn]; done) | decide +kernel
theorem ef_rm1 (m : MethodId) (pp : Int32) : entryFrame m #[(.int pp)] 2 = mkF m 0 #[.val (.int pp), .unset] [] := by first | (simp [entryFrame, mkF, argsToLocals, Value.category]; done) | rfl
def Q_rm1 (Z : State) (pp : Int32) (h0 : Heap) (n0 : Nat) (v : Option Value) (h : Heap) (L : List Loc) : Prop := ∃ t : Int32, v = some (.int t) ∧ Fr n0 L ∧ h = h0
set_option maxRecDepth 65536 in
set_option maxHeartbeats 40000000 in
theorem rm1 (l : Launch) (Z : State) (a0 : Array Value) (hw : ∀ d ∈ tables_1, d.before a0 Z = true) (ws : List Jvm.Cond) (pp : Int32) (h0 : Heap) (n0 : Nat) (Z0 : n0 ≤ h0.size) :
    MetFree l (⟨"com/example/labrelay/labrelay/model/SegmentMakerTextEndPinLaw", "draw", "(I)B"⟩ : MethodName) (head1 (Jvm.Cond.code (⟨"com/example/labrelay/labrelay/model/SegmentMakerTextEndPinLaw", "draw", "(I)B"⟩ : MethodName) method_2_code 2 (some .byte) :: ws) ({ frames := 0, cells := 0, slots := 0, locals := 0 } : Room)) (fun as₉ U => as₉ = #[(.int pp)] ∧ Z.Warmed39 U.vm ∧ U.heap = h0) (fun _ _ _ _ _ => True) (fun _ U o₉ U' => ∃ v L, o₉ = .returned v ∧ Q_rm1 Z pp h0 n0 v U'.heap L ∧ FrameEnd U o₉ U' L ({ frames := 0, cells := 0, slots := 0, locals := 0 } : Room).cells ({ frames := 0, cells := 0, slots := 0, locals := 0 } : Room).slots) := by
  refine MetFree.of_bodySF (plainFor_of_name pn_1) hisR ?_
  intro p e s m args below meth c s₁ Bd hml0 hP hK
  obtain ⟨rfl, hZ, hh⟩ := hP
  have hx := Bd.exec
  have hby := Bd.bytes
  have hml : c.maxLocals = 2 := hml0
  have hown : s.vm.findClass "com/example/labrelay/labrelay/model/SegmentMakerTextEndPinLaw" = some m.cls := findClass_of_methodNamed Bd.named
  have hnm := (name_of_methodNamed Bd.named Bd.method).1
  have X0 : Stand p l e ({ frames := 0, cells := 0, slots := 0, locals := 0 } : Room) s m #[(.int pp)] below meth c s₁ [] 0 0 := Stand.of_body Bd
  have e0 : s₁.heap = h0 := by rw [← hh, Bd.state]; rfl
  have N0 := Fr.nil n0
  show own_Go p e below (fun s₂ o₉ => s₂.status = .running ∧ Ended s₂ below o₉ ∧ ∃ v L, o₉ = .returned v ∧ Q_rm1 Z pp h0 n0 v s₂.heap L ∧ FrameEnd s o₉ s₂ L ({ frames := 0, cells := 0, slots := 0, locals := 0 } : Room).cells ({ frames := 0, cells := 0, slots := 0, locals := 0 } : Room).slots) (s₁.setTop (entryFrame m #[(.int pp)] 2))
  rw [ef_rm1 m pp]
  refine own_step (s₁.setTop (mkF m 1 #[.val (.int pp), .unset] [(.int pp)])) (fun t₀ k₀ => XS.iloadN X0.here hx rfl (hb hby d1_0) rfl k₀) ?_
  refine own_step (s₁.setTop (mkF m 2 #[.val (.int pp), .unset] [(.int (3 : Int32)), (.int pp)])) (fun t₀ k₀ => XS.iconst X0.here hx rfl (hb hby d1_1) k₀) ?_
  refine own_step (s₁.setTop (mkF m 3 #[.val (.int pp), .unset] [(.int (pp &&& (3 : Int32)))])) (fun t₀ k₀ => XS.iand X0.here hx rfl (hb hby d1_2) rfl k₀) ?_
  refine own_step (s₁.setTop (mkF m 4 #[.val (.int pp), .val (.int (pp &&& (3 : Int32)))] [])) (fun t₀ k₀ => XS.istoreN X0.here hx rfl (hb hby d1_3) rfl (l' := #[.val (.int pp), .val (.int (pp &&& (3 : Int32)))]) rfl k₀) ?_
  refine own_step (s₁.setTop (mkF m 5 #[.val (.int pp), .val (.int (pp &&& (3 : Int32)))] [(.int (pp &&& (3 : Int32)))])) (fun t₀ k₀ => XS.iloadN X0.here hx rfl (hb hby d1_4) rfl k₀) ?_
  by_cases hc5 : (pp &&& (3 : Int32)) = (0 : Int32)
  · skip
    refine own_step (s₁.setTop (mkF m 8 #[.val (.int pp), .val (.int (pp &&& (3 : Int32)))] [])) (fun t₀ k₀ => XS.ifNo X0.here hx rfl (hb hby d1_5) rfl ((if0 _ _).trans (teq hc5).2) k₀) ?_
    refine own_step (s₁.setTop (mkF m 10 #[.val (.int pp), .val (.int (pp &&& (3 : Int32)))] [(.int (13 : Int32))])) (fun t₀ k₀ => XS.bipush X0.here hx rfl (hb hby d1_8) k₀) ?_
    obtain ⟨fs, hr, hrun, hended, hW, hsame⟩ := X0.leave (v := some (.int (13 : Int32))) (fun h => by rw [Bd.returns] at h; cases h)
    refine ⟨_, _, ?_, hrun, hended, _, _, rfl, ?_, ⟨_, rfl⟩, hW, hsame.mono (by decide) (by decide)⟩
    · exact retN X0 hx (t := .byte) Bd.returns (by simp) (hb hby d1_10) hr
    · show Q_rm1 Z pp h0 n0 _ s₁.heap _
      rw [e0]
      exact ⟨_, rfl, N0, rfl⟩
  · skip
    refine own_step (s₁.setTop (mkF m 11 #[.val (.int pp), .val (.int (pp &&& (3 : Int32)))] [])) (fun t₀ k₀ => XS.ifYes X0.here hx rfl (pc0 := 5) (pc' := 11) rfl (hb hby d1_5) rfl ((if0 _ _).trans (feq hc5).2) (by decide) (by decide) k₀) ?_
    refine own_step (s₁.setTop (mkF m 12 #[.val (.int pp), .val (.int (pp &&& (3 : Int32)))] [(.int (pp &&& (3 : Int32)))])) (fun t₀ k₀ => XS.iloadN X0.here hx rfl (hb hby d1_11) rfl k₀) ?_
    refine own_step (s₁.setTop (mkF m 13 #[.val (.int pp), .val (.int (pp &&& (3 : Int32)))] [(.int (1 : Int32)), (.int (pp &&& (3 : Int32)))])) (fun t₀ k₀ => XS.iconst X0.here hx rfl (hb hby d1_12) k₀) ?_
    by_cases hc13 : (pp &&& (3 : Int32)) = (1 : Int32)
    · skip
      refine own_step (s₁.setTop (mkF m 16 #[.val (.int pp), .val (.int (pp &&& (3 : Int32)))] [])) (fun t₀ k₀ => XS.icmpNo X0.here hx rfl (hb hby d1_13) rfl (teq hc13).2 k₀) ?_
      refine own_step (s₁.setTop (mkF m 18 #[.val (.int pp), .val (.int (pp &&& (3 : Int32)))] [(.int (10 : Int32))])) (fun t₀ k₀ => XS.bipush X0.here hx rfl (hb hby d1_16) k₀) ?_
      obtain ⟨fs, hr, hrun, hended, hW, hsame⟩ := X0.leave (v := some (.int (10 : Int32))) (fun h => by rw [Bd.returns] at h; cases h)
      refine ⟨_, _, ?_, hrun, hended, _, _, rfl, ?_, ⟨_, rfl⟩, hW, hsame.mono (by decide) (by decide)⟩
      · exact retN X0 hx (t := .byte) Bd.returns (by simp) (hb hby d1_18) hr
      · show Q_rm1 Z pp h0 n0 _ s₁.heap _
        rw [e0]
        exact ⟨_, rfl, N0, rfl⟩
    · skip
      refine own_step (s₁.setTop (mkF m 19 #[.val (.int pp), .val (.int (pp &&& (3 : Int32)))] [])) (fun t₀ k₀ => XS.icmpYes X0.here hx rfl (pc0 := 13) (pc' := 19) rfl (hb hby d1_13) rfl (feq hc13).2 (by decide) (by decide) k₀) ?_
      refine own_step (s₁.setTop (mkF m 20 #[.val (.int pp), .val (.int (pp &&& (3 : Int32)))] [(.int pp)])) (fun t₀ k₀ => XS.iloadN X0.here hx rfl (hb hby d1_19) rfl k₀) ?_
      refine own_step (s₁.setTop (mkF m 21 #[.val (.int pp), .val (.int (pp &&& (3 : Int32)))] [(.int (2 : Int32)), (.int pp)])) (fun t₀ k₀ => XS.iconst X0.here hx rfl (hb hby d1_20) k₀) ?_
      refine own_step (s₁.setTop (mkF m 22 #[.val (.int pp), .val (.int (pp &&& (3 : Int32)))] [(.int (pp >>> ((2 : Int32) &&& 31)))])) (fun t₀ k₀ => XS.ishr X0.here hx rfl (hb hby d1_21) rfl k₀) ?_
      refine own_step (s₁.setTop (mkF m 23 #[.val (.int pp), .val (.int (pp &&& (3 : Int32)))] [(.int ((pp >>> ((2 : Int32) &&& 31)).toInt8.toInt32))])) (fun t₀ k₀ => XS.i2b X0.here hx rfl (hb hby d1_22) rfl k₀) ?_
      obtain ⟨fs, hr, hrun, hended, hW, hsame⟩ := X0.leave (v := some (.int (nar .byte ((pp >>> ((2 : Int32) &&& 31)).toInt8.toInt32)))) (fun h => by rw [Bd.returns] at h; cases h)
      refine ⟨_, _, ?_, hrun, hended, _, _, rfl, ?_, ⟨_, rfl⟩, hW, hsame.mono (by decide) (by decide)⟩
      · exact retN X0 hx (t := .byte) Bd.returns (by simp) (hb hby d1_23) hr
      · show Q_rm1 Z pp h0 n0 _ s₁.heap _
        rw [e0]
        exact ⟨_, rfl, N0, rfl⟩
theorem d2_0 : decode method_3_code 0 = .ok (.iload_n 0, 1) := by decide +kernel
theorem d2_1 : decode method_3_code 1 = .ok (.bipush 13, 2) := by decide +kernel
theorem d2_3 : decode method_3_code 3 = .ok (.if_icmp .eq 9, 3) := by decide +kernel
theorem d2_6 : decode method_3_code 6 = .ok (.iload_n 0, 1) := by decide +kernel
theorem d2_7 : decode method_3_code 7 = .ok (.bipush 10, 2) := by decide +kernel
theorem d2_9 : decode method_3_code 9 = .ok (.if_icmp .ne 7, 3) := by decide +kernel
theorem d2_12 : decode method_3_code 12 = .ok (.iconst 1, 1) := by decide +kernel
theorem d2_13 : decode method_3_code 13 = .ok (.goto 4, 3) := by decide +kernel
theorem d2_16 : decode method_3_code 16 = .ok (.iconst 0, 1) := by decide +kernel
theorem d2_17 : decode method_3_code 17 = .ok (.ireturn, 1) := by decide +kernel
theorem ef_rm2 (m : MethodId) (b : Int32) : entryFrame m #[(.int b)] 1 = mkF m 0 #[.val (.int b)] [] := by first | (simp [entryFrame, mkF, argsToLocals, Value.category]; done) | rfl
def Q_rm2 (Z : State) (b : Int32) (h0 : Heap) (n0 : Nat) (v : Option Value) (h : Heap) (L : List Loc) : Prop := v = some (.int (own_e b)) ∧ Fr n0 L ∧ h = h0
set_option maxRecDepth 65536 in
set_option maxHeartbeats 40000000 in
theorem rm2 (l : Launch) (Z : State) (a0 : Array Value) (hw : ∀ d ∈ tables_1, d.before a0 Z = true) (ws : List Jvm.Cond) (b : Int32) (h0 : Heap) (n0 : Nat) (Z0 : n0 ≤ h0.size) :
    MetFree l (⟨"com/example/labrelay/labrelay/model/SegmentMakerTextEndPinLaw", "ends", "(B)Z"⟩ : MethodName) (head1 (Jvm.Cond.code (⟨"com/example/labrelay/labrelay/model/SegmentMakerTextEndPinLaw", "ends", "(B)Z"⟩ : MethodName) method_3_code 1 (some .boolean) :: ws) ({ frames := 0, cells := 0, slots := 0, locals := 0 } : Room)) (fun as₉ U => as₉ = #[(.int b)] ∧ Z.Warmed39 U.vm ∧ U.heap = h0) (fun _ _ _ _ _ => True) (fun _ U o₉ U' => ∃ v L, o₉ = .returned v ∧ Q_rm2 Z b h0 n0 v U'.heap L ∧ FrameEnd U o₉ U' L ({ frames := 0, cells := 0, slots := 0, locals := 0 } : Room).cells ({ frames := 0, cells := 0, slots := 0, locals := 0 } : Room).slots) := by
  refine MetFree.of_bodySF (plainFor_of_name pn_1) hisR ?_
  intro p e s m args below meth c s₁ Bd hml0 hP hK
  obtain ⟨rfl, hZ, hh⟩ := hP
  have hx := Bd.exec
  have hby := Bd.bytes
  have hml : c.maxLocals = 1 := hml0
  have hown : s.vm.findClass "com/example/labrelay/labrelay/model/SegmentMakerTextEndPinLaw" = some m.cls := findClass_of_methodNamed Bd.named
  have hnm := (name_of_methodNamed Bd.named Bd.method).1
  have X0 : Stand p l e ({ frames := 0, cells := 0, slots := 0, locals := 0 } : Room) s m #[(.int b)] below meth c s₁ [] 0 0 := Stand.of_body Bd
  have e0 : s₁.heap = h0 := by rw [← hh, Bd.state]; rfl
  have N0 := Fr.nil n0
  show own_Go p e below (fun s₂ o₉ => s₂.status = .running ∧ Ended s₂ below o₉ ∧ ∃ v L, o₉ = .returned v ∧ Q_rm2 Z b h0 n0 v s₂.heap L ∧ FrameEnd s o₉ s₂ L ({ frames := 0, cells := 0, slots := 0, locals := 0 } : Room).cells ({ frames := 0, cells := 0, slots := 0, locals := 0 } : Room).slots) (s₁.setTop (entryFrame m #[(.int b)] 1))
  rw [ef_rm2 m b]
  refine own_step (s₁.setTop (mkF m 1 #[.val (.int b)] [(.int b)])) (fun t₀ k₀ => XS.iloadN X0.here hx rfl (hb hby d2_0) rfl k₀) ?_
  refine own_step (s₁.setTop (mkF m 3 #[.val (.int b)] [(.int (13 : Int32)), (.int b)])) (fun t₀ k₀ => XS.bipush X0.here hx rfl (hb hby d2_1) k₀) ?_
  by_cases hc3 : b = (13 : Int32)
  · skip
    refine own_step (s₁.setTop (mkF m 12 #[.val (.int b)] [])) (fun t₀ k₀ => XS.icmpYes X0.here hx rfl (pc0 := 3) (pc' := 12) rfl (hb hby d2_3) rfl (teq hc3).1 (by decide) (by decide) k₀) ?_
    refine own_step (s₁.setTop (mkF m 13 #[.val (.int b)] [(.int (1 : Int32))])) (fun t₀ k₀ => XS.iconst X0.here hx rfl (hb hby d2_12) k₀) ?_
    refine own_step (s₁.setTop (mkF m 17 #[.val (.int b)] [(.int (1 : Int32))])) (fun t₀ k₀ => XS.goto X0.here hx rfl (pc0 := 13) (pc' := 17) rfl (hb hby d2_13) (by decide) (by decide) k₀) ?_
    obtain ⟨fs, hr, hrun, hended, hW, hsame⟩ := X0.leave (v := some (.int (1 : Int32))) (fun h => by rw [Bd.returns] at h; cases h)
    refine ⟨_, _, ?_, hrun, hended, _, _, rfl, ?_, ⟨_, rfl⟩, hW, hsame.mono (by decide) (by decide)⟩
    · exact retN X0 hx (t := .boolean) Bd.returns (by simp) (hb hby d2_17) hr
    · show Q_rm2 Z b h0 n0 _ s₁.heap _
      rw [e0]
      exact ⟨by simp [own_e, hc3], N0, rfl⟩
  · skip
    refine own_step (s₁.setTop (mkF m 6 #[.val (.int b)] [])) (fun t₀ k₀ => XS.icmpNo X0.here hx rfl (hb hby d2_3) rfl (feq hc3).1 k₀) ?_
    refine own_step (s₁.setTop (mkF m 7 #[.val (.int b)] [(.int b)])) (fun t₀ k₀ => XS.iloadN X0.here hx rfl (hb hby d2_6) rfl k₀) ?_
    refine own_step (s₁.setTop (mkF m 9 #[.val (.int b)] [(.int (10 : Int32)), (.int b)])) (fun t₀ k₀ => XS.bipush X0.here hx rfl (hb hby d2_7) k₀) ?_
    by_cases hc9 : b = (10 : Int32)
    · skip
      refine own_step (s₁.setTop (mkF m 12 #[.val (.int b)] [])) (fun t₀ k₀ => XS.icmpNo X0.here hx rfl (hb hby d2_9) rfl (teq hc9).2 k₀) ?_
      refine own_step (s₁.setTop (mkF m 13 #[.val (.int b)] [(.int (1 : Int32))])) (fun t₀ k₀ => XS.iconst X0.here hx rfl (hb hby d2_12) k₀) ?_
      refine own_step (s₁.setTop (mkF m 17 #[.val (.int b)] [(.int (1 : Int32))])) (fun t₀ k₀ => XS.goto X0.here hx rfl (pc0 := 13) (pc' := 17) rfl (hb hby d2_13) (by decide) (by decide) k₀) ?_
      obtain ⟨fs, hr, hrun, hended, hW, hsame⟩ := X0.leave (v := some (.int (1 : Int32))) (fun h => by rw [Bd.returns] at h; cases h)
      refine ⟨_, _, ?_, hrun, hended, _, _, rfl, ?_, ⟨_, rfl⟩, hW, hsame.mono (by decide) (by decide)⟩
      · exact retN X0 hx (t := .boolean) Bd.returns (by simp) (hb hby d2_17) hr
      · show Q_rm2 Z b h0 n0 _ s₁.heap _
        rw [e0]
        exact ⟨by simp [own_e, hc3, hc9], N0, rfl⟩
    · skip
      refine own_step (s₁.setTop (mkF m 16 #[.val (.int b)] [])) (fun t₀ k₀ => XS.icmpYes X0.here hx rfl (pc0 := 9) (pc' := 16) rfl (hb hby d2_9) rfl (feq hc9).2 (by decide) (by decide) k₀) ?_
      refine own_step (s₁.setTop (mkF m 17 #[.val (.int b)] [(.int (0 : Int32))])) (fun t₀ k₀ => XS.iconst X0.here hx rfl (hb hby d2_16) k₀) ?_
      obtain ⟨fs, hr, hrun, hended, hW, hsame⟩ := X0.leave (v := some (.int (0 : Int32))) (fun h => by rw [Bd.returns] at h; cases h)
      refine ⟨_, _, ?_, hrun, hended, _, _, rfl, ?_, ⟨_, rfl⟩, hW, hsame.mono (by decide) (by decide)⟩
      · exact retN X0 hx (t := .boolean) Bd.returns (by simp) (hb hby d2_17) hr
      · show Q_rm2 Z b h0 n0 _ s₁.heap _
        rw [e0]
        exact ⟨by simp [own_e, hc3, hc9], N0, rfl⟩
theorem d3_0 : decode prog_68_method_2_code 0 = .ok (.iload_n 1, 1) := by decide +kernel
theorem d3_1 : decode prog_68_method_2_code 1 = .ok (.istore_n 3, 1) := by decide +kernel
theorem d3_2 : decode prog_68_method_2_code 2 = .ok (.iload_n 3, 1) := by decide +kernel
theorem d3_3 : decode prog_68_method_2_code 3 = .ok (.iload_n 2, 1) := by decide +kernel
theorem d3_4 : decode prog_68_method_2_code 4 = .ok (.if_icmp .ge 25, 3) := by decide +kernel
theorem d3_7 : decode prog_68_method_2_code 7 = .ok (.aload_n 0, 1) := by decide +kernel
theorem d3_8 : decode prog_68_method_2_code 8 = .ok (.iload_n 3, 1) := by decide +kernel
theorem d3_9 : decode prog_68_method_2_code 9 = .ok (.baload, 1) := by decide +kernel
theorem d3_10 : decode prog_68_method_2_code 10 = .ok (.bipush 13, 2) := by decide +kernel
theorem d3_12 : decode prog_68_method_2_code 12 = .ok (.if_icmp .eq 17, 3) := by decide +kernel
theorem d3_15 : decode prog_68_method_2_code 15 = .ok (.aload_n 0, 1) := by decide +kernel
theorem d3_16 : decode prog_68_method_2_code 16 = .ok (.iload_n 3, 1) := by decide +kernel
theorem d3_17 : decode prog_68_method_2_code 17 = .ok (.baload, 1) := by decide +kernel
theorem d3_18 : decode prog_68_method_2_code 18 = .ok (.bipush 10, 2) := by decide +kernel
theorem d3_20 : decode prog_68_method_2_code 20 = .ok (.if_icmp .eq 9, 3) := by decide +kernel
theorem d3_23 : decode prog_68_method_2_code 23 = .ok (.iinc 3 1, 3) := by decide +kernel
theorem d3_26 : decode prog_68_method_2_code 26 = .ok (.goto (-24), 3) := by decide +kernel
theorem d3_29 : decode prog_68_method_2_code 29 = .ok (.iload_n 3, 1) := by decide +kernel
theorem d3_30 : decode prog_68_method_2_code 30 = .ok (.ireturn, 1) := by decide +kernel
theorem pn_3 : plainName "com/example/labrelay/labrelay/model/SegmentMaker" = true := by first | (simp [plainName, overriddenIn]; done) | decide +kernel
theorem ef_rm3_0_0 (m : MethodId) (bs : Addr) : entryFrame m #[(.ref bs), (.int (0 : Int32)), (.int (0 : Int32))] 4 = mkF m 0 #[.val (.ref bs), .val (.int (0 : Int32)), .val (.int (0 : Int32)), .unset] [] := by first | (simp [entryFrame, mkF, argsToLocals, Value.category]; done) | rfl
def Q_rm3_0_0 (Z : State) (bs : Addr) (b0 : Int32) (b1 : Int32) (b2 : Int32) (b3 : Int32) (kc : ClassId) (h0 : Heap) (n0 : Nat) (v : Option Value) (h : Heap) (L : List Loc) : Prop := v = some (.int (own_all 0 0 b0 b1 b2 b3)) ∧ Fr n0 L ∧ h = h0
set_option maxRecDepth 65536 in
set_option maxHeartbeats 40000000 in
theorem rm3_0_0 (l : Launch) (Z : State) (a0 : Array Value) (hw : ∀ d ∈ tables_1, d.before a0 Z = true) (ws : List Jvm.Cond) (bs : Addr) (b0 : Int32) (b1 : Int32) (b2 : Int32) (b3 : Int32) (kc : ClassId) (h0 : Heap) (n0 : Nat) (Z0 : n0 ≤ h0.size) (Vb : Arv Z h0 bs kc .byte (4 : Int32) [(.int b0), (.int b1), (.int b2), (.int b3)] (.int (0 : Int32))) :
    MetFree l (⟨"com/example/labrelay/labrelay/model/SegmentMaker", "textEnd", "([BII)I"⟩ : MethodName) (head1 (Jvm.Cond.code (⟨"com/example/labrelay/labrelay/model/SegmentMaker", "textEnd", "([BII)I"⟩ : MethodName) prog_68_method_2_code 4 (some .int) :: ws) ({ frames := 0, cells := 0, slots := 0, locals := 0 } : Room)) (fun as₉ U => as₉ = #[(.ref bs), (.int (0 : Int32)), (.int (0 : Int32))] ∧ Z.Warmed39 U.vm ∧ U.heap = h0) (fun _ _ _ _ _ => True) (fun _ U o₉ U' => ∃ v L, o₉ = .returned v ∧ Q_rm3_0_0 Z bs b0 b1 b2 b3 kc h0 n0 v U'.heap L ∧ FrameEnd U o₉ U' L ({ frames := 0, cells := 0, slots := 0, locals := 0 } : Room).cells ({ frames := 0, cells := 0, slots := 0, locals := 0 } : Room).slots) := by
  refine MetFree.of_bodySF (plainFor_of_name pn_3) hisR ?_
  intro p e s m args below meth c s₁ Bd hml0 hP hK
  obtain ⟨rfl, hZ, hh⟩ := hP
  have hx := Bd.exec
  have hby := Bd.bytes
  have hml : c.maxLocals = 4 := hml0
  have hown : s.vm.findClass "com/example/labrelay/labrelay/model/SegmentMaker" = some m.cls := findClass_of_methodNamed Bd.named
  have hnm := (name_of_methodNamed Bd.named Bd.method).1
  have X0 : Stand p l e ({ frames := 0, cells := 0, slots := 0, locals := 0 } : Room) s m #[(.ref bs), (.int (0 : Int32)), (.int (0 : Int32))] below meth c s₁ [] 0 0 := Stand.of_body Bd
  have e0 : s₁.heap = h0 := by rw [← hh, Bd.state]; rfl
  have N0 := Fr.nil n0
  show own_Go p e below (fun s₂ o₉ => s₂.status = .running ∧ Ended s₂ below o₉ ∧ ∃ v L, o₉ = .returned v ∧ Q_rm3_0_0 Z bs b0 b1 b2 b3 kc h0 n0 v s₂.heap L ∧ FrameEnd s o₉ s₂ L ({ frames := 0, cells := 0, slots := 0, locals := 0 } : Room).cells ({ frames := 0, cells := 0, slots := 0, locals := 0 } : Room).slots) (s₁.setTop (entryFrame m #[(.ref bs), (.int (0 : Int32)), (.int (0 : Int32))] 4))
  rw [ef_rm3_0_0 m bs]
  refine own_step (s₁.setTop (mkF m 1 #[.val (.ref bs), .val (.int (0 : Int32)), .val (.int (0 : Int32)), .unset] [(.int (0 : Int32))])) (fun t₀ k₀ => XS.iloadN X0.here hx rfl (hb hby d3_0) rfl k₀) ?_
  refine own_step (s₁.setTop (mkF m 2 #[.val (.ref bs), .val (.int (0 : Int32)), .val (.int (0 : Int32)), .val (.int (0 : Int32))] [])) (fun t₀ k₀ => XS.istoreN X0.here hx rfl (hb hby d3_1) rfl (l' := #[.val (.ref bs), .val (.int (0 : Int32)), .val (.int (0 : Int32)), .val (.int (0 : Int32))]) rfl k₀) ?_
  refine own_step (s₁.setTop (mkF m 3 #[.val (.ref bs), .val (.int (0 : Int32)), .val (.int (0 : Int32)), .val (.int (0 : Int32))] [(.int (0 : Int32))])) (fun t₀ k₀ => XS.iloadN X0.here hx rfl (hb hby d3_2) rfl k₀) ?_
  refine own_step (s₁.setTop (mkF m 4 #[.val (.ref bs), .val (.int (0 : Int32)), .val (.int (0 : Int32)), .val (.int (0 : Int32))] [(.int (0 : Int32)), (.int (0 : Int32))])) (fun t₀ k₀ => XS.iloadN X0.here hx rfl (hb hby d3_3) rfl k₀) ?_
  refine own_step (s₁.setTop (mkF m 29 #[.val (.ref bs), .val (.int (0 : Int32)), .val (.int (0 : Int32)), .val (.int (0 : Int32))] [])) (fun t₀ k₀ => XS.icmpYes X0.here hx rfl (pc0 := 4) (pc' := 29) rfl (hb hby d3_4) rfl (by decide) (by decide) (by decide) k₀) ?_
  refine own_step (s₁.setTop (mkF m 30 #[.val (.ref bs), .val (.int (0 : Int32)), .val (.int (0 : Int32)), .val (.int (0 : Int32))] [(.int (0 : Int32))])) (fun t₀ k₀ => XS.iloadN X0.here hx rfl (hb hby d3_29) rfl k₀) ?_
  obtain ⟨fs, hr, hrun, hended, hW, hsame⟩ := X0.leave (v := some (.int (0 : Int32))) (fun h => by rw [Bd.returns] at h; cases h)
  refine ⟨_, _, ?_, hrun, hended, _, _, rfl, ?_, ⟨_, rfl⟩, hW, hsame.mono (by decide) (by decide)⟩
  · exact retI X0 hx Bd.returns (hb hby d3_30) hr
  · show Q_rm3_0_0 Z bs b0 b1 b2 b3 kc h0 n0 _ s₁.heap _
    rw [e0]
    exact ⟨by simp +decide [own_all, own_st], N0, rfl⟩
theorem ef_rm3_0_1 (m : MethodId) (bs : Addr) : entryFrame m #[(.ref bs), (.int (0 : Int32)), (.int (1 : Int32))] 4 = mkF m 0 #[.val (.ref bs), .val (.int (0 : Int32)), .val (.int (1 : Int32)), .unset] [] := by first | (simp [entryFrame, mkF, argsToLocals, Value.category]; done) | rfl
def Q_rm3_0_1 (Z : State) (bs : Addr) (b0 : Int32) (b1 : Int32) (b2 : Int32) (b3 : Int32) (kc : ClassId) (h0 : Heap) (n0 : Nat) (v : Option Value) (h : Heap) (L : List Loc) : Prop := v = some (.int (own_all 0 1 b0 b1 b2 b3)) ∧ Fr n0 L ∧ h = h0
set_option maxRecDepth 65536 in
set_option maxHeartbeats 40000000 in
theorem rm3_0_1 (l : Launch) (Z : State) (a0 : Array Value) (hw : ∀ d ∈ tables_1, d.before a0 Z = true) (ws : List Jvm.Cond) (bs : Addr) (b0 : Int32) (b1 : Int32) (b2 : Int32) (b3 : Int32) (kc : ClassId) (h0 : Heap) (n0 : Nat) (Z0 : n0 ≤ h0.size) (Vb : Arv Z h0 bs kc .byte (4 : Int32) [(.int b0), (.int b1), (.int b2), (.int b3)] (.int (0 : Int32))) :
    MetFree l (⟨"com/example/labrelay/labrelay/model/SegmentMaker", "textEnd", "([BII)I"⟩ : MethodName) (head1 (Jvm.Cond.code (⟨"com/example/labrelay/labrelay/model/SegmentMaker", "textEnd", "([BII)I"⟩ : MethodName) prog_68_method_2_code 4 (some .int) :: ws) ({ frames := 0, cells := 0, slots := 0, locals := 0 } : Room)) (fun as₉ U => as₉ = #[(.ref bs), (.int (0 : Int32)), (.int (1 : Int32))] ∧ Z.Warmed39 U.vm ∧ U.heap = h0) (fun _ _ _ _ _ => True) (fun _ U o₉ U' => ∃ v L, o₉ = .returned v ∧ Q_rm3_0_1 Z bs b0 b1 b2 b3 kc h0 n0 v U'.heap L ∧ FrameEnd U o₉ U' L ({ frames := 0, cells := 0, slots := 0, locals := 0 } : Room).cells ({ frames := 0, cells := 0, slots := 0, locals := 0 } : Room).slots) := by
  refine MetFree.of_bodySF (plainFor_of_name pn_3) hisR ?_
  intro p e s m args below meth c s₁ Bd hml0 hP hK
  obtain ⟨rfl, hZ, hh⟩ := hP
  have hx := Bd.exec
  have hby := Bd.bytes
  have hml : c.maxLocals = 4 := hml0
  have hown : s.vm.findClass "com/example/labrelay/labrelay/model/SegmentMaker" = some m.cls := findClass_of_methodNamed Bd.named
  have hnm := (name_of_methodNamed Bd.named Bd.method).1
  have X0 : Stand p l e ({ frames := 0, cells := 0, slots := 0, locals := 0 } : Room) s m #[(.ref bs), (.int (0 : Int32)), (.int (1 : Int32))] below meth c s₁ [] 0 0 := Stand.of_body Bd
  have e0 : s₁.heap = h0 := by rw [← hh, Bd.state]; rfl
  have N0 := Fr.nil n0
  show own_Go p e below (fun s₂ o₉ => s₂.status = .running ∧ Ended s₂ below o₉ ∧ ∃ v L, o₉ = .returned v ∧ Q_rm3_0_1 Z bs b0 b1 b2 b3 kc h0 n0 v s₂.heap L ∧ FrameEnd s o₉ s₂ L ({ frames := 0, cells := 0, slots := 0, locals := 0 } : Room).cells ({ frames := 0, cells := 0, slots := 0, locals := 0 } : Room).slots) (s₁.setTop (entryFrame m #[(.ref bs), (.int (0 : Int32)), (.int (1 : Int32))] 4))
  rw [ef_rm3_0_1 m bs]
  refine own_step (s₁.setTop (mkF m 1 #[.val (.ref bs), .val (.int (0 : Int32)), .val (.int (1 : Int32)), .unset] [(.int (0 : Int32))])) (fun t₀ k₀ => XS.iloadN X0.here hx rfl (hb hby d3_0) rfl k₀) ?_
  refine own_step (s₁.setTop (mkF m 2 #[.val (.ref bs), .val (.int (0 : Int32)), .val (.int (1 : Int32)), .val (.int (0 : Int32))] [])) (fun t₀ k₀ => XS.istoreN X0.here hx rfl (hb hby d3_1) rfl (l' := #[.val (.ref bs), .val (.int (0 : Int32)), .val (.int (1 : Int32)), .val (.int (0 : Int32))]) rfl k₀) ?_
  refine own_step (s₁.setTop (mkF m 3 #[.val (.ref bs), .val (.int (0 : Int32)), .val (.int (1 : Int32)), .val (.int (0 : Int32))] [(.int (0 : Int32))])) (fun t₀ k₀ => XS.iloadN X0.here hx rfl (hb hby d3_2) rfl k₀) ?_
  refine own_step (s₁.setTop (mkF m 4 #[.val (.ref bs), .val (.int (0 : Int32)), .val (.int (1 : Int32)), .val (.int (0 : Int32))] [(.int (1 : Int32)), (.int (0 : Int32))])) (fun t₀ k₀ => XS.iloadN X0.here hx rfl (hb hby d3_3) rfl k₀) ?_
  refine own_step (s₁.setTop (mkF m 7 #[.val (.ref bs), .val (.int (0 : Int32)), .val (.int (1 : Int32)), .val (.int (0 : Int32))] [])) (fun t₀ k₀ => XS.icmpNo X0.here hx rfl (hb hby d3_4) rfl (by decide) k₀) ?_
  refine own_step (s₁.setTop (mkF m 8 #[.val (.ref bs), .val (.int (0 : Int32)), .val (.int (1 : Int32)), .val (.int (0 : Int32))] [(.ref bs)])) (fun t₀ k₀ => XS.aloadN X0.here hx rfl (hb hby d3_7) rfl rfl k₀) ?_
  refine own_step (s₁.setTop (mkF m 9 #[.val (.ref bs), .val (.int (0 : Int32)), .val (.int (1 : Int32)), .val (.int (0 : Int32))] [(.int (0 : Int32)), (.ref bs)])) (fun t₀ k₀ => XS.iloadN X0.here hx rfl (hb hby d3_8) rfl k₀) ?_
  obtain ⟨clo1, Aro1, qo1, So1, Mo1, Ho1, Go1⟩ := id Vb
  have hino1 : ¬ ((0 : Int32) < 0 ∨ clo1.slots.size ≤ ((0 : Int32)).toNatClampNeg) := inb_of So1 ⟨by decide, by decide⟩
  have hato1 : clo1.slots[((0 : Int32)).toNatClampNeg]? = some (.int b0) := Ho1 0 (by rw [So1]; decide)
  refine own_step (s₁.setTop (mkF m 10 #[.val (.ref bs), .val (.int (0 : Int32)), .val (.int (1 : Int32)), .val (.int (0 : Int32))] [(.int b0)])) (fun t₀ k₀ => X0.baloadBytes hx (j := (0 : Int32)) (v := (.int b0)) (by rw [e0]; exact Aro1.1) (State.isArrayOf_alike hZ.alike Aro1.2.1) Aro1.2.2 hino1 hato1 (g := (mkF m 9 #[.val (.ref bs), .val (.int (0 : Int32)), .val (.int (1 : Int32)), .val (.int (0 : Int32))] [(.int (0 : Int32)), (.ref bs)])) rfl rfl (hb hby d3_9) _ k₀) ?_
  refine own_step (s₁.setTop (mkF m 12 #[.val (.ref bs), .val (.int (0 : Int32)), .val (.int (1 : Int32)), .val (.int (0 : Int32))] [(.int (13 : Int32)), (.int b0)])) (fun t₀ k₀ => XS.bipush X0.here hx rfl (hb hby d3_10) k₀) ?_
  by_cases hc12 : b0 = (13 : Int32)
  · skip
    refine own_step (s₁.setTop (mkF m 29 #[.val (.ref bs), .val (.int (0 : Int32)), .val (.int (1 : Int32)), .val (.int (0 : Int32))] [])) (fun t₀ k₀ => XS.icmpYes X0.here hx rfl (pc0 := 12) (pc' := 29) rfl (hb hby d3_12) rfl (teq hc12).1 (by decide) (by decide) k₀) ?_
    refine own_step (s₁.setTop (mkF m 30 #[.val (.ref bs), .val (.int (0 : Int32)), .val (.int (1 : Int32)), .val (.int (0 : Int32))] [(.int (0 : Int32))])) (fun t₀ k₀ => XS.iloadN X0.here hx rfl (hb hby d3_29) rfl k₀) ?_
    obtain ⟨fs, hr, hrun, hended, hW, hsame⟩ := X0.leave (v := some (.int (0 : Int32))) (fun h => by rw [Bd.returns] at h; cases h)
    refine ⟨_, _, ?_, hrun, hended, _, _, rfl, ?_, ⟨_, rfl⟩, hW, hsame.mono (by decide) (by decide)⟩
    · exact retI X0 hx Bd.returns (hb hby d3_30) hr
    · show Q_rm3_0_1 Z bs b0 b1 b2 b3 kc h0 n0 _ s₁.heap _
      rw [e0]
      exact ⟨by simp +decide [own_all, own_st, own_e1 hc12], N0, rfl⟩
  · skip
    refine own_step (s₁.setTop (mkF m 15 #[.val (.ref bs), .val (.int (0 : Int32)), .val (.int (1 : Int32)), .val (.int (0 : Int32))] [])) (fun t₀ k₀ => XS.icmpNo X0.here hx rfl (hb hby d3_12) rfl (feq hc12).1 k₀) ?_
    refine own_step (s₁.setTop (mkF m 16 #[.val (.ref bs), .val (.int (0 : Int32)), .val (.int (1 : Int32)), .val (.int (0 : Int32))] [(.ref bs)])) (fun t₀ k₀ => XS.aloadN X0.here hx rfl (hb hby d3_15) rfl rfl k₀) ?_
    refine own_step (s₁.setTop (mkF m 17 #[.val (.ref bs), .val (.int (0 : Int32)), .val (.int (1 : Int32)), .val (.int (0 : Int32))] [(.int (0 : Int32)), (.ref bs)])) (fun t₀ k₀ => XS.iloadN X0.here hx rfl (hb hby d3_16) rfl k₀) ?_
    obtain ⟨clo2, Aro2, qo2, So2, Mo2, Ho2, Go2⟩ := id Vb
    have hino2 : ¬ ((0 : Int32) < 0 ∨ clo2.slots.size ≤ ((0 : Int32)).toNatClampNeg) := inb_of So2 ⟨by decide, by decide⟩
    have hato2 : clo2.slots[((0 : Int32)).toNatClampNeg]? = some (.int b0) := Ho2 0 (by rw [So2]; decide)
    refine own_step (s₁.setTop (mkF m 18 #[.val (.ref bs), .val (.int (0 : Int32)), .val (.int (1 : Int32)), .val (.int (0 : Int32))] [(.int b0)])) (fun t₀ k₀ => X0.baloadBytes hx (j := (0 : Int32)) (v := (.int b0)) (by rw [e0]; exact Aro2.1) (State.isArrayOf_alike hZ.alike Aro2.2.1) Aro2.2.2 hino2 hato2 (g := (mkF m 17 #[.val (.ref bs), .val (.int (0 : Int32)), .val (.int (1 : Int32)), .val (.int (0 : Int32))] [(.int (0 : Int32)), (.ref bs)])) rfl rfl (hb hby d3_17) _ k₀) ?_
    refine own_step (s₁.setTop (mkF m 20 #[.val (.ref bs), .val (.int (0 : Int32)), .val (.int (1 : Int32)), .val (.int (0 : Int32))] [(.int (10 : Int32)), (.int b0)])) (fun t₀ k₀ => XS.bipush X0.here hx rfl (hb hby d3_18) k₀) ?_
    by_cases hc20 : b0 = (10 : Int32)
    · skip
      refine own_step (s₁.setTop (mkF m 29 #[.val (.ref bs), .val (.int (0 : Int32)), .val (.int (1 : Int32)), .val (.int (0 : Int32))] [])) (fun t₀ k₀ => XS.icmpYes X0.here hx rfl (pc0 := 20) (pc' := 29) rfl (hb hby d3_20) rfl (teq hc20).1 (by decide) (by decide) k₀) ?_
      refine own_step (s₁.setTop (mkF m 30 #[.val (.ref bs), .val (.int (0 : Int32)), .val (.int (1 : Int32)), .val (.int (0 : Int32))] [(.int (0 : Int32))])) (fun t₀ k₀ => XS.iloadN X0.here hx rfl (hb hby d3_29) rfl k₀) ?_
      obtain ⟨fs, hr, hrun, hended, hW, hsame⟩ := X0.leave (v := some (.int (0 : Int32))) (fun h => by rw [Bd.returns] at h; cases h)
      refine ⟨_, _, ?_, hrun, hended, _, _, rfl, ?_, ⟨_, rfl⟩, hW, hsame.mono (by decide) (by decide)⟩
      · exact retI X0 hx Bd.returns (hb hby d3_30) hr
      · show Q_rm3_0_1 Z bs b0 b1 b2 b3 kc h0 n0 _ s₁.heap _
        rw [e0]
        exact ⟨by simp +decide [own_all, own_st, own_e2 hc20], N0, rfl⟩
    · skip
      refine own_step (s₁.setTop (mkF m 23 #[.val (.ref bs), .val (.int (0 : Int32)), .val (.int (1 : Int32)), .val (.int (0 : Int32))] [])) (fun t₀ k₀ => XS.icmpNo X0.here hx rfl (hb hby d3_20) rfl (feq hc20).1 k₀) ?_
      refine own_step (s₁.setTop (mkF m 26 #[.val (.ref bs), .val (.int (0 : Int32)), .val (.int (1 : Int32)), .val (.int (1 : Int32))] [])) (fun t₀ k₀ => XS.iinc X0.here hx rfl (hb hby d3_23) rfl (l' := #[.val (.ref bs), .val (.int (0 : Int32)), .val (.int (1 : Int32)), .val (.int (1 : Int32))]) rfl k₀) ?_
      refine own_step (s₁.setTop (mkF m 2 #[.val (.ref bs), .val (.int (0 : Int32)), .val (.int (1 : Int32)), .val (.int (1 : Int32))] [])) (fun t₀ k₀ => XS.goto X0.here hx rfl (pc0 := 26) (pc' := 2) rfl (hb hby d3_26) (by decide) (by decide) k₀) ?_
      refine own_step (s₁.setTop (mkF m 3 #[.val (.ref bs), .val (.int (0 : Int32)), .val (.int (1 : Int32)), .val (.int (1 : Int32))] [(.int (1 : Int32))])) (fun t₀ k₀ => XS.iloadN X0.here hx rfl (hb hby d3_2) rfl k₀) ?_
      refine own_step (s₁.setTop (mkF m 4 #[.val (.ref bs), .val (.int (0 : Int32)), .val (.int (1 : Int32)), .val (.int (1 : Int32))] [(.int (1 : Int32)), (.int (1 : Int32))])) (fun t₀ k₀ => XS.iloadN X0.here hx rfl (hb hby d3_3) rfl k₀) ?_
      refine own_step (s₁.setTop (mkF m 29 #[.val (.ref bs), .val (.int (0 : Int32)), .val (.int (1 : Int32)), .val (.int (1 : Int32))] [])) (fun t₀ k₀ => XS.icmpYes X0.here hx rfl (pc0 := 4) (pc' := 29) rfl (hb hby d3_4) rfl (by decide) (by decide) (by decide) k₀) ?_
      refine own_step (s₁.setTop (mkF m 30 #[.val (.ref bs), .val (.int (0 : Int32)), .val (.int (1 : Int32)), .val (.int (1 : Int32))] [(.int (1 : Int32))])) (fun t₀ k₀ => XS.iloadN X0.here hx rfl (hb hby d3_29) rfl k₀) ?_
      obtain ⟨fs, hr, hrun, hended, hW, hsame⟩ := X0.leave (v := some (.int (1 : Int32))) (fun h => by rw [Bd.returns] at h; cases h)
      refine ⟨_, _, ?_, hrun, hended, _, _, rfl, ?_, ⟨_, rfl⟩, hW, hsame.mono (by decide) (by decide)⟩
      · exact retI X0 hx Bd.returns (hb hby d3_30) hr
      · show Q_rm3_0_1 Z bs b0 b1 b2 b3 kc h0 n0 _ s₁.heap _
        rw [e0]
        exact ⟨by simp +decide [own_all, own_st, own_e0 hc12 hc20], N0, rfl⟩
theorem ef_rm3_0_2 (m : MethodId) (bs : Addr) : entryFrame m #[(.ref bs), (.int (0 : Int32)), (.int (2 : Int32))] 4 = mkF m 0 #[.val (.ref bs), .val (.int (0 : Int32)), .val (.int (2 : Int32)), .unset] [] := by first | (simp [entryFrame, mkF, argsToLocals, Value.category]; done) | rfl
def Q_rm3_0_2 (Z : State) (bs : Addr) (b0 : Int32) (b1 : Int32) (b2 : Int32) (b3 : Int32) (kc : ClassId) (h0 : Heap) (n0 : Nat) (v : Option Value) (h : Heap) (L : List Loc) : Prop := v = some (.int (own_all 0 2 b0 b1 b2 b3)) ∧ Fr n0 L ∧ h = h0
set_option maxRecDepth 65536 in
set_option maxHeartbeats 40000000 in
theorem rm3_0_2 (l : Launch) (Z : State) (a0 : Array Value) (hw : ∀ d ∈ tables_1, d.before a0 Z = true) (ws : List Jvm.Cond) (bs : Addr) (b0 : Int32) (b1 : Int32) (b2 : Int32) (b3 : Int32) (kc : ClassId) (h0 : Heap) (n0 : Nat) (Z0 : n0 ≤ h0.size) (Vb : Arv Z h0 bs kc .byte (4 : Int32) [(.int b0), (.int b1), (.int b2), (.int b3)] (.int (0 : Int32))) :
    MetFree l (⟨"com/example/labrelay/labrelay/model/SegmentMaker", "textEnd", "([BII)I"⟩ : MethodName) (head1 (Jvm.Cond.code (⟨"com/example/labrelay/labrelay/model/SegmentMaker", "textEnd", "([BII)I"⟩ : MethodName) prog_68_method_2_code 4 (some .int) :: ws) ({ frames := 0, cells := 0, slots := 0, locals := 0 } : Room)) (fun as₉ U => as₉ = #[(.ref bs), (.int (0 : Int32)), (.int (2 : Int32))] ∧ Z.Warmed39 U.vm ∧ U.heap = h0) (fun _ _ _ _ _ => True) (fun _ U o₉ U' => ∃ v L, o₉ = .returned v ∧ Q_rm3_0_2 Z bs b0 b1 b2 b3 kc h0 n0 v U'.heap L ∧ FrameEnd U o₉ U' L ({ frames := 0, cells := 0, slots := 0, locals := 0 } : Room).cells ({ frames := 0, cells := 0, slots := 0, locals := 0 } : Room).slots) := by
  refine MetFree.of_bodySF (plainFor_of_name pn_3) hisR ?_
  intro p e s m args below meth c s₁ Bd hml0 hP hK
  obtain ⟨rfl, hZ, hh⟩ := hP
  have hx := Bd.exec
  have hby := Bd.bytes
  have hml : c.maxLocals = 4 := hml0
  have hown : s.vm.findClass "com/example/labrelay/labrelay/model/SegmentMaker" = some m.cls := findClass_of_methodNamed Bd.named
  have hnm := (name_of_methodNamed Bd.named Bd.method).1
  have X0 : Stand p l e ({ frames := 0, cells := 0, slots := 0, locals := 0 } : Room) s m #[(.ref bs), (.int (0 : Int32)), (.int (2 : Int32))] below meth c s₁ [] 0 0 := Stand.of_body Bd
  have e0 : s₁.heap = h0 := by rw [← hh, Bd.state]; rfl
  have N0 := Fr.nil n0
  show own_Go p e below (fun s₂ o₉ => s₂.status = .running ∧ Ended s₂ below o₉ ∧ ∃ v L, o₉ = .returned v ∧ Q_rm3_0_2 Z bs b0 b1 b2 b3 kc h0 n0 v s₂.heap L ∧ FrameEnd s o₉ s₂ L ({ frames := 0, cells := 0, slots := 0, locals := 0 } : Room).cells ({ frames := 0, cells := 0, slots := 0, locals := 0 } : Room).slots) (s₁.setTop (entryFrame m #[(.ref bs), (.int (0 : Int32)), (.int (2 : Int32))] 4))
  rw [ef_rm3_0_2 m bs]
  refine own_step (s₁.setTop (mkF m 1 #[.val (.ref bs), .val (.int (0 : Int32)), .val (.int (2 : Int32)), .unset] [(.int (0 : Int32))])) (fun t₀ k₀ => XS.iloadN X0.here hx rfl (hb hby d3_0) rfl k₀) ?_
  refine own_step (s₁.setTop (mkF m 2 #[.val (.ref bs), .val (.int (0 : Int32)), .val (.int (2 : Int32)), .val (.int (0 : Int32))] [])) (fun t₀ k₀ => XS.istoreN X0.here hx rfl (hb hby d3_1) rfl (l' := #[.val (.ref bs), .val (.int (0 : Int32)), .val (.int (2 : Int32)), .val (.int (0 : Int32))]) rfl k₀) ?_
  refine own_step (s₁.setTop (mkF m 3 #[.val (.ref bs), .val (.int (0 : Int32)), .val (.int (2 : Int32)), .val (.int (0 : Int32))] [(.int (0 : Int32))])) (fun t₀ k₀ => XS.iloadN X0.here hx rfl (hb hby d3_2) rfl k₀) ?_
  refine own_step (s₁.setTop (mkF m 4 #[.val (.ref bs), .val (.int (0 : Int32)), .val (.int (2 : Int32)), .val (.int (0 : Int32))] [(.int (2 : Int32)), (.int (0 : Int32))])) (fun t₀ k₀ => XS.iloadN X0.here hx rfl (hb hby d3_3) rfl k₀) ?_
  refine own_step (s₁.setTop (mkF m 7 #[.val (.ref bs), .val (.int (0 : Int32)), .val (.int (2 : Int32)), .val (.int (0 : Int32))] [])) (fun t₀ k₀ => XS.icmpNo X0.here hx rfl (hb hby d3_4) rfl (by decide) k₀) ?_
  refine own_step (s₁.setTop (mkF m 8 #[.val (.ref bs), .val (.int (0 : Int32)), .val (.int (2 : Int32)), .val (.int (0 : Int32))] [(.ref bs)])) (fun t₀ k₀ => XS.aloadN X0.here hx rfl (hb hby d3_7) rfl rfl k₀) ?_
  refine own_step (s₁.setTop (mkF m 9 #[.val (.ref bs), .val (.int (0 : Int32)), .val (.int (2 : Int32)), .val (.int (0 : Int32))] [(.int (0 : Int32)), (.ref bs)])) (fun t₀ k₀ => XS.iloadN X0.here hx rfl (hb hby d3_8) rfl k₀) ?_
  obtain ⟨clo3, Aro3, qo3, So3, Mo3, Ho3, Go3⟩ := id Vb
  have hino3 : ¬ ((0 : Int32) < 0 ∨ clo3.slots.size ≤ ((0 : Int32)).toNatClampNeg) := inb_of So3 ⟨by decide, by decide⟩
  have hato3 : clo3.slots[((0 : Int32)).toNatClampNeg]? = some (.int b0) := Ho3 0 (by rw [So3]; decide)
  refine own_step (s₁.setTop (mkF m 10 #[.val (.ref bs), .val (.int (0 : Int32)), .val (.int (2 : Int32)), .val (.int (0 : Int32))] [(.int b0)])) (fun t₀ k₀ => X0.baloadBytes hx (j := (0 : Int32)) (v := (.int b0)) (by rw [e0]; exact Aro3.1) (State.isArrayOf_alike hZ.alike Aro3.2.1) Aro3.2.2 hino3 hato3 (g := (mkF m 9 #[.val (.ref bs), .val (.int (0 : Int32)), .val (.int (2 : Int32)), .val (.int (0 : Int32))] [(.int (0 : Int32)), (.ref bs)])) rfl rfl (hb hby d3_9) _ k₀) ?_
  refine own_step (s₁.setTop (mkF m 12 #[.val (.ref bs), .val (.int (0 : Int32)), .val (.int (2 : Int32)), .val (.int (0 : Int32))] [(.int (13 : Int32)), (.int b0)])) (fun t₀ k₀ => XS.bipush X0.here hx rfl (hb hby d3_10) k₀) ?_
  by_cases hc12 : b0 = (13 : Int32)
  · skip
    refine own_step (s₁.setTop (mkF m 29 #[.val (.ref bs), .val (.int (0 : Int32)), .val (.int (2 : Int32)), .val (.int (0 : Int32))] [])) (fun t₀ k₀ => XS.icmpYes X0.here hx rfl (pc0 := 12) (pc' := 29) rfl (hb hby d3_12) rfl (teq hc12).1 (by decide) (by decide) k₀) ?_
    refine own_step (s₁.setTop (mkF m 30 #[.val (.ref bs), .val (.int (0 : Int32)), .val (.int (2 : Int32)), .val (.int (0 : Int32))] [(.int (0 : Int32))])) (fun t₀ k₀ => XS.iloadN X0.here hx rfl (hb hby d3_29) rfl k₀) ?_
    obtain ⟨fs, hr, hrun, hended, hW, hsame⟩ := X0.leave (v := some (.int (0 : Int32))) (fun h => by rw [Bd.returns] at h; cases h)
    refine ⟨_, _, ?_, hrun, hended, _, _, rfl, ?_, ⟨_, rfl⟩, hW, hsame.mono (by decide) (by decide)⟩
    · exact retI X0 hx Bd.returns (hb hby d3_30) hr
    · show Q_rm3_0_2 Z bs b0 b1 b2 b3 kc h0 n0 _ s₁.heap _
      rw [e0]
      exact ⟨by simp +decide [own_all, own_st, own_e1 hc12], N0, rfl⟩
  · skip
    refine own_step (s₁.setTop (mkF m 15 #[.val (.ref bs), .val (.int (0 : Int32)), .val (.int (2 : Int32)), .val (.int (0 : Int32))] [])) (fun t₀ k₀ => XS.icmpNo X0.here hx rfl (hb hby d3_12) rfl (feq hc12).1 k₀) ?_
    refine own_step (s₁.setTop (mkF m 16 #[.val (.ref bs), .val (.int (0 : Int32)), .val (.int (2 : Int32)), .val (.int (0 : Int32))] [(.ref bs)])) (fun t₀ k₀ => XS.aloadN X0.here hx rfl (hb hby d3_15) rfl rfl k₀) ?_
    refine own_step (s₁.setTop (mkF m 17 #[.val (.ref bs), .val (.int (0 : Int32)), .val (.int (2 : Int32)), .val (.int (0 : Int32))] [(.int (0 : Int32)), (.ref bs)])) (fun t₀ k₀ => XS.iloadN X0.here hx rfl (hb hby d3_16) rfl k₀) ?_
    obtain ⟨clo4, Aro4, qo4, So4, Mo4, Ho4, Go4⟩ := id Vb
    have hino4 : ¬ ((0 : Int32) < 0 ∨ clo4.slots.size ≤ ((0 : Int32)).toNatClampNeg) := inb_of So4 ⟨by decide, by decide⟩
    have hato4 : clo4.slots[((0 : Int32)).toNatClampNeg]? = some (.int b0) := Ho4 0 (by rw [So4]; decide)
    refine own_step (s₁.setTop (mkF m 18 #[.val (.ref bs), .val (.int (0 : Int32)), .val (.int (2 : Int32)), .val (.int (0 : Int32))] [(.int b0)])) (fun t₀ k₀ => X0.baloadBytes hx (j := (0 : Int32)) (v := (.int b0)) (by rw [e0]; exact Aro4.1) (State.isArrayOf_alike hZ.alike Aro4.2.1) Aro4.2.2 hino4 hato4 (g := (mkF m 17 #[.val (.ref bs), .val (.int (0 : Int32)), .val (.int (2 : Int32)), .val (.int (0 : Int32))] [(.int (0 : Int32)), (.ref bs)])) rfl rfl (hb hby d3_17) _ k₀) ?_
    refine own_step (s₁.setTop (mkF m 20 #[.val (.ref bs), .val (.int (0 : Int32)), .val (.int (2 : Int32)), .val (.int (0 : Int32))] [(.int (10 : Int32)), (.int b0)])) (fun t₀ k₀ => XS.bipush X0.here hx rfl (hb hby d3_18) k₀) ?_
    by_cases hc20 : b0 = (10 : Int32)
    · skip
      refine own_step (s₁.setTop (mkF m 29 #[.val (.ref bs), .val (.int (0 : Int32)), .val (.int (2 : Int32)), .val (.int (0 : Int32))] [])) (fun t₀ k₀ => XS.icmpYes X0.here hx rfl (pc0 := 20) (pc' := 29) rfl (hb hby d3_20) rfl (teq hc20).1 (by decide) (by decide) k₀) ?_
      refine own_step (s₁.setTop (mkF m 30 #[.val (.ref bs), .val (.int (0 : Int32)), .val (.int (2 : Int32)), .val (.int (0 : Int32))] [(.int (0 : Int32))])) (fun t₀ k₀ => XS.iloadN X0.here hx rfl (hb hby d3_29) rfl k₀) ?_
      obtain ⟨fs, hr, hrun, hended, hW, hsame⟩ := X0.leave (v := some (.int (0 : Int32))) (fun h => by rw [Bd.returns] at h; cases h)
      refine ⟨_, _, ?_, hrun, hended, _, _, rfl, ?_, ⟨_, rfl⟩, hW, hsame.mono (by decide) (by decide)⟩
      · exact retI X0 hx Bd.returns (hb hby d3_30) hr
      · show Q_rm3_0_2 Z bs b0 b1 b2 b3 kc h0 n0 _ s₁.heap _
        rw [e0]
        exact ⟨by simp +decide [own_all, own_st, own_e2 hc20], N0, rfl⟩
    · skip
      refine own_step (s₁.setTop (mkF m 23 #[.val (.ref bs), .val (.int (0 : Int32)), .val (.int (2 : Int32)), .val (.int (0 : Int32))] [])) (fun t₀ k₀ => XS.icmpNo X0.here hx rfl (hb hby d3_20) rfl (feq hc20).1 k₀) ?_
      refine own_step (s₁.setTop (mkF m 26 #[.val (.ref bs), .val (.int (0 : Int32)), .val (.int (2 : Int32)), .val (.int (1 : Int32))] [])) (fun t₀ k₀ => XS.iinc X0.here hx rfl (hb hby d3_23) rfl (l' := #[.val (.ref bs), .val (.int (0 : Int32)), .val (.int (2 : Int32)), .val (.int (1 : Int32))]) rfl k₀) ?_
      refine own_step (s₁.setTop (mkF m 2 #[.val (.ref bs), .val (.int (0 : Int32)), .val (.int (2 : Int32)), .val (.int (1 : Int32))] [])) (fun t₀ k₀ => XS.goto X0.here hx rfl (pc0 := 26) (pc' := 2) rfl (hb hby d3_26) (by decide) (by decide) k₀) ?_
      refine own_step (s₁.setTop (mkF m 3 #[.val (.ref bs), .val (.int (0 : Int32)), .val (.int (2 : Int32)), .val (.int (1 : Int32))] [(.int (1 : Int32))])) (fun t₀ k₀ => XS.iloadN X0.here hx rfl (hb hby d3_2) rfl k₀) ?_
      refine own_step (s₁.setTop (mkF m 4 #[.val (.ref bs), .val (.int (0 : Int32)), .val (.int (2 : Int32)), .val (.int (1 : Int32))] [(.int (2 : Int32)), (.int (1 : Int32))])) (fun t₀ k₀ => XS.iloadN X0.here hx rfl (hb hby d3_3) rfl k₀) ?_
      refine own_step (s₁.setTop (mkF m 7 #[.val (.ref bs), .val (.int (0 : Int32)), .val (.int (2 : Int32)), .val (.int (1 : Int32))] [])) (fun t₀ k₀ => XS.icmpNo X0.here hx rfl (hb hby d3_4) rfl (by decide) k₀) ?_
      refine own_step (s₁.setTop (mkF m 8 #[.val (.ref bs), .val (.int (0 : Int32)), .val (.int (2 : Int32)), .val (.int (1 : Int32))] [(.ref bs)])) (fun t₀ k₀ => XS.aloadN X0.here hx rfl (hb hby d3_7) rfl rfl k₀) ?_
      refine own_step (s₁.setTop (mkF m 9 #[.val (.ref bs), .val (.int (0 : Int32)), .val (.int (2 : Int32)), .val (.int (1 : Int32))] [(.int (1 : Int32)), (.ref bs)])) (fun t₀ k₀ => XS.iloadN X0.here hx rfl (hb hby d3_8) rfl k₀) ?_
      obtain ⟨clo5, Aro5, qo5, So5, Mo5, Ho5, Go5⟩ := id Vb
      have hino5 : ¬ ((1 : Int32) < 0 ∨ clo5.slots.size ≤ ((1 : Int32)).toNatClampNeg) := inb_of So5 ⟨by decide, by decide⟩
      have hato5 : clo5.slots[((1 : Int32)).toNatClampNeg]? = some (.int b1) := Ho5 1 (by rw [So5]; decide)
      refine own_step (s₁.setTop (mkF m 10 #[.val (.ref bs), .val (.int (0 : Int32)), .val (.int (2 : Int32)), .val (.int (1 : Int32))] [(.int b1)])) (fun t₀ k₀ => X0.baloadBytes hx (j := (1 : Int32)) (v := (.int b1)) (by rw [e0]; exact Aro5.1) (State.isArrayOf_alike hZ.alike Aro5.2.1) Aro5.2.2 hino5 hato5 (g := (mkF m 9 #[.val (.ref bs), .val (.int (0 : Int32)), .val (.int (2 : Int32)), .val (.int (1 : Int32))] [(.int (1 : Int32)), (.ref bs)])) rfl rfl (hb hby d3_9) _ k₀) ?_
      refine own_step (s₁.setTop (mkF m 12 #[.val (.ref bs), .val (.int (0 : Int32)), .val (.int (2 : Int32)), .val (.int (1 : Int32))] [(.int (13 : Int32)), (.int b1)])) (fun t₀ k₀ => XS.bipush X0.here hx rfl (hb hby d3_10) k₀) ?_
      by_cases hc12_6 : b1 = (13 : Int32)
      · skip
        refine own_step (s₁.setTop (mkF m 29 #[.val (.ref bs), .val (.int (0 : Int32)), .val (.int (2 : Int32)), .val (.int (1 : Int32))] [])) (fun t₀ k₀ => XS.icmpYes X0.here hx rfl (pc0 := 12) (pc' := 29) rfl (hb hby d3_12) rfl (teq hc12_6).1 (by decide) (by decide) k₀) ?_
        refine own_step (s₁.setTop (mkF m 30 #[.val (.ref bs), .val (.int (0 : Int32)), .val (.int (2 : Int32)), .val (.int (1 : Int32))] [(.int (1 : Int32))])) (fun t₀ k₀ => XS.iloadN X0.here hx rfl (hb hby d3_29) rfl k₀) ?_
        obtain ⟨fs, hr, hrun, hended, hW, hsame⟩ := X0.leave (v := some (.int (1 : Int32))) (fun h => by rw [Bd.returns] at h; cases h)
        refine ⟨_, _, ?_, hrun, hended, _, _, rfl, ?_, ⟨_, rfl⟩, hW, hsame.mono (by decide) (by decide)⟩
        · exact retI X0 hx Bd.returns (hb hby d3_30) hr
        · show Q_rm3_0_2 Z bs b0 b1 b2 b3 kc h0 n0 _ s₁.heap _
          rw [e0]
          exact ⟨by simp +decide [own_all, own_st, own_e0 hc12 hc20, own_e1 hc12_6], N0, rfl⟩
      · skip
        refine own_step (s₁.setTop (mkF m 15 #[.val (.ref bs), .val (.int (0 : Int32)), .val (.int (2 : Int32)), .val (.int (1 : Int32))] [])) (fun t₀ k₀ => XS.icmpNo X0.here hx rfl (hb hby d3_12) rfl (feq hc12_6).1 k₀) ?_
        refine own_step (s₁.setTop (mkF m 16 #[.val (.ref bs), .val (.int (0 : Int32)), .val (.int (2 : Int32)), .val (.int (1 : Int32))] [(.ref bs)])) (fun t₀ k₀ => XS.aloadN X0.here hx rfl (hb hby d3_15) rfl rfl k₀) ?_
        refine own_step (s₁.setTop (mkF m 17 #[.val (.ref bs), .val (.int (0 : Int32)), .val (.int (2 : Int32)), .val (.int (1 : Int32))] [(.int (1 : Int32)), (.ref bs)])) (fun t₀ k₀ => XS.iloadN X0.here hx rfl (hb hby d3_16) rfl k₀) ?_
        obtain ⟨clo7, Aro7, qo7, So7, Mo7, Ho7, Go7⟩ := id Vb
        have hino7 : ¬ ((1 : Int32) < 0 ∨ clo7.slots.size ≤ ((1 : Int32)).toNatClampNeg) := inb_of So7 ⟨by decide, by decide⟩
        have hato7 : clo7.slots[((1 : Int32)).toNatClampNeg]? = some (.int b1) := Ho7 1 (by rw [So7]; decide)
        refine own_step (s₁.setTop (mkF m 18 #[.val (.ref bs), .val (.int (0 : Int32)), .val (.int (2 : Int32)), .val (.int (1 : Int32))] [(.int b1)])) (fun t₀ k₀ => X0.baloadBytes hx (j := (1 : Int32)) (v := (.int b1)) (by rw [e0]; exact Aro7.1) (State.isArrayOf_alike hZ.alike Aro7.2.1) Aro7.2.2 hino7 hato7 (g := (mkF m 17 #[.val (.ref bs), .val (.int (0 : Int32)), .val (.int (2 : Int32)), .val (.int (1 : Int32))] [(.int (1 : Int32)), (.ref bs)])) rfl rfl (hb hby d3_17) _ k₀) ?_
        refine own_step (s₁.setTop (mkF m 20 #[.val (.ref bs), .val (.int (0 : Int32)), .val (.int (2 : Int32)), .val (.int (1 : Int32))] [(.int (10 : Int32)), (.int b1)])) (fun t₀ k₀ => XS.bipush X0.here hx rfl (hb hby d3_18) k₀) ?_
        by_cases hc20_8 : b1 = (10 : Int32)
        · skip
          refine own_step (s₁.setTop (mkF m 29 #[.val (.ref bs), .val (.int (0 : Int32)), .val (.int (2 : Int32)), .val (.int (1 : Int32))] [])) (fun t₀ k₀ => XS.icmpYes X0.here hx rfl (pc0 := 20) (pc' := 29) rfl (hb hby d3_20) rfl (teq hc20_8).1 (by decide) (by decide) k₀) ?_
          refine own_step (s₁.setTop (mkF m 30 #[.val (.ref bs), .val (.int (0 : Int32)), .val (.int (2 : Int32)), .val (.int (1 : Int32))] [(.int (1 : Int32))])) (fun t₀ k₀ => XS.iloadN X0.here hx rfl (hb hby d3_29) rfl k₀) ?_
          obtain ⟨fs, hr, hrun, hended, hW, hsame⟩ := X0.leave (v := some (.int (1 : Int32))) (fun h => by rw [Bd.returns] at h; cases h)
          refine ⟨_, _, ?_, hrun, hended, _, _, rfl, ?_, ⟨_, rfl⟩, hW, hsame.mono (by decide) (by decide)⟩
          · exact retI X0 hx Bd.returns (hb hby d3_30) hr
          · show Q_rm3_0_2 Z bs b0 b1 b2 b3 kc h0 n0 _ s₁.heap _
            rw [e0]
            exact ⟨by simp +decide [own_all, own_st, own_e0 hc12 hc20, own_e2 hc20_8], N0, rfl⟩
        · skip
          refine own_step (s₁.setTop (mkF m 23 #[.val (.ref bs), .val (.int (0 : Int32)), .val (.int (2 : Int32)), .val (.int (1 : Int32))] [])) (fun t₀ k₀ => XS.icmpNo X0.here hx rfl (hb hby d3_20) rfl (feq hc20_8).1 k₀) ?_
          refine own_step (s₁.setTop (mkF m 26 #[.val (.ref bs), .val (.int (0 : Int32)), .val (.int (2 : Int32)), .val (.int (2 : Int32))] [])) (fun t₀ k₀ => XS.iinc X0.here hx rfl (hb hby d3_23) rfl (l' := #[.val (.ref bs), .val (.int (0 : Int32)), .val (.int (2 : Int32)), .val (.int (2 : Int32))]) rfl k₀) ?_
          refine own_step (s₁.setTop (mkF m 2 #[.val (.ref bs), .val (.int (0 : Int32)), .val (.int (2 : Int32)), .val (.int (2 : Int32))] [])) (fun t₀ k₀ => XS.goto X0.here hx rfl (pc0 := 26) (pc' := 2) rfl (hb hby d3_26) (by decide) (by decide) k₀) ?_
          refine own_step (s₁.setTop (mkF m 3 #[.val (.ref bs), .val (.int (0 : Int32)), .val (.int (2 : Int32)), .val (.int (2 : Int32))] [(.int (2 : Int32))])) (fun t₀ k₀ => XS.iloadN X0.here hx rfl (hb hby d3_2) rfl k₀) ?_
          refine own_step (s₁.setTop (mkF m 4 #[.val (.ref bs), .val (.int (0 : Int32)), .val (.int (2 : Int32)), .val (.int (2 : Int32))] [(.int (2 : Int32)), (.int (2 : Int32))])) (fun t₀ k₀ => XS.iloadN X0.here hx rfl (hb hby d3_3) rfl k₀) ?_
          refine own_step (s₁.setTop (mkF m 29 #[.val (.ref bs), .val (.int (0 : Int32)), .val (.int (2 : Int32)), .val (.int (2 : Int32))] [])) (fun t₀ k₀ => XS.icmpYes X0.here hx rfl (pc0 := 4) (pc' := 29) rfl (hb hby d3_4) rfl (by decide) (by decide) (by decide) k₀) ?_
          refine own_step (s₁.setTop (mkF m 30 #[.val (.ref bs), .val (.int (0 : Int32)), .val (.int (2 : Int32)), .val (.int (2 : Int32))] [(.int (2 : Int32))])) (fun t₀ k₀ => XS.iloadN X0.here hx rfl (hb hby d3_29) rfl k₀) ?_
          obtain ⟨fs, hr, hrun, hended, hW, hsame⟩ := X0.leave (v := some (.int (2 : Int32))) (fun h => by rw [Bd.returns] at h; cases h)
          refine ⟨_, _, ?_, hrun, hended, _, _, rfl, ?_, ⟨_, rfl⟩, hW, hsame.mono (by decide) (by decide)⟩
          · exact retI X0 hx Bd.returns (hb hby d3_30) hr
          · show Q_rm3_0_2 Z bs b0 b1 b2 b3 kc h0 n0 _ s₁.heap _
            rw [e0]
            exact ⟨by simp +decide [own_all, own_st, own_e0 hc12 hc20, own_e0 hc12_6 hc20_8], N0, rfl⟩
theorem ef_rm3_0_3 (m : MethodId) (bs : Addr) : entryFrame m #[(.ref bs), (.int (0 : Int32)), (.int (3 : Int32))] 4 = mkF m 0 #[.val (.ref bs), .val (.int (0 : Int32)), .val (.int (3 : Int32)), .unset] [] := by first | (simp [entryFrame, mkF, argsToLocals, Value.category]; done) | rfl
def Q_rm3_0_3 (Z : State) (bs : Addr) (b0 : Int32) (b1 : Int32) (b2 : Int32) (b3 : Int32) (kc : ClassId) (h0 : Heap) (n0 : Nat) (v : Option Value) (h : Heap) (L : List Loc) : Prop := v = some (.int (own_all 0 3 b0 b1 b2 b3)) ∧ Fr n0 L ∧ h = h0
set_option maxRecDepth 65536 in
set_option maxHeartbeats 40000000 in
theorem rm3_0_3 (l : Launch) (Z : State) (a0 : Array Value) (hw : ∀ d ∈ tables_1, d.before a0 Z = true) (ws : List Jvm.Cond) (bs : Addr) (b0 : Int32) (b1 : Int32) (b2 : Int32) (b3 : Int32) (kc : ClassId) (h0 : Heap) (n0 : Nat) (Z0 : n0 ≤ h0.size) (Vb : Arv Z h0 bs kc .byte (4 : Int32) [(.int b0), (.int b1), (.int b2), (.int b3)] (.int (0 : Int32))) :
    MetFree l (⟨"com/example/labrelay/labrelay/model/SegmentMaker", "textEnd", "([BII)I"⟩ : MethodName) (head1 (Jvm.Cond.code (⟨"com/example/labrelay/labrelay/model/SegmentMaker", "textEnd", "([BII)I"⟩ : MethodName) prog_68_method_2_code 4 (some .int) :: ws) ({ frames := 0, cells := 0, slots := 0, locals := 0 } : Room)) (fun as₉ U => as₉ = #[(.ref bs), (.int (0 : Int32)), (.int (3 : Int32))] ∧ Z.Warmed39 U.vm ∧ U.heap = h0) (fun _ _ _ _ _ => True) (fun _ U o₉ U' => ∃ v L, o₉ = .returned v ∧ Q_rm3_0_3 Z bs b0 b1 b2 b3 kc h0 n0 v U'.heap L ∧ FrameEnd U o₉ U' L ({ frames := 0, cells := 0, slots := 0, locals := 0 } : Room).cells ({ frames := 0, cells := 0, slots := 0, locals := 0 } : Room).slots) := by
  refine MetFree.of_bodySF (plainFor_of_name pn_3) hisR ?_
  intro p e s m args below meth c s₁ Bd hml0 hP hK
  obtain ⟨rfl, hZ, hh⟩ := hP
  have hx := Bd.exec
  have hby := Bd.bytes
  have hml : c.maxLocals = 4 := hml0
  have hown : s.vm.findClass "com/example/labrelay/labrelay/model/SegmentMaker" = some m.cls := findClass_of_methodNamed Bd.named
  have hnm := (name_of_methodNamed Bd.named Bd.method).1
  have X0 : Stand p l e ({ frames := 0, cells := 0, slots := 0, locals := 0 } : Room) s m #[(.ref bs), (.int (0 : Int32)), (.int (3 : Int32))] below meth c s₁ [] 0 0 := Stand.of_body Bd
  have e0 : s₁.heap = h0 := by rw [← hh, Bd.state]; rfl
  have N0 := Fr.nil n0
  show own_Go p e below (fun s₂ o₉ => s₂.status = .running ∧ Ended s₂ below o₉ ∧ ∃ v L, o₉ = .returned v ∧ Q_rm3_0_3 Z bs b0 b1 b2 b3 kc h0 n0 v s₂.heap L ∧ FrameEnd s o₉ s₂ L ({ frames := 0, cells := 0, slots := 0, locals := 0 } : Room).cells ({ frames := 0, cells := 0, slots := 0, locals := 0 } : Room).slots) (s₁.setTop (entryFrame m #[(.ref bs), (.int (0 : Int32)), (.int (3 : Int32))] 4))
  rw [ef_rm3_0_3 m bs]
  refine own_step (s₁.setTop (mkF m 1 #[.val (.ref bs), .val (.int (0 : Int32)), .val (.int (3 : Int32)), .unset] [(.int (0 : Int32))])) (fun t₀ k₀ => XS.iloadN X0.here hx rfl (hb hby d3_0) rfl k₀) ?_
  refine own_step (s₁.setTop (mkF m 2 #[.val (.ref bs), .val (.int (0 : Int32)), .val (.int (3 : Int32)), .val (.int (0 : Int32))] [])) (fun t₀ k₀ => XS.istoreN X0.here hx rfl (hb hby d3_1) rfl (l' := #[.val (.ref bs), .val (.int (0 : Int32)), .val (.int (3 : Int32)), .val (.int (0 : Int32))]) rfl k₀) ?_
  refine own_step (s₁.setTop (mkF m 3 #[.val (.ref bs), .val (.int (0 : Int32)), .val (.int (3 : Int32)), .val (.int (0 : Int32))] [(.int (0 : Int32))])) (fun t₀ k₀ => XS.iloadN X0.here hx rfl (hb hby d3_2) rfl k₀) ?_
  refine own_step (s₁.setTop (mkF m 4 #[.val (.ref bs), .val (.int (0 : Int32)), .val (.int (3 : Int32)), .val (.int (0 : Int32))] [(.int (3 : Int32)), (.int (0 : Int32))])) (fun t₀ k₀ => XS.iloadN X0.here hx rfl (hb hby d3_3) rfl k₀) ?_
  refine own_step (s₁.setTop (mkF m 7 #[.val (.ref bs), .val (.int (0 : Int32)), .val (.int (3 : Int32)), .val (.int (0 : Int32))] [])) (fun t₀ k₀ => XS.icmpNo X0.here hx rfl (hb hby d3_4) rfl (by decide) k₀) ?_
  refine own_step (s₁.setTop (mkF m 8 #[.val (.ref bs), .val (.int (0 : Int32)), .val (.int (3 : Int32)), .val (.int (0 : Int32))] [(.ref bs)])) (fun t₀ k₀ => XS.aloadN X0.here hx rfl (hb hby d3_7) rfl rfl k₀) ?_
  refine own_step (s₁.setTop (mkF m 9 #[.val (.ref bs), .val (.int (0 : Int32)), .val (.int (3 : Int32)), .val (.int (0 : Int32))] [(.int (0 : Int32)), (.ref bs)])) (fun t₀ k₀ => XS.iloadN X0.here hx rfl (hb hby d3_8) rfl k₀) ?_
  obtain ⟨clo9, Aro9, qo9, So9, Mo9, Ho9, Go9⟩ := id Vb
  have hino9 : ¬ ((0 : Int32) < 0 ∨ clo9.slots.size ≤ ((0 : Int32)).toNatClampNeg) := inb_of So9 ⟨by decide, by decide⟩
  have hato9 : clo9.slots[((0 : Int32)).toNatClampNeg]? = some (.int b0) := Ho9 0 (by rw [So9]; decide)
  refine own_step (s₁.setTop (mkF m 10 #[.val (.ref bs), .val (.int (0 : Int32)), .val (.int (3 : Int32)), .val (.int (0 : Int32))] [(.int b0)])) (fun t₀ k₀ => X0.baloadBytes hx (j := (0 : Int32)) (v := (.int b0)) (by rw [e0]; exact Aro9.1) (State.isArrayOf_alike hZ.alike Aro9.2.1) Aro9.2.2 hino9 hato9 (g := (mkF m 9 #[.val (.ref bs), .val (.int (0 : Int32)), .val (.int (3 : Int32)), .val (.int (0 : Int32))] [(.int (0 : Int32)), (.ref bs)])) rfl rfl (hb hby d3_9) _ k₀) ?_
  refine own_step (s₁.setTop (mkF m 12 #[.val (.ref bs), .val (.int (0 : Int32)), .val (.int (3 : Int32)), .val (.int (0 : Int32))] [(.int (13 : Int32)), (.int b0)])) (fun t₀ k₀ => XS.bipush X0.here hx rfl (hb hby d3_10) k₀) ?_
  by_cases hc12 : b0 = (13 : Int32)
  · skip
    refine own_step (s₁.setTop (mkF m 29 #[.val (.ref bs), .val (.int (0 : Int32)), .val (.int (3 : Int32)), .val (.int (0 : Int32))] [])) (fun t₀ k₀ => XS.icmpYes X0.here hx rfl (pc0 := 12) (pc' := 29) rfl (hb hby d3_12) rfl (teq hc12).1 (by decide) (by decide) k₀) ?_
    refine own_step (s₁.setTop (mkF m 30 #[.val (.ref bs), .val (.int (0 : Int32)), .val (.int (3 : Int32)), .val (.int (0 : Int32))] [(.int (0 : Int32))])) (fun t₀ k₀ => XS.iloadN X0.here hx rfl (hb hby d3_29) rfl k₀) ?_
    obtain ⟨fs, hr, hrun, hended, hW, hsame⟩ := X0.leave (v := some (.int (0 : Int32))) (fun h => by rw [Bd.returns] at h; cases h)
    refine ⟨_, _, ?_, hrun, hended, _, _, rfl, ?_, ⟨_, rfl⟩, hW, hsame.mono (by decide) (by decide)⟩
    · exact retI X0 hx Bd.returns (hb hby d3_30) hr
    · show Q_rm3_0_3 Z bs b0 b1 b2 b3 kc h0 n0 _ s₁.heap _
      rw [e0]
      exact ⟨by simp +decide [own_all, own_st, own_e1 hc12], N0, rfl⟩
  · skip
    refine own_step (s₁.setTop (mkF m 15 #[.val (.ref bs), .val (.int (0 : Int32)), .val (.int (3 : Int32)), .val (.int (0 : Int32))] [])) (fun t₀ k₀ => XS.icmpNo X0.here hx rfl (hb hby d3_12) rfl (feq hc12).1 k₀) ?_
    refine own_step (s₁.setTop (mkF m 16 #[.val (.ref bs), .val (.int (0 : Int32)), .val (.int (3 : Int32)), .val (.int (0 : Int32))] [(.ref bs)])) (fun t₀ k₀ => XS.aloadN X0.here hx rfl (hb hby d3_15) rfl rfl k₀) ?_
    refine own_step (s₁.setTop (mkF m 17 #[.val (.ref bs), .val (.int (0 : Int32)), .val (.int (3 : Int32)), .val (.int (0 : Int32))] [(.int (0 : Int32)), (.ref bs)])) (fun t₀ k₀ => XS.iloadN X0.here hx rfl (hb hby d3_16) rfl k₀) ?_
    obtain ⟨clo10, Aro10, qo10, So10, Mo10, Ho10, Go10⟩ := id Vb
    have hino10 : ¬ ((0 : Int32) < 0 ∨ clo10.slots.size ≤ ((0 : Int32)).toNatClampNeg) := inb_of So10 ⟨by decide, by decide⟩
    have hato10 : clo10.slots[((0 : Int32)).toNatClampNeg]? = some (.int b0) := Ho10 0 (by rw [So10]; decide)
    refine own_step (s₁.setTop (mkF m 18 #[.val (.ref bs), .val (.int (0 : Int32)), .val (.int (3 : Int32)), .val (.int (0 : Int32))] [(.int b0)])) (fun t₀ k₀ => X0.baloadBytes hx (j := (0 : Int32)) (v := (.int b0)) (by rw [e0]; exact Aro10.1) (State.isArrayOf_alike hZ.alike Aro10.2.1) Aro10.2.2 hino10 hato10 (g := (mkF m 17 #[.val (.ref bs), .val (.int (0 : Int32)), .val (.int (3 : Int32)), .val (.int (0 : Int32))] [(.int (0 : Int32)), (.ref bs)])) rfl rfl (hb hby d3_17) _ k₀) ?_
    refine own_step (s₁.setTop (mkF m 20 #[.val (.ref bs), .val (.int (0 : Int32)), .val (.int (3 : Int32)), .val (.int (0 : Int32))] [(.int (10 : Int32)), (.int b0)])) (fun t₀ k₀ => XS.bipush X0.here hx rfl (hb hby d3_18) k₀) ?_
    by_cases hc20 : b0 = (10 : Int32)
    · skip
      refine own_step (s₁.setTop (mkF m 29 #[.val (.ref bs), .val (.int (0 : Int32)), .val (.int (3 : Int32)), .val (.int (0 : Int32))] [])) (fun t₀ k₀ => XS.icmpYes X0.here hx rfl (pc0 := 20) (pc' := 29) rfl (hb hby d3_20) rfl (teq hc20).1 (by decide) (by decide) k₀) ?_
      refine own_step (s₁.setTop (mkF m 30 #[.val (.ref bs), .val (.int (0 : Int32)), .val (.int (3 : Int32)), .val (.int (0 : Int32))] [(.int (0 : Int32))])) (fun t₀ k₀ => XS.iloadN X0.here hx rfl (hb hby d3_29) rfl k₀) ?_
      obtain ⟨fs, hr, hrun, hended, hW, hsame⟩ := X0.leave (v := some (.int (0 : Int32))) (fun h => by rw [Bd.returns] at h; cases h)
      refine ⟨_, _, ?_, hrun, hended, _, _, rfl, ?_, ⟨_, rfl⟩, hW, hsame.mono (by decide) (by decide)⟩
      · exact retI X0 hx Bd.returns (hb hby d3_30) hr
      · show Q_rm3_0_3 Z bs b0 b1 b2 b3 kc h0 n0 _ s₁.heap _
        rw [e0]
        exact ⟨by simp +decide [own_all, own_st, own_e2 hc20], N0, rfl⟩
    · skip
      refine own_step (s₁.setTop (mkF m 23 #[.val (.ref bs), .val (.int (0 : Int32)), .val (.int (3 : Int32)), .val (.int (0 : Int32))] [])) (fun t₀ k₀ => XS.icmpNo X0.here hx rfl (hb hby d3_20) rfl (feq hc20).1 k₀) ?_
      refine own_step (s₁.setTop (mkF m 26 #[.val (.ref bs), .val (.int (0 : Int32)), .val (.int (3 : Int32)), .val (.int (1 : Int32))] [])) (fun t₀ k₀ => XS.iinc X0.here hx rfl (hb hby d3_23) rfl (l' := #[.val (.ref bs), .val (.int (0 : Int32)), .val (.int (3 : Int32)), .val (.int (1 : Int32))]) rfl k₀) ?_
      refine own_step (s₁.setTop (mkF m 2 #[.val (.ref bs), .val (.int (0 : Int32)), .val (.int (3 : Int32)), .val (.int (1 : Int32))] [])) (fun t₀ k₀ => XS.goto X0.here hx rfl (pc0 := 26) (pc' := 2) rfl (hb hby d3_26) (by decide) (by decide) k₀) ?_
      refine own_step (s₁.setTop (mkF m 3 #[.val (.ref bs), .val (.int (0 : Int32)), .val (.int (3 : Int32)), .val (.int (1 : Int32))] [(.int (1 : Int32))])) (fun t₀ k₀ => XS.iloadN X0.here hx rfl (hb hby d3_2) rfl k₀) ?_
      refine own_step (s₁.setTop (mkF m 4 #[.val (.ref bs), .val (.int (0 : Int32)), .val (.int (3 : Int32)), .val (.int (1 : Int32))] [(.int (3 : Int32)), (.int (1 : Int32))])) (fun t₀ k₀ => XS.iloadN X0.here hx rfl (hb hby d3_3) rfl k₀) ?_
      refine own_step (s₁.setTop (mkF m 7 #[.val (.ref bs), .val (.int (0 : Int32)), .val (.int (3 : Int32)), .val (.int (1 : Int32))] [])) (fun t₀ k₀ => XS.icmpNo X0.here hx rfl (hb hby d3_4) rfl (by decide) k₀) ?_
      refine own_step (s₁.setTop (mkF m 8 #[.val (.ref bs), .val (.int (0 : Int32)), .val (.int (3 : Int32)), .val (.int (1 : Int32))] [(.ref bs)])) (fun t₀ k₀ => XS.aloadN X0.here hx rfl (hb hby d3_7) rfl rfl k₀) ?_
      refine own_step (s₁.setTop (mkF m 9 #[.val (.ref bs), .val (.int (0 : Int32)), .val (.int (3 : Int32)), .val (.int (1 : Int32))] [(.int (1 : Int32)), (.ref bs)])) (fun t₀ k₀ => XS.iloadN X0.here hx rfl (hb hby d3_8) rfl k₀) ?_
      obtain ⟨clo11, Aro11, qo11, So11, Mo11, Ho11, Go11⟩ := id Vb
      have hino11 : ¬ ((1 : Int32) < 0 ∨ clo11.slots.size ≤ ((1 : Int32)).toNatClampNeg) := inb_of So11 ⟨by decide, by decide⟩
      have hato11 : clo11.slots[((1 : Int32)).toNatClampNeg]? = some (.int b1) := Ho11 1 (by rw [So11]; decide)
      refine own_step (s₁.setTop (mkF m 10 #[.val (.ref bs), .val (.int (0 : Int32)), .val (.int (3 : Int32)), .val (.int (1 : Int32))] [(.int b1)])) (fun t₀ k₀ => X0.baloadBytes hx (j := (1 : Int32)) (v := (.int b1)) (by rw [e0]; exact Aro11.1) (State.isArrayOf_alike hZ.alike Aro11.2.1) Aro11.2.2 hino11 hato11 (g := (mkF m 9 #[.val (.ref bs), .val (.int (0 : Int32)), .val (.int (3 : Int32)), .val (.int (1 : Int32))] [(.int (1 : Int32)), (.ref bs)])) rfl rfl (hb hby d3_9) _ k₀) ?_
      refine own_step (s₁.setTop (mkF m 12 #[.val (.ref bs), .val (.int (0 : Int32)), .val (.int (3 : Int32)), .val (.int (1 : Int32))] [(.int (13 : Int32)), (.int b1)])) (fun t₀ k₀ => XS.bipush X0.here hx rfl (hb hby d3_10) k₀) ?_
      by_cases hc12_12 : b1 = (13 : Int32)
      · skip
        refine own_step (s₁.setTop (mkF m 29 #[.val (.ref bs), .val (.int (0 : Int32)), .val (.int (3 : Int32)), .val (.int (1 : Int32))] [])) (fun t₀ k₀ => XS.icmpYes X0.here hx rfl (pc0 := 12) (pc' := 29) rfl (hb hby d3_12) rfl (teq hc12_12).1 (by decide) (by decide) k₀) ?_
        refine own_step (s₁.setTop (mkF m 30 #[.val (.ref bs), .val (.int (0 : Int32)), .val (.int (3 : Int32)), .val (.int (1 : Int32))] [(.int (1 : Int32))])) (fun t₀ k₀ => XS.iloadN X0.here hx rfl (hb hby d3_29) rfl k₀) ?_
        obtain ⟨fs, hr, hrun, hended, hW, hsame⟩ := X0.leave (v := some (.int (1 : Int32))) (fun h => by rw [Bd.returns] at h; cases h)
        refine ⟨_, _, ?_, hrun, hended, _, _, rfl, ?_, ⟨_, rfl⟩, hW, hsame.mono (by decide) (by decide)⟩
        · exact retI X0 hx Bd.returns (hb hby d3_30) hr
        · show Q_rm3_0_3 Z bs b0 b1 b2 b3 kc h0 n0 _ s₁.heap _
          rw [e0]
          exact ⟨by simp +decide [own_all, own_st, own_e0 hc12 hc20, own_e1 hc12_12], N0, rfl⟩
      · skip
        refine own_step (s₁.setTop (mkF m 15 #[.val (.ref bs), .val (.int (0 : Int32)), .val (.int (3 : Int32)), .val (.int (1 : Int32))] [])) (fun t₀ k₀ => XS.icmpNo X0.here hx rfl (hb hby d3_12) rfl (feq hc12_12).1 k₀) ?_
        refine own_step (s₁.setTop (mkF m 16 #[.val (.ref bs), .val (.int (0 : Int32)), .val (.int (3 : Int32)), .val (.int (1 : Int32))] [(.ref bs)])) (fun t₀ k₀ => XS.aloadN X0.here hx rfl (hb hby d3_15) rfl rfl k₀) ?_
        refine own_step (s₁.setTop (mkF m 17 #[.val (.ref bs), .val (.int (0 : Int32)), .val (.int (3 : Int32)), .val (.int (1 : Int32))] [(.int (1 : Int32)), (.ref bs)])) (fun t₀ k₀ => XS.iloadN X0.here hx rfl (hb hby d3_16) rfl k₀) ?_
        obtain ⟨clo13, Aro13, qo13, So13, Mo13, Ho13, Go13⟩ := id Vb
        have hino13 : ¬ ((1 : Int32) < 0 ∨ clo13.slots.size ≤ ((1 : Int32)).toNatClampNeg) := inb_of So13 ⟨by decide, by decide⟩
        have hato13 : clo13.slots[((1 : Int32)).toNatClampNeg]? = some (.int b1) := Ho13 1 (by rw [So13]; decide)
        refine own_step (s₁.setTop (mkF m 18 #[.val (.ref bs), .val (.int (0 : Int32)), .val (.int (3 : Int32)), .val (.int (1 : Int32))] [(.int b1)])) (fun t₀ k₀ => X0.baloadBytes hx (j := (1 : Int32)) (v := (.int b1)) (by rw [e0]; exact Aro13.1) (State.isArrayOf_alike hZ.alike Aro13.2.1) Aro13.2.2 hino13 hato13 (g := (mkF m 17 #[.val (.ref bs), .val (.int (0 : Int32)), .val (.int (3 : Int32)), .val (.int (1 : Int32))] [(.int (1 : Int32)), (.ref bs)])) rfl rfl (hb hby d3_17) _ k₀) ?_
        refine own_step (s₁.setTop (mkF m 20 #[.val (.ref bs), .val (.int (0 : Int32)), .val (.int (3 : Int32)), .val (.int (1 : Int32))] [(.int (10 : Int32)), (.int b1)])) (fun t₀ k₀ => XS.bipush X0.here hx rfl (hb hby d3_18) k₀) ?_
        by_cases hc20_14 : b1 = (10 : Int32)
        · skip
          refine own_step (s₁.setTop (mkF m 29 #[.val (.ref bs), .val (.int (0 : Int32)), .val (.int (3 : Int32)), .val (.int (1 : Int32))] [])) (fun t₀ k₀ => XS.icmpYes X0.here hx rfl (pc0 := 20) (pc' := 29) rfl (hb hby d3_20) rfl (teq hc20_14).1 (by decide) (by decide) k₀) ?_
          refine own_step (s₁.setTop (mkF m 30 #[.val (.ref bs), .val (.int (0 : Int32)), .val (.int (3 : Int32)), .val (.int (1 : Int32))] [(.int (1 : Int32))])) (fun t₀ k₀ => XS.iloadN X0.here hx rfl (hb hby d3_29) rfl k₀) ?_
          obtain ⟨fs, hr, hrun, hended, hW, hsame⟩ := X0.leave (v := some (.int (1 : Int32))) (fun h => by rw [Bd.returns] at h; cases h)
          refine ⟨_, _, ?_, hrun, hended, _, _, rfl, ?_, ⟨_, rfl⟩, hW, hsame.mono (by decide) (by decide)⟩
          · exact retI X0 hx Bd.returns (hb hby d3_30) hr
          · show Q_rm3_0_3 Z bs b0 b1 b2 b3 kc h0 n0 _ s₁.heap _
            rw [e0]
            exact ⟨by simp +decide [own_all, own_st, own_e0 hc12 hc20, own_e2 hc20_14], N0, rfl⟩
        · skip
          refine own_step (s₁.setTop (mkF m 23 #[.val (.ref bs), .val (.int (0 : Int32)), .val (.int (3 : Int32)), .val (.int (1 : Int32))] [])) (fun t₀ k₀ => XS.icmpNo X0.here hx rfl (hb hby d3_20) rfl (feq hc20_14).1 k₀) ?_
          refine own_step (s₁.setTop (mkF m 26 #[.val (.ref bs), .val (.int (0 : Int32)), .val (.int (3 : Int32)), .val (.int (2 : Int32))] [])) (fun t₀ k₀ => XS.iinc X0.here hx rfl (hb hby d3_23) rfl (l' := #[.val (.ref bs), .val (.int (0 : Int32)), .val (.int (3 : Int32)), .val (.int (2 : Int32))]) rfl k₀) ?_
          refine own_step (s₁.setTop (mkF m 2 #[.val (.ref bs), .val (.int (0 : Int32)), .val (.int (3 : Int32)), .val (.int (2 : Int32))] [])) (fun t₀ k₀ => XS.goto X0.here hx rfl (pc0 := 26) (pc' := 2) rfl (hb hby d3_26) (by decide) (by decide) k₀) ?_
          refine own_step (s₁.setTop (mkF m 3 #[.val (.ref bs), .val (.int (0 : Int32)), .val (.int (3 : Int32)), .val (.int (2 : Int32))] [(.int (2 : Int32))])) (fun t₀ k₀ => XS.iloadN X0.here hx rfl (hb hby d3_2) rfl k₀) ?_
          refine own_step (s₁.setTop (mkF m 4 #[.val (.ref bs), .val (.int (0 : Int32)), .val (.int (3 : Int32)), .val (.int (2 : Int32))] [(.int (3 : Int32)), (.int (2 : Int32))])) (fun t₀ k₀ => XS.iloadN X0.here hx rfl (hb hby d3_3) rfl k₀) ?_
          refine own_step (s₁.setTop (mkF m 7 #[.val (.ref bs), .val (.int (0 : Int32)), .val (.int (3 : Int32)), .val (.int (2 : Int32))] [])) (fun t₀ k₀ => XS.icmpNo X0.here hx rfl (hb hby d3_4) rfl (by decide) k₀) ?_
          refine own_step (s₁.setTop (mkF m 8 #[.val (.ref bs), .val (.int (0 : Int32)), .val (.int (3 : Int32)), .val (.int (2 : Int32))] [(.ref bs)])) (fun t₀ k₀ => XS.aloadN X0.here hx rfl (hb hby d3_7) rfl rfl k₀) ?_
          refine own_step (s₁.setTop (mkF m 9 #[.val (.ref bs), .val (.int (0 : Int32)), .val (.int (3 : Int32)), .val (.int (2 : Int32))] [(.int (2 : Int32)), (.ref bs)])) (fun t₀ k₀ => XS.iloadN X0.here hx rfl (hb hby d3_8) rfl k₀) ?_
          obtain ⟨clo15, Aro15, qo15, So15, Mo15, Ho15, Go15⟩ := id Vb
          have hino15 : ¬ ((2 : Int32) < 0 ∨ clo15.slots.size ≤ ((2 : Int32)).toNatClampNeg) := inb_of So15 ⟨by decide, by decide⟩
          have hato15 : clo15.slots[((2 : Int32)).toNatClampNeg]? = some (.int b2) := Ho15 2 (by rw [So15]; decide)
          refine own_step (s₁.setTop (mkF m 10 #[.val (.ref bs), .val (.int (0 : Int32)), .val (.int (3 : Int32)), .val (.int (2 : Int32))] [(.int b2)])) (fun t₀ k₀ => X0.baloadBytes hx (j := (2 : Int32)) (v := (.int b2)) (by rw [e0]; exact Aro15.1) (State.isArrayOf_alike hZ.alike Aro15.2.1) Aro15.2.2 hino15 hato15 (g := (mkF m 9 #[.val (.ref bs), .val (.int (0 : Int32)), .val (.int (3 : Int32)), .val (.int (2 : Int32))] [(.int (2 : Int32)), (.ref bs)])) rfl rfl (hb hby d3_9) _ k₀) ?_
          refine own_step (s₁.setTop (mkF m 12 #[.val (.ref bs), .val (.int (0 : Int32)), .val (.int (3 : Int32)), .val (.int (2 : Int32))] [(.int (13 : Int32)), (.int b2)])) (fun t₀ k₀ => XS.bipush X0.here hx rfl (hb hby d3_10) k₀) ?_
          by_cases hc12_16 : b2 = (13 : Int32)
          · skip
            refine own_step (s₁.setTop (mkF m 29 #[.val (.ref bs), .val (.int (0 : Int32)), .val (.int (3 : Int32)), .val (.int (2 : Int32))] [])) (fun t₀ k₀ => XS.icmpYes X0.here hx rfl (pc0 := 12) (pc' := 29) rfl (hb hby d3_12) rfl (teq hc12_16).1 (by decide) (by decide) k₀) ?_
            refine own_step (s₁.setTop (mkF m 30 #[.val (.ref bs), .val (.int (0 : Int32)), .val (.int (3 : Int32)), .val (.int (2 : Int32))] [(.int (2 : Int32))])) (fun t₀ k₀ => XS.iloadN X0.here hx rfl (hb hby d3_29) rfl k₀) ?_
            obtain ⟨fs, hr, hrun, hended, hW, hsame⟩ := X0.leave (v := some (.int (2 : Int32))) (fun h => by rw [Bd.returns] at h; cases h)
            refine ⟨_, _, ?_, hrun, hended, _, _, rfl, ?_, ⟨_, rfl⟩, hW, hsame.mono (by decide) (by decide)⟩
            · exact retI X0 hx Bd.returns (hb hby d3_30) hr
            · show Q_rm3_0_3 Z bs b0 b1 b2 b3 kc h0 n0 _ s₁.heap _
              rw [e0]
              exact ⟨by simp +decide [own_all, own_st, own_e0 hc12 hc20, own_e0 hc12_12 hc20_14, own_e1 hc12_16], N0, rfl⟩
          · skip
            refine own_step (s₁.setTop (mkF m 15 #[.val (.ref bs), .val (.int (0 : Int32)), .val (.int (3 : Int32)), .val (.int (2 : Int32))] [])) (fun t₀ k₀ => XS.icmpNo X0.here hx rfl (hb hby d3_12) rfl (feq hc12_16).1 k₀) ?_
            refine own_step (s₁.setTop (mkF m 16 #[.val (.ref bs), .val (.int (0 : Int32)), .val (.int (3 : Int32)), .val (.int (2 : Int32))] [(.ref bs)])) (fun t₀ k₀ => XS.aloadN X0.here hx rfl (hb hby d3_15) rfl rfl k₀) ?_
            refine own_step (s₁.setTop (mkF m 17 #[.val (.ref bs), .val (.int (0 : Int32)), .val (.int (3 : Int32)), .val (.int (2 : Int32))] [(.int (2 : Int32)), (.ref bs)])) (fun t₀ k₀ => XS.iloadN X0.here hx rfl (hb hby d3_16) rfl k₀) ?_
            obtain ⟨clo17, Aro17, qo17, So17, Mo17, Ho17, Go17⟩ := id Vb
            have hino17 : ¬ ((2 : Int32) < 0 ∨ clo17.slots.size ≤ ((2 : Int32)).toNatClampNeg) := inb_of So17 ⟨by decide, by decide⟩
            have hato17 : clo17.slots[((2 : Int32)).toNatClampNeg]? = some (.int b2) := Ho17 2 (by rw [So17]; decide)
            refine own_step (s₁.setTop (mkF m 18 #[.val (.ref bs), .val (.int (0 : Int32)), .val (.int (3 : Int32)), .val (.int (2 : Int32))] [(.int b2)])) (fun t₀ k₀ => X0.baloadBytes hx (j := (2 : Int32)) (v := (.int b2)) (by rw [e0]; exact Aro17.1) (State.isArrayOf_alike hZ.alike Aro17.2.1) Aro17.2.2 hino17 hato17 (g := (mkF m 17 #[.val (.ref bs), .val (.int (0 : Int32)), .val (.int (3 : Int32)), .val (.int (2 : Int32))] [(.int (2 : Int32)), (.ref bs)])) rfl rfl (hb hby d3_17) _ k₀) ?_
            refine own_step (s₁.setTop (mkF m 20 #[.val (.ref bs), .val (.int (0 : Int32)), .val (.int (3 : Int32)), .val (.int (2 : Int32))] [(.int (10 : Int32)), (.int b2)])) (fun t₀ k₀ => XS.bipush X0.here hx rfl (hb hby d3_18) k₀) ?_
            by_cases hc20_18 : b2 = (10 : Int32)
            · skip
              refine own_step (s₁.setTop (mkF m 29 #[.val (.ref bs), .val (.int (0 : Int32)), .val (.int (3 : Int32)), .val (.int (2 : Int32))] [])) (fun t₀ k₀ => XS.icmpYes X0.here hx rfl (pc0 := 20) (pc' := 29) rfl (hb hby d3_20) rfl (teq hc20_18).1 (by decide) (by decide) k₀) ?_
              refine own_step (s₁.setTop (mkF m 30 #[.val (.ref bs), .val (.int (0 : Int32)), .val (.int (3 : Int32)), .val (.int (2 : Int32))] [(.int (2 : Int32))])) (fun t₀ k₀ => XS.iloadN X0.here hx rfl (hb hby d3_29) rfl k₀) ?_
              obtain ⟨fs, hr, hrun, hended, hW, hsame⟩ := X0.leave (v := some (.int (2 : Int32))) (fun h => by rw [Bd.returns] at h; cases h)
              refine ⟨_, _, ?_, hrun, hended, _, _, rfl, ?_, ⟨_, rfl⟩, hW, hsame.mono (by decide) (by decide)⟩
              · exact retI X0 hx Bd.returns (hb hby d3_30) hr
              · show Q_rm3_0_3 Z bs b0 b1 b2 b3 kc h0 n0 _ s₁.heap _
                rw [e0]
                exact ⟨by simp +decide [own_all, own_st, own_e0 hc12 hc20, own_e0 hc12_12 hc20_14, own_e2 hc20_18], N0, rfl⟩
            · skip
              refine own_step (s₁.setTop (mkF m 23 #[.val (.ref bs), .val (.int (0 : Int32)), .val (.int (3 : Int32)), .val (.int (2 : Int32))] [])) (fun t₀ k₀ => XS.icmpNo X0.here hx rfl (hb hby d3_20) rfl (feq hc20_18).1 k₀) ?_
              refine own_step (s₁.setTop (mkF m 26 #[.val (.ref bs), .val (.int (0 : Int32)), .val (.int (3 : Int32)), .val (.int (3 : Int32))] [])) (fun t₀ k₀ => XS.iinc X0.here hx rfl (hb hby d3_23) rfl (l' := #[.val (.ref bs), .val (.int (0 : Int32)), .val (.int (3 : Int32)), .val (.int (3 : Int32))]) rfl k₀) ?_
              refine own_step (s₁.setTop (mkF m 2 #[.val (.ref bs), .val (.int (0 : Int32)), .val (.int (3 : Int32)), .val (.int (3 : Int32))] [])) (fun t₀ k₀ => XS.goto X0.here hx rfl (pc0 := 26) (pc' := 2) rfl (hb hby d3_26) (by decide) (by decide) k₀) ?_
              refine own_step (s₁.setTop (mkF m 3 #[.val (.ref bs), .val (.int (0 : Int32)), .val (.int (3 : Int32)), .val (.int (3 : Int32))] [(.int (3 : Int32))])) (fun t₀ k₀ => XS.iloadN X0.here hx rfl (hb hby d3_2) rfl k₀) ?_
              refine own_step (s₁.setTop (mkF m 4 #[.val (.ref bs), .val (.int (0 : Int32)), .val (.int (3 : Int32)), .val (.int (3 : Int32))] [(.int (3 : Int32)), (.int (3 : Int32))])) (fun t₀ k₀ => XS.iloadN X0.here hx rfl (hb hby d3_3) rfl k₀) ?_
              refine own_step (s₁.setTop (mkF m 29 #[.val (.ref bs), .val (.int (0 : Int32)), .val (.int (3 : Int32)), .val (.int (3 : Int32))] [])) (fun t₀ k₀ => XS.icmpYes X0.here hx rfl (pc0 := 4) (pc' := 29) rfl (hb hby d3_4) rfl (by decide) (by decide) (by decide) k₀) ?_
              refine own_step (s₁.setTop (mkF m 30 #[.val (.ref bs), .val (.int (0 : Int32)), .val (.int (3 : Int32)), .val (.int (3 : Int32))] [(.int (3 : Int32))])) (fun t₀ k₀ => XS.iloadN X0.here hx rfl (hb hby d3_29) rfl k₀) ?_
              obtain ⟨fs, hr, hrun, hended, hW, hsame⟩ := X0.leave (v := some (.int (3 : Int32))) (fun h => by rw [Bd.returns] at h; cases h)
              refine ⟨_, _, ?_, hrun, hended, _, _, rfl, ?_, ⟨_, rfl⟩, hW, hsame.mono (by decide) (by decide)⟩
              · exact retI X0 hx Bd.returns (hb hby d3_30) hr
              · show Q_rm3_0_3 Z bs b0 b1 b2 b3 kc h0 n0 _ s₁.heap _
                rw [e0]
                exact ⟨by simp +decide [own_all, own_st, own_e0 hc12 hc20, own_e0 hc12_12 hc20_14, own_e0 hc12_16 hc20_18], N0, rfl⟩
theorem ef_rm3_0_4 (m : MethodId) (bs : Addr) : entryFrame m #[(.ref bs), (.int (0 : Int32)), (.int (4 : Int32))] 4 = mkF m 0 #[.val (.ref bs), .val (.int (0 : Int32)), .val (.int (4 : Int32)), .unset] [] := by first | (simp [entryFrame, mkF, argsToLocals, Value.category]; done) | rfl
def Q_rm3_0_4 (Z : State) (bs : Addr) (b0 : Int32) (b1 : Int32) (b2 : Int32) (b3 : Int32) (kc : ClassId) (h0 : Heap) (n0 : Nat) (v : Option Value) (h : Heap) (L : List Loc) : Prop := v = some (.int (own_all 0 4 b0 b1 b2 b3)) ∧ Fr n0 L ∧ h = h0
set_option maxRecDepth 65536 in
set_option maxHeartbeats 40000000 in
theorem rm3_0_4 (l : Launch) (Z : State) (a0 : Array Value) (hw : ∀ d ∈ tables_1, d.before a0 Z = true) (ws : List Jvm.Cond) (bs : Addr) (b0 : Int32) (b1 : Int32) (b2 : Int32) (b3 : Int32) (kc : ClassId) (h0 : Heap) (n0 : Nat) (Z0 : n0 ≤ h0.size) (Vb : Arv Z h0 bs kc .byte (4 : Int32) [(.int b0), (.int b1), (.int b2), (.int b3)] (.int (0 : Int32))) :
    MetFree l (⟨"com/example/labrelay/labrelay/model/SegmentMaker", "textEnd", "([BII)I"⟩ : MethodName) (head1 (Jvm.Cond.code (⟨"com/example/labrelay/labrelay/model/SegmentMaker", "textEnd", "([BII)I"⟩ : MethodName) prog_68_method_2_code 4 (some .int) :: ws) ({ frames := 0, cells := 0, slots := 0, locals := 0 } : Room)) (fun as₉ U => as₉ = #[(.ref bs), (.int (0 : Int32)), (.int (4 : Int32))] ∧ Z.Warmed39 U.vm ∧ U.heap = h0) (fun _ _ _ _ _ => True) (fun _ U o₉ U' => ∃ v L, o₉ = .returned v ∧ Q_rm3_0_4 Z bs b0 b1 b2 b3 kc h0 n0 v U'.heap L ∧ FrameEnd U o₉ U' L ({ frames := 0, cells := 0, slots := 0, locals := 0 } : Room).cells ({ frames := 0, cells := 0, slots := 0, locals := 0 } : Room).slots) := by
  refine MetFree.of_bodySF (plainFor_of_name pn_3) hisR ?_
  intro p e s m args below meth c s₁ Bd hml0 hP hK
  obtain ⟨rfl, hZ, hh⟩ := hP
  have hx := Bd.exec
  have hby := Bd.bytes
  have hml : c.maxLocals = 4 := hml0
  have hown : s.vm.findClass "com/example/labrelay/labrelay/model/SegmentMaker" = some m.cls := findClass_of_methodNamed Bd.named
  have hnm := (name_of_methodNamed Bd.named Bd.method).1
  have X0 : Stand p l e ({ frames := 0, cells := 0, slots := 0, locals := 0 } : Room) s m #[(.ref bs), (.int (0 : Int32)), (.int (4 : Int32))] below meth c s₁ [] 0 0 := Stand.of_body Bd
  have e0 : s₁.heap = h0 := by rw [← hh, Bd.state]; rfl
  have N0 := Fr.nil n0
  show own_Go p e below (fun s₂ o₉ => s₂.status = .running ∧ Ended s₂ below o₉ ∧ ∃ v L, o₉ = .returned v ∧ Q_rm3_0_4 Z bs b0 b1 b2 b3 kc h0 n0 v s₂.heap L ∧ FrameEnd s o₉ s₂ L ({ frames := 0, cells := 0, slots := 0, locals := 0 } : Room).cells ({ frames := 0, cells := 0, slots := 0, locals := 0 } : Room).slots) (s₁.setTop (entryFrame m #[(.ref bs), (.int (0 : Int32)), (.int (4 : Int32))] 4))
  rw [ef_rm3_0_4 m bs]
  refine own_step (s₁.setTop (mkF m 1 #[.val (.ref bs), .val (.int (0 : Int32)), .val (.int (4 : Int32)), .unset] [(.int (0 : Int32))])) (fun t₀ k₀ => XS.iloadN X0.here hx rfl (hb hby d3_0) rfl k₀) ?_
  refine own_step (s₁.setTop (mkF m 2 #[.val (.ref bs), .val (.int (0 : Int32)), .val (.int (4 : Int32)), .val (.int (0 : Int32))] [])) (fun t₀ k₀ => XS.istoreN X0.here hx rfl (hb hby d3_1) rfl (l' := #[.val (.ref bs), .val (.int (0 : Int32)), .val (.int (4 : Int32)), .val (.int (0 : Int32))]) rfl k₀) ?_
  refine own_step (s₁.setTop (mkF m 3 #[.val (.ref bs), .val (.int (0 : Int32)), .val (.int (4 : Int32)), .val (.int (0 : Int32))] [(.int (0 : Int32))])) (fun t₀ k₀ => XS.iloadN X0.here hx rfl (hb hby d3_2) rfl k₀) ?_
  refine own_step (s₁.setTop (mkF m 4 #[.val (.ref bs), .val (.int (0 : Int32)), .val (.int (4 : Int32)), .val (.int (0 : Int32))] [(.int (4 : Int32)), (.int (0 : Int32))])) (fun t₀ k₀ => XS.iloadN X0.here hx rfl (hb hby d3_3) rfl k₀) ?_
  refine own_step (s₁.setTop (mkF m 7 #[.val (.ref bs), .val (.int (0 : Int32)), .val (.int (4 : Int32)), .val (.int (0 : Int32))] [])) (fun t₀ k₀ => XS.icmpNo X0.here hx rfl (hb hby d3_4) rfl (by decide) k₀) ?_
  refine own_step (s₁.setTop (mkF m 8 #[.val (.ref bs), .val (.int (0 : Int32)), .val (.int (4 : Int32)), .val (.int (0 : Int32))] [(.ref bs)])) (fun t₀ k₀ => XS.aloadN X0.here hx rfl (hb hby d3_7) rfl rfl k₀) ?_
  refine own_step (s₁.setTop (mkF m 9 #[.val (.ref bs), .val (.int (0 : Int32)), .val (.int (4 : Int32)), .val (.int (0 : Int32))] [(.int (0 : Int32)), (.ref bs)])) (fun t₀ k₀ => XS.iloadN X0.here hx rfl (hb hby d3_8) rfl k₀) ?_
  obtain ⟨clo19, Aro19, qo19, So19, Mo19, Ho19, Go19⟩ := id Vb
  have hino19 : ¬ ((0 : Int32) < 0 ∨ clo19.slots.size ≤ ((0 : Int32)).toNatClampNeg) := inb_of So19 ⟨by decide, by decide⟩
  have hato19 : clo19.slots[((0 : Int32)).toNatClampNeg]? = some (.int b0) := Ho19 0 (by rw [So19]; decide)
  refine own_step (s₁.setTop (mkF m 10 #[.val (.ref bs), .val (.int (0 : Int32)), .val (.int (4 : Int32)), .val (.int (0 : Int32))] [(.int b0)])) (fun t₀ k₀ => X0.baloadBytes hx (j := (0 : Int32)) (v := (.int b0)) (by rw [e0]; exact Aro19.1) (State.isArrayOf_alike hZ.alike Aro19.2.1) Aro19.2.2 hino19 hato19 (g := (mkF m 9 #[.val (.ref bs), .val (.int (0 : Int32)), .val (.int (4 : Int32)), .val (.int (0 : Int32))] [(.int (0 : Int32)), (.ref bs)])) rfl rfl (hb hby d3_9) _ k₀) ?_
  refine own_step (s₁.setTop (mkF m 12 #[.val (.ref bs), .val (.int (0 : Int32)), .val (.int (4 : Int32)), .val (.int (0 : Int32))] [(.int (13 : Int32)), (.int b0)])) (fun t₀ k₀ => XS.bipush X0.here hx rfl (hb hby d3_10) k₀) ?_
  by_cases hc12 : b0 = (13 : Int32)
  · skip
    refine own_step (s₁.setTop (mkF m 29 #[.val (.ref bs), .val (.int (0 : Int32)), .val (.int (4 : Int32)), .val (.int (0 : Int32))] [])) (fun t₀ k₀ => XS.icmpYes X0.here hx rfl (pc0 := 12) (pc' := 29) rfl (hb hby d3_12) rfl (teq hc12).1 (by decide) (by decide) k₀) ?_
    refine own_step (s₁.setTop (mkF m 30 #[.val (.ref bs), .val (.int (0 : Int32)), .val (.int (4 : Int32)), .val (.int (0 : Int32))] [(.int (0 : Int32))])) (fun t₀ k₀ => XS.iloadN X0.here hx rfl (hb hby d3_29) rfl k₀) ?_
    obtain ⟨fs, hr, hrun, hended, hW, hsame⟩ := X0.leave (v := some (.int (0 : Int32))) (fun h => by rw [Bd.returns] at h; cases h)
    refine ⟨_, _, ?_, hrun, hended, _, _, rfl, ?_, ⟨_, rfl⟩, hW, hsame.mono (by decide) (by decide)⟩
    · exact retI X0 hx Bd.returns (hb hby d3_30) hr
    · show Q_rm3_0_4 Z bs b0 b1 b2 b3 kc h0 n0 _ s₁.heap _
      rw [e0]
      exact ⟨by simp +decide [own_all, own_st, own_e1 hc12], N0, rfl⟩
  · skip
    refine own_step (s₁.setTop (mkF m 15 #[.val (.ref bs), .val (.int (0 : Int32)), .val (.int (4 : Int32)), .val (.int (0 : Int32))] [])) (fun t₀ k₀ => XS.icmpNo X0.here hx rfl (hb hby d3_12) rfl (feq hc12).1 k₀) ?_
    refine own_step (s₁.setTop (mkF m 16 #[.val (.ref bs), .val (.int (0 : Int32)), .val (.int (4 : Int32)), .val (.int (0 : Int32))] [(.ref bs)])) (fun t₀ k₀ => XS.aloadN X0.here hx rfl (hb hby d3_15) rfl rfl k₀) ?_
    refine own_step (s₁.setTop (mkF m 17 #[.val (.ref bs), .val (.int (0 : Int32)), .val (.int (4 : Int32)), .val (.int (0 : Int32))] [(.int (0 : Int32)), (.ref bs)])) (fun t₀ k₀ => XS.iloadN X0.here hx rfl (hb hby d3_16) rfl k₀) ?_
    obtain ⟨clo20, Aro20, qo20, So20, Mo20, Ho20, Go20⟩ := id Vb
    have hino20 : ¬ ((0 : Int32) < 0 ∨ clo20.slots.size ≤ ((0 : Int32)).toNatClampNeg) := inb_of So20 ⟨by decide, by decide⟩
    have hato20 : clo20.slots[((0 : Int32)).toNatClampNeg]? = some (.int b0) := Ho20 0 (by rw [So20]; decide)
    refine own_step (s₁.setTop (mkF m 18 #[.val (.ref bs), .val (.int (0 : Int32)), .val (.int (4 : Int32)), .val (.int (0 : Int32))] [(.int b0)])) (fun t₀ k₀ => X0.baloadBytes hx (j := (0 : Int32)) (v := (.int b0)) (by rw [e0]; exact Aro20.1) (State.isArrayOf_alike hZ.alike Aro20.2.1) Aro20.2.2 hino20 hato20 (g := (mkF m 17 #[.val (.ref bs), .val (.int (0 : Int32)), .val (.int (4 : Int32)), .val (.int (0 : Int32))] [(.int (0 : Int32)), (.ref bs)])) rfl rfl (hb hby d3_17) _ k₀) ?_
    refine own_step (s₁.setTop (mkF m 20 #[.val (.ref bs), .val (.int (0 : Int32)), .val (.int (4 : Int32)), .val (.int (0 : Int32))] [(.int (10 : Int32)), (.int b0)])) (fun t₀ k₀ => XS.bipush X0.here hx rfl (hb hby d3_18) k₀) ?_
    by_cases hc20 : b0 = (10 : Int32)
    · skip
      refine own_step (s₁.setTop (mkF m 29 #[.val (.ref bs), .val (.int (0 : Int32)), .val (.int (4 : Int32)), .val (.int (0 : Int32))] [])) (fun t₀ k₀ => XS.icmpYes X0.here hx rfl (pc0 := 20) (pc' := 29) rfl (hb hby d3_20) rfl (teq hc20).1 (by decide) (by decide) k₀) ?_
      refine own_step (s₁.setTop (mkF m 30 #[.val (.ref bs), .val (.int (0 : Int32)), .val (.int (4 : Int32)), .val (.int (0 : Int32))] [(.int (0 : Int32))])) (fun t₀ k₀ => XS.iloadN X0.here hx rfl (hb hby d3_29) rfl k₀) ?_
      obtain ⟨fs, hr, hrun, hended, hW, hsame⟩ := X0.leave (v := some (.int (0 : Int32))) (fun h => by rw [Bd.returns] at h; cases h)
      refine ⟨_, _, ?_, hrun, hended, _, _, rfl, ?_, ⟨_, rfl⟩, hW, hsame.mono (by decide) (by decide)⟩
      · exact retI X0 hx Bd.returns (hb hby d3_30) hr
      · show Q_rm3_0_4 Z bs b0 b1 b2 b3 kc h0 n0 _ s₁.heap _
        rw [e0]
        exact ⟨by simp +decide [own_all, own_st, own_e2 hc20], N0, rfl⟩
    · skip
      refine own_step (s₁.setTop (mkF m 23 #[.val (.ref bs), .val (.int (0 : Int32)), .val (.int (4 : Int32)), .val (.int (0 : Int32))] [])) (fun t₀ k₀ => XS.icmpNo X0.here hx rfl (hb hby d3_20) rfl (feq hc20).1 k₀) ?_
      refine own_step (s₁.setTop (mkF m 26 #[.val (.ref bs), .val (.int (0 : Int32)), .val (.int (4 : Int32)), .val (.int (1 : Int32))] [])) (fun t₀ k₀ => XS.iinc X0.here hx rfl (hb hby d3_23) rfl (l' := #[.val (.ref bs), .val (.int (0 : Int32)), .val (.int (4 : Int32)), .val (.int (1 : Int32))]) rfl k₀) ?_
      refine own_step (s₁.setTop (mkF m 2 #[.val (.ref bs), .val (.int (0 : Int32)), .val (.int (4 : Int32)), .val (.int (1 : Int32))] [])) (fun t₀ k₀ => XS.goto X0.here hx rfl (pc0 := 26) (pc' := 2) rfl (hb hby d3_26) (by decide) (by decide) k₀) ?_
      refine own_step (s₁.setTop (mkF m 3 #[.val (.ref bs), .val (.int (0 : Int32)), .val (.int (4 : Int32)), .val (.int (1 : Int32))] [(.int (1 : Int32))])) (fun t₀ k₀ => XS.iloadN X0.here hx rfl (hb hby d3_2) rfl k₀) ?_
      refine own_step (s₁.setTop (mkF m 4 #[.val (.ref bs), .val (.int (0 : Int32)), .val (.int (4 : Int32)), .val (.int (1 : Int32))] [(.int (4 : Int32)), (.int (1 : Int32))])) (fun t₀ k₀ => XS.iloadN X0.here hx rfl (hb hby d3_3) rfl k₀) ?_
      refine own_step (s₁.setTop (mkF m 7 #[.val (.ref bs), .val (.int (0 : Int32)), .val (.int (4 : Int32)), .val (.int (1 : Int32))] [])) (fun t₀ k₀ => XS.icmpNo X0.here hx rfl (hb hby d3_4) rfl (by decide) k₀) ?_
      refine own_step (s₁.setTop (mkF m 8 #[.val (.ref bs), .val (.int (0 : Int32)), .val (.int (4 : Int32)), .val (.int (1 : Int32))] [(.ref bs)])) (fun t₀ k₀ => XS.aloadN X0.here hx rfl (hb hby d3_7) rfl rfl k₀) ?_
      refine own_step (s₁.setTop (mkF m 9 #[.val (.ref bs), .val (.int (0 : Int32)), .val (.int (4 : Int32)), .val (.int (1 : Int32))] [(.int (1 : Int32)), (.ref bs)])) (fun t₀ k₀ => XS.iloadN X0.here hx rfl (hb hby d3_8) rfl k₀) ?_
      obtain ⟨clo21, Aro21, qo21, So21, Mo21, Ho21, Go21⟩ := id Vb
      have hino21 : ¬ ((1 : Int32) < 0 ∨ clo21.slots.size ≤ ((1 : Int32)).toNatClampNeg) := inb_of So21 ⟨by decide, by decide⟩
      have hato21 : clo21.slots[((1 : Int32)).toNatClampNeg]? = some (.int b1) := Ho21 1 (by rw [So21]; decide)
      refine own_step (s₁.setTop (mkF m 10 #[.val (.ref bs), .val (.int (0 : Int32)), .val (.int (4 : Int32)), .val (.int (1 : Int32))] [(.int b1)])) (fun t₀ k₀ => X0.baloadBytes hx (j := (1 : Int32)) (v := (.int b1)) (by rw [e0]; exact Aro21.1) (State.isArrayOf_alike hZ.alike Aro21.2.1) Aro21.2.2 hino21 hato21 (g := (mkF m 9 #[.val (.ref bs), .val (.int (0 : Int32)), .val (.int (4 : Int32)), .val (.int (1 : Int32))] [(.int (1 : Int32)), (.ref bs)])) rfl rfl (hb hby d3_9) _ k₀) ?_
      refine own_step (s₁.setTop (mkF m 12 #[.val (.ref bs), .val (.int (0 : Int32)), .val (.int (4 : Int32)), .val (.int (1 : Int32))] [(.int (13 : Int32)), (.int b1)])) (fun t₀ k₀ => XS.bipush X0.here hx rfl (hb hby d3_10) k₀) ?_
      by_cases hc12_22 : b1 = (13 : Int32)
      · skip
        refine own_step (s₁.setTop (mkF m 29 #[.val (.ref bs), .val (.int (0 : Int32)), .val (.int (4 : Int32)), .val (.int (1 : Int32))] [])) (fun t₀ k₀ => XS.icmpYes X0.here hx rfl (pc0 := 12) (pc' := 29) rfl (hb hby d3_12) rfl (teq hc12_22).1 (by decide) (by decide) k₀) ?_
        refine own_step (s₁.setTop (mkF m 30 #[.val (.ref bs), .val (.int (0 : Int32)), .val (.int (4 : Int32)), .val (.int (1 : Int32))] [(.int (1 : Int32))])) (fun t₀ k₀ => XS.iloadN X0.here hx rfl (hb hby d3_29) rfl k₀) ?_
        obtain ⟨fs, hr, hrun, hended, hW, hsame⟩ := X0.leave (v := some (.int (1 : Int32))) (fun h => by rw [Bd.returns] at h; cases h)
        refine ⟨_, _, ?_, hrun, hended, _, _, rfl, ?_, ⟨_, rfl⟩, hW, hsame.mono (by decide) (by decide)⟩
        · exact retI X0 hx Bd.returns (hb hby d3_30) hr
        · show Q_rm3_0_4 Z bs b0 b1 b2 b3 kc h0 n0 _ s₁.heap _
          rw [e0]
          exact ⟨by simp +decide [own_all, own_st, own_e0 hc12 hc20, own_e1 hc12_22], N0, rfl⟩
      · skip
        refine own_step (s₁.setTop (mkF m 15 #[.val (.ref bs), .val (.int (0 : Int32)), .val (.int (4 : Int32)), .val (.int (1 : Int32))] [])) (fun t₀ k₀ => XS.icmpNo X0.here hx rfl (hb hby d3_12) rfl (feq hc12_22).1 k₀) ?_
        refine own_step (s₁.setTop (mkF m 16 #[.val (.ref bs), .val (.int (0 : Int32)), .val (.int (4 : Int32)), .val (.int (1 : Int32))] [(.ref bs)])) (fun t₀ k₀ => XS.aloadN X0.here hx rfl (hb hby d3_15) rfl rfl k₀) ?_
        refine own_step (s₁.setTop (mkF m 17 #[.val (.ref bs), .val (.int (0 : Int32)), .val (.int (4 : Int32)), .val (.int (1 : Int32))] [(.int (1 : Int32)), (.ref bs)])) (fun t₀ k₀ => XS.iloadN X0.here hx rfl (hb hby d3_16) rfl k₀) ?_
        obtain ⟨clo23, Aro23, qo23, So23, Mo23, Ho23, Go23⟩ := id Vb
        have hino23 : ¬ ((1 : Int32) < 0 ∨ clo23.slots.size ≤ ((1 : Int32)).toNatClampNeg) := inb_of So23 ⟨by decide, by decide⟩
        have hato23 : clo23.slots[((1 : Int32)).toNatClampNeg]? = some (.int b1) := Ho23 1 (by rw [So23]; decide)
        refine own_step (s₁.setTop (mkF m 18 #[.val (.ref bs), .val (.int (0 : Int32)), .val (.int (4 : Int32)), .val (.int (1 : Int32))] [(.int b1)])) (fun t₀ k₀ => X0.baloadBytes hx (j := (1 : Int32)) (v := (.int b1)) (by rw [e0]; exact Aro23.1) (State.isArrayOf_alike hZ.alike Aro23.2.1) Aro23.2.2 hino23 hato23 (g := (mkF m 17 #[.val (.ref bs), .val (.int (0 : Int32)), .val (.int (4 : Int32)), .val (.int (1 : Int32))] [(.int (1 : Int32)), (.ref bs)])) rfl rfl (hb hby d3_17) _ k₀) ?_
        refine own_step (s₁.setTop (mkF m 20 #[.val (.ref bs), .val (.int (0 : Int32)), .val (.int (4 : Int32)), .val (.int (1 : Int32))] [(.int (10 : Int32)), (.int b1)])) (fun t₀ k₀ => XS.bipush X0.here hx rfl (hb hby d3_18) k₀) ?_
        by_cases hc20_24 : b1 = (10 : Int32)
        · skip
          refine own_step (s₁.setTop (mkF m 29 #[.val (.ref bs), .val (.int (0 : Int32)), .val (.int (4 : Int32)), .val (.int (1 : Int32))] [])) (fun t₀ k₀ => XS.icmpYes X0.here hx rfl (pc0 := 20) (pc' := 29) rfl (hb hby d3_20) rfl (teq hc20_24).1 (by decide) (by decide) k₀) ?_
          refine own_step (s₁.setTop (mkF m 30 #[.val (.ref bs), .val (.int (0 : Int32)), .val (.int (4 : Int32)), .val (.int (1 : Int32))] [(.int (1 : Int32))])) (fun t₀ k₀ => XS.iloadN X0.here hx rfl (hb hby d3_29) rfl k₀) ?_
          obtain ⟨fs, hr, hrun, hended, hW, hsame⟩ := X0.leave (v := some (.int (1 : Int32))) (fun h => by rw [Bd.returns] at h; cases h)
          refine ⟨_, _, ?_, hrun, hended, _, _, rfl, ?_, ⟨_, rfl⟩, hW, hsame.mono (by decide) (by decide)⟩
          · exact retI X0 hx Bd.returns (hb hby d3_30) hr
          · show Q_rm3_0_4 Z bs b0 b1 b2 b3 kc h0 n0 _ s₁.heap _
            rw [e0]
            exact ⟨by simp +decide [own_all, own_st, own_e0 hc12 hc20, own_e2 hc20_24], N0, rfl⟩
        · skip
          refine own_step (s₁.setTop (mkF m 23 #[.val (.ref bs), .val (.int (0 : Int32)), .val (.int (4 : Int32)), .val (.int (1 : Int32))] [])) (fun t₀ k₀ => XS.icmpNo X0.here hx rfl (hb hby d3_20) rfl (feq hc20_24).1 k₀) ?_
          refine own_step (s₁.setTop (mkF m 26 #[.val (.ref bs), .val (.int (0 : Int32)), .val (.int (4 : Int32)), .val (.int (2 : Int32))] [])) (fun t₀ k₀ => XS.iinc X0.here hx rfl (hb hby d3_23) rfl (l' := #[.val (.ref bs), .val (.int (0 : Int32)), .val (.int (4 : Int32)), .val (.int (2 : Int32))]) rfl k₀) ?_
          refine own_step (s₁.setTop (mkF m 2 #[.val (.ref bs), .val (.int (0 : Int32)), .val (.int (4 : Int32)), .val (.int (2 : Int32))] [])) (fun t₀ k₀ => XS.goto X0.here hx rfl (pc0 := 26) (pc' := 2) rfl (hb hby d3_26) (by decide) (by decide) k₀) ?_
          refine own_step (s₁.setTop (mkF m 3 #[.val (.ref bs), .val (.int (0 : Int32)), .val (.int (4 : Int32)), .val (.int (2 : Int32))] [(.int (2 : Int32))])) (fun t₀ k₀ => XS.iloadN X0.here hx rfl (hb hby d3_2) rfl k₀) ?_
          refine own_step (s₁.setTop (mkF m 4 #[.val (.ref bs), .val (.int (0 : Int32)), .val (.int (4 : Int32)), .val (.int (2 : Int32))] [(.int (4 : Int32)), (.int (2 : Int32))])) (fun t₀ k₀ => XS.iloadN X0.here hx rfl (hb hby d3_3) rfl k₀) ?_
          refine own_step (s₁.setTop (mkF m 7 #[.val (.ref bs), .val (.int (0 : Int32)), .val (.int (4 : Int32)), .val (.int (2 : Int32))] [])) (fun t₀ k₀ => XS.icmpNo X0.here hx rfl (hb hby d3_4) rfl (by decide) k₀) ?_
          refine own_step (s₁.setTop (mkF m 8 #[.val (.ref bs), .val (.int (0 : Int32)), .val (.int (4 : Int32)), .val (.int (2 : Int32))] [(.ref bs)])) (fun t₀ k₀ => XS.aloadN X0.here hx rfl (hb hby d3_7) rfl rfl k₀) ?_
          refine own_step (s₁.setTop (mkF m 9 #[.val (.ref bs), .val (.int (0 : Int32)), .val (.int (4 : Int32)), .val (.int (2 : Int32))] [(.int (2 : Int32)), (.ref bs)])) (fun t₀ k₀ => XS.iloadN X0.here hx rfl (hb hby d3_8) rfl k₀) ?_
          obtain ⟨clo25, Aro25, qo25, So25, Mo25, Ho25, Go25⟩ := id Vb
          have hino25 : ¬ ((2 : Int32) < 0 ∨ clo25.slots.size ≤ ((2 : Int32)).toNatClampNeg) := inb_of So25 ⟨by decide, by decide⟩
          have hato25 : clo25.slots[((2 : Int32)).toNatClampNeg]? = some (.int b2) := Ho25 2 (by rw [So25]; decide)
          refine own_step (s₁.setTop (mkF m 10 #[.val (.ref bs), .val (.int (0 : Int32)), .val (.int (4 : Int32)), .val (.int (2 : Int32))] [(.int b2)])) (fun t₀ k₀ => X0.baloadBytes hx (j := (2 : Int32)) (v := (.int b2)) (by rw [e0]; exact Aro25.1) (State.isArrayOf_alike hZ.alike Aro25.2.1) Aro25.2.2 hino25 hato25 (g := (mkF m 9 #[.val (.ref bs), .val (.int (0 : Int32)), .val (.int (4 : Int32)), .val (.int (2 : Int32))] [(.int (2 : Int32)), (.ref bs)])) rfl rfl (hb hby d3_9) _ k₀) ?_
          refine own_step (s₁.setTop (mkF m 12 #[.val (.ref bs), .val (.int (0 : Int32)), .val (.int (4 : Int32)), .val (.int (2 : Int32))] [(.int (13 : Int32)), (.int b2)])) (fun t₀ k₀ => XS.bipush X0.here hx rfl (hb hby d3_10) k₀) ?_
          by_cases hc12_26 : b2 = (13 : Int32)
          · skip
            refine own_step (s₁.setTop (mkF m 29 #[.val (.ref bs), .val (.int (0 : Int32)), .val (.int (4 : Int32)), .val (.int (2 : Int32))] [])) (fun t₀ k₀ => XS.icmpYes X0.here hx rfl (pc0 := 12) (pc' := 29) rfl (hb hby d3_12) rfl (teq hc12_26).1 (by decide) (by decide) k₀) ?_
            refine own_step (s₁.setTop (mkF m 30 #[.val (.ref bs), .val (.int (0 : Int32)), .val (.int (4 : Int32)), .val (.int (2 : Int32))] [(.int (2 : Int32))])) (fun t₀ k₀ => XS.iloadN X0.here hx rfl (hb hby d3_29) rfl k₀) ?_
            obtain ⟨fs, hr, hrun, hended, hW, hsame⟩ := X0.leave (v := some (.int (2 : Int32))) (fun h => by rw [Bd.returns] at h; cases h)
            refine ⟨_, _, ?_, hrun, hended, _, _, rfl, ?_, ⟨_, rfl⟩, hW, hsame.mono (by decide) (by decide)⟩
            · exact retI X0 hx Bd.returns (hb hby d3_30) hr
            · show Q_rm3_0_4 Z bs b0 b1 b2 b3 kc h0 n0 _ s₁.heap _
              rw [e0]
              exact ⟨by simp +decide [own_all, own_st, own_e0 hc12 hc20, own_e0 hc12_22 hc20_24, own_e1 hc12_26], N0, rfl⟩
          · skip
            refine own_step (s₁.setTop (mkF m 15 #[.val (.ref bs), .val (.int (0 : Int32)), .val (.int (4 : Int32)), .val (.int (2 : Int32))] [])) (fun t₀ k₀ => XS.icmpNo X0.here hx rfl (hb hby d3_12) rfl (feq hc12_26).1 k₀) ?_
            refine own_step (s₁.setTop (mkF m 16 #[.val (.ref bs), .val (.int (0 : Int32)), .val (.int (4 : Int32)), .val (.int (2 : Int32))] [(.ref bs)])) (fun t₀ k₀ => XS.aloadN X0.here hx rfl (hb hby d3_15) rfl rfl k₀) ?_
            refine own_step (s₁.setTop (mkF m 17 #[.val (.ref bs), .val (.int (0 : Int32)), .val (.int (4 : Int32)), .val (.int (2 : Int32))] [(.int (2 : Int32)), (.ref bs)])) (fun t₀ k₀ => XS.iloadN X0.here hx rfl (hb hby d3_16) rfl k₀) ?_
            obtain ⟨clo27, Aro27, qo27, So27, Mo27, Ho27, Go27⟩ := id Vb
            have hino27 : ¬ ((2 : Int32) < 0 ∨ clo27.slots.size ≤ ((2 : Int32)).toNatClampNeg) := inb_of So27 ⟨by decide, by decide⟩
            have hato27 : clo27.slots[((2 : Int32)).toNatClampNeg]? = some (.int b2) := Ho27 2 (by rw [So27]; decide)
            refine own_step (s₁.setTop (mkF m 18 #[.val (.ref bs), .val (.int (0 : Int32)), .val (.int (4 : Int32)), .val (.int (2 : Int32))] [(.int b2)])) (fun t₀ k₀ => X0.baloadBytes hx (j := (2 : Int32)) (v := (.int b2)) (by rw [e0]; exact Aro27.1) (State.isArrayOf_alike hZ.alike Aro27.2.1) Aro27.2.2 hino27 hato27 (g := (mkF m 17 #[.val (.ref bs), .val (.int (0 : Int32)), .val (.int (4 : Int32)), .val (.int (2 : Int32))] [(.int (2 : Int32)), (.ref bs)])) rfl rfl (hb hby d3_17) _ k₀) ?_
            refine own_step (s₁.setTop (mkF m 20 #[.val (.ref bs), .val (.int (0 : Int32)), .val (.int (4 : Int32)), .val (.int (2 : Int32))] [(.int (10 : Int32)), (.int b2)])) (fun t₀ k₀ => XS.bipush X0.here hx rfl (hb hby d3_18) k₀) ?_
            by_cases hc20_28 : b2 = (10 : Int32)
            · skip
              refine own_step (s₁.setTop (mkF m 29 #[.val (.ref bs), .val (.int (0 : Int32)), .val (.int (4 : Int32)), .val (.int (2 : Int32))] [])) (fun t₀ k₀ => XS.icmpYes X0.here hx rfl (pc0 := 20) (pc' := 29) rfl (hb hby d3_20) rfl (teq hc20_28).1 (by decide) (by decide) k₀) ?_
              refine own_step (s₁.setTop (mkF m 30 #[.val (.ref bs), .val (.int (0 : Int32)), .val (.int (4 : Int32)), .val (.int (2 : Int32))] [(.int (2 : Int32))])) (fun t₀ k₀ => XS.iloadN X0.here hx rfl (hb hby d3_29) rfl k₀) ?_
              obtain ⟨fs, hr, hrun, hended, hW, hsame⟩ := X0.leave (v := some (.int (2 : Int32))) (fun h => by rw [Bd.returns] at h; cases h)
              refine ⟨_, _, ?_, hrun, hended, _, _, rfl, ?_, ⟨_, rfl⟩, hW, hsame.mono (by decide) (by decide)⟩
              · exact retI X0 hx Bd.returns (hb hby d3_30) hr
              · show Q_rm3_0_4 Z bs b0 b1 b2 b3 kc h0 n0 _ s₁.heap _
                rw [e0]
                exact ⟨by simp +decide [own_all, own_st, own_e0 hc12 hc20, own_e0 hc12_22 hc20_24, own_e2 hc20_28], N0, rfl⟩
            · skip
              refine own_step (s₁.setTop (mkF m 23 #[.val (.ref bs), .val (.int (0 : Int32)), .val (.int (4 : Int32)), .val (.int (2 : Int32))] [])) (fun t₀ k₀ => XS.icmpNo X0.here hx rfl (hb hby d3_20) rfl (feq hc20_28).1 k₀) ?_
              refine own_step (s₁.setTop (mkF m 26 #[.val (.ref bs), .val (.int (0 : Int32)), .val (.int (4 : Int32)), .val (.int (3 : Int32))] [])) (fun t₀ k₀ => XS.iinc X0.here hx rfl (hb hby d3_23) rfl (l' := #[.val (.ref bs), .val (.int (0 : Int32)), .val (.int (4 : Int32)), .val (.int (3 : Int32))]) rfl k₀) ?_
              refine own_step (s₁.setTop (mkF m 2 #[.val (.ref bs), .val (.int (0 : Int32)), .val (.int (4 : Int32)), .val (.int (3 : Int32))] [])) (fun t₀ k₀ => XS.goto X0.here hx rfl (pc0 := 26) (pc' := 2) rfl (hb hby d3_26) (by decide) (by decide) k₀) ?_
              refine own_step (s₁.setTop (mkF m 3 #[.val (.ref bs), .val (.int (0 : Int32)), .val (.int (4 : Int32)), .val (.int (3 : Int32))] [(.int (3 : Int32))])) (fun t₀ k₀ => XS.iloadN X0.here hx rfl (hb hby d3_2) rfl k₀) ?_
              refine own_step (s₁.setTop (mkF m 4 #[.val (.ref bs), .val (.int (0 : Int32)), .val (.int (4 : Int32)), .val (.int (3 : Int32))] [(.int (4 : Int32)), (.int (3 : Int32))])) (fun t₀ k₀ => XS.iloadN X0.here hx rfl (hb hby d3_3) rfl k₀) ?_
              refine own_step (s₁.setTop (mkF m 7 #[.val (.ref bs), .val (.int (0 : Int32)), .val (.int (4 : Int32)), .val (.int (3 : Int32))] [])) (fun t₀ k₀ => XS.icmpNo X0.here hx rfl (hb hby d3_4) rfl (by decide) k₀) ?_
              refine own_step (s₁.setTop (mkF m 8 #[.val (.ref bs), .val (.int (0 : Int32)), .val (.int (4 : Int32)), .val (.int (3 : Int32))] [(.ref bs)])) (fun t₀ k₀ => XS.aloadN X0.here hx rfl (hb hby d3_7) rfl rfl k₀) ?_
              refine own_step (s₁.setTop (mkF m 9 #[.val (.ref bs), .val (.int (0 : Int32)), .val (.int (4 : Int32)), .val (.int (3 : Int32))] [(.int (3 : Int32)), (.ref bs)])) (fun t₀ k₀ => XS.iloadN X0.here hx rfl (hb hby d3_8) rfl k₀) ?_
              obtain ⟨clo29, Aro29, qo29, So29, Mo29, Ho29, Go29⟩ := id Vb
              have hino29 : ¬ ((3 : Int32) < 0 ∨ clo29.slots.size ≤ ((3 : Int32)).toNatClampNeg) := inb_of So29 ⟨by decide, by decide⟩
              have hato29 : clo29.slots[((3 : Int32)).toNatClampNeg]? = some (.int b3) := Ho29 3 (by rw [So29]; decide)
              refine own_step (s₁.setTop (mkF m 10 #[.val (.ref bs), .val (.int (0 : Int32)), .val (.int (4 : Int32)), .val (.int (3 : Int32))] [(.int b3)])) (fun t₀ k₀ => X0.baloadBytes hx (j := (3 : Int32)) (v := (.int b3)) (by rw [e0]; exact Aro29.1) (State.isArrayOf_alike hZ.alike Aro29.2.1) Aro29.2.2 hino29 hato29 (g := (mkF m 9 #[.val (.ref bs), .val (.int (0 : Int32)), .val (.int (4 : Int32)), .val (.int (3 : Int32))] [(.int (3 : Int32)), (.ref bs)])) rfl rfl (hb hby d3_9) _ k₀) ?_
              refine own_step (s₁.setTop (mkF m 12 #[.val (.ref bs), .val (.int (0 : Int32)), .val (.int (4 : Int32)), .val (.int (3 : Int32))] [(.int (13 : Int32)), (.int b3)])) (fun t₀ k₀ => XS.bipush X0.here hx rfl (hb hby d3_10) k₀) ?_
              by_cases hc12_30 : b3 = (13 : Int32)
              · skip
                refine own_step (s₁.setTop (mkF m 29 #[.val (.ref bs), .val (.int (0 : Int32)), .val (.int (4 : Int32)), .val (.int (3 : Int32))] [])) (fun t₀ k₀ => XS.icmpYes X0.here hx rfl (pc0 := 12) (pc' := 29) rfl (hb hby d3_12) rfl (teq hc12_30).1 (by decide) (by decide) k₀) ?_
                refine own_step (s₁.setTop (mkF m 30 #[.val (.ref bs), .val (.int (0 : Int32)), .val (.int (4 : Int32)), .val (.int (3 : Int32))] [(.int (3 : Int32))])) (fun t₀ k₀ => XS.iloadN X0.here hx rfl (hb hby d3_29) rfl k₀) ?_
                obtain ⟨fs, hr, hrun, hended, hW, hsame⟩ := X0.leave (v := some (.int (3 : Int32))) (fun h => by rw [Bd.returns] at h; cases h)
                refine ⟨_, _, ?_, hrun, hended, _, _, rfl, ?_, ⟨_, rfl⟩, hW, hsame.mono (by decide) (by decide)⟩
                · exact retI X0 hx Bd.returns (hb hby d3_30) hr
                · show Q_rm3_0_4 Z bs b0 b1 b2 b3 kc h0 n0 _ s₁.heap _
                  rw [e0]
                  exact ⟨by simp +decide [own_all, own_st, own_e0 hc12 hc20, own_e0 hc12_22 hc20_24, own_e0 hc12_26 hc20_28, own_e1 hc12_30], N0, rfl⟩
              · skip
                refine own_step (s₁.setTop (mkF m 15 #[.val (.ref bs), .val (.int (0 : Int32)), .val (.int (4 : Int32)), .val (.int (3 : Int32))] [])) (fun t₀ k₀ => XS.icmpNo X0.here hx rfl (hb hby d3_12) rfl (feq hc12_30).1 k₀) ?_
                refine own_step (s₁.setTop (mkF m 16 #[.val (.ref bs), .val (.int (0 : Int32)), .val (.int (4 : Int32)), .val (.int (3 : Int32))] [(.ref bs)])) (fun t₀ k₀ => XS.aloadN X0.here hx rfl (hb hby d3_15) rfl rfl k₀) ?_
                refine own_step (s₁.setTop (mkF m 17 #[.val (.ref bs), .val (.int (0 : Int32)), .val (.int (4 : Int32)), .val (.int (3 : Int32))] [(.int (3 : Int32)), (.ref bs)])) (fun t₀ k₀ => XS.iloadN X0.here hx rfl (hb hby d3_16) rfl k₀) ?_
                obtain ⟨clo31, Aro31, qo31, So31, Mo31, Ho31, Go31⟩ := id Vb
                have hino31 : ¬ ((3 : Int32) < 0 ∨ clo31.slots.size ≤ ((3 : Int32)).toNatClampNeg) := inb_of So31 ⟨by decide, by decide⟩
                have hato31 : clo31.slots[((3 : Int32)).toNatClampNeg]? = some (.int b3) := Ho31 3 (by rw [So31]; decide)
                refine own_step (s₁.setTop (mkF m 18 #[.val (.ref bs), .val (.int (0 : Int32)), .val (.int (4 : Int32)), .val (.int (3 : Int32))] [(.int b3)])) (fun t₀ k₀ => X0.baloadBytes hx (j := (3 : Int32)) (v := (.int b3)) (by rw [e0]; exact Aro31.1) (State.isArrayOf_alike hZ.alike Aro31.2.1) Aro31.2.2 hino31 hato31 (g := (mkF m 17 #[.val (.ref bs), .val (.int (0 : Int32)), .val (.int (4 : Int32)), .val (.int (3 : Int32))] [(.int (3 : Int32)), (.ref bs)])) rfl rfl (hb hby d3_17) _ k₀) ?_
                refine own_step (s₁.setTop (mkF m 20 #[.val (.ref bs), .val (.int (0 : Int32)), .val (.int (4 : Int32)), .val (.int (3 : Int32))] [(.int (10 : Int32)), (.int b3)])) (fun t₀ k₀ => XS.bipush X0.here hx rfl (hb hby d3_18) k₀) ?_
                by_cases hc20_32 : b3 = (10 : Int32)
                · skip
                  refine own_step (s₁.setTop (mkF m 29 #[.val (.ref bs), .val (.int (0 : Int32)), .val (.int (4 : Int32)), .val (.int (3 : Int32))] [])) (fun t₀ k₀ => XS.icmpYes X0.here hx rfl (pc0 := 20) (pc' := 29) rfl (hb hby d3_20) rfl (teq hc20_32).1 (by decide) (by decide) k₀) ?_
                  refine own_step (s₁.setTop (mkF m 30 #[.val (.ref bs), .val (.int (0 : Int32)), .val (.int (4 : Int32)), .val (.int (3 : Int32))] [(.int (3 : Int32))])) (fun t₀ k₀ => XS.iloadN X0.here hx rfl (hb hby d3_29) rfl k₀) ?_
                  obtain ⟨fs, hr, hrun, hended, hW, hsame⟩ := X0.leave (v := some (.int (3 : Int32))) (fun h => by rw [Bd.returns] at h; cases h)
                  refine ⟨_, _, ?_, hrun, hended, _, _, rfl, ?_, ⟨_, rfl⟩, hW, hsame.mono (by decide) (by decide)⟩
                  · exact retI X0 hx Bd.returns (hb hby d3_30) hr
                  · show Q_rm3_0_4 Z bs b0 b1 b2 b3 kc h0 n0 _ s₁.heap _
                    rw [e0]
                    exact ⟨by simp +decide [own_all, own_st, own_e0 hc12 hc20, own_e0 hc12_22 hc20_24, own_e0 hc12_26 hc20_28, own_e2 hc20_32], N0, rfl⟩
                · skip
                  refine own_step (s₁.setTop (mkF m 23 #[.val (.ref bs), .val (.int (0 : Int32)), .val (.int (4 : Int32)), .val (.int (3 : Int32))] [])) (fun t₀ k₀ => XS.icmpNo X0.here hx rfl (hb hby d3_20) rfl (feq hc20_32).1 k₀) ?_
                  refine own_step (s₁.setTop (mkF m 26 #[.val (.ref bs), .val (.int (0 : Int32)), .val (.int (4 : Int32)), .val (.int (4 : Int32))] [])) (fun t₀ k₀ => XS.iinc X0.here hx rfl (hb hby d3_23) rfl (l' := #[.val (.ref bs), .val (.int (0 : Int32)), .val (.int (4 : Int32)), .val (.int (4 : Int32))]) rfl k₀) ?_
                  refine own_step (s₁.setTop (mkF m 2 #[.val (.ref bs), .val (.int (0 : Int32)), .val (.int (4 : Int32)), .val (.int (4 : Int32))] [])) (fun t₀ k₀ => XS.goto X0.here hx rfl (pc0 := 26) (pc' := 2) rfl (hb hby d3_26) (by decide) (by decide) k₀) ?_
                  refine own_step (s₁.setTop (mkF m 3 #[.val (.ref bs), .val (.int (0 : Int32)), .val (.int (4 : Int32)), .val (.int (4 : Int32))] [(.int (4 : Int32))])) (fun t₀ k₀ => XS.iloadN X0.here hx rfl (hb hby d3_2) rfl k₀) ?_
                  refine own_step (s₁.setTop (mkF m 4 #[.val (.ref bs), .val (.int (0 : Int32)), .val (.int (4 : Int32)), .val (.int (4 : Int32))] [(.int (4 : Int32)), (.int (4 : Int32))])) (fun t₀ k₀ => XS.iloadN X0.here hx rfl (hb hby d3_3) rfl k₀) ?_
                  refine own_step (s₁.setTop (mkF m 29 #[.val (.ref bs), .val (.int (0 : Int32)), .val (.int (4 : Int32)), .val (.int (4 : Int32))] [])) (fun t₀ k₀ => XS.icmpYes X0.here hx rfl (pc0 := 4) (pc' := 29) rfl (hb hby d3_4) rfl (by decide) (by decide) (by decide) k₀) ?_
                  refine own_step (s₁.setTop (mkF m 30 #[.val (.ref bs), .val (.int (0 : Int32)), .val (.int (4 : Int32)), .val (.int (4 : Int32))] [(.int (4 : Int32))])) (fun t₀ k₀ => XS.iloadN X0.here hx rfl (hb hby d3_29) rfl k₀) ?_
                  obtain ⟨fs, hr, hrun, hended, hW, hsame⟩ := X0.leave (v := some (.int (4 : Int32))) (fun h => by rw [Bd.returns] at h; cases h)
                  refine ⟨_, _, ?_, hrun, hended, _, _, rfl, ?_, ⟨_, rfl⟩, hW, hsame.mono (by decide) (by decide)⟩
                  · exact retI X0 hx Bd.returns (hb hby d3_30) hr
                  · show Q_rm3_0_4 Z bs b0 b1 b2 b3 kc h0 n0 _ s₁.heap _
                    rw [e0]
                    exact ⟨by simp +decide [own_all, own_st, own_e0 hc12 hc20, own_e0 hc12_22 hc20_24, own_e0 hc12_26 hc20_28, own_e0 hc12_30 hc20_32], N0, rfl⟩
theorem ef_rm3_1_1 (m : MethodId) (bs : Addr) : entryFrame m #[(.ref bs), (.int (1 : Int32)), (.int (1 : Int32))] 4 = mkF m 0 #[.val (.ref bs), .val (.int (1 : Int32)), .val (.int (1 : Int32)), .unset] [] := by first | (simp [entryFrame, mkF, argsToLocals, Value.category]; done) | rfl
def Q_rm3_1_1 (Z : State) (bs : Addr) (b0 : Int32) (b1 : Int32) (b2 : Int32) (b3 : Int32) (kc : ClassId) (h0 : Heap) (n0 : Nat) (v : Option Value) (h : Heap) (L : List Loc) : Prop := v = some (.int (own_all 1 1 b0 b1 b2 b3)) ∧ Fr n0 L ∧ h = h0
set_option maxRecDepth 65536 in
set_option maxHeartbeats 40000000 in
theorem rm3_1_1 (l : Launch) (Z : State) (a0 : Array Value) (hw : ∀ d ∈ tables_1, d.before a0 Z = true) (ws : List Jvm.Cond) (bs : Addr) (b0 : Int32) (b1 : Int32) (b2 : Int32) (b3 : Int32) (kc : ClassId) (h0 : Heap) (n0 : Nat) (Z0 : n0 ≤ h0.size) (Vb : Arv Z h0 bs kc .byte (4 : Int32) [(.int b0), (.int b1), (.int b2), (.int b3)] (.int (0 : Int32))) :
    MetFree l (⟨"com/example/labrelay/labrelay/model/SegmentMaker", "textEnd", "([BII)I"⟩ : MethodName) (head1 (Jvm.Cond.code (⟨"com/example/labrelay/labrelay/model/SegmentMaker", "textEnd", "([BII)I"⟩ : MethodName) prog_68_method_2_code 4 (some .int) :: ws) ({ frames := 0, cells := 0, slots := 0, locals := 0 } : Room)) (fun as₉ U => as₉ = #[(.ref bs), (.int (1 : Int32)), (.int (1 : Int32))] ∧ Z.Warmed39 U.vm ∧ U.heap = h0) (fun _ _ _ _ _ => True) (fun _ U o₉ U' => ∃ v L, o₉ = .returned v ∧ Q_rm3_1_1 Z bs b0 b1 b2 b3 kc h0 n0 v U'.heap L ∧ FrameEnd U o₉ U' L ({ frames := 0, cells := 0, slots := 0, locals := 0 } : Room).cells ({ frames := 0, cells := 0, slots := 0, locals := 0 } : Room).slots) := by
  refine MetFree.of_bodySF (plainFor_of_name pn_3) hisR ?_
  intro p e s m args below meth c s₁ Bd hml0 hP hK
  obtain ⟨rfl, hZ, hh⟩ := hP
  have hx := Bd.exec
  have hby := Bd.bytes
  have hml : c.maxLocals = 4 := hml0
  have hown : s.vm.findClass "com/example/labrelay/labrelay/model/SegmentMaker" = some m.cls := findClass_of_methodNamed Bd.named
  have hnm := (name_of_methodNamed Bd.named Bd.method).1
  have X0 : Stand p l e ({ frames := 0, cells := 0, slots := 0, locals := 0 } : Room) s m #[(.ref bs), (.int (1 : Int32)), (.int (1 : Int32))] below meth c s₁ [] 0 0 := Stand.of_body Bd
  have e0 : s₁.heap = h0 := by rw [← hh, Bd.state]; rfl
  have N0 := Fr.nil n0
  show own_Go p e below (fun s₂ o₉ => s₂.status = .running ∧ Ended s₂ below o₉ ∧ ∃ v L, o₉ = .returned v ∧ Q_rm3_1_1 Z bs b0 b1 b2 b3 kc h0 n0 v s₂.heap L ∧ FrameEnd s o₉ s₂ L ({ frames := 0, cells := 0, slots := 0, locals := 0 } : Room).cells ({ frames := 0, cells := 0, slots := 0, locals := 0 } : Room).slots) (s₁.setTop (entryFrame m #[(.ref bs), (.int (1 : Int32)), (.int (1 : Int32))] 4))
  rw [ef_rm3_1_1 m bs]
  refine own_step (s₁.setTop (mkF m 1 #[.val (.ref bs), .val (.int (1 : Int32)), .val (.int (1 : Int32)), .unset] [(.int (1 : Int32))])) (fun t₀ k₀ => XS.iloadN X0.here hx rfl (hb hby d3_0) rfl k₀) ?_
  refine own_step (s₁.setTop (mkF m 2 #[.val (.ref bs), .val (.int (1 : Int32)), .val (.int (1 : Int32)), .val (.int (1 : Int32))] [])) (fun t₀ k₀ => XS.istoreN X0.here hx rfl (hb hby d3_1) rfl (l' := #[.val (.ref bs), .val (.int (1 : Int32)), .val (.int (1 : Int32)), .val (.int (1 : Int32))]) rfl k₀) ?_
  refine own_step (s₁.setTop (mkF m 3 #[.val (.ref bs), .val (.int (1 : Int32)), .val (.int (1 : Int32)), .val (.int (1 : Int32))] [(.int (1 : Int32))])) (fun t₀ k₀ => XS.iloadN X0.here hx rfl (hb hby d3_2) rfl k₀) ?_
  refine own_step (s₁.setTop (mkF m 4 #[.val (.ref bs), .val (.int (1 : Int32)), .val (.int (1 : Int32)), .val (.int (1 : Int32))] [(.int (1 : Int32)), (.int (1 : Int32))])) (fun t₀ k₀ => XS.iloadN X0.here hx rfl (hb hby d3_3) rfl k₀) ?_
  refine own_step (s₁.setTop (mkF m 29 #[.val (.ref bs), .val (.int (1 : Int32)), .val (.int (1 : Int32)), .val (.int (1 : Int32))] [])) (fun t₀ k₀ => XS.icmpYes X0.here hx rfl (pc0 := 4) (pc' := 29) rfl (hb hby d3_4) rfl (by decide) (by decide) (by decide) k₀) ?_
  refine own_step (s₁.setTop (mkF m 30 #[.val (.ref bs), .val (.int (1 : Int32)), .val (.int (1 : Int32)), .val (.int (1 : Int32))] [(.int (1 : Int32))])) (fun t₀ k₀ => XS.iloadN X0.here hx rfl (hb hby d3_29) rfl k₀) ?_
  obtain ⟨fs, hr, hrun, hended, hW, hsame⟩ := X0.leave (v := some (.int (1 : Int32))) (fun h => by rw [Bd.returns] at h; cases h)
  refine ⟨_, _, ?_, hrun, hended, _, _, rfl, ?_, ⟨_, rfl⟩, hW, hsame.mono (by decide) (by decide)⟩
  · exact retI X0 hx Bd.returns (hb hby d3_30) hr
  · show Q_rm3_1_1 Z bs b0 b1 b2 b3 kc h0 n0 _ s₁.heap _
    rw [e0]
    exact ⟨by simp +decide [own_all, own_st], N0, rfl⟩
theorem ef_rm3_1_2 (m : MethodId) (bs : Addr) : entryFrame m #[(.ref bs), (.int (1 : Int32)), (.int (2 : Int32))] 4 = mkF m 0 #[.val (.ref bs), .val (.int (1 : Int32)), .val (.int (2 : Int32)), .unset] [] := by first | (simp [entryFrame, mkF, argsToLocals, Value.category]; done) | rfl
def Q_rm3_1_2 (Z : State) (bs : Addr) (b0 : Int32) (b1 : Int32) (b2 : Int32) (b3 : Int32) (kc : ClassId) (h0 : Heap) (n0 : Nat) (v : Option Value) (h : Heap) (L : List Loc) : Prop := v = some (.int (own_all 1 2 b0 b1 b2 b3)) ∧ Fr n0 L ∧ h = h0
set_option maxRecDepth 65536 in
set_option maxHeartbeats 40000000 in
theorem rm3_1_2 (l : Launch) (Z : State) (a0 : Array Value) (hw : ∀ d ∈ tables_1, d.before a0 Z = true) (ws : List Jvm.Cond) (bs : Addr) (b0 : Int32) (b1 : Int32) (b2 : Int32) (b3 : Int32) (kc : ClassId) (h0 : Heap) (n0 : Nat) (Z0 : n0 ≤ h0.size) (Vb : Arv Z h0 bs kc .byte (4 : Int32) [(.int b0), (.int b1), (.int b2), (.int b3)] (.int (0 : Int32))) :
    MetFree l (⟨"com/example/labrelay/labrelay/model/SegmentMaker", "textEnd", "([BII)I"⟩ : MethodName) (head1 (Jvm.Cond.code (⟨"com/example/labrelay/labrelay/model/SegmentMaker", "textEnd", "([BII)I"⟩ : MethodName) prog_68_method_2_code 4 (some .int) :: ws) ({ frames := 0, cells := 0, slots := 0, locals := 0 } : Room)) (fun as₉ U => as₉ = #[(.ref bs), (.int (1 : Int32)), (.int (2 : Int32))] ∧ Z.Warmed39 U.vm ∧ U.heap = h0) (fun _ _ _ _ _ => True) (fun _ U o₉ U' => ∃ v L, o₉ = .returned v ∧ Q_rm3_1_2 Z bs b0 b1 b2 b3 kc h0 n0 v U'.heap L ∧ FrameEnd U o₉ U' L ({ frames := 0, cells := 0, slots := 0, locals := 0 } : Room).cells ({ frames := 0, cells := 0, slots := 0, locals := 0 } : Room).slots) := by
  refine MetFree.of_bodySF (plainFor_of_name pn_3) hisR ?_
  intro p e s m args below meth c s₁ Bd hml0 hP hK
  obtain ⟨rfl, hZ, hh⟩ := hP
  have hx := Bd.exec
  have hby := Bd.bytes
  have hml : c.maxLocals = 4 := hml0
  have hown : s.vm.findClass "com/example/labrelay/labrelay/model/SegmentMaker" = some m.cls := findClass_of_methodNamed Bd.named
  have hnm := (name_of_methodNamed Bd.named Bd.method).1
  have X0 : Stand p l e ({ frames := 0, cells := 0, slots := 0, locals := 0 } : Room) s m #[(.ref bs), (.int (1 : Int32)), (.int (2 : Int32))] below meth c s₁ [] 0 0 := Stand.of_body Bd
  have e0 : s₁.heap = h0 := by rw [← hh, Bd.state]; rfl
  have N0 := Fr.nil n0
  show own_Go p e below (fun s₂ o₉ => s₂.status = .running ∧ Ended s₂ below o₉ ∧ ∃ v L, o₉ = .returned v ∧ Q_rm3_1_2 Z bs b0 b1 b2 b3 kc h0 n0 v s₂.heap L ∧ FrameEnd s o₉ s₂ L ({ frames := 0, cells := 0, slots := 0, locals := 0 } : Room).cells ({ frames := 0, cells := 0, slots := 0, locals := 0 } : Room).slots) (s₁.setTop (entryFrame m #[(.ref bs), (.int (1 : Int32)), (.int (2 : Int32))] 4))
  rw [ef_rm3_1_2 m bs]
  refine own_step (s₁.setTop (mkF m 1 #[.val (.ref bs), .val (.int (1 : Int32)), .val (.int (2 : Int32)), .unset] [(.int (1 : Int32))])) (fun t₀ k₀ => XS.iloadN X0.here hx rfl (hb hby d3_0) rfl k₀) ?_
  refine own_step (s₁.setTop (mkF m 2 #[.val (.ref bs), .val (.int (1 : Int32)), .val (.int (2 : Int32)), .val (.int (1 : Int32))] [])) (fun t₀ k₀ => XS.istoreN X0.here hx rfl (hb hby d3_1) rfl (l' := #[.val (.ref bs), .val (.int (1 : Int32)), .val (.int (2 : Int32)), .val (.int (1 : Int32))]) rfl k₀) ?_
  refine own_step (s₁.setTop (mkF m 3 #[.val (.ref bs), .val (.int (1 : Int32)), .val (.int (2 : Int32)), .val (.int (1 : Int32))] [(.int (1 : Int32))])) (fun t₀ k₀ => XS.iloadN X0.here hx rfl (hb hby d3_2) rfl k₀) ?_
  refine own_step (s₁.setTop (mkF m 4 #[.val (.ref bs), .val (.int (1 : Int32)), .val (.int (2 : Int32)), .val (.int (1 : Int32))] [(.int (2 : Int32)), (.int (1 : Int32))])) (fun t₀ k₀ => XS.iloadN X0.here hx rfl (hb hby d3_3) rfl k₀) ?_
  refine own_step (s₁.setTop (mkF m 7 #[.val (.ref bs), .val (.int (1 : Int32)), .val (.int (2 : Int32)), .val (.int (1 : Int32))] [])) (fun t₀ k₀ => XS.icmpNo X0.here hx rfl (hb hby d3_4) rfl (by decide) k₀) ?_
  refine own_step (s₁.setTop (mkF m 8 #[.val (.ref bs), .val (.int (1 : Int32)), .val (.int (2 : Int32)), .val (.int (1 : Int32))] [(.ref bs)])) (fun t₀ k₀ => XS.aloadN X0.here hx rfl (hb hby d3_7) rfl rfl k₀) ?_
  refine own_step (s₁.setTop (mkF m 9 #[.val (.ref bs), .val (.int (1 : Int32)), .val (.int (2 : Int32)), .val (.int (1 : Int32))] [(.int (1 : Int32)), (.ref bs)])) (fun t₀ k₀ => XS.iloadN X0.here hx rfl (hb hby d3_8) rfl k₀) ?_
  obtain ⟨clo33, Aro33, qo33, So33, Mo33, Ho33, Go33⟩ := id Vb
  have hino33 : ¬ ((1 : Int32) < 0 ∨ clo33.slots.size ≤ ((1 : Int32)).toNatClampNeg) := inb_of So33 ⟨by decide, by decide⟩
  have hato33 : clo33.slots[((1 : Int32)).toNatClampNeg]? = some (.int b1) := Ho33 1 (by rw [So33]; decide)
  refine own_step (s₁.setTop (mkF m 10 #[.val (.ref bs), .val (.int (1 : Int32)), .val (.int (2 : Int32)), .val (.int (1 : Int32))] [(.int b1)])) (fun t₀ k₀ => X0.baloadBytes hx (j := (1 : Int32)) (v := (.int b1)) (by rw [e0]; exact Aro33.1) (State.isArrayOf_alike hZ.alike Aro33.2.1) Aro33.2.2 hino33 hato33 (g := (mkF m 9 #[.val (.ref bs), .val (.int (1 : Int32)), .val (.int (2 : Int32)), .val (.int (1 : Int32))] [(.int (1 : Int32)), (.ref bs)])) rfl rfl (hb hby d3_9) _ k₀) ?_
  refine own_step (s₁.setTop (mkF m 12 #[.val (.ref bs), .val (.int (1 : Int32)), .val (.int (2 : Int32)), .val (.int (1 : Int32))] [(.int (13 : Int32)), (.int b1)])) (fun t₀ k₀ => XS.bipush X0.here hx rfl (hb hby d3_10) k₀) ?_
  by_cases hc12 : b1 = (13 : Int32)
  · skip
    refine own_step (s₁.setTop (mkF m 29 #[.val (.ref bs), .val (.int (1 : Int32)), .val (.int (2 : Int32)), .val (.int (1 : Int32))] [])) (fun t₀ k₀ => XS.icmpYes X0.here hx rfl (pc0 := 12) (pc' := 29) rfl (hb hby d3_12) rfl (teq hc12).1 (by decide) (by decide) k₀) ?_
    refine own_step (s₁.setTop (mkF m 30 #[.val (.ref bs), .val (.int (1 : Int32)), .val (.int (2 : Int32)), .val (.int (1 : Int32))] [(.int (1 : Int32))])) (fun t₀ k₀ => XS.iloadN X0.here hx rfl (hb hby d3_29) rfl k₀) ?_
    obtain ⟨fs, hr, hrun, hended, hW, hsame⟩ := X0.leave (v := some (.int (1 : Int32))) (fun h => by rw [Bd.returns] at h; cases h)
    refine ⟨_, _, ?_, hrun, hended, _, _, rfl, ?_, ⟨_, rfl⟩, hW, hsame.mono (by decide) (by decide)⟩
    · exact retI X0 hx Bd.returns (hb hby d3_30) hr
    · show Q_rm3_1_2 Z bs b0 b1 b2 b3 kc h0 n0 _ s₁.heap _
      rw [e0]
      exact ⟨by simp +decide [own_all, own_st, own_e1 hc12], N0, rfl⟩
  · skip
    refine own_step (s₁.setTop (mkF m 15 #[.val (.ref bs), .val (.int (1 : Int32)), .val (.int (2 : Int32)), .val (.int (1 : Int32))] [])) (fun t₀ k₀ => XS.icmpNo X0.here hx rfl (hb hby d3_12) rfl (feq hc12).1 k₀) ?_
    refine own_step (s₁.setTop (mkF m 16 #[.val (.ref bs), .val (.int (1 : Int32)), .val (.int (2 : Int32)), .val (.int (1 : Int32))] [(.ref bs)])) (fun t₀ k₀ => XS.aloadN X0.here hx rfl (hb hby d3_15) rfl rfl k₀) ?_
    refine own_step (s₁.setTop (mkF m 17 #[.val (.ref bs), .val (.int (1 : Int32)), .val (.int (2 : Int32)), .val (.int (1 : Int32))] [(.int (1 : Int32)), (.ref bs)])) (fun t₀ k₀ => XS.iloadN X0.here hx rfl (hb hby d3_16) rfl k₀) ?_
    obtain ⟨clo34, Aro34, qo34, So34, Mo34, Ho34, Go34⟩ := id Vb
    have hino34 : ¬ ((1 : Int32) < 0 ∨ clo34.slots.size ≤ ((1 : Int32)).toNatClampNeg) := inb_of So34 ⟨by decide, by decide⟩
    have hato34 : clo34.slots[((1 : Int32)).toNatClampNeg]? = some (.int b1) := Ho34 1 (by rw [So34]; decide)
    refine own_step (s₁.setTop (mkF m 18 #[.val (.ref bs), .val (.int (1 : Int32)), .val (.int (2 : Int32)), .val (.int (1 : Int32))] [(.int b1)])) (fun t₀ k₀ => X0.baloadBytes hx (j := (1 : Int32)) (v := (.int b1)) (by rw [e0]; exact Aro34.1) (State.isArrayOf_alike hZ.alike Aro34.2.1) Aro34.2.2 hino34 hato34 (g := (mkF m 17 #[.val (.ref bs), .val (.int (1 : Int32)), .val (.int (2 : Int32)), .val (.int (1 : Int32))] [(.int (1 : Int32)), (.ref bs)])) rfl rfl (hb hby d3_17) _ k₀) ?_
    refine own_step (s₁.setTop (mkF m 20 #[.val (.ref bs), .val (.int (1 : Int32)), .val (.int (2 : Int32)), .val (.int (1 : Int32))] [(.int (10 : Int32)), (.int b1)])) (fun t₀ k₀ => XS.bipush X0.here hx rfl (hb hby d3_18) k₀) ?_
    by_cases hc20 : b1 = (10 : Int32)
    · skip
      refine own_step (s₁.setTop (mkF m 29 #[.val (.ref bs), .val (.int (1 : Int32)), .val (.int (2 : Int32)), .val (.int (1 : Int32))] [])) (fun t₀ k₀ => XS.icmpYes X0.here hx rfl (pc0 := 20) (pc' := 29) rfl (hb hby d3_20) rfl (teq hc20).1 (by decide) (by decide) k₀) ?_
      refine own_step (s₁.setTop (mkF m 30 #[.val (.ref bs), .val (.int (1 : Int32)), .val (.int (2 : Int32)), .val (.int (1 : Int32))] [(.int (1 : Int32))])) (fun t₀ k₀ => XS.iloadN X0.here hx rfl (hb hby d3_29) rfl k₀) ?_
      obtain ⟨fs, hr, hrun, hended, hW, hsame⟩ := X0.leave (v := some (.int (1 : Int32))) (fun h => by rw [Bd.returns] at h; cases h)
      refine ⟨_, _, ?_, hrun, hended, _, _, rfl, ?_, ⟨_, rfl⟩, hW, hsame.mono (by decide) (by decide)⟩
      · exact retI X0 hx Bd.returns (hb hby d3_30) hr
      · show Q_rm3_1_2 Z bs b0 b1 b2 b3 kc h0 n0 _ s₁.heap _
        rw [e0]
        exact ⟨by simp +decide [own_all, own_st, own_e2 hc20], N0, rfl⟩
    · skip
      refine own_step (s₁.setTop (mkF m 23 #[.val (.ref bs), .val (.int (1 : Int32)), .val (.int (2 : Int32)), .val (.int (1 : Int32))] [])) (fun t₀ k₀ => XS.icmpNo X0.here hx rfl (hb hby d3_20) rfl (feq hc20).1 k₀) ?_
      refine own_step (s₁.setTop (mkF m 26 #[.val (.ref bs), .val (.int (1 : Int32)), .val (.int (2 : Int32)), .val (.int (2 : Int32))] [])) (fun t₀ k₀ => XS.iinc X0.here hx rfl (hb hby d3_23) rfl (l' := #[.val (.ref bs), .val (.int (1 : Int32)), .val (.int (2 : Int32)), .val (.int (2 : Int32))]) rfl k₀) ?_
      refine own_step (s₁.setTop (mkF m 2 #[.val (.ref bs), .val (.int (1 : Int32)), .val (.int (2 : Int32)), .val (.int (2 : Int32))] [])) (fun t₀ k₀ => XS.goto X0.here hx rfl (pc0 := 26) (pc' := 2) rfl (hb hby d3_26) (by decide) (by decide) k₀) ?_
      refine own_step (s₁.setTop (mkF m 3 #[.val (.ref bs), .val (.int (1 : Int32)), .val (.int (2 : Int32)), .val (.int (2 : Int32))] [(.int (2 : Int32))])) (fun t₀ k₀ => XS.iloadN X0.here hx rfl (hb hby d3_2) rfl k₀) ?_
      refine own_step (s₁.setTop (mkF m 4 #[.val (.ref bs), .val (.int (1 : Int32)), .val (.int (2 : Int32)), .val (.int (2 : Int32))] [(.int (2 : Int32)), (.int (2 : Int32))])) (fun t₀ k₀ => XS.iloadN X0.here hx rfl (hb hby d3_3) rfl k₀) ?_
      refine own_step (s₁.setTop (mkF m 29 #[.val (.ref bs), .val (.int (1 : Int32)), .val (.int (2 : Int32)), .val (.int (2 : Int32))] [])) (fun t₀ k₀ => XS.icmpYes X0.here hx rfl (pc0 := 4) (pc' := 29) rfl (hb hby d3_4) rfl (by decide) (by decide) (by decide) k₀) ?_
      refine own_step (s₁.setTop (mkF m 30 #[.val (.ref bs), .val (.int (1 : Int32)), .val (.int (2 : Int32)), .val (.int (2 : Int32))] [(.int (2 : Int32))])) (fun t₀ k₀ => XS.iloadN X0.here hx rfl (hb hby d3_29) rfl k₀) ?_
      obtain ⟨fs, hr, hrun, hended, hW, hsame⟩ := X0.leave (v := some (.int (2 : Int32))) (fun h => by rw [Bd.returns] at h; cases h)
      refine ⟨_, _, ?_, hrun, hended, _, _, rfl, ?_, ⟨_, rfl⟩, hW, hsame.mono (by decide) (by decide)⟩
      · exact retI X0 hx Bd.returns (hb hby d3_30) hr
      · show Q_rm3_1_2 Z bs b0 b1 b2 b3 kc h0 n0 _ s₁.heap _
        rw [e0]
        exact ⟨by simp +decide [own_all, own_st, own_e0 hc12 hc20], N0, rfl⟩
theorem ef_rm3_1_3 (m : MethodId) (bs : Addr) : entryFrame m #[(.ref bs), (.int (1 : Int32)), (.int (3 : Int32))] 4 = mkF m 0 #[.val (.ref bs), .val (.int (1 : Int32)), .val (.int (3 : Int32)), .unset] [] := by first | (simp [entryFrame, mkF, argsToLocals, Value.category]; done) | rfl
def Q_rm3_1_3 (Z : State) (bs : Addr) (b0 : Int32) (b1 : Int32) (b2 : Int32) (b3 : Int32) (kc : ClassId) (h0 : Heap) (n0 : Nat) (v : Option Value) (h : Heap) (L : List Loc) : Prop := v = some (.int (own_all 1 3 b0 b1 b2 b3)) ∧ Fr n0 L ∧ h = h0
set_option maxRecDepth 65536 in
set_option maxHeartbeats 40000000 in
theorem rm3_1_3 (l : Launch) (Z : State) (a0 : Array Value) (hw : ∀ d ∈ tables_1, d.before a0 Z = true) (ws : List Jvm.Cond) (bs : Addr) (b0 : Int32) (b1 : Int32) (b2 : Int32) (b3 : Int32) (kc : ClassId) (h0 : Heap) (n0 : Nat) (Z0 : n0 ≤ h0.size) (Vb : Arv Z h0 bs kc .byte (4 : Int32) [(.int b0), (.int b1), (.int b2), (.int b3)] (.int (0 : Int32))) :
    MetFree l (⟨"com/example/labrelay/labrelay/model/SegmentMaker", "textEnd", "([BII)I"⟩ : MethodName) (head1 (Jvm.Cond.code (⟨"com/example/labrelay/labrelay/model/SegmentMaker", "textEnd", "([BII)I"⟩ : MethodName) prog_68_method_2_code 4 (some .int) :: ws) ({ frames := 0, cells := 0, slots := 0, locals := 0 } : Room)) (fun as₉ U => as₉ = #[(.ref bs), (.int (1 : Int32)), (.int (3 : Int32))] ∧ Z.Warmed39 U.vm ∧ U.heap = h0) (fun _ _ _ _ _ => True) (fun _ U o₉ U' => ∃ v L, o₉ = .returned v ∧ Q_rm3_1_3 Z bs b0 b1 b2 b3 kc h0 n0 v U'.heap L ∧ FrameEnd U o₉ U' L ({ frames := 0, cells := 0, slots := 0, locals := 0 } : Room).cells ({ frames := 0, cells := 0, slots := 0, locals := 0 } : Room).slots) := by
  refine MetFree.of_bodySF (plainFor_of_name pn_3) hisR ?_
  intro p e s m args below meth c s₁ Bd hml0 hP hK
  obtain ⟨rfl, hZ, hh⟩ := hP
  have hx := Bd.exec
  have hby := Bd.bytes
  have hml : c.maxLocals = 4 := hml0
  have hown : s.vm.findClass "com/example/labrelay/labrelay/model/SegmentMaker" = some m.cls := findClass_of_methodNamed Bd.named
  have hnm := (name_of_methodNamed Bd.named Bd.method).1
  have X0 : Stand p l e ({ frames := 0, cells := 0, slots := 0, locals := 0 } : Room) s m #[(.ref bs), (.int (1 : Int32)), (.int (3 : Int32))] below meth c s₁ [] 0 0 := Stand.of_body Bd
  have e0 : s₁.heap = h0 := by rw [← hh, Bd.state]; rfl
  have N0 := Fr.nil n0
  show own_Go p e below (fun s₂ o₉ => s₂.status = .running ∧ Ended s₂ below o₉ ∧ ∃ v L, o₉ = .returned v ∧ Q_rm3_1_3 Z bs b0 b1 b2 b3 kc h0 n0 v s₂.heap L ∧ FrameEnd s o₉ s₂ L ({ frames := 0, cells := 0, slots := 0, locals := 0 } : Room).cells ({ frames := 0, cells := 0, slots := 0, locals := 0 } : Room).slots) (s₁.setTop (entryFrame m #[(.ref bs), (.int (1 : Int32)), (.int (3 : Int32))] 4))
  rw [ef_rm3_1_3 m bs]
  refine own_step (s₁.setTop (mkF m 1 #[.val (.ref bs), .val (.int (1 : Int32)), .val (.int (3 : Int32)), .unset] [(.int (1 : Int32))])) (fun t₀ k₀ => XS.iloadN X0.here hx rfl (hb hby d3_0) rfl k₀) ?_
  refine own_step (s₁.setTop (mkF m 2 #[.val (.ref bs), .val (.int (1 : Int32)), .val (.int (3 : Int32)), .val (.int (1 : Int32))] [])) (fun t₀ k₀ => XS.istoreN X0.here hx rfl (hb hby d3_1) rfl (l' := #[.val (.ref bs), .val (.int (1 : Int32)), .val (.int (3 : Int32)), .val (.int (1 : Int32))]) rfl k₀) ?_
  refine own_step (s₁.setTop (mkF m 3 #[.val (.ref bs), .val (.int (1 : Int32)), .val (.int (3 : Int32)), .val (.int (1 : Int32))] [(.int (1 : Int32))])) (fun t₀ k₀ => XS.iloadN X0.here hx rfl (hb hby d3_2) rfl k₀) ?_
  refine own_step (s₁.setTop (mkF m 4 #[.val (.ref bs), .val (.int (1 : Int32)), .val (.int (3 : Int32)), .val (.int (1 : Int32))] [(.int (3 : Int32)), (.int (1 : Int32))])) (fun t₀ k₀ => XS.iloadN X0.here hx rfl (hb hby d3_3) rfl k₀) ?_
  refine own_step (s₁.setTop (mkF m 7 #[.val (.ref bs), .val (.int (1 : Int32)), .val (.int (3 : Int32)), .val (.int (1 : Int32))] [])) (fun t₀ k₀ => XS.icmpNo X0.here hx rfl (hb hby d3_4) rfl (by decide) k₀) ?_
  refine own_step (s₁.setTop (mkF m 8 #[.val (.ref bs), .val (.int (1 : Int32)), .val (.int (3 : Int32)), .val (.int (1 : Int32))] [(.ref bs)])) (fun t₀ k₀ => XS.aloadN X0.here hx rfl (hb hby d3_7) rfl rfl k₀) ?_
  refine own_step (s₁.setTop (mkF m 9 #[.val (.ref bs), .val (.int (1 : Int32)), .val (.int (3 : Int32)), .val (.int (1 : Int32))] [(.int (1 : Int32)), (.ref bs)])) (fun t₀ k₀ => XS.iloadN X0.here hx rfl (hb hby d3_8) rfl k₀) ?_
  obtain ⟨clo35, Aro35, qo35, So35, Mo35, Ho35, Go35⟩ := id Vb
  have hino35 : ¬ ((1 : Int32) < 0 ∨ clo35.slots.size ≤ ((1 : Int32)).toNatClampNeg) := inb_of So35 ⟨by decide, by decide⟩
  have hato35 : clo35.slots[((1 : Int32)).toNatClampNeg]? = some (.int b1) := Ho35 1 (by rw [So35]; decide)
  refine own_step (s₁.setTop (mkF m 10 #[.val (.ref bs), .val (.int (1 : Int32)), .val (.int (3 : Int32)), .val (.int (1 : Int32))] [(.int b1)])) (fun t₀ k₀ => X0.baloadBytes hx (j := (1 : Int32)) (v := (.int b1)) (by rw [e0]; exact Aro35.1) (State.isArrayOf_alike hZ.alike Aro35.2.1) Aro35.2.2 hino35 hato35 (g := (mkF m 9 #[.val (.ref bs), .val (.int (1 : Int32)), .val (.int (3 : Int32)), .val (.int (1 : Int32))] [(.int (1 : Int32)), (.ref bs)])) rfl rfl (hb hby d3_9) _ k₀) ?_
  refine own_step (s₁.setTop (mkF m 12 #[.val (.ref bs), .val (.int (1 : Int32)), .val (.int (3 : Int32)), .val (.int (1 : Int32))] [(.int (13 : Int32)), (.int b1)])) (fun t₀ k₀ => XS.bipush X0.here hx rfl (hb hby d3_10) k₀) ?_
  by_cases hc12 : b1 = (13 : Int32)
  · skip
    refine own_step (s₁.setTop (mkF m 29 #[.val (.ref bs), .val (.int (1 : Int32)), .val (.int (3 : Int32)), .val (.int (1 : Int32))] [])) (fun t₀ k₀ => XS.icmpYes X0.here hx rfl (pc0 := 12) (pc' := 29) rfl (hb hby d3_12) rfl (teq hc12).1 (by decide) (by decide) k₀) ?_
    refine own_step (s₁.setTop (mkF m 30 #[.val (.ref bs), .val (.int (1 : Int32)), .val (.int (3 : Int32)), .val (.int (1 : Int32))] [(.int (1 : Int32))])) (fun t₀ k₀ => XS.iloadN X0.here hx rfl (hb hby d3_29) rfl k₀) ?_
    obtain ⟨fs, hr, hrun, hended, hW, hsame⟩ := X0.leave (v := some (.int (1 : Int32))) (fun h => by rw [Bd.returns] at h; cases h)
    refine ⟨_, _, ?_, hrun, hended, _, _, rfl, ?_, ⟨_, rfl⟩, hW, hsame.mono (by decide) (by decide)⟩
    · exact retI X0 hx Bd.returns (hb hby d3_30) hr
    · show Q_rm3_1_3 Z bs b0 b1 b2 b3 kc h0 n0 _ s₁.heap _
      rw [e0]
      exact ⟨by simp +decide [own_all, own_st, own_e1 hc12], N0, rfl⟩
  · skip
    refine own_step (s₁.setTop (mkF m 15 #[.val (.ref bs), .val (.int (1 : Int32)), .val (.int (3 : Int32)), .val (.int (1 : Int32))] [])) (fun t₀ k₀ => XS.icmpNo X0.here hx rfl (hb hby d3_12) rfl (feq hc12).1 k₀) ?_
    refine own_step (s₁.setTop (mkF m 16 #[.val (.ref bs), .val (.int (1 : Int32)), .val (.int (3 : Int32)), .val (.int (1 : Int32))] [(.ref bs)])) (fun t₀ k₀ => XS.aloadN X0.here hx rfl (hb hby d3_15) rfl rfl k₀) ?_
    refine own_step (s₁.setTop (mkF m 17 #[.val (.ref bs), .val (.int (1 : Int32)), .val (.int (3 : Int32)), .val (.int (1 : Int32))] [(.int (1 : Int32)), (.ref bs)])) (fun t₀ k₀ => XS.iloadN X0.here hx rfl (hb hby d3_16) rfl k₀) ?_
    obtain ⟨clo36, Aro36, qo36, So36, Mo36, Ho36, Go36⟩ := id Vb
    have hino36 : ¬ ((1 : Int32) < 0 ∨ clo36.slots.size ≤ ((1 : Int32)).toNatClampNeg) := inb_of So36 ⟨by decide, by decide⟩
    have hato36 : clo36.slots[((1 : Int32)).toNatClampNeg]? = some (.int b1) := Ho36 1 (by rw [So36]; decide)
    refine own_step (s₁.setTop (mkF m 18 #[.val (.ref bs), .val (.int (1 : Int32)), .val (.int (3 : Int32)), .val (.int (1 : Int32))] [(.int b1)])) (fun t₀ k₀ => X0.baloadBytes hx (j := (1 : Int32)) (v := (.int b1)) (by rw [e0]; exact Aro36.1) (State.isArrayOf_alike hZ.alike Aro36.2.1) Aro36.2.2 hino36 hato36 (g := (mkF m 17 #[.val (.ref bs), .val (.int (1 : Int32)), .val (.int (3 : Int32)), .val (.int (1 : Int32))] [(.int (1 : Int32)), (.ref bs)])) rfl rfl (hb hby d3_17) _ k₀) ?_
    refine own_step (s₁.setTop (mkF m 20 #[.val (.ref bs), .val (.int (1 : Int32)), .val (.int (3 : Int32)), .val (.int (1 : Int32))] [(.int (10 : Int32)), (.int b1)])) (fun t₀ k₀ => XS.bipush X0.here hx rfl (hb hby d3_18) k₀) ?_
    by_cases hc20 : b1 = (10 : Int32)
    · skip
      refine own_step (s₁.setTop (mkF m 29 #[.val (.ref bs), .val (.int (1 : Int32)), .val (.int (3 : Int32)), .val (.int (1 : Int32))] [])) (fun t₀ k₀ => XS.icmpYes X0.here hx rfl (pc0 := 20) (pc' := 29) rfl (hb hby d3_20) rfl (teq hc20).1 (by decide) (by decide) k₀) ?_
      refine own_step (s₁.setTop (mkF m 30 #[.val (.ref bs), .val (.int (1 : Int32)), .val (.int (3 : Int32)), .val (.int (1 : Int32))] [(.int (1 : Int32))])) (fun t₀ k₀ => XS.iloadN X0.here hx rfl (hb hby d3_29) rfl k₀) ?_
      obtain ⟨fs, hr, hrun, hended, hW, hsame⟩ := X0.leave (v := some (.int (1 : Int32))) (fun h => by rw [Bd.returns] at h; cases h)
      refine ⟨_, _, ?_, hrun, hended, _, _, rfl, ?_, ⟨_, rfl⟩, hW, hsame.mono (by decide) (by decide)⟩
      · exact retI X0 hx Bd.returns (hb hby d3_30) hr
      · show Q_rm3_1_3 Z bs b0 b1 b2 b3 kc h0 n0 _ s₁.heap _
        rw [e0]
        exact ⟨by simp +decide [own_all, own_st, own_e2 hc20], N0, rfl⟩
    · skip
      refine own_step (s₁.setTop (mkF m 23 #[.val (.ref bs), .val (.int (1 : Int32)), .val (.int (3 : Int32)), .val (.int (1 : Int32))] [])) (fun t₀ k₀ => XS.icmpNo X0.here hx rfl (hb hby d3_20) rfl (feq hc20).1 k₀) ?_
      refine own_step (s₁.setTop (mkF m 26 #[.val (.ref bs), .val (.int (1 : Int32)), .val (.int (3 : Int32)), .val (.int (2 : Int32))] [])) (fun t₀ k₀ => XS.iinc X0.here hx rfl (hb hby d3_23) rfl (l' := #[.val (.ref bs), .val (.int (1 : Int32)), .val (.int (3 : Int32)), .val (.int (2 : Int32))]) rfl k₀) ?_
      refine own_step (s₁.setTop (mkF m 2 #[.val (.ref bs), .val (.int (1 : Int32)), .val (.int (3 : Int32)), .val (.int (2 : Int32))] [])) (fun t₀ k₀ => XS.goto X0.here hx rfl (pc0 := 26) (pc' := 2) rfl (hb hby d3_26) (by decide) (by decide) k₀) ?_
      refine own_step (s₁.setTop (mkF m 3 #[.val (.ref bs), .val (.int (1 : Int32)), .val (.int (3 : Int32)), .val (.int (2 : Int32))] [(.int (2 : Int32))])) (fun t₀ k₀ => XS.iloadN X0.here hx rfl (hb hby d3_2) rfl k₀) ?_
      refine own_step (s₁.setTop (mkF m 4 #[.val (.ref bs), .val (.int (1 : Int32)), .val (.int (3 : Int32)), .val (.int (2 : Int32))] [(.int (3 : Int32)), (.int (2 : Int32))])) (fun t₀ k₀ => XS.iloadN X0.here hx rfl (hb hby d3_3) rfl k₀) ?_
      refine own_step (s₁.setTop (mkF m 7 #[.val (.ref bs), .val (.int (1 : Int32)), .val (.int (3 : Int32)), .val (.int (2 : Int32))] [])) (fun t₀ k₀ => XS.icmpNo X0.here hx rfl (hb hby d3_4) rfl (by decide) k₀) ?_
      refine own_step (s₁.setTop (mkF m 8 #[.val (.ref bs), .val (.int (1 : Int32)), .val (.int (3 : Int32)), .val (.int (2 : Int32))] [(.ref bs)])) (fun t₀ k₀ => XS.aloadN X0.here hx rfl (hb hby d3_7) rfl rfl k₀) ?_
      refine own_step (s₁.setTop (mkF m 9 #[.val (.ref bs), .val (.int (1 : Int32)), .val (.int (3 : Int32)), .val (.int (2 : Int32))] [(.int (2 : Int32)), (.ref bs)])) (fun t₀ k₀ => XS.iloadN X0.here hx rfl (hb hby d3_8) rfl k₀) ?_
      obtain ⟨clo37, Aro37, qo37, So37, Mo37, Ho37, Go37⟩ := id Vb
      have hino37 : ¬ ((2 : Int32) < 0 ∨ clo37.slots.size ≤ ((2 : Int32)).toNatClampNeg) := inb_of So37 ⟨by decide, by decide⟩
      have hato37 : clo37.slots[((2 : Int32)).toNatClampNeg]? = some (.int b2) := Ho37 2 (by rw [So37]; decide)
      refine own_step (s₁.setTop (mkF m 10 #[.val (.ref bs), .val (.int (1 : Int32)), .val (.int (3 : Int32)), .val (.int (2 : Int32))] [(.int b2)])) (fun t₀ k₀ => X0.baloadBytes hx (j := (2 : Int32)) (v := (.int b2)) (by rw [e0]; exact Aro37.1) (State.isArrayOf_alike hZ.alike Aro37.2.1) Aro37.2.2 hino37 hato37 (g := (mkF m 9 #[.val (.ref bs), .val (.int (1 : Int32)), .val (.int (3 : Int32)), .val (.int (2 : Int32))] [(.int (2 : Int32)), (.ref bs)])) rfl rfl (hb hby d3_9) _ k₀) ?_
      refine own_step (s₁.setTop (mkF m 12 #[.val (.ref bs), .val (.int (1 : Int32)), .val (.int (3 : Int32)), .val (.int (2 : Int32))] [(.int (13 : Int32)), (.int b2)])) (fun t₀ k₀ => XS.bipush X0.here hx rfl (hb hby d3_10) k₀) ?_
      by_cases hc12_38 : b2 = (13 : Int32)
      · skip
        refine own_step (s₁.setTop (mkF m 29 #[.val (.ref bs), .val (.int (1 : Int32)), .val (.int (3 : Int32)), .val (.int (2 : Int32))] [])) (fun t₀ k₀ => XS.icmpYes X0.here hx rfl (pc0 := 12) (pc' := 29) rfl (hb hby d3_12) rfl (teq hc12_38).1 (by decide) (by decide) k₀) ?_
        refine own_step (s₁.setTop (mkF m 30 #[.val (.ref bs), .val (.int (1 : Int32)), .val (.int (3 : Int32)), .val (.int (2 : Int32))] [(.int (2 : Int32))])) (fun t₀ k₀ => XS.iloadN X0.here hx rfl (hb hby d3_29) rfl k₀) ?_
        obtain ⟨fs, hr, hrun, hended, hW, hsame⟩ := X0.leave (v := some (.int (2 : Int32))) (fun h => by rw [Bd.returns] at h; cases h)
        refine ⟨_, _, ?_, hrun, hended, _, _, rfl, ?_, ⟨_, rfl⟩, hW, hsame.mono (by decide) (by decide)⟩
        · exact retI X0 hx Bd.returns (hb hby d3_30) hr
        · show Q_rm3_1_3 Z bs b0 b1 b2 b3 kc h0 n0 _ s₁.heap _
          rw [e0]
          exact ⟨by simp +decide [own_all, own_st, own_e0 hc12 hc20, own_e1 hc12_38], N0, rfl⟩
      · skip
        refine own_step (s₁.setTop (mkF m 15 #[.val (.ref bs), .val (.int (1 : Int32)), .val (.int (3 : Int32)), .val (.int (2 : Int32))] [])) (fun t₀ k₀ => XS.icmpNo X0.here hx rfl (hb hby d3_12) rfl (feq hc12_38).1 k₀) ?_
        refine own_step (s₁.setTop (mkF m 16 #[.val (.ref bs), .val (.int (1 : Int32)), .val (.int (3 : Int32)), .val (.int (2 : Int32))] [(.ref bs)])) (fun t₀ k₀ => XS.aloadN X0.here hx rfl (hb hby d3_15) rfl rfl k₀) ?_
        refine own_step (s₁.setTop (mkF m 17 #[.val (.ref bs), .val (.int (1 : Int32)), .val (.int (3 : Int32)), .val (.int (2 : Int32))] [(.int (2 : Int32)), (.ref bs)])) (fun t₀ k₀ => XS.iloadN X0.here hx rfl (hb hby d3_16) rfl k₀) ?_
        obtain ⟨clo39, Aro39, qo39, So39, Mo39, Ho39, Go39⟩ := id Vb
        have hino39 : ¬ ((2 : Int32) < 0 ∨ clo39.slots.size ≤ ((2 : Int32)).toNatClampNeg) := inb_of So39 ⟨by decide, by decide⟩
        have hato39 : clo39.slots[((2 : Int32)).toNatClampNeg]? = some (.int b2) := Ho39 2 (by rw [So39]; decide)
        refine own_step (s₁.setTop (mkF m 18 #[.val (.ref bs), .val (.int (1 : Int32)), .val (.int (3 : Int32)), .val (.int (2 : Int32))] [(.int b2)])) (fun t₀ k₀ => X0.baloadBytes hx (j := (2 : Int32)) (v := (.int b2)) (by rw [e0]; exact Aro39.1) (State.isArrayOf_alike hZ.alike Aro39.2.1) Aro39.2.2 hino39 hato39 (g := (mkF m 17 #[.val (.ref bs), .val (.int (1 : Int32)), .val (.int (3 : Int32)), .val (.int (2 : Int32))] [(.int (2 : Int32)), (.ref bs)])) rfl rfl (hb hby d3_17) _ k₀) ?_
        refine own_step (s₁.setTop (mkF m 20 #[.val (.ref bs), .val (.int (1 : Int32)), .val (.int (3 : Int32)), .val (.int (2 : Int32))] [(.int (10 : Int32)), (.int b2)])) (fun t₀ k₀ => XS.bipush X0.here hx rfl (hb hby d3_18) k₀) ?_
        by_cases hc20_40 : b2 = (10 : Int32)
        · skip
          refine own_step (s₁.setTop (mkF m 29 #[.val (.ref bs), .val (.int (1 : Int32)), .val (.int (3 : Int32)), .val (.int (2 : Int32))] [])) (fun t₀ k₀ => XS.icmpYes X0.here hx rfl (pc0 := 20) (pc' := 29) rfl (hb hby d3_20) rfl (teq hc20_40).1 (by decide) (by decide) k₀) ?_
          refine own_step (s₁.setTop (mkF m 30 #[.val (.ref bs), .val (.int (1 : Int32)), .val (.int (3 : Int32)), .val (.int (2 : Int32))] [(.int (2 : Int32))])) (fun t₀ k₀ => XS.iloadN X0.here hx rfl (hb hby d3_29) rfl k₀) ?_
          obtain ⟨fs, hr, hrun, hended, hW, hsame⟩ := X0.leave (v := some (.int (2 : Int32))) (fun h => by rw [Bd.returns] at h; cases h)
          refine ⟨_, _, ?_, hrun, hended, _, _, rfl, ?_, ⟨_, rfl⟩, hW, hsame.mono (by decide) (by decide)⟩
          · exact retI X0 hx Bd.returns (hb hby d3_30) hr
          · show Q_rm3_1_3 Z bs b0 b1 b2 b3 kc h0 n0 _ s₁.heap _
            rw [e0]
            exact ⟨by simp +decide [own_all, own_st, own_e0 hc12 hc20, own_e2 hc20_40], N0, rfl⟩
        · skip
          refine own_step (s₁.setTop (mkF m 23 #[.val (.ref bs), .val (.int (1 : Int32)), .val (.int (3 : Int32)), .val (.int (2 : Int32))] [])) (fun t₀ k₀ => XS.icmpNo X0.here hx rfl (hb hby d3_20) rfl (feq hc20_40).1 k₀) ?_
          refine own_step (s₁.setTop (mkF m 26 #[.val (.ref bs), .val (.int (1 : Int32)), .val (.int (3 : Int32)), .val (.int (3 : Int32))] [])) (fun t₀ k₀ => XS.iinc X0.here hx rfl (hb hby d3_23) rfl (l' := #[.val (.ref bs), .val (.int (1 : Int32)), .val (.int (3 : Int32)), .val (.int (3 : Int32))]) rfl k₀) ?_
          refine own_step (s₁.setTop (mkF m 2 #[.val (.ref bs), .val (.int (1 : Int32)), .val (.int (3 : Int32)), .val (.int (3 : Int32))] [])) (fun t₀ k₀ => XS.goto X0.here hx rfl (pc0 := 26) (pc' := 2) rfl (hb hby d3_26) (by decide) (by decide) k₀) ?_
          refine own_step (s₁.setTop (mkF m 3 #[.val (.ref bs), .val (.int (1 : Int32)), .val (.int (3 : Int32)), .val (.int (3 : Int32))] [(.int (3 : Int32))])) (fun t₀ k₀ => XS.iloadN X0.here hx rfl (hb hby d3_2) rfl k₀) ?_
          refine own_step (s₁.setTop (mkF m 4 #[.val (.ref bs), .val (.int (1 : Int32)), .val (.int (3 : Int32)), .val (.int (3 : Int32))] [(.int (3 : Int32)), (.int (3 : Int32))])) (fun t₀ k₀ => XS.iloadN X0.here hx rfl (hb hby d3_3) rfl k₀) ?_
          refine own_step (s₁.setTop (mkF m 29 #[.val (.ref bs), .val (.int (1 : Int32)), .val (.int (3 : Int32)), .val (.int (3 : Int32))] [])) (fun t₀ k₀ => XS.icmpYes X0.here hx rfl (pc0 := 4) (pc' := 29) rfl (hb hby d3_4) rfl (by decide) (by decide) (by decide) k₀) ?_
          refine own_step (s₁.setTop (mkF m 30 #[.val (.ref bs), .val (.int (1 : Int32)), .val (.int (3 : Int32)), .val (.int (3 : Int32))] [(.int (3 : Int32))])) (fun t₀ k₀ => XS.iloadN X0.here hx rfl (hb hby d3_29) rfl k₀) ?_
          obtain ⟨fs, hr, hrun, hended, hW, hsame⟩ := X0.leave (v := some (.int (3 : Int32))) (fun h => by rw [Bd.returns] at h; cases h)
          refine ⟨_, _, ?_, hrun, hended, _, _, rfl, ?_, ⟨_, rfl⟩, hW, hsame.mono (by decide) (by decide)⟩
          · exact retI X0 hx Bd.returns (hb hby d3_30) hr
          · show Q_rm3_1_3 Z bs b0 b1 b2 b3 kc h0 n0 _ s₁.heap _
            rw [e0]
            exact ⟨by simp +decide [own_all, own_st, own_e0 hc12 hc20, own_e0 hc12_38 hc20_40], N0, rfl⟩
theorem ef_rm3_1_4 (m : MethodId) (bs : Addr) : entryFrame m #[(.ref bs), (.int (1 : Int32)), (.int (4 : Int32))] 4 = mkF m 0 #[.val (.ref bs), .val (.int (1 : Int32)), .val (.int (4 : Int32)), .unset] [] := by first | (simp [entryFrame, mkF, argsToLocals, Value.category]; done) | rfl
def Q_rm3_1_4 (Z : State) (bs : Addr) (b0 : Int32) (b1 : Int32) (b2 : Int32) (b3 : Int32) (kc : ClassId) (h0 : Heap) (n0 : Nat) (v : Option Value) (h : Heap) (L : List Loc) : Prop := v = some (.int (own_all 1 4 b0 b1 b2 b3)) ∧ Fr n0 L ∧ h = h0
set_option maxRecDepth 65536 in
set_option maxHeartbeats 40000000 in
theorem rm3_1_4 (l : Launch) (Z : State) (a0 : Array Value) (hw : ∀ d ∈ tables_1, d.before a0 Z = true) (ws : List Jvm.Cond) (bs : Addr) (b0 : Int32) (b1 : Int32) (b2 : Int32) (b3 : Int32) (kc : ClassId) (h0 : Heap) (n0 : Nat) (Z0 : n0 ≤ h0.size) (Vb : Arv Z h0 bs kc .byte (4 : Int32) [(.int b0), (.int b1), (.int b2), (.int b3)] (.int (0 : Int32))) :
    MetFree l (⟨"com/example/labrelay/labrelay/model/SegmentMaker", "textEnd", "([BII)I"⟩ : MethodName) (head1 (Jvm.Cond.code (⟨"com/example/labrelay/labrelay/model/SegmentMaker", "textEnd", "([BII)I"⟩ : MethodName) prog_68_method_2_code 4 (some .int) :: ws) ({ frames := 0, cells := 0, slots := 0, locals := 0 } : Room)) (fun as₉ U => as₉ = #[(.ref bs), (.int (1 : Int32)), (.int (4 : Int32))] ∧ Z.Warmed39 U.vm ∧ U.heap = h0) (fun _ _ _ _ _ => True) (fun _ U o₉ U' => ∃ v L, o₉ = .returned v ∧ Q_rm3_1_4 Z bs b0 b1 b2 b3 kc h0 n0 v U'.heap L ∧ FrameEnd U o₉ U' L ({ frames := 0, cells := 0, slots := 0, locals := 0 } : Room).cells ({ frames := 0, cells := 0, slots := 0, locals := 0 } : Room).slots) := by
  refine MetFree.of_bodySF (plainFor_of_name pn_3) hisR ?_
  intro p e s m args below meth c s₁ Bd hml0 hP hK
  obtain ⟨rfl, hZ, hh⟩ := hP
  have hx := Bd.exec
  have hby := Bd.bytes
  have hml : c.maxLocals = 4 := hml0
  have hown : s.vm.findClass "com/example/labrelay/labrelay/model/SegmentMaker" = some m.cls := findClass_of_methodNamed Bd.named
  have hnm := (name_of_methodNamed Bd.named Bd.method).1
  have X0 : Stand p l e ({ frames := 0, cells := 0, slots := 0, locals := 0 } : Room) s m #[(.ref bs), (.int (1 : Int32)), (.int (4 : Int32))] below meth c s₁ [] 0 0 := Stand.of_body Bd
  have e0 : s₁.heap = h0 := by rw [← hh, Bd.state]; rfl
  have N0 := Fr.nil n0
  show own_Go p e below (fun s₂ o₉ => s₂.status = .running ∧ Ended s₂ below o₉ ∧ ∃ v L, o₉ = .returned v ∧ Q_rm3_1_4 Z bs b0 b1 b2 b3 kc h0 n0 v s₂.heap L ∧ FrameEnd s o₉ s₂ L ({ frames := 0, cells := 0, slots := 0, locals := 0 } : Room).cells ({ frames := 0, cells := 0, slots := 0, locals := 0 } : Room).slots) (s₁.setTop (entryFrame m #[(.ref bs), (.int (1 : Int32)), (.int (4 : Int32))] 4))
  rw [ef_rm3_1_4 m bs]
  refine own_step (s₁.setTop (mkF m 1 #[.val (.ref bs), .val (.int (1 : Int32)), .val (.int (4 : Int32)), .unset] [(.int (1 : Int32))])) (fun t₀ k₀ => XS.iloadN X0.here hx rfl (hb hby d3_0) rfl k₀) ?_
  refine own_step (s₁.setTop (mkF m 2 #[.val (.ref bs), .val (.int (1 : Int32)), .val (.int (4 : Int32)), .val (.int (1 : Int32))] [])) (fun t₀ k₀ => XS.istoreN X0.here hx rfl (hb hby d3_1) rfl (l' := #[.val (.ref bs), .val (.int (1 : Int32)), .val (.int (4 : Int32)), .val (.int (1 : Int32))]) rfl k₀) ?_
  refine own_step (s₁.setTop (mkF m 3 #[.val (.ref bs), .val (.int (1 : Int32)), .val (.int (4 : Int32)), .val (.int (1 : Int32))] [(.int (1 : Int32))])) (fun t₀ k₀ => XS.iloadN X0.here hx rfl (hb hby d3_2) rfl k₀) ?_
  refine own_step (s₁.setTop (mkF m 4 #[.val (.ref bs), .val (.int (1 : Int32)), .val (.int (4 : Int32)), .val (.int (1 : Int32))] [(.int (4 : Int32)), (.int (1 : Int32))])) (fun t₀ k₀ => XS.iloadN X0.here hx rfl (hb hby d3_3) rfl k₀) ?_
  refine own_step (s₁.setTop (mkF m 7 #[.val (.ref bs), .val (.int (1 : Int32)), .val (.int (4 : Int32)), .val (.int (1 : Int32))] [])) (fun t₀ k₀ => XS.icmpNo X0.here hx rfl (hb hby d3_4) rfl (by decide) k₀) ?_
  refine own_step (s₁.setTop (mkF m 8 #[.val (.ref bs), .val (.int (1 : Int32)), .val (.int (4 : Int32)), .val (.int (1 : Int32))] [(.ref bs)])) (fun t₀ k₀ => XS.aloadN X0.here hx rfl (hb hby d3_7) rfl rfl k₀) ?_
  refine own_step (s₁.setTop (mkF m 9 #[.val (.ref bs), .val (.int (1 : Int32)), .val (.int (4 : Int32)), .val (.int (1 : Int32))] [(.int (1 : Int32)), (.ref bs)])) (fun t₀ k₀ => XS.iloadN X0.here hx rfl (hb hby d3_8) rfl k₀) ?_
  obtain ⟨clo41, Aro41, qo41, So41, Mo41, Ho41, Go41⟩ := id Vb
  have hino41 : ¬ ((1 : Int32) < 0 ∨ clo41.slots.size ≤ ((1 : Int32)).toNatClampNeg) := inb_of So41 ⟨by decide, by decide⟩
  have hato41 : clo41.slots[((1 : Int32)).toNatClampNeg]? = some (.int b1) := Ho41 1 (by rw [So41]; decide)
  refine own_step (s₁.setTop (mkF m 10 #[.val (.ref bs), .val (.int (1 : Int32)), .val (.int (4 : Int32)), .val (.int (1 : Int32))] [(.int b1)])) (fun t₀ k₀ => X0.baloadBytes hx (j := (1 : Int32)) (v := (.int b1)) (by rw [e0]; exact Aro41.1) (State.isArrayOf_alike hZ.alike Aro41.2.1) Aro41.2.2 hino41 hato41 (g := (mkF m 9 #[.val (.ref bs), .val (.int (1 : Int32)), .val (.int (4 : Int32)), .val (.int (1 : Int32))] [(.int (1 : Int32)), (.ref bs)])) rfl rfl (hb hby d3_9) _ k₀) ?_
  refine own_step (s₁.setTop (mkF m 12 #[.val (.ref bs), .val (.int (1 : Int32)), .val (.int (4 : Int32)), .val (.int (1 : Int32))] [(.int (13 : Int32)), (.int b1)])) (fun t₀ k₀ => XS.bipush X0.here hx rfl (hb hby d3_10) k₀) ?_
  by_cases hc12 : b1 = (13 : Int32)
  · skip
    refine own_step (s₁.setTop (mkF m 29 #[.val (.ref bs), .val (.int (1 : Int32)), .val (.int (4 : Int32)), .val (.int (1 : Int32))] [])) (fun t₀ k₀ => XS.icmpYes X0.here hx rfl (pc0 := 12) (pc' := 29) rfl (hb hby d3_12) rfl (teq hc12).1 (by decide) (by decide) k₀) ?_
    refine own_step (s₁.setTop (mkF m 30 #[.val (.ref bs), .val (.int (1 : Int32)), .val (.int (4 : Int32)), .val (.int (1 : Int32))] [(.int (1 : Int32))])) (fun t₀ k₀ => XS.iloadN X0.here hx rfl (hb hby d3_29) rfl k₀) ?_
    obtain ⟨fs, hr, hrun, hended, hW, hsame⟩ := X0.leave (v := some (.int (1 : Int32))) (fun h => by rw [Bd.returns] at h; cases h)
    refine ⟨_, _, ?_, hrun, hended, _, _, rfl, ?_, ⟨_, rfl⟩, hW, hsame.mono (by decide) (by decide)⟩
    · exact retI X0 hx Bd.returns (hb hby d3_30) hr
    · show Q_rm3_1_4 Z bs b0 b1 b2 b3 kc h0 n0 _ s₁.heap _
      rw [e0]
      exact ⟨by simp +decide [own_all, own_st, own_e1 hc12], N0, rfl⟩
  · skip
    refine own_step (s₁.setTop (mkF m 15 #[.val (.ref bs), .val (.int (1 : Int32)), .val (.int (4 : Int32)), .val (.int (1 : Int32))] [])) (fun t₀ k₀ => XS.icmpNo X0.here hx rfl (hb hby d3_12) rfl (feq hc12).1 k₀) ?_
    refine own_step (s₁.setTop (mkF m 16 #[.val (.ref bs), .val (.int (1 : Int32)), .val (.int (4 : Int32)), .val (.int (1 : Int32))] [(.ref bs)])) (fun t₀ k₀ => XS.aloadN X0.here hx rfl (hb hby d3_15) rfl rfl k₀) ?_
    refine own_step (s₁.setTop (mkF m 17 #[.val (.ref bs), .val (.int (1 : Int32)), .val (.int (4 : Int32)), .val (.int (1 : Int32))] [(.int (1 : Int32)), (.ref bs)])) (fun t₀ k₀ => XS.iloadN X0.here hx rfl (hb hby d3_16) rfl k₀) ?_
    obtain ⟨clo42, Aro42, qo42, So42, Mo42, Ho42, Go42⟩ := id Vb
    have hino42 : ¬ ((1 : Int32) < 0 ∨ clo42.slots.size ≤ ((1 : Int32)).toNatClampNeg) := inb_of So42 ⟨by decide, by decide⟩
    have hato42 : clo42.slots[((1 : Int32)).toNatClampNeg]? = some (.int b1) := Ho42 1 (by rw [So42]; decide)
    refine own_step (s₁.setTop (mkF m 18 #[.val (.ref bs), .val (.int (1 : Int32)), .val (.int (4 : Int32)), .val (.int (1 : Int32))] [(.int b1)])) (fun t₀ k₀ => X0.baloadBytes hx (j := (1 : Int32)) (v := (.int b1)) (by rw [e0]; exact Aro42.1) (State.isArrayOf_alike hZ.alike Aro42.2.1) Aro42.2.2 hino42 hato42 (g := (mkF m 17 #[.val (.ref bs), .val (.int (1 : Int32)), .val (.int (4 : Int32)), .val (.int (1 : Int32))] [(.int (1 : Int32)), (.ref bs)])) rfl rfl (hb hby d3_17) _ k₀) ?_
    refine own_step (s₁.setTop (mkF m 20 #[.val (.ref bs), .val (.int (1 : Int32)), .val (.int (4 : Int32)), .val (.int (1 : Int32))] [(.int (10 : Int32)), (.int b1)])) (fun t₀ k₀ => XS.bipush X0.here hx rfl (hb hby d3_18) k₀) ?_
    by_cases hc20 : b1 = (10 : Int32)
    · skip
      refine own_step (s₁.setTop (mkF m 29 #[.val (.ref bs), .val (.int (1 : Int32)), .val (.int (4 : Int32)), .val (.int (1 : Int32))] [])) (fun t₀ k₀ => XS.icmpYes X0.here hx rfl (pc0 := 20) (pc' := 29) rfl (hb hby d3_20) rfl (teq hc20).1 (by decide) (by decide) k₀) ?_
      refine own_step (s₁.setTop (mkF m 30 #[.val (.ref bs), .val (.int (1 : Int32)), .val (.int (4 : Int32)), .val (.int (1 : Int32))] [(.int (1 : Int32))])) (fun t₀ k₀ => XS.iloadN X0.here hx rfl (hb hby d3_29) rfl k₀) ?_
      obtain ⟨fs, hr, hrun, hended, hW, hsame⟩ := X0.leave (v := some (.int (1 : Int32))) (fun h => by rw [Bd.returns] at h; cases h)
      refine ⟨_, _, ?_, hrun, hended, _, _, rfl, ?_, ⟨_, rfl⟩, hW, hsame.mono (by decide) (by decide)⟩
      · exact retI X0 hx Bd.returns (hb hby d3_30) hr
      · show Q_rm3_1_4 Z bs b0 b1 b2 b3 kc h0 n0 _ s₁.heap _
        rw [e0]
        exact ⟨by simp +decide [own_all, own_st, own_e2 hc20], N0, rfl⟩
    · skip
      refine own_step (s₁.setTop (mkF m 23 #[.val (.ref bs), .val (.int (1 : Int32)), .val (.int (4 : Int32)), .val (.int (1 : Int32))] [])) (fun t₀ k₀ => XS.icmpNo X0.here hx rfl (hb hby d3_20) rfl (feq hc20).1 k₀) ?_
      refine own_step (s₁.setTop (mkF m 26 #[.val (.ref bs), .val (.int (1 : Int32)), .val (.int (4 : Int32)), .val (.int (2 : Int32))] [])) (fun t₀ k₀ => XS.iinc X0.here hx rfl (hb hby d3_23) rfl (l' := #[.val (.ref bs), .val (.int (1 : Int32)), .val (.int (4 : Int32)), .val (.int (2 : Int32))]) rfl k₀) ?_
      refine own_step (s₁.setTop (mkF m 2 #[.val (.ref bs), .val (.int (1 : Int32)), .val (.int (4 : Int32)), .val (.int (2 : Int32))] [])) (fun t₀ k₀ => XS.goto X0.here hx rfl (pc0 := 26) (pc' := 2) rfl (hb hby d3_26) (by decide) (by decide) k₀) ?_
      refine own_step (s₁.setTop (mkF m 3 #[.val (.ref bs), .val (.int (1 : Int32)), .val (.int (4 : Int32)), .val (.int (2 : Int32))] [(.int (2 : Int32))])) (fun t₀ k₀ => XS.iloadN X0.here hx rfl (hb hby d3_2) rfl k₀) ?_
      refine own_step (s₁.setTop (mkF m 4 #[.val (.ref bs), .val (.int (1 : Int32)), .val (.int (4 : Int32)), .val (.int (2 : Int32))] [(.int (4 : Int32)), (.int (2 : Int32))])) (fun t₀ k₀ => XS.iloadN X0.here hx rfl (hb hby d3_3) rfl k₀) ?_
      refine own_step (s₁.setTop (mkF m 7 #[.val (.ref bs), .val (.int (1 : Int32)), .val (.int (4 : Int32)), .val (.int (2 : Int32))] [])) (fun t₀ k₀ => XS.icmpNo X0.here hx rfl (hb hby d3_4) rfl (by decide) k₀) ?_
      refine own_step (s₁.setTop (mkF m 8 #[.val (.ref bs), .val (.int (1 : Int32)), .val (.int (4 : Int32)), .val (.int (2 : Int32))] [(.ref bs)])) (fun t₀ k₀ => XS.aloadN X0.here hx rfl (hb hby d3_7) rfl rfl k₀) ?_
      refine own_step (s₁.setTop (mkF m 9 #[.val (.ref bs), .val (.int (1 : Int32)), .val (.int (4 : Int32)), .val (.int (2 : Int32))] [(.int (2 : Int32)), (.ref bs)])) (fun t₀ k₀ => XS.iloadN X0.here hx rfl (hb hby d3_8) rfl k₀) ?_
      obtain ⟨clo43, Aro43, qo43, So43, Mo43, Ho43, Go43⟩ := id Vb
      have hino43 : ¬ ((2 : Int32) < 0 ∨ clo43.slots.size ≤ ((2 : Int32)).toNatClampNeg) := inb_of So43 ⟨by decide, by decide⟩
      have hato43 : clo43.slots[((2 : Int32)).toNatClampNeg]? = some (.int b2) := Ho43 2 (by rw [So43]; decide)
      refine own_step (s₁.setTop (mkF m 10 #[.val (.ref bs), .val (.int (1 : Int32)), .val (.int (4 : Int32)), .val (.int (2 : Int32))] [(.int b2)])) (fun t₀ k₀ => X0.baloadBytes hx (j := (2 : Int32)) (v := (.int b2)) (by rw [e0]; exact Aro43.1) (State.isArrayOf_alike hZ.alike Aro43.2.1) Aro43.2.2 hino43 hato43 (g := (mkF m 9 #[.val (.ref bs), .val (.int (1 : Int32)), .val (.int (4 : Int32)), .val (.int (2 : Int32))] [(.int (2 : Int32)), (.ref bs)])) rfl rfl (hb hby d3_9) _ k₀) ?_
      refine own_step (s₁.setTop (mkF m 12 #[.val (.ref bs), .val (.int (1 : Int32)), .val (.int (4 : Int32)), .val (.int (2 : Int32))] [(.int (13 : Int32)), (.int b2)])) (fun t₀ k₀ => XS.bipush X0.here hx rfl (hb hby d3_10) k₀) ?_
      by_cases hc12_44 : b2 = (13 : Int32)
      · skip
        refine own_step (s₁.setTop (mkF m 29 #[.val (.ref bs), .val (.int (1 : Int32)), .val (.int (4 : Int32)), .val (.int (2 : Int32))] [])) (fun t₀ k₀ => XS.icmpYes X0.here hx rfl (pc0 := 12) (pc' := 29) rfl (hb hby d3_12) rfl (teq hc12_44).1 (by decide) (by decide) k₀) ?_
        refine own_step (s₁.setTop (mkF m 30 #[.val (.ref bs), .val (.int (1 : Int32)), .val (.int (4 : Int32)), .val (.int (2 : Int32))] [(.int (2 : Int32))])) (fun t₀ k₀ => XS.iloadN X0.here hx rfl (hb hby d3_29) rfl k₀) ?_
        obtain ⟨fs, hr, hrun, hended, hW, hsame⟩ := X0.leave (v := some (.int (2 : Int32))) (fun h => by rw [Bd.returns] at h; cases h)
        refine ⟨_, _, ?_, hrun, hended, _, _, rfl, ?_, ⟨_, rfl⟩, hW, hsame.mono (by decide) (by decide)⟩
        · exact retI X0 hx Bd.returns (hb hby d3_30) hr
        · show Q_rm3_1_4 Z bs b0 b1 b2 b3 kc h0 n0 _ s₁.heap _
          rw [e0]
          exact ⟨by simp +decide [own_all, own_st, own_e0 hc12 hc20, own_e1 hc12_44], N0, rfl⟩
      · skip
        refine own_step (s₁.setTop (mkF m 15 #[.val (.ref bs), .val (.int (1 : Int32)), .val (.int (4 : Int32)), .val (.int (2 : Int32))] [])) (fun t₀ k₀ => XS.icmpNo X0.here hx rfl (hb hby d3_12) rfl (feq hc12_44).1 k₀) ?_
        refine own_step (s₁.setTop (mkF m 16 #[.val (.ref bs), .val (.int (1 : Int32)), .val (.int (4 : Int32)), .val (.int (2 : Int32))] [(.ref bs)])) (fun t₀ k₀ => XS.aloadN X0.here hx rfl (hb hby d3_15) rfl rfl k₀) ?_
        refine own_step (s₁.setTop (mkF m 17 #[.val (.ref bs), .val (.int (1 : Int32)), .val (.int (4 : Int32)), .val (.int (2 : Int32))] [(.int (2 : Int32)), (.ref bs)])) (fun t₀ k₀ => XS.iloadN X0.here hx rfl (hb hby d3_16) rfl k₀) ?_
        obtain ⟨clo45, Aro45, qo45, So45, Mo45, Ho45, Go45⟩ := id Vb
        have hino45 : ¬ ((2 : Int32) < 0 ∨ clo45.slots.size ≤ ((2 : Int32)).toNatClampNeg) := inb_of So45 ⟨by decide, by decide⟩
        have hato45 : clo45.slots[((2 : Int32)).toNatClampNeg]? = some (.int b2) := Ho45 2 (by rw [So45]; decide)
        refine own_step (s₁.setTop (mkF m 18 #[.val (.ref bs), .val (.int (1 : Int32)), .val (.int (4 : Int32)), .val (.int (2 : Int32))] [(.int b2)])) (fun t₀ k₀ => X0.baloadBytes hx (j := (2 : Int32)) (v := (.int b2)) (by rw [e0]; exact Aro45.1) (State.isArrayOf_alike hZ.alike Aro45.2.1) Aro45.2.2 hino45 hato45 (g := (mkF m 17 #[.val (.ref bs), .val (.int (1 : Int32)), .val (.int (4 : Int32)), .val (.int (2 : Int32))] [(.int (2 : Int32)), (.ref bs)])) rfl rfl (hb hby d3_17) _ k₀) ?_
        refine own_step (s₁.setTop (mkF m 20 #[.val (.ref bs), .val (.int (1 : Int32)), .val (.int (4 : Int32)), .val (.int (2 : Int32))] [(.int (10 : Int32)), (.int b2)])) (fun t₀ k₀ => XS.bipush X0.here hx rfl (hb hby d3_18) k₀) ?_
        by_cases hc20_46 : b2 = (10 : Int32)
        · skip
          refine own_step (s₁.setTop (mkF m 29 #[.val (.ref bs), .val (.int (1 : Int32)), .val (.int (4 : Int32)), .val (.int (2 : Int32))] [])) (fun t₀ k₀ => XS.icmpYes X0.here hx rfl (pc0 := 20) (pc' := 29) rfl (hb hby d3_20) rfl (teq hc20_46).1 (by decide) (by decide) k₀) ?_
          refine own_step (s₁.setTop (mkF m 30 #[.val (.ref bs), .val (.int (1 : Int32)), .val (.int (4 : Int32)), .val (.int (2 : Int32))] [(.int (2 : Int32))])) (fun t₀ k₀ => XS.iloadN X0.here hx rfl (hb hby d3_29) rfl k₀) ?_
          obtain ⟨fs, hr, hrun, hended, hW, hsame⟩ := X0.leave (v := some (.int (2 : Int32))) (fun h => by rw [Bd.returns] at h; cases h)
          refine ⟨_, _, ?_, hrun, hended, _, _, rfl, ?_, ⟨_, rfl⟩, hW, hsame.mono (by decide) (by decide)⟩
          · exact retI X0 hx Bd.returns (hb hby d3_30) hr
          · show Q_rm3_1_4 Z bs b0 b1 b2 b3 kc h0 n0 _ s₁.heap _
            rw [e0]
            exact ⟨by simp +decide [own_all, own_st, own_e0 hc12 hc20, own_e2 hc20_46], N0, rfl⟩
        · skip
          refine own_step (s₁.setTop (mkF m 23 #[.val (.ref bs), .val (.int (1 : Int32)), .val (.int (4 : Int32)), .val (.int (2 : Int32))] [])) (fun t₀ k₀ => XS.icmpNo X0.here hx rfl (hb hby d3_20) rfl (feq hc20_46).1 k₀) ?_
          refine own_step (s₁.setTop (mkF m 26 #[.val (.ref bs), .val (.int (1 : Int32)), .val (.int (4 : Int32)), .val (.int (3 : Int32))] [])) (fun t₀ k₀ => XS.iinc X0.here hx rfl (hb hby d3_23) rfl (l' := #[.val (.ref bs), .val (.int (1 : Int32)), .val (.int (4 : Int32)), .val (.int (3 : Int32))]) rfl k₀) ?_
          refine own_step (s₁.setTop (mkF m 2 #[.val (.ref bs), .val (.int (1 : Int32)), .val (.int (4 : Int32)), .val (.int (3 : Int32))] [])) (fun t₀ k₀ => XS.goto X0.here hx rfl (pc0 := 26) (pc' := 2) rfl (hb hby d3_26) (by decide) (by decide) k₀) ?_
          refine own_step (s₁.setTop (mkF m 3 #[.val (.ref bs), .val (.int (1 : Int32)), .val (.int (4 : Int32)), .val (.int (3 : Int32))] [(.int (3 : Int32))])) (fun t₀ k₀ => XS.iloadN X0.here hx rfl (hb hby d3_2) rfl k₀) ?_
          refine own_step (s₁.setTop (mkF m 4 #[.val (.ref bs), .val (.int (1 : Int32)), .val (.int (4 : Int32)), .val (.int (3 : Int32))] [(.int (4 : Int32)), (.int (3 : Int32))])) (fun t₀ k₀ => XS.iloadN X0.here hx rfl (hb hby d3_3) rfl k₀) ?_
          refine own_step (s₁.setTop (mkF m 7 #[.val (.ref bs), .val (.int (1 : Int32)), .val (.int (4 : Int32)), .val (.int (3 : Int32))] [])) (fun t₀ k₀ => XS.icmpNo X0.here hx rfl (hb hby d3_4) rfl (by decide) k₀) ?_
          refine own_step (s₁.setTop (mkF m 8 #[.val (.ref bs), .val (.int (1 : Int32)), .val (.int (4 : Int32)), .val (.int (3 : Int32))] [(.ref bs)])) (fun t₀ k₀ => XS.aloadN X0.here hx rfl (hb hby d3_7) rfl rfl k₀) ?_
          refine own_step (s₁.setTop (mkF m 9 #[.val (.ref bs), .val (.int (1 : Int32)), .val (.int (4 : Int32)), .val (.int (3 : Int32))] [(.int (3 : Int32)), (.ref bs)])) (fun t₀ k₀ => XS.iloadN X0.here hx rfl (hb hby d3_8) rfl k₀) ?_
          obtain ⟨clo47, Aro47, qo47, So47, Mo47, Ho47, Go47⟩ := id Vb
          have hino47 : ¬ ((3 : Int32) < 0 ∨ clo47.slots.size ≤ ((3 : Int32)).toNatClampNeg) := inb_of So47 ⟨by decide, by decide⟩
          have hato47 : clo47.slots[((3 : Int32)).toNatClampNeg]? = some (.int b3) := Ho47 3 (by rw [So47]; decide)
          refine own_step (s₁.setTop (mkF m 10 #[.val (.ref bs), .val (.int (1 : Int32)), .val (.int (4 : Int32)), .val (.int (3 : Int32))] [(.int b3)])) (fun t₀ k₀ => X0.baloadBytes hx (j := (3 : Int32)) (v := (.int b3)) (by rw [e0]; exact Aro47.1) (State.isArrayOf_alike hZ.alike Aro47.2.1) Aro47.2.2 hino47 hato47 (g := (mkF m 9 #[.val (.ref bs), .val (.int (1 : Int32)), .val (.int (4 : Int32)), .val (.int (3 : Int32))] [(.int (3 : Int32)), (.ref bs)])) rfl rfl (hb hby d3_9) _ k₀) ?_
          refine own_step (s₁.setTop (mkF m 12 #[.val (.ref bs), .val (.int (1 : Int32)), .val (.int (4 : Int32)), .val (.int (3 : Int32))] [(.int (13 : Int32)), (.int b3)])) (fun t₀ k₀ => XS.bipush X0.here hx rfl (hb hby d3_10) k₀) ?_
          by_cases hc12_48 : b3 = (13 : Int32)
          · skip
            refine own_step (s₁.setTop (mkF m 29 #[.val (.ref bs), .val (.int (1 : Int32)), .val (.int (4 : Int32)), .val (.int (3 : Int32))] [])) (fun t₀ k₀ => XS.icmpYes X0.here hx rfl (pc0 := 12) (pc' := 29) rfl (hb hby d3_12) rfl (teq hc12_48).1 (by decide) (by decide) k₀) ?_
            refine own_step (s₁.setTop (mkF m 30 #[.val (.ref bs), .val (.int (1 : Int32)), .val (.int (4 : Int32)), .val (.int (3 : Int32))] [(.int (3 : Int32))])) (fun t₀ k₀ => XS.iloadN X0.here hx rfl (hb hby d3_29) rfl k₀) ?_
            obtain ⟨fs, hr, hrun, hended, hW, hsame⟩ := X0.leave (v := some (.int (3 : Int32))) (fun h => by rw [Bd.returns] at h; cases h)
            refine ⟨_, _, ?_, hrun, hended, _, _, rfl, ?_, ⟨_, rfl⟩, hW, hsame.mono (by decide) (by decide)⟩
            · exact retI X0 hx Bd.returns (hb hby d3_30) hr
            · show Q_rm3_1_4 Z bs b0 b1 b2 b3 kc h0 n0 _ s₁.heap _
              rw [e0]
              exact ⟨by simp +decide [own_all, own_st, own_e0 hc12 hc20, own_e0 hc12_44 hc20_46, own_e1 hc12_48], N0, rfl⟩
          · skip
            refine own_step (s₁.setTop (mkF m 15 #[.val (.ref bs), .val (.int (1 : Int32)), .val (.int (4 : Int32)), .val (.int (3 : Int32))] [])) (fun t₀ k₀ => XS.icmpNo X0.here hx rfl (hb hby d3_12) rfl (feq hc12_48).1 k₀) ?_
            refine own_step (s₁.setTop (mkF m 16 #[.val (.ref bs), .val (.int (1 : Int32)), .val (.int (4 : Int32)), .val (.int (3 : Int32))] [(.ref bs)])) (fun t₀ k₀ => XS.aloadN X0.here hx rfl (hb hby d3_15) rfl rfl k₀) ?_
            refine own_step (s₁.setTop (mkF m 17 #[.val (.ref bs), .val (.int (1 : Int32)), .val (.int (4 : Int32)), .val (.int (3 : Int32))] [(.int (3 : Int32)), (.ref bs)])) (fun t₀ k₀ => XS.iloadN X0.here hx rfl (hb hby d3_16) rfl k₀) ?_
            obtain ⟨clo49, Aro49, qo49, So49, Mo49, Ho49, Go49⟩ := id Vb
            have hino49 : ¬ ((3 : Int32) < 0 ∨ clo49.slots.size ≤ ((3 : Int32)).toNatClampNeg) := inb_of So49 ⟨by decide, by decide⟩
            have hato49 : clo49.slots[((3 : Int32)).toNatClampNeg]? = some (.int b3) := Ho49 3 (by rw [So49]; decide)
            refine own_step (s₁.setTop (mkF m 18 #[.val (.ref bs), .val (.int (1 : Int32)), .val (.int (4 : Int32)), .val (.int (3 : Int32))] [(.int b3)])) (fun t₀ k₀ => X0.baloadBytes hx (j := (3 : Int32)) (v := (.int b3)) (by rw [e0]; exact Aro49.1) (State.isArrayOf_alike hZ.alike Aro49.2.1) Aro49.2.2 hino49 hato49 (g := (mkF m 17 #[.val (.ref bs), .val (.int (1 : Int32)), .val (.int (4 : Int32)), .val (.int (3 : Int32))] [(.int (3 : Int32)), (.ref bs)])) rfl rfl (hb hby d3_17) _ k₀) ?_
            refine own_step (s₁.setTop (mkF m 20 #[.val (.ref bs), .val (.int (1 : Int32)), .val (.int (4 : Int32)), .val (.int (3 : Int32))] [(.int (10 : Int32)), (.int b3)])) (fun t₀ k₀ => XS.bipush X0.here hx rfl (hb hby d3_18) k₀) ?_
            by_cases hc20_50 : b3 = (10 : Int32)
            · skip
              refine own_step (s₁.setTop (mkF m 29 #[.val (.ref bs), .val (.int (1 : Int32)), .val (.int (4 : Int32)), .val (.int (3 : Int32))] [])) (fun t₀ k₀ => XS.icmpYes X0.here hx rfl (pc0 := 20) (pc' := 29) rfl (hb hby d3_20) rfl (teq hc20_50).1 (by decide) (by decide) k₀) ?_
              refine own_step (s₁.setTop (mkF m 30 #[.val (.ref bs), .val (.int (1 : Int32)), .val (.int (4 : Int32)), .val (.int (3 : Int32))] [(.int (3 : Int32))])) (fun t₀ k₀ => XS.iloadN X0.here hx rfl (hb hby d3_29) rfl k₀) ?_
              obtain ⟨fs, hr, hrun, hended, hW, hsame⟩ := X0.leave (v := some (.int (3 : Int32))) (fun h => by rw [Bd.returns] at h; cases h)
              refine ⟨_, _, ?_, hrun, hended, _, _, rfl, ?_, ⟨_, rfl⟩, hW, hsame.mono (by decide) (by decide)⟩
              · exact retI X0 hx Bd.returns (hb hby d3_30) hr
              · show Q_rm3_1_4 Z bs b0 b1 b2 b3 kc h0 n0 _ s₁.heap _
                rw [e0]
                exact ⟨by simp +decide [own_all, own_st, own_e0 hc12 hc20, own_e0 hc12_44 hc20_46, own_e2 hc20_50], N0, rfl⟩
            · skip
              refine own_step (s₁.setTop (mkF m 23 #[.val (.ref bs), .val (.int (1 : Int32)), .val (.int (4 : Int32)), .val (.int (3 : Int32))] [])) (fun t₀ k₀ => XS.icmpNo X0.here hx rfl (hb hby d3_20) rfl (feq hc20_50).1 k₀) ?_
              refine own_step (s₁.setTop (mkF m 26 #[.val (.ref bs), .val (.int (1 : Int32)), .val (.int (4 : Int32)), .val (.int (4 : Int32))] [])) (fun t₀ k₀ => XS.iinc X0.here hx rfl (hb hby d3_23) rfl (l' := #[.val (.ref bs), .val (.int (1 : Int32)), .val (.int (4 : Int32)), .val (.int (4 : Int32))]) rfl k₀) ?_
              refine own_step (s₁.setTop (mkF m 2 #[.val (.ref bs), .val (.int (1 : Int32)), .val (.int (4 : Int32)), .val (.int (4 : Int32))] [])) (fun t₀ k₀ => XS.goto X0.here hx rfl (pc0 := 26) (pc' := 2) rfl (hb hby d3_26) (by decide) (by decide) k₀) ?_
              refine own_step (s₁.setTop (mkF m 3 #[.val (.ref bs), .val (.int (1 : Int32)), .val (.int (4 : Int32)), .val (.int (4 : Int32))] [(.int (4 : Int32))])) (fun t₀ k₀ => XS.iloadN X0.here hx rfl (hb hby d3_2) rfl k₀) ?_
              refine own_step (s₁.setTop (mkF m 4 #[.val (.ref bs), .val (.int (1 : Int32)), .val (.int (4 : Int32)), .val (.int (4 : Int32))] [(.int (4 : Int32)), (.int (4 : Int32))])) (fun t₀ k₀ => XS.iloadN X0.here hx rfl (hb hby d3_3) rfl k₀) ?_
              refine own_step (s₁.setTop (mkF m 29 #[.val (.ref bs), .val (.int (1 : Int32)), .val (.int (4 : Int32)), .val (.int (4 : Int32))] [])) (fun t₀ k₀ => XS.icmpYes X0.here hx rfl (pc0 := 4) (pc' := 29) rfl (hb hby d3_4) rfl (by decide) (by decide) (by decide) k₀) ?_
              refine own_step (s₁.setTop (mkF m 30 #[.val (.ref bs), .val (.int (1 : Int32)), .val (.int (4 : Int32)), .val (.int (4 : Int32))] [(.int (4 : Int32))])) (fun t₀ k₀ => XS.iloadN X0.here hx rfl (hb hby d3_29) rfl k₀) ?_
              obtain ⟨fs, hr, hrun, hended, hW, hsame⟩ := X0.leave (v := some (.int (4 : Int32))) (fun h => by rw [Bd.returns] at h; cases h)
              refine ⟨_, _, ?_, hrun, hended, _, _, rfl, ?_, ⟨_, rfl⟩, hW, hsame.mono (by decide) (by decide)⟩
              · exact retI X0 hx Bd.returns (hb hby d3_30) hr
              · show Q_rm3_1_4 Z bs b0 b1 b2 b3 kc h0 n0 _ s₁.heap _
                rw [e0]
                exact ⟨by simp +decide [own_all, own_st, own_e0 hc12 hc20, own_e0 hc12_44 hc20_46, own_e0 hc12_48 hc20_50], N0, rfl⟩
theorem ef_rm3_2_2 (m : MethodId) (bs : Addr) : entryFrame m #[(.ref bs), (.int (2 : Int32)), (.int (2 : Int32))] 4 = mkF m 0 #[.val (.ref bs), .val (.int (2 : Int32)), .val (.int (2 : Int32)), .unset] [] := by first | (simp [entryFrame, mkF, argsToLocals, Value.category]; done) | rfl
def Q_rm3_2_2 (Z : State) (bs : Addr) (b0 : Int32) (b1 : Int32) (b2 : Int32) (b3 : Int32) (kc : ClassId) (h0 : Heap) (n0 : Nat) (v : Option Value) (h : Heap) (L : List Loc) : Prop := v = some (.int (own_all 2 2 b0 b1 b2 b3)) ∧ Fr n0 L ∧ h = h0
set_option maxRecDepth 65536 in
set_option maxHeartbeats 40000000 in
theorem rm3_2_2 (l : Launch) (Z : State) (a0 : Array Value) (hw : ∀ d ∈ tables_1, d.before a0 Z = true) (ws : List Jvm.Cond) (bs : Addr) (b0 : Int32) (b1 : Int32) (b2 : Int32) (b3 : Int32) (kc : ClassId) (h0 : Heap) (n0 : Nat) (Z0 : n0 ≤ h0.size) (Vb : Arv Z h0 bs kc .byte (4 : Int32) [(.int b0), (.int b1), (.int b2), (.int b3)] (.int (0 : Int32))) :
    MetFree l (⟨"com/example/labrelay/labrelay/model/SegmentMaker", "textEnd", "([BII)I"⟩ : MethodName) (head1 (Jvm.Cond.code (⟨"com/example/labrelay/labrelay/model/SegmentMaker", "textEnd", "([BII)I"⟩ : MethodName) prog_68_method_2_code 4 (some .int) :: ws) ({ frames := 0, cells := 0, slots := 0, locals := 0 } : Room)) (fun as₉ U => as₉ = #[(.ref bs), (.int (2 : Int32)), (.int (2 : Int32))] ∧ Z.Warmed39 U.vm ∧ U.heap = h0) (fun _ _ _ _ _ => True) (fun _ U o₉ U' => ∃ v L, o₉ = .returned v ∧ Q_rm3_2_2 Z bs b0 b1 b2 b3 kc h0 n0 v U'.heap L ∧ FrameEnd U o₉ U' L ({ frames := 0, cells := 0, slots := 0, locals := 0 } : Room).cells ({ frames := 0, cells := 0, slots := 0, locals := 0 } : Room).slots) := by
  refine MetFree.of_bodySF (plainFor_of_name pn_3) hisR ?_
  intro p e s m args below meth c s₁ Bd hml0 hP hK
  obtain ⟨rfl, hZ, hh⟩ := hP
  have hx := Bd.exec
  have hby := Bd.bytes
  have hml : c.maxLocals = 4 := hml0
  have hown : s.vm.findClass "com/example/labrelay/labrelay/model/SegmentMaker" = some m.cls := findClass_of_methodNamed Bd.named
  have hnm := (name_of_methodNamed Bd.named Bd.method).1
  have X0 : Stand p l e ({ frames := 0, cells := 0, slots := 0, locals := 0 } : Room) s m #[(.ref bs), (.int (2 : Int32)), (.int (2 : Int32))] below meth c s₁ [] 0 0 := Stand.of_body Bd
  have e0 : s₁.heap = h0 := by rw [← hh, Bd.state]; rfl
  have N0 := Fr.nil n0
  show own_Go p e below (fun s₂ o₉ => s₂.status = .running ∧ Ended s₂ below o₉ ∧ ∃ v L, o₉ = .returned v ∧ Q_rm3_2_2 Z bs b0 b1 b2 b3 kc h0 n0 v s₂.heap L ∧ FrameEnd s o₉ s₂ L ({ frames := 0, cells := 0, slots := 0, locals := 0 } : Room).cells ({ frames := 0, cells := 0, slots := 0, locals := 0 } : Room).slots) (s₁.setTop (entryFrame m #[(.ref bs), (.int (2 : Int32)), (.int (2 : Int32))] 4))
  rw [ef_rm3_2_2 m bs]
  refine own_step (s₁.setTop (mkF m 1 #[.val (.ref bs), .val (.int (2 : Int32)), .val (.int (2 : Int32)), .unset] [(.int (2 : Int32))])) (fun t₀ k₀ => XS.iloadN X0.here hx rfl (hb hby d3_0) rfl k₀) ?_
  refine own_step (s₁.setTop (mkF m 2 #[.val (.ref bs), .val (.int (2 : Int32)), .val (.int (2 : Int32)), .val (.int (2 : Int32))] [])) (fun t₀ k₀ => XS.istoreN X0.here hx rfl (hb hby d3_1) rfl (l' := #[.val (.ref bs), .val (.int (2 : Int32)), .val (.int (2 : Int32)), .val (.int (2 : Int32))]) rfl k₀) ?_
  refine own_step (s₁.setTop (mkF m 3 #[.val (.ref bs), .val (.int (2 : Int32)), .val (.int (2 : Int32)), .val (.int (2 : Int32))] [(.int (2 : Int32))])) (fun t₀ k₀ => XS.iloadN X0.here hx rfl (hb hby d3_2) rfl k₀) ?_
  refine own_step (s₁.setTop (mkF m 4 #[.val (.ref bs), .val (.int (2 : Int32)), .val (.int (2 : Int32)), .val (.int (2 : Int32))] [(.int (2 : Int32)), (.int (2 : Int32))])) (fun t₀ k₀ => XS.iloadN X0.here hx rfl (hb hby d3_3) rfl k₀) ?_
  refine own_step (s₁.setTop (mkF m 29 #[.val (.ref bs), .val (.int (2 : Int32)), .val (.int (2 : Int32)), .val (.int (2 : Int32))] [])) (fun t₀ k₀ => XS.icmpYes X0.here hx rfl (pc0 := 4) (pc' := 29) rfl (hb hby d3_4) rfl (by decide) (by decide) (by decide) k₀) ?_
  refine own_step (s₁.setTop (mkF m 30 #[.val (.ref bs), .val (.int (2 : Int32)), .val (.int (2 : Int32)), .val (.int (2 : Int32))] [(.int (2 : Int32))])) (fun t₀ k₀ => XS.iloadN X0.here hx rfl (hb hby d3_29) rfl k₀) ?_
  obtain ⟨fs, hr, hrun, hended, hW, hsame⟩ := X0.leave (v := some (.int (2 : Int32))) (fun h => by rw [Bd.returns] at h; cases h)
  refine ⟨_, _, ?_, hrun, hended, _, _, rfl, ?_, ⟨_, rfl⟩, hW, hsame.mono (by decide) (by decide)⟩
  · exact retI X0 hx Bd.returns (hb hby d3_30) hr
  · show Q_rm3_2_2 Z bs b0 b1 b2 b3 kc h0 n0 _ s₁.heap _
    rw [e0]
    exact ⟨by simp +decide [own_all, own_st], N0, rfl⟩
theorem ef_rm3_2_3 (m : MethodId) (bs : Addr) : entryFrame m #[(.ref bs), (.int (2 : Int32)), (.int (3 : Int32))] 4 = mkF m 0 #[.val (.ref bs), .val (.int (2 : Int32)), .val (.int (3 : Int32)), .unset] [] := by first | (simp [entryFrame, mkF, argsToLocals, Value.category]; done) | rfl
def Q_rm3_2_3 (Z : State) (bs : Addr) (b0 : Int32) (b1 : Int32) (b2 : Int32) (b3 : Int32) (kc : ClassId) (h0 : Heap) (n0 : Nat) (v : Option Value) (h : Heap) (L : List Loc) : Prop := v = some (.int (own_all 2 3 b0 b1 b2 b3)) ∧ Fr n0 L ∧ h = h0
set_option maxRecDepth 65536 in
set_option maxHeartbeats 40000000 in
theorem rm3_2_3 (l : Launch) (Z : State) (a0 : Array Value) (hw : ∀ d ∈ tables_1, d.before a0 Z = true) (ws : List Jvm.Cond) (bs : Addr) (b0 : Int32) (b1 : Int32) (b2 : Int32) (b3 : Int32) (kc : ClassId) (h0 : Heap) (n0 : Nat) (Z0 : n0 ≤ h0.size) (Vb : Arv Z h0 bs kc .byte (4 : Int32) [(.int b0), (.int b1), (.int b2), (.int b3)] (.int (0 : Int32))) :
    MetFree l (⟨"com/example/labrelay/labrelay/model/SegmentMaker", "textEnd", "([BII)I"⟩ : MethodName) (head1 (Jvm.Cond.code (⟨"com/example/labrelay/labrelay/model/SegmentMaker", "textEnd", "([BII)I"⟩ : MethodName) prog_68_method_2_code 4 (some .int) :: ws) ({ frames := 0, cells := 0, slots := 0, locals := 0 } : Room)) (fun as₉ U => as₉ = #[(.ref bs), (.int (2 : Int32)), (.int (3 : Int32))] ∧ Z.Warmed39 U.vm ∧ U.heap = h0) (fun _ _ _ _ _ => True) (fun _ U o₉ U' => ∃ v L, o₉ = .returned v ∧ Q_rm3_2_3 Z bs b0 b1 b2 b3 kc h0 n0 v U'.heap L ∧ FrameEnd U o₉ U' L ({ frames := 0, cells := 0, slots := 0, locals := 0 } : Room).cells ({ frames := 0, cells := 0, slots := 0, locals := 0 } : Room).slots) := by
  refine MetFree.of_bodySF (plainFor_of_name pn_3) hisR ?_
  intro p e s m args below meth c s₁ Bd hml0 hP hK
  obtain ⟨rfl, hZ, hh⟩ := hP
  have hx := Bd.exec
  have hby := Bd.bytes
  have hml : c.maxLocals = 4 := hml0
  have hown : s.vm.findClass "com/example/labrelay/labrelay/model/SegmentMaker" = some m.cls := findClass_of_methodNamed Bd.named
  have hnm := (name_of_methodNamed Bd.named Bd.method).1
  have X0 : Stand p l e ({ frames := 0, cells := 0, slots := 0, locals := 0 } : Room) s m #[(.ref bs), (.int (2 : Int32)), (.int (3 : Int32))] below meth c s₁ [] 0 0 := Stand.of_body Bd
  have e0 : s₁.heap = h0 := by rw [← hh, Bd.state]; rfl
  have N0 := Fr.nil n0
  show own_Go p e below (fun s₂ o₉ => s₂.status = .running ∧ Ended s₂ below o₉ ∧ ∃ v L, o₉ = .returned v ∧ Q_rm3_2_3 Z bs b0 b1 b2 b3 kc h0 n0 v s₂.heap L ∧ FrameEnd s o₉ s₂ L ({ frames := 0, cells := 0, slots := 0, locals := 0 } : Room).cells ({ frames := 0, cells := 0, slots := 0, locals := 0 } : Room).slots) (s₁.setTop (entryFrame m #[(.ref bs), (.int (2 : Int32)), (.int (3 : Int32))] 4))
  rw [ef_rm3_2_3 m bs]
  refine own_step (s₁.setTop (mkF m 1 #[.val (.ref bs), .val (.int (2 : Int32)), .val (.int (3 : Int32)), .unset] [(.int (2 : Int32))])) (fun t₀ k₀ => XS.iloadN X0.here hx rfl (hb hby d3_0) rfl k₀) ?_
  refine own_step (s₁.setTop (mkF m 2 #[.val (.ref bs), .val (.int (2 : Int32)), .val (.int (3 : Int32)), .val (.int (2 : Int32))] [])) (fun t₀ k₀ => XS.istoreN X0.here hx rfl (hb hby d3_1) rfl (l' := #[.val (.ref bs), .val (.int (2 : Int32)), .val (.int (3 : Int32)), .val (.int (2 : Int32))]) rfl k₀) ?_
  refine own_step (s₁.setTop (mkF m 3 #[.val (.ref bs), .val (.int (2 : Int32)), .val (.int (3 : Int32)), .val (.int (2 : Int32))] [(.int (2 : Int32))])) (fun t₀ k₀ => XS.iloadN X0.here hx rfl (hb hby d3_2) rfl k₀) ?_
  refine own_step (s₁.setTop (mkF m 4 #[.val (.ref bs), .val (.int (2 : Int32)), .val (.int (3 : Int32)), .val (.int (2 : Int32))] [(.int (3 : Int32)), (.int (2 : Int32))])) (fun t₀ k₀ => XS.iloadN X0.here hx rfl (hb hby d3_3) rfl k₀) ?_
  refine own_step (s₁.setTop (mkF m 7 #[.val (.ref bs), .val (.int (2 : Int32)), .val (.int (3 : Int32)), .val (.int (2 : Int32))] [])) (fun t₀ k₀ => XS.icmpNo X0.here hx rfl (hb hby d3_4) rfl (by decide) k₀) ?_
  refine own_step (s₁.setTop (mkF m 8 #[.val (.ref bs), .val (.int (2 : Int32)), .val (.int (3 : Int32)), .val (.int (2 : Int32))] [(.ref bs)])) (fun t₀ k₀ => XS.aloadN X0.here hx rfl (hb hby d3_7) rfl rfl k₀) ?_
  refine own_step (s₁.setTop (mkF m 9 #[.val (.ref bs), .val (.int (2 : Int32)), .val (.int (3 : Int32)), .val (.int (2 : Int32))] [(.int (2 : Int32)), (.ref bs)])) (fun t₀ k₀ => XS.iloadN X0.here hx rfl (hb hby d3_8) rfl k₀) ?_
  obtain ⟨clo51, Aro51, qo51, So51, Mo51, Ho51, Go51⟩ := id Vb
  have hino51 : ¬ ((2 : Int32) < 0 ∨ clo51.slots.size ≤ ((2 : Int32)).toNatClampNeg) := inb_of So51 ⟨by decide, by decide⟩
  have hato51 : clo51.slots[((2 : Int32)).toNatClampNeg]? = some (.int b2) := Ho51 2 (by rw [So51]; decide)
  refine own_step (s₁.setTop (mkF m 10 #[.val (.ref bs), .val (.int (2 : Int32)), .val (.int (3 : Int32)), .val (.int (2 : Int32))] [(.int b2)])) (fun t₀ k₀ => X0.baloadBytes hx (j := (2 : Int32)) (v := (.int b2)) (by rw [e0]; exact Aro51.1) (State.isArrayOf_alike hZ.alike Aro51.2.1) Aro51.2.2 hino51 hato51 (g := (mkF m 9 #[.val (.ref bs), .val (.int (2 : Int32)), .val (.int (3 : Int32)), .val (.int (2 : Int32))] [(.int (2 : Int32)), (.ref bs)])) rfl rfl (hb hby d3_9) _ k₀) ?_
  refine own_step (s₁.setTop (mkF m 12 #[.val (.ref bs), .val (.int (2 : Int32)), .val (.int (3 : Int32)), .val (.int (2 : Int32))] [(.int (13 : Int32)), (.int b2)])) (fun t₀ k₀ => XS.bipush X0.here hx rfl (hb hby d3_10) k₀) ?_
  by_cases hc12 : b2 = (13 : Int32)
  · skip
    refine own_step (s₁.setTop (mkF m 29 #[.val (.ref bs), .val (.int (2 : Int32)), .val (.int (3 : Int32)), .val (.int (2 : Int32))] [])) (fun t₀ k₀ => XS.icmpYes X0.here hx rfl (pc0 := 12) (pc' := 29) rfl (hb hby d3_12) rfl (teq hc12).1 (by decide) (by decide) k₀) ?_
    refine own_step (s₁.setTop (mkF m 30 #[.val (.ref bs), .val (.int (2 : Int32)), .val (.int (3 : Int32)), .val (.int (2 : Int32))] [(.int (2 : Int32))])) (fun t₀ k₀ => XS.iloadN X0.here hx rfl (hb hby d3_29) rfl k₀) ?_
    obtain ⟨fs, hr, hrun, hended, hW, hsame⟩ := X0.leave (v := some (.int (2 : Int32))) (fun h => by rw [Bd.returns] at h; cases h)
    refine ⟨_, _, ?_, hrun, hended, _, _, rfl, ?_, ⟨_, rfl⟩, hW, hsame.mono (by decide) (by decide)⟩
    · exact retI X0 hx Bd.returns (hb hby d3_30) hr
    · show Q_rm3_2_3 Z bs b0 b1 b2 b3 kc h0 n0 _ s₁.heap _
      rw [e0]
      exact ⟨by simp +decide [own_all, own_st, own_e1 hc12], N0, rfl⟩
  · skip
    refine own_step (s₁.setTop (mkF m 15 #[.val (.ref bs), .val (.int (2 : Int32)), .val (.int (3 : Int32)), .val (.int (2 : Int32))] [])) (fun t₀ k₀ => XS.icmpNo X0.here hx rfl (hb hby d3_12) rfl (feq hc12).1 k₀) ?_
    refine own_step (s₁.setTop (mkF m 16 #[.val (.ref bs), .val (.int (2 : Int32)), .val (.int (3 : Int32)), .val (.int (2 : Int32))] [(.ref bs)])) (fun t₀ k₀ => XS.aloadN X0.here hx rfl (hb hby d3_15) rfl rfl k₀) ?_
    refine own_step (s₁.setTop (mkF m 17 #[.val (.ref bs), .val (.int (2 : Int32)), .val (.int (3 : Int32)), .val (.int (2 : Int32))] [(.int (2 : Int32)), (.ref bs)])) (fun t₀ k₀ => XS.iloadN X0.here hx rfl (hb hby d3_16) rfl k₀) ?_
    obtain ⟨clo52, Aro52, qo52, So52, Mo52, Ho52, Go52⟩ := id Vb
    have hino52 : ¬ ((2 : Int32) < 0 ∨ clo52.slots.size ≤ ((2 : Int32)).toNatClampNeg) := inb_of So52 ⟨by decide, by decide⟩
    have hato52 : clo52.slots[((2 : Int32)).toNatClampNeg]? = some (.int b2) := Ho52 2 (by rw [So52]; decide)
    refine own_step (s₁.setTop (mkF m 18 #[.val (.ref bs), .val (.int (2 : Int32)), .val (.int (3 : Int32)), .val (.int (2 : Int32))] [(.int b2)])) (fun t₀ k₀ => X0.baloadBytes hx (j := (2 : Int32)) (v := (.int b2)) (by rw [e0]; exact Aro52.1) (State.isArrayOf_alike hZ.alike Aro52.2.1) Aro52.2.2 hino52 hato52 (g := (mkF m 17 #[.val (.ref bs), .val (.int (2 : Int32)), .val (.int (3 : Int32)), .val (.int (2 : Int32))] [(.int (2 : Int32)), (.ref bs)])) rfl rfl (hb hby d3_17) _ k₀) ?_
    refine own_step (s₁.setTop (mkF m 20 #[.val (.ref bs), .val (.int (2 : Int32)), .val (.int (3 : Int32)), .val (.int (2 : Int32))] [(.int (10 : Int32)), (.int b2)])) (fun t₀ k₀ => XS.bipush X0.here hx rfl (hb hby d3_18) k₀) ?_
    by_cases hc20 : b2 = (10 : Int32)
    · skip
      refine own_step (s₁.setTop (mkF m 29 #[.val (.ref bs), .val (.int (2 : Int32)), .val (.int (3 : Int32)), .val (.int (2 : Int32))] [])) (fun t₀ k₀ => XS.icmpYes X0.here hx rfl (pc0 := 20) (pc' := 29) rfl (hb hby d3_20) rfl (teq hc20).1 (by decide) (by decide) k₀) ?_
      refine own_step (s₁.setTop (mkF m 30 #[.val (.ref bs), .val (.int (2 : Int32)), .val (.int (3 : Int32)), .val (.int (2 : Int32))] [(.int (2 : Int32))])) (fun t₀ k₀ => XS.iloadN X0.here hx rfl (hb hby d3_29) rfl k₀) ?_
      obtain ⟨fs, hr, hrun, hended, hW, hsame⟩ := X0.leave (v := some (.int (2 : Int32))) (fun h => by rw [Bd.returns] at h; cases h)
      refine ⟨_, _, ?_, hrun, hended, _, _, rfl, ?_, ⟨_, rfl⟩, hW, hsame.mono (by decide) (by decide)⟩
      · exact retI X0 hx Bd.returns (hb hby d3_30) hr
      · show Q_rm3_2_3 Z bs b0 b1 b2 b3 kc h0 n0 _ s₁.heap _
        rw [e0]
        exact ⟨by simp +decide [own_all, own_st, own_e2 hc20], N0, rfl⟩
    · skip
      refine own_step (s₁.setTop (mkF m 23 #[.val (.ref bs), .val (.int (2 : Int32)), .val (.int (3 : Int32)), .val (.int (2 : Int32))] [])) (fun t₀ k₀ => XS.icmpNo X0.here hx rfl (hb hby d3_20) rfl (feq hc20).1 k₀) ?_
      refine own_step (s₁.setTop (mkF m 26 #[.val (.ref bs), .val (.int (2 : Int32)), .val (.int (3 : Int32)), .val (.int (3 : Int32))] [])) (fun t₀ k₀ => XS.iinc X0.here hx rfl (hb hby d3_23) rfl (l' := #[.val (.ref bs), .val (.int (2 : Int32)), .val (.int (3 : Int32)), .val (.int (3 : Int32))]) rfl k₀) ?_
      refine own_step (s₁.setTop (mkF m 2 #[.val (.ref bs), .val (.int (2 : Int32)), .val (.int (3 : Int32)), .val (.int (3 : Int32))] [])) (fun t₀ k₀ => XS.goto X0.here hx rfl (pc0 := 26) (pc' := 2) rfl (hb hby d3_26) (by decide) (by decide) k₀) ?_
      refine own_step (s₁.setTop (mkF m 3 #[.val (.ref bs), .val (.int (2 : Int32)), .val (.int (3 : Int32)), .val (.int (3 : Int32))] [(.int (3 : Int32))])) (fun t₀ k₀ => XS.iloadN X0.here hx rfl (hb hby d3_2) rfl k₀) ?_
      refine own_step (s₁.setTop (mkF m 4 #[.val (.ref bs), .val (.int (2 : Int32)), .val (.int (3 : Int32)), .val (.int (3 : Int32))] [(.int (3 : Int32)), (.int (3 : Int32))])) (fun t₀ k₀ => XS.iloadN X0.here hx rfl (hb hby d3_3) rfl k₀) ?_
      refine own_step (s₁.setTop (mkF m 29 #[.val (.ref bs), .val (.int (2 : Int32)), .val (.int (3 : Int32)), .val (.int (3 : Int32))] [])) (fun t₀ k₀ => XS.icmpYes X0.here hx rfl (pc0 := 4) (pc' := 29) rfl (hb hby d3_4) rfl (by decide) (by decide) (by decide) k₀) ?_
      refine own_step (s₁.setTop (mkF m 30 #[.val (.ref bs), .val (.int (2 : Int32)), .val (.int (3 : Int32)), .val (.int (3 : Int32))] [(.int (3 : Int32))])) (fun t₀ k₀ => XS.iloadN X0.here hx rfl (hb hby d3_29) rfl k₀) ?_
      obtain ⟨fs, hr, hrun, hended, hW, hsame⟩ := X0.leave (v := some (.int (3 : Int32))) (fun h => by rw [Bd.returns] at h; cases h)
      refine ⟨_, _, ?_, hrun, hended, _, _, rfl, ?_, ⟨_, rfl⟩, hW, hsame.mono (by decide) (by decide)⟩
      · exact retI X0 hx Bd.returns (hb hby d3_30) hr
      · show Q_rm3_2_3 Z bs b0 b1 b2 b3 kc h0 n0 _ s₁.heap _
        rw [e0]
        exact ⟨by simp +decide [own_all, own_st, own_e0 hc12 hc20], N0, rfl⟩
theorem ef_rm3_2_4 (m : MethodId) (bs : Addr) : entryFrame m #[(.ref bs), (.int (2 : Int32)), (.int (4 : Int32))] 4 = mkF m 0 #[.val (.ref bs), .val (.int (2 : Int32)), .val (.int (4 : Int32)), .unset] [] := by first | (simp [entryFrame, mkF, argsToLocals, Value.category]; done) | rfl
def Q_rm3_2_4 (Z : State) (bs : Addr) (b0 : Int32) (b1 : Int32) (b2 : Int32) (b3 : Int32) (kc : ClassId) (h0 : Heap) (n0 : Nat) (v : Option Value) (h : Heap) (L : List Loc) : Prop := v = some (.int (own_all 2 4 b0 b1 b2 b3)) ∧ Fr n0 L ∧ h = h0
set_option maxRecDepth 65536 in
set_option maxHeartbeats 40000000 in
theorem rm3_2_4 (l : Launch) (Z : State) (a0 : Array Value) (hw : ∀ d ∈ tables_1, d.before a0 Z = true) (ws : List Jvm.Cond) (bs : Addr) (b0 : Int32) (b1 : Int32) (b2 : Int32) (b3 : Int32) (kc : ClassId) (h0 : Heap) (n0 : Nat) (Z0 : n0 ≤ h0.size) (Vb : Arv Z h0 bs kc .byte (4 : Int32) [(.int b0), (.int b1), (.int b2), (.int b3)] (.int (0 : Int32))) :
    MetFree l (⟨"com/example/labrelay/labrelay/model/SegmentMaker", "textEnd", "([BII)I"⟩ : MethodName) (head1 (Jvm.Cond.code (⟨"com/example/labrelay/labrelay/model/SegmentMaker", "textEnd", "([BII)I"⟩ : MethodName) prog_68_method_2_code 4 (some .int) :: ws) ({ frames := 0, cells := 0, slots := 0, locals := 0 } : Room)) (fun as₉ U => as₉ = #[(.ref bs), (.int (2 : Int32)), (.int (4 : Int32))] ∧ Z.Warmed39 U.vm ∧ U.heap = h0) (fun _ _ _ _ _ => True) (fun _ U o₉ U' => ∃ v L, o₉ = .returned v ∧ Q_rm3_2_4 Z bs b0 b1 b2 b3 kc h0 n0 v U'.heap L ∧ FrameEnd U o₉ U' L ({ frames := 0, cells := 0, slots := 0, locals := 0 } : Room).cells ({ frames := 0, cells := 0, slots := 0, locals := 0 } : Room).slots) := by
  refine MetFree.of_bodySF (plainFor_of_name pn_3) hisR ?_
  intro p e s m args below meth c s₁ Bd hml0 hP hK
  obtain ⟨rfl, hZ, hh⟩ := hP
  have hx := Bd.exec
  have hby := Bd.bytes
  have hml : c.maxLocals = 4 := hml0
  have hown : s.vm.findClass "com/example/labrelay/labrelay/model/SegmentMaker" = some m.cls := findClass_of_methodNamed Bd.named
  have hnm := (name_of_methodNamed Bd.named Bd.method).1
  have X0 : Stand p l e ({ frames := 0, cells := 0, slots := 0, locals := 0 } : Room) s m #[(.ref bs), (.int (2 : Int32)), (.int (4 : Int32))] below meth c s₁ [] 0 0 := Stand.of_body Bd
  have e0 : s₁.heap = h0 := by rw [← hh, Bd.state]; rfl
  have N0 := Fr.nil n0
  show own_Go p e below (fun s₂ o₉ => s₂.status = .running ∧ Ended s₂ below o₉ ∧ ∃ v L, o₉ = .returned v ∧ Q_rm3_2_4 Z bs b0 b1 b2 b3 kc h0 n0 v s₂.heap L ∧ FrameEnd s o₉ s₂ L ({ frames := 0, cells := 0, slots := 0, locals := 0 } : Room).cells ({ frames := 0, cells := 0, slots := 0, locals := 0 } : Room).slots) (s₁.setTop (entryFrame m #[(.ref bs), (.int (2 : Int32)), (.int (4 : Int32))] 4))
  rw [ef_rm3_2_4 m bs]
  refine own_step (s₁.setTop (mkF m 1 #[.val (.ref bs), .val (.int (2 : Int32)), .val (.int (4 : Int32)), .unset] [(.int (2 : Int32))])) (fun t₀ k₀ => XS.iloadN X0.here hx rfl (hb hby d3_0) rfl k₀) ?_
  refine own_step (s₁.setTop (mkF m 2 #[.val (.ref bs), .val (.int (2 : Int32)), .val (.int (4 : Int32)), .val (.int (2 : Int32))] [])) (fun t₀ k₀ => XS.istoreN X0.here hx rfl (hb hby d3_1) rfl (l' := #[.val (.ref bs), .val (.int (2 : Int32)), .val (.int (4 : Int32)), .val (.int (2 : Int32))]) rfl k₀) ?_
  refine own_step (s₁.setTop (mkF m 3 #[.val (.ref bs), .val (.int (2 : Int32)), .val (.int (4 : Int32)), .val (.int (2 : Int32))] [(.int (2 : Int32))])) (fun t₀ k₀ => XS.iloadN X0.here hx rfl (hb hby d3_2) rfl k₀) ?_
  refine own_step (s₁.setTop (mkF m 4 #[.val (.ref bs), .val (.int (2 : Int32)), .val (.int (4 : Int32)), .val (.int (2 : Int32))] [(.int (4 : Int32)), (.int (2 : Int32))])) (fun t₀ k₀ => XS.iloadN X0.here hx rfl (hb hby d3_3) rfl k₀) ?_
  refine own_step (s₁.setTop (mkF m 7 #[.val (.ref bs), .val (.int (2 : Int32)), .val (.int (4 : Int32)), .val (.int (2 : Int32))] [])) (fun t₀ k₀ => XS.icmpNo X0.here hx rfl (hb hby d3_4) rfl (by decide) k₀) ?_
  refine own_step (s₁.setTop (mkF m 8 #[.val (.ref bs), .val (.int (2 : Int32)), .val (.int (4 : Int32)), .val (.int (2 : Int32))] [(.ref bs)])) (fun t₀ k₀ => XS.aloadN X0.here hx rfl (hb hby d3_7) rfl rfl k₀) ?_
  refine own_step (s₁.setTop (mkF m 9 #[.val (.ref bs), .val (.int (2 : Int32)), .val (.int (4 : Int32)), .val (.int (2 : Int32))] [(.int (2 : Int32)), (.ref bs)])) (fun t₀ k₀ => XS.iloadN X0.here hx rfl (hb hby d3_8) rfl k₀) ?_
  obtain ⟨clo53, Aro53, qo53, So53, Mo53, Ho53, Go53⟩ := id Vb
  have hino53 : ¬ ((2 : Int32) < 0 ∨ clo53.slots.size ≤ ((2 : Int32)).toNatClampNeg) := inb_of So53 ⟨by decide, by decide⟩
  have hato53 : clo53.slots[((2 : Int32)).toNatClampNeg]? = some (.int b2) := Ho53 2 (by rw [So53]; decide)
  refine own_step (s₁.setTop (mkF m 10 #[.val (.ref bs), .val (.int (2 : Int32)), .val (.int (4 : Int32)), .val (.int (2 : Int32))] [(.int b2)])) (fun t₀ k₀ => X0.baloadBytes hx (j := (2 : Int32)) (v := (.int b2)) (by rw [e0]; exact Aro53.1) (State.isArrayOf_alike hZ.alike Aro53.2.1) Aro53.2.2 hino53 hato53 (g := (mkF m 9 #[.val (.ref bs), .val (.int (2 : Int32)), .val (.int (4 : Int32)), .val (.int (2 : Int32))] [(.int (2 : Int32)), (.ref bs)])) rfl rfl (hb hby d3_9) _ k₀) ?_
  refine own_step (s₁.setTop (mkF m 12 #[.val (.ref bs), .val (.int (2 : Int32)), .val (.int (4 : Int32)), .val (.int (2 : Int32))] [(.int (13 : Int32)), (.int b2)])) (fun t₀ k₀ => XS.bipush X0.here hx rfl (hb hby d3_10) k₀) ?_
  by_cases hc12 : b2 = (13 : Int32)
  · skip
    refine own_step (s₁.setTop (mkF m 29 #[.val (.ref bs), .val (.int (2 : Int32)), .val (.int (4 : Int32)), .val (.int (2 : Int32))] [])) (fun t₀ k₀ => XS.icmpYes X0.here hx rfl (pc0 := 12) (pc' := 29) rfl (hb hby d3_12) rfl (teq hc12).1 (by decide) (by decide) k₀) ?_
    refine own_step (s₁.setTop (mkF m 30 #[.val (.ref bs), .val (.int (2 : Int32)), .val (.int (4 : Int32)), .val (.int (2 : Int32))] [(.int (2 : Int32))])) (fun t₀ k₀ => XS.iloadN X0.here hx rfl (hb hby d3_29) rfl k₀) ?_
    obtain ⟨fs, hr, hrun, hended, hW, hsame⟩ := X0.leave (v := some (.int (2 : Int32))) (fun h => by rw [Bd.returns] at h; cases h)
    refine ⟨_, _, ?_, hrun, hended, _, _, rfl, ?_, ⟨_, rfl⟩, hW, hsame.mono (by decide) (by decide)⟩
    · exact retI X0 hx Bd.returns (hb hby d3_30) hr
    · show Q_rm3_2_4 Z bs b0 b1 b2 b3 kc h0 n0 _ s₁.heap _
      rw [e0]
      exact ⟨by simp +decide [own_all, own_st, own_e1 hc12], N0, rfl⟩
  · skip
    refine own_step (s₁.setTop (mkF m 15 #[.val (.ref bs), .val (.int (2 : Int32)), .val (.int (4 : Int32)), .val (.int (2 : Int32))] [])) (fun t₀ k₀ => XS.icmpNo X0.here hx rfl (hb hby d3_12) rfl (feq hc12).1 k₀) ?_
    refine own_step (s₁.setTop (mkF m 16 #[.val (.ref bs), .val (.int (2 : Int32)), .val (.int (4 : Int32)), .val (.int (2 : Int32))] [(.ref bs)])) (fun t₀ k₀ => XS.aloadN X0.here hx rfl (hb hby d3_15) rfl rfl k₀) ?_
    refine own_step (s₁.setTop (mkF m 17 #[.val (.ref bs), .val (.int (2 : Int32)), .val (.int (4 : Int32)), .val (.int (2 : Int32))] [(.int (2 : Int32)), (.ref bs)])) (fun t₀ k₀ => XS.iloadN X0.here hx rfl (hb hby d3_16) rfl k₀) ?_
    obtain ⟨clo54, Aro54, qo54, So54, Mo54, Ho54, Go54⟩ := id Vb
    have hino54 : ¬ ((2 : Int32) < 0 ∨ clo54.slots.size ≤ ((2 : Int32)).toNatClampNeg) := inb_of So54 ⟨by decide, by decide⟩
    have hato54 : clo54.slots[((2 : Int32)).toNatClampNeg]? = some (.int b2) := Ho54 2 (by rw [So54]; decide)
    refine own_step (s₁.setTop (mkF m 18 #[.val (.ref bs), .val (.int (2 : Int32)), .val (.int (4 : Int32)), .val (.int (2 : Int32))] [(.int b2)])) (fun t₀ k₀ => X0.baloadBytes hx (j := (2 : Int32)) (v := (.int b2)) (by rw [e0]; exact Aro54.1) (State.isArrayOf_alike hZ.alike Aro54.2.1) Aro54.2.2 hino54 hato54 (g := (mkF m 17 #[.val (.ref bs), .val (.int (2 : Int32)), .val (.int (4 : Int32)), .val (.int (2 : Int32))] [(.int (2 : Int32)), (.ref bs)])) rfl rfl (hb hby d3_17) _ k₀) ?_
    refine own_step (s₁.setTop (mkF m 20 #[.val (.ref bs), .val (.int (2 : Int32)), .val (.int (4 : Int32)), .val (.int (2 : Int32))] [(.int (10 : Int32)), (.int b2)])) (fun t₀ k₀ => XS.bipush X0.here hx rfl (hb hby d3_18) k₀) ?_
    by_cases hc20 : b2 = (10 : Int32)
    · skip
      refine own_step (s₁.setTop (mkF m 29 #[.val (.ref bs), .val (.int (2 : Int32)), .val (.int (4 : Int32)), .val (.int (2 : Int32))] [])) (fun t₀ k₀ => XS.icmpYes X0.here hx rfl (pc0 := 20) (pc' := 29) rfl (hb hby d3_20) rfl (teq hc20).1 (by decide) (by decide) k₀) ?_
      refine own_step (s₁.setTop (mkF m 30 #[.val (.ref bs), .val (.int (2 : Int32)), .val (.int (4 : Int32)), .val (.int (2 : Int32))] [(.int (2 : Int32))])) (fun t₀ k₀ => XS.iloadN X0.here hx rfl (hb hby d3_29) rfl k₀) ?_
      obtain ⟨fs, hr, hrun, hended, hW, hsame⟩ := X0.leave (v := some (.int (2 : Int32))) (fun h => by rw [Bd.returns] at h; cases h)
      refine ⟨_, _, ?_, hrun, hended, _, _, rfl, ?_, ⟨_, rfl⟩, hW, hsame.mono (by decide) (by decide)⟩
      · exact retI X0 hx Bd.returns (hb hby d3_30) hr
      · show Q_rm3_2_4 Z bs b0 b1 b2 b3 kc h0 n0 _ s₁.heap _
        rw [e0]
        exact ⟨by simp +decide [own_all, own_st, own_e2 hc20], N0, rfl⟩
    · skip
      refine own_step (s₁.setTop (mkF m 23 #[.val (.ref bs), .val (.int (2 : Int32)), .val (.int (4 : Int32)), .val (.int (2 : Int32))] [])) (fun t₀ k₀ => XS.icmpNo X0.here hx rfl (hb hby d3_20) rfl (feq hc20).1 k₀) ?_
      refine own_step (s₁.setTop (mkF m 26 #[.val (.ref bs), .val (.int (2 : Int32)), .val (.int (4 : Int32)), .val (.int (3 : Int32))] [])) (fun t₀ k₀ => XS.iinc X0.here hx rfl (hb hby d3_23) rfl (l' := #[.val (.ref bs), .val (.int (2 : Int32)), .val (.int (4 : Int32)), .val (.int (3 : Int32))]) rfl k₀) ?_
      refine own_step (s₁.setTop (mkF m 2 #[.val (.ref bs), .val (.int (2 : Int32)), .val (.int (4 : Int32)), .val (.int (3 : Int32))] [])) (fun t₀ k₀ => XS.goto X0.here hx rfl (pc0 := 26) (pc' := 2) rfl (hb hby d3_26) (by decide) (by decide) k₀) ?_
      refine own_step (s₁.setTop (mkF m 3 #[.val (.ref bs), .val (.int (2 : Int32)), .val (.int (4 : Int32)), .val (.int (3 : Int32))] [(.int (3 : Int32))])) (fun t₀ k₀ => XS.iloadN X0.here hx rfl (hb hby d3_2) rfl k₀) ?_
      refine own_step (s₁.setTop (mkF m 4 #[.val (.ref bs), .val (.int (2 : Int32)), .val (.int (4 : Int32)), .val (.int (3 : Int32))] [(.int (4 : Int32)), (.int (3 : Int32))])) (fun t₀ k₀ => XS.iloadN X0.here hx rfl (hb hby d3_3) rfl k₀) ?_
      refine own_step (s₁.setTop (mkF m 7 #[.val (.ref bs), .val (.int (2 : Int32)), .val (.int (4 : Int32)), .val (.int (3 : Int32))] [])) (fun t₀ k₀ => XS.icmpNo X0.here hx rfl (hb hby d3_4) rfl (by decide) k₀) ?_
      refine own_step (s₁.setTop (mkF m 8 #[.val (.ref bs), .val (.int (2 : Int32)), .val (.int (4 : Int32)), .val (.int (3 : Int32))] [(.ref bs)])) (fun t₀ k₀ => XS.aloadN X0.here hx rfl (hb hby d3_7) rfl rfl k₀) ?_
      refine own_step (s₁.setTop (mkF m 9 #[.val (.ref bs), .val (.int (2 : Int32)), .val (.int (4 : Int32)), .val (.int (3 : Int32))] [(.int (3 : Int32)), (.ref bs)])) (fun t₀ k₀ => XS.iloadN X0.here hx rfl (hb hby d3_8) rfl k₀) ?_
      obtain ⟨clo55, Aro55, qo55, So55, Mo55, Ho55, Go55⟩ := id Vb
      have hino55 : ¬ ((3 : Int32) < 0 ∨ clo55.slots.size ≤ ((3 : Int32)).toNatClampNeg) := inb_of So55 ⟨by decide, by decide⟩
      have hato55 : clo55.slots[((3 : Int32)).toNatClampNeg]? = some (.int b3) := Ho55 3 (by rw [So55]; decide)
      refine own_step (s₁.setTop (mkF m 10 #[.val (.ref bs), .val (.int (2 : Int32)), .val (.int (4 : Int32)), .val (.int (3 : Int32))] [(.int b3)])) (fun t₀ k₀ => X0.baloadBytes hx (j := (3 : Int32)) (v := (.int b3)) (by rw [e0]; exact Aro55.1) (State.isArrayOf_alike hZ.alike Aro55.2.1) Aro55.2.2 hino55 hato55 (g := (mkF m 9 #[.val (.ref bs), .val (.int (2 : Int32)), .val (.int (4 : Int32)), .val (.int (3 : Int32))] [(.int (3 : Int32)), (.ref bs)])) rfl rfl (hb hby d3_9) _ k₀) ?_
      refine own_step (s₁.setTop (mkF m 12 #[.val (.ref bs), .val (.int (2 : Int32)), .val (.int (4 : Int32)), .val (.int (3 : Int32))] [(.int (13 : Int32)), (.int b3)])) (fun t₀ k₀ => XS.bipush X0.here hx rfl (hb hby d3_10) k₀) ?_
      by_cases hc12_56 : b3 = (13 : Int32)
      · skip
        refine own_step (s₁.setTop (mkF m 29 #[.val (.ref bs), .val (.int (2 : Int32)), .val (.int (4 : Int32)), .val (.int (3 : Int32))] [])) (fun t₀ k₀ => XS.icmpYes X0.here hx rfl (pc0 := 12) (pc' := 29) rfl (hb hby d3_12) rfl (teq hc12_56).1 (by decide) (by decide) k₀) ?_
        refine own_step (s₁.setTop (mkF m 30 #[.val (.ref bs), .val (.int (2 : Int32)), .val (.int (4 : Int32)), .val (.int (3 : Int32))] [(.int (3 : Int32))])) (fun t₀ k₀ => XS.iloadN X0.here hx rfl (hb hby d3_29) rfl k₀) ?_
        obtain ⟨fs, hr, hrun, hended, hW, hsame⟩ := X0.leave (v := some (.int (3 : Int32))) (fun h => by rw [Bd.returns] at h; cases h)
        refine ⟨_, _, ?_, hrun, hended, _, _, rfl, ?_, ⟨_, rfl⟩, hW, hsame.mono (by decide) (by decide)⟩
        · exact retI X0 hx Bd.returns (hb hby d3_30) hr
        · show Q_rm3_2_4 Z bs b0 b1 b2 b3 kc h0 n0 _ s₁.heap _
          rw [e0]
          exact ⟨by simp +decide [own_all, own_st, own_e0 hc12 hc20, own_e1 hc12_56], N0, rfl⟩
      · skip
        refine own_step (s₁.setTop (mkF m 15 #[.val (.ref bs), .val (.int (2 : Int32)), .val (.int (4 : Int32)), .val (.int (3 : Int32))] [])) (fun t₀ k₀ => XS.icmpNo X0.here hx rfl (hb hby d3_12) rfl (feq hc12_56).1 k₀) ?_
        refine own_step (s₁.setTop (mkF m 16 #[.val (.ref bs), .val (.int (2 : Int32)), .val (.int (4 : Int32)), .val (.int (3 : Int32))] [(.ref bs)])) (fun t₀ k₀ => XS.aloadN X0.here hx rfl (hb hby d3_15) rfl rfl k₀) ?_
        refine own_step (s₁.setTop (mkF m 17 #[.val (.ref bs), .val (.int (2 : Int32)), .val (.int (4 : Int32)), .val (.int (3 : Int32))] [(.int (3 : Int32)), (.ref bs)])) (fun t₀ k₀ => XS.iloadN X0.here hx rfl (hb hby d3_16) rfl k₀) ?_
        obtain ⟨clo57, Aro57, qo57, So57, Mo57, Ho57, Go57⟩ := id Vb
        have hino57 : ¬ ((3 : Int32) < 0 ∨ clo57.slots.size ≤ ((3 : Int32)).toNatClampNeg) := inb_of So57 ⟨by decide, by decide⟩
        have hato57 : clo57.slots[((3 : Int32)).toNatClampNeg]? = some (.int b3) := Ho57 3 (by rw [So57]; decide)
        refine own_step (s₁.setTop (mkF m 18 #[.val (.ref bs), .val (.int (2 : Int32)), .val (.int (4 : Int32)), .val (.int (3 : Int32))] [(.int b3)])) (fun t₀ k₀ => X0.baloadBytes hx (j := (3 : Int32)) (v := (.int b3)) (by rw [e0]; exact Aro57.1) (State.isArrayOf_alike hZ.alike Aro57.2.1) Aro57.2.2 hino57 hato57 (g := (mkF m 17 #[.val (.ref bs), .val (.int (2 : Int32)), .val (.int (4 : Int32)), .val (.int (3 : Int32))] [(.int (3 : Int32)), (.ref bs)])) rfl rfl (hb hby d3_17) _ k₀) ?_
        refine own_step (s₁.setTop (mkF m 20 #[.val (.ref bs), .val (.int (2 : Int32)), .val (.int (4 : Int32)), .val (.int (3 : Int32))] [(.int (10 : Int32)), (.int b3)])) (fun t₀ k₀ => XS.bipush X0.here hx rfl (hb hby d3_18) k₀) ?_
        by_cases hc20_58 : b3 = (10 : Int32)
        · skip
          refine own_step (s₁.setTop (mkF m 29 #[.val (.ref bs), .val (.int (2 : Int32)), .val (.int (4 : Int32)), .val (.int (3 : Int32))] [])) (fun t₀ k₀ => XS.icmpYes X0.here hx rfl (pc0 := 20) (pc' := 29) rfl (hb hby d3_20) rfl (teq hc20_58).1 (by decide) (by decide) k₀) ?_
          refine own_step (s₁.setTop (mkF m 30 #[.val (.ref bs), .val (.int (2 : Int32)), .val (.int (4 : Int32)), .val (.int (3 : Int32))] [(.int (3 : Int32))])) (fun t₀ k₀ => XS.iloadN X0.here hx rfl (hb hby d3_29) rfl k₀) ?_
          obtain ⟨fs, hr, hrun, hended, hW, hsame⟩ := X0.leave (v := some (.int (3 : Int32))) (fun h => by rw [Bd.returns] at h; cases h)
          refine ⟨_, _, ?_, hrun, hended, _, _, rfl, ?_, ⟨_, rfl⟩, hW, hsame.mono (by decide) (by decide)⟩
          · exact retI X0 hx Bd.returns (hb hby d3_30) hr
          · show Q_rm3_2_4 Z bs b0 b1 b2 b3 kc h0 n0 _ s₁.heap _
            rw [e0]
            exact ⟨by simp +decide [own_all, own_st, own_e0 hc12 hc20, own_e2 hc20_58], N0, rfl⟩
        · skip
          refine own_step (s₁.setTop (mkF m 23 #[.val (.ref bs), .val (.int (2 : Int32)), .val (.int (4 : Int32)), .val (.int (3 : Int32))] [])) (fun t₀ k₀ => XS.icmpNo X0.here hx rfl (hb hby d3_20) rfl (feq hc20_58).1 k₀) ?_
          refine own_step (s₁.setTop (mkF m 26 #[.val (.ref bs), .val (.int (2 : Int32)), .val (.int (4 : Int32)), .val (.int (4 : Int32))] [])) (fun t₀ k₀ => XS.iinc X0.here hx rfl (hb hby d3_23) rfl (l' := #[.val (.ref bs), .val (.int (2 : Int32)), .val (.int (4 : Int32)), .val (.int (4 : Int32))]) rfl k₀) ?_
          refine own_step (s₁.setTop (mkF m 2 #[.val (.ref bs), .val (.int (2 : Int32)), .val (.int (4 : Int32)), .val (.int (4 : Int32))] [])) (fun t₀ k₀ => XS.goto X0.here hx rfl (pc0 := 26) (pc' := 2) rfl (hb hby d3_26) (by decide) (by decide) k₀) ?_
          refine own_step (s₁.setTop (mkF m 3 #[.val (.ref bs), .val (.int (2 : Int32)), .val (.int (4 : Int32)), .val (.int (4 : Int32))] [(.int (4 : Int32))])) (fun t₀ k₀ => XS.iloadN X0.here hx rfl (hb hby d3_2) rfl k₀) ?_
          refine own_step (s₁.setTop (mkF m 4 #[.val (.ref bs), .val (.int (2 : Int32)), .val (.int (4 : Int32)), .val (.int (4 : Int32))] [(.int (4 : Int32)), (.int (4 : Int32))])) (fun t₀ k₀ => XS.iloadN X0.here hx rfl (hb hby d3_3) rfl k₀) ?_
          refine own_step (s₁.setTop (mkF m 29 #[.val (.ref bs), .val (.int (2 : Int32)), .val (.int (4 : Int32)), .val (.int (4 : Int32))] [])) (fun t₀ k₀ => XS.icmpYes X0.here hx rfl (pc0 := 4) (pc' := 29) rfl (hb hby d3_4) rfl (by decide) (by decide) (by decide) k₀) ?_
          refine own_step (s₁.setTop (mkF m 30 #[.val (.ref bs), .val (.int (2 : Int32)), .val (.int (4 : Int32)), .val (.int (4 : Int32))] [(.int (4 : Int32))])) (fun t₀ k₀ => XS.iloadN X0.here hx rfl (hb hby d3_29) rfl k₀) ?_
          obtain ⟨fs, hr, hrun, hended, hW, hsame⟩ := X0.leave (v := some (.int (4 : Int32))) (fun h => by rw [Bd.returns] at h; cases h)
          refine ⟨_, _, ?_, hrun, hended, _, _, rfl, ?_, ⟨_, rfl⟩, hW, hsame.mono (by decide) (by decide)⟩
          · exact retI X0 hx Bd.returns (hb hby d3_30) hr
          · show Q_rm3_2_4 Z bs b0 b1 b2 b3 kc h0 n0 _ s₁.heap _
            rw [e0]
            exact ⟨by simp +decide [own_all, own_st, own_e0 hc12 hc20, own_e0 hc12_56 hc20_58], N0, rfl⟩
theorem ef_rm3_3_3 (m : MethodId) (bs : Addr) : entryFrame m #[(.ref bs), (.int (3 : Int32)), (.int (3 : Int32))] 4 = mkF m 0 #[.val (.ref bs), .val (.int (3 : Int32)), .val (.int (3 : Int32)), .unset] [] := by first | (simp [entryFrame, mkF, argsToLocals, Value.category]; done) | rfl
def Q_rm3_3_3 (Z : State) (bs : Addr) (b0 : Int32) (b1 : Int32) (b2 : Int32) (b3 : Int32) (kc : ClassId) (h0 : Heap) (n0 : Nat) (v : Option Value) (h : Heap) (L : List Loc) : Prop := v = some (.int (own_all 3 3 b0 b1 b2 b3)) ∧ Fr n0 L ∧ h = h0
set_option maxRecDepth 65536 in
set_option maxHeartbeats 40000000 in
theorem rm3_3_3 (l : Launch) (Z : State) (a0 : Array Value) (hw : ∀ d ∈ tables_1, d.before a0 Z = true) (ws : List Jvm.Cond) (bs : Addr) (b0 : Int32) (b1 : Int32) (b2 : Int32) (b3 : Int32) (kc : ClassId) (h0 : Heap) (n0 : Nat) (Z0 : n0 ≤ h0.size) (Vb : Arv Z h0 bs kc .byte (4 : Int32) [(.int b0), (.int b1), (.int b2), (.int b3)] (.int (0 : Int32))) :
    MetFree l (⟨"com/example/labrelay/labrelay/model/SegmentMaker", "textEnd", "([BII)I"⟩ : MethodName) (head1 (Jvm.Cond.code (⟨"com/example/labrelay/labrelay/model/SegmentMaker", "textEnd", "([BII)I"⟩ : MethodName) prog_68_method_2_code 4 (some .int) :: ws) ({ frames := 0, cells := 0, slots := 0, locals := 0 } : Room)) (fun as₉ U => as₉ = #[(.ref bs), (.int (3 : Int32)), (.int (3 : Int32))] ∧ Z.Warmed39 U.vm ∧ U.heap = h0) (fun _ _ _ _ _ => True) (fun _ U o₉ U' => ∃ v L, o₉ = .returned v ∧ Q_rm3_3_3 Z bs b0 b1 b2 b3 kc h0 n0 v U'.heap L ∧ FrameEnd U o₉ U' L ({ frames := 0, cells := 0, slots := 0, locals := 0 } : Room).cells ({ frames := 0, cells := 0, slots := 0, locals := 0 } : Room).slots) := by
  refine MetFree.of_bodySF (plainFor_of_name pn_3) hisR ?_
  intro p e s m args below meth c s₁ Bd hml0 hP hK
  obtain ⟨rfl, hZ, hh⟩ := hP
  have hx := Bd.exec
  have hby := Bd.bytes
  have hml : c.maxLocals = 4 := hml0
  have hown : s.vm.findClass "com/example/labrelay/labrelay/model/SegmentMaker" = some m.cls := findClass_of_methodNamed Bd.named
  have hnm := (name_of_methodNamed Bd.named Bd.method).1
  have X0 : Stand p l e ({ frames := 0, cells := 0, slots := 0, locals := 0 } : Room) s m #[(.ref bs), (.int (3 : Int32)), (.int (3 : Int32))] below meth c s₁ [] 0 0 := Stand.of_body Bd
  have e0 : s₁.heap = h0 := by rw [← hh, Bd.state]; rfl
  have N0 := Fr.nil n0
  show own_Go p e below (fun s₂ o₉ => s₂.status = .running ∧ Ended s₂ below o₉ ∧ ∃ v L, o₉ = .returned v ∧ Q_rm3_3_3 Z bs b0 b1 b2 b3 kc h0 n0 v s₂.heap L ∧ FrameEnd s o₉ s₂ L ({ frames := 0, cells := 0, slots := 0, locals := 0 } : Room).cells ({ frames := 0, cells := 0, slots := 0, locals := 0 } : Room).slots) (s₁.setTop (entryFrame m #[(.ref bs), (.int (3 : Int32)), (.int (3 : Int32))] 4))
  rw [ef_rm3_3_3 m bs]
  refine own_step (s₁.setTop (mkF m 1 #[.val (.ref bs), .val (.int (3 : Int32)), .val (.int (3 : Int32)), .unset] [(.int (3 : Int32))])) (fun t₀ k₀ => XS.iloadN X0.here hx rfl (hb hby d3_0) rfl k₀) ?_
  refine own_step (s₁.setTop (mkF m 2 #[.val (.ref bs), .val (.int (3 : Int32)), .val (.int (3 : Int32)), .val (.int (3 : Int32))] [])) (fun t₀ k₀ => XS.istoreN X0.here hx rfl (hb hby d3_1) rfl (l' := #[.val (.ref bs), .val (.int (3 : Int32)), .val (.int (3 : Int32)), .val (.int (3 : Int32))]) rfl k₀) ?_
  refine own_step (s₁.setTop (mkF m 3 #[.val (.ref bs), .val (.int (3 : Int32)), .val (.int (3 : Int32)), .val (.int (3 : Int32))] [(.int (3 : Int32))])) (fun t₀ k₀ => XS.iloadN X0.here hx rfl (hb hby d3_2) rfl k₀) ?_
  refine own_step (s₁.setTop (mkF m 4 #[.val (.ref bs), .val (.int (3 : Int32)), .val (.int (3 : Int32)), .val (.int (3 : Int32))] [(.int (3 : Int32)), (.int (3 : Int32))])) (fun t₀ k₀ => XS.iloadN X0.here hx rfl (hb hby d3_3) rfl k₀) ?_
  refine own_step (s₁.setTop (mkF m 29 #[.val (.ref bs), .val (.int (3 : Int32)), .val (.int (3 : Int32)), .val (.int (3 : Int32))] [])) (fun t₀ k₀ => XS.icmpYes X0.here hx rfl (pc0 := 4) (pc' := 29) rfl (hb hby d3_4) rfl (by decide) (by decide) (by decide) k₀) ?_
  refine own_step (s₁.setTop (mkF m 30 #[.val (.ref bs), .val (.int (3 : Int32)), .val (.int (3 : Int32)), .val (.int (3 : Int32))] [(.int (3 : Int32))])) (fun t₀ k₀ => XS.iloadN X0.here hx rfl (hb hby d3_29) rfl k₀) ?_
  obtain ⟨fs, hr, hrun, hended, hW, hsame⟩ := X0.leave (v := some (.int (3 : Int32))) (fun h => by rw [Bd.returns] at h; cases h)
  refine ⟨_, _, ?_, hrun, hended, _, _, rfl, ?_, ⟨_, rfl⟩, hW, hsame.mono (by decide) (by decide)⟩
  · exact retI X0 hx Bd.returns (hb hby d3_30) hr
  · show Q_rm3_3_3 Z bs b0 b1 b2 b3 kc h0 n0 _ s₁.heap _
    rw [e0]
    exact ⟨by simp +decide [own_all, own_st], N0, rfl⟩
theorem ef_rm3_3_4 (m : MethodId) (bs : Addr) : entryFrame m #[(.ref bs), (.int (3 : Int32)), (.int (4 : Int32))] 4 = mkF m 0 #[.val (.ref bs), .val (.int (3 : Int32)), .val (.int (4 : Int32)), .unset] [] := by first | (simp [entryFrame, mkF, argsToLocals, Value.category]; done) | rfl
def Q_rm3_3_4 (Z : State) (bs : Addr) (b0 : Int32) (b1 : Int32) (b2 : Int32) (b3 : Int32) (kc : ClassId) (h0 : Heap) (n0 : Nat) (v : Option Value) (h : Heap) (L : List Loc) : Prop := v = some (.int (own_all 3 4 b0 b1 b2 b3)) ∧ Fr n0 L ∧ h = h0
set_option maxRecDepth 65536 in
set_option maxHeartbeats 40000000 in
theorem rm3_3_4 (l : Launch) (Z : State) (a0 : Array Value) (hw : ∀ d ∈ tables_1, d.before a0 Z = true) (ws : List Jvm.Cond) (bs : Addr) (b0 : Int32) (b1 : Int32) (b2 : Int32) (b3 : Int32) (kc : ClassId) (h0 : Heap) (n0 : Nat) (Z0 : n0 ≤ h0.size) (Vb : Arv Z h0 bs kc .byte (4 : Int32) [(.int b0), (.int b1), (.int b2), (.int b3)] (.int (0 : Int32))) :
    MetFree l (⟨"com/example/labrelay/labrelay/model/SegmentMaker", "textEnd", "([BII)I"⟩ : MethodName) (head1 (Jvm.Cond.code (⟨"com/example/labrelay/labrelay/model/SegmentMaker", "textEnd", "([BII)I"⟩ : MethodName) prog_68_method_2_code 4 (some .int) :: ws) ({ frames := 0, cells := 0, slots := 0, locals := 0 } : Room)) (fun as₉ U => as₉ = #[(.ref bs), (.int (3 : Int32)), (.int (4 : Int32))] ∧ Z.Warmed39 U.vm ∧ U.heap = h0) (fun _ _ _ _ _ => True) (fun _ U o₉ U' => ∃ v L, o₉ = .returned v ∧ Q_rm3_3_4 Z bs b0 b1 b2 b3 kc h0 n0 v U'.heap L ∧ FrameEnd U o₉ U' L ({ frames := 0, cells := 0, slots := 0, locals := 0 } : Room).cells ({ frames := 0, cells := 0, slots := 0, locals := 0 } : Room).slots) := by
  refine MetFree.of_bodySF (plainFor_of_name pn_3) hisR ?_
  intro p e s m args below meth c s₁ Bd hml0 hP hK
  obtain ⟨rfl, hZ, hh⟩ := hP
  have hx := Bd.exec
  have hby := Bd.bytes
  have hml : c.maxLocals = 4 := hml0
  have hown : s.vm.findClass "com/example/labrelay/labrelay/model/SegmentMaker" = some m.cls := findClass_of_methodNamed Bd.named
  have hnm := (name_of_methodNamed Bd.named Bd.method).1
  have X0 : Stand p l e ({ frames := 0, cells := 0, slots := 0, locals := 0 } : Room) s m #[(.ref bs), (.int (3 : Int32)), (.int (4 : Int32))] below meth c s₁ [] 0 0 := Stand.of_body Bd
  have e0 : s₁.heap = h0 := by rw [← hh, Bd.state]; rfl
  have N0 := Fr.nil n0
  show own_Go p e below (fun s₂ o₉ => s₂.status = .running ∧ Ended s₂ below o₉ ∧ ∃ v L, o₉ = .returned v ∧ Q_rm3_3_4 Z bs b0 b1 b2 b3 kc h0 n0 v s₂.heap L ∧ FrameEnd s o₉ s₂ L ({ frames := 0, cells := 0, slots := 0, locals := 0 } : Room).cells ({ frames := 0, cells := 0, slots := 0, locals := 0 } : Room).slots) (s₁.setTop (entryFrame m #[(.ref bs), (.int (3 : Int32)), (.int (4 : Int32))] 4))
  rw [ef_rm3_3_4 m bs]
  refine own_step (s₁.setTop (mkF m 1 #[.val (.ref bs), .val (.int (3 : Int32)), .val (.int (4 : Int32)), .unset] [(.int (3 : Int32))])) (fun t₀ k₀ => XS.iloadN X0.here hx rfl (hb hby d3_0) rfl k₀) ?_
  refine own_step (s₁.setTop (mkF m 2 #[.val (.ref bs), .val (.int (3 : Int32)), .val (.int (4 : Int32)), .val (.int (3 : Int32))] [])) (fun t₀ k₀ => XS.istoreN X0.here hx rfl (hb hby d3_1) rfl (l' := #[.val (.ref bs), .val (.int (3 : Int32)), .val (.int (4 : Int32)), .val (.int (3 : Int32))]) rfl k₀) ?_
  refine own_step (s₁.setTop (mkF m 3 #[.val (.ref bs), .val (.int (3 : Int32)), .val (.int (4 : Int32)), .val (.int (3 : Int32))] [(.int (3 : Int32))])) (fun t₀ k₀ => XS.iloadN X0.here hx rfl (hb hby d3_2) rfl k₀) ?_
  refine own_step (s₁.setTop (mkF m 4 #[.val (.ref bs), .val (.int (3 : Int32)), .val (.int (4 : Int32)), .val (.int (3 : Int32))] [(.int (4 : Int32)), (.int (3 : Int32))])) (fun t₀ k₀ => XS.iloadN X0.here hx rfl (hb hby d3_3) rfl k₀) ?_
  refine own_step (s₁.setTop (mkF m 7 #[.val (.ref bs), .val (.int (3 : Int32)), .val (.int (4 : Int32)), .val (.int (3 : Int32))] [])) (fun t₀ k₀ => XS.icmpNo X0.here hx rfl (hb hby d3_4) rfl (by decide) k₀) ?_
  refine own_step (s₁.setTop (mkF m 8 #[.val (.ref bs), .val (.int (3 : Int32)), .val (.int (4 : Int32)), .val (.int (3 : Int32))] [(.ref bs)])) (fun t₀ k₀ => XS.aloadN X0.here hx rfl (hb hby d3_7) rfl rfl k₀) ?_
  refine own_step (s₁.setTop (mkF m 9 #[.val (.ref bs), .val (.int (3 : Int32)), .val (.int (4 : Int32)), .val (.int (3 : Int32))] [(.int (3 : Int32)), (.ref bs)])) (fun t₀ k₀ => XS.iloadN X0.here hx rfl (hb hby d3_8) rfl k₀) ?_
  obtain ⟨clo59, Aro59, qo59, So59, Mo59, Ho59, Go59⟩ := id Vb
  have hino59 : ¬ ((3 : Int32) < 0 ∨ clo59.slots.size ≤ ((3 : Int32)).toNatClampNeg) := inb_of So59 ⟨by decide, by decide⟩
  have hato59 : clo59.slots[((3 : Int32)).toNatClampNeg]? = some (.int b3) := Ho59 3 (by rw [So59]; decide)
  refine own_step (s₁.setTop (mkF m 10 #[.val (.ref bs), .val (.int (3 : Int32)), .val (.int (4 : Int32)), .val (.int (3 : Int32))] [(.int b3)])) (fun t₀ k₀ => X0.baloadBytes hx (j := (3 : Int32)) (v := (.int b3)) (by rw [e0]; exact Aro59.1) (State.isArrayOf_alike hZ.alike Aro59.2.1) Aro59.2.2 hino59 hato59 (g := (mkF m 9 #[.val (.ref bs), .val (.int (3 : Int32)), .val (.int (4 : Int32)), .val (.int (3 : Int32))] [(.int (3 : Int32)), (.ref bs)])) rfl rfl (hb hby d3_9) _ k₀) ?_
  refine own_step (s₁.setTop (mkF m 12 #[.val (.ref bs), .val (.int (3 : Int32)), .val (.int (4 : Int32)), .val (.int (3 : Int32))] [(.int (13 : Int32)), (.int b3)])) (fun t₀ k₀ => XS.bipush X0.here hx rfl (hb hby d3_10) k₀) ?_
  by_cases hc12 : b3 = (13 : Int32)
  · skip
    refine own_step (s₁.setTop (mkF m 29 #[.val (.ref bs), .val (.int (3 : Int32)), .val (.int (4 : Int32)), .val (.int (3 : Int32))] [])) (fun t₀ k₀ => XS.icmpYes X0.here hx rfl (pc0 := 12) (pc' := 29) rfl (hb hby d3_12) rfl (teq hc12).1 (by decide) (by decide) k₀) ?_
    refine own_step (s₁.setTop (mkF m 30 #[.val (.ref bs), .val (.int (3 : Int32)), .val (.int (4 : Int32)), .val (.int (3 : Int32))] [(.int (3 : Int32))])) (fun t₀ k₀ => XS.iloadN X0.here hx rfl (hb hby d3_29) rfl k₀) ?_
    obtain ⟨fs, hr, hrun, hended, hW, hsame⟩ := X0.leave (v := some (.int (3 : Int32))) (fun h => by rw [Bd.returns] at h; cases h)
    refine ⟨_, _, ?_, hrun, hended, _, _, rfl, ?_, ⟨_, rfl⟩, hW, hsame.mono (by decide) (by decide)⟩
    · exact retI X0 hx Bd.returns (hb hby d3_30) hr
    · show Q_rm3_3_4 Z bs b0 b1 b2 b3 kc h0 n0 _ s₁.heap _
      rw [e0]
      exact ⟨by simp +decide [own_all, own_st, own_e1 hc12], N0, rfl⟩
  · skip
    refine own_step (s₁.setTop (mkF m 15 #[.val (.ref bs), .val (.int (3 : Int32)), .val (.int (4 : Int32)), .val (.int (3 : Int32))] [])) (fun t₀ k₀ => XS.icmpNo X0.here hx rfl (hb hby d3_12) rfl (feq hc12).1 k₀) ?_
    refine own_step (s₁.setTop (mkF m 16 #[.val (.ref bs), .val (.int (3 : Int32)), .val (.int (4 : Int32)), .val (.int (3 : Int32))] [(.ref bs)])) (fun t₀ k₀ => XS.aloadN X0.here hx rfl (hb hby d3_15) rfl rfl k₀) ?_
    refine own_step (s₁.setTop (mkF m 17 #[.val (.ref bs), .val (.int (3 : Int32)), .val (.int (4 : Int32)), .val (.int (3 : Int32))] [(.int (3 : Int32)), (.ref bs)])) (fun t₀ k₀ => XS.iloadN X0.here hx rfl (hb hby d3_16) rfl k₀) ?_
    obtain ⟨clo60, Aro60, qo60, So60, Mo60, Ho60, Go60⟩ := id Vb
    have hino60 : ¬ ((3 : Int32) < 0 ∨ clo60.slots.size ≤ ((3 : Int32)).toNatClampNeg) := inb_of So60 ⟨by decide, by decide⟩
    have hato60 : clo60.slots[((3 : Int32)).toNatClampNeg]? = some (.int b3) := Ho60 3 (by rw [So60]; decide)
    refine own_step (s₁.setTop (mkF m 18 #[.val (.ref bs), .val (.int (3 : Int32)), .val (.int (4 : Int32)), .val (.int (3 : Int32))] [(.int b3)])) (fun t₀ k₀ => X0.baloadBytes hx (j := (3 : Int32)) (v := (.int b3)) (by rw [e0]; exact Aro60.1) (State.isArrayOf_alike hZ.alike Aro60.2.1) Aro60.2.2 hino60 hato60 (g := (mkF m 17 #[.val (.ref bs), .val (.int (3 : Int32)), .val (.int (4 : Int32)), .val (.int (3 : Int32))] [(.int (3 : Int32)), (.ref bs)])) rfl rfl (hb hby d3_17) _ k₀) ?_
    refine own_step (s₁.setTop (mkF m 20 #[.val (.ref bs), .val (.int (3 : Int32)), .val (.int (4 : Int32)), .val (.int (3 : Int32))] [(.int (10 : Int32)), (.int b3)])) (fun t₀ k₀ => XS.bipush X0.here hx rfl (hb hby d3_18) k₀) ?_
    by_cases hc20 : b3 = (10 : Int32)
    · skip
      refine own_step (s₁.setTop (mkF m 29 #[.val (.ref bs), .val (.int (3 : Int32)), .val (.int (4 : Int32)), .val (.int (3 : Int32))] [])) (fun t₀ k₀ => XS.icmpYes X0.here hx rfl (pc0 := 20) (pc' := 29) rfl (hb hby d3_20) rfl (teq hc20).1 (by decide) (by decide) k₀) ?_
      refine own_step (s₁.setTop (mkF m 30 #[.val (.ref bs), .val (.int (3 : Int32)), .val (.int (4 : Int32)), .val (.int (3 : Int32))] [(.int (3 : Int32))])) (fun t₀ k₀ => XS.iloadN X0.here hx rfl (hb hby d3_29) rfl k₀) ?_
      obtain ⟨fs, hr, hrun, hended, hW, hsame⟩ := X0.leave (v := some (.int (3 : Int32))) (fun h => by rw [Bd.returns] at h; cases h)
      refine ⟨_, _, ?_, hrun, hended, _, _, rfl, ?_, ⟨_, rfl⟩, hW, hsame.mono (by decide) (by decide)⟩
      · exact retI X0 hx Bd.returns (hb hby d3_30) hr
      · show Q_rm3_3_4 Z bs b0 b1 b2 b3 kc h0 n0 _ s₁.heap _
        rw [e0]
        exact ⟨by simp +decide [own_all, own_st, own_e2 hc20], N0, rfl⟩
    · skip
      refine own_step (s₁.setTop (mkF m 23 #[.val (.ref bs), .val (.int (3 : Int32)), .val (.int (4 : Int32)), .val (.int (3 : Int32))] [])) (fun t₀ k₀ => XS.icmpNo X0.here hx rfl (hb hby d3_20) rfl (feq hc20).1 k₀) ?_
      refine own_step (s₁.setTop (mkF m 26 #[.val (.ref bs), .val (.int (3 : Int32)), .val (.int (4 : Int32)), .val (.int (4 : Int32))] [])) (fun t₀ k₀ => XS.iinc X0.here hx rfl (hb hby d3_23) rfl (l' := #[.val (.ref bs), .val (.int (3 : Int32)), .val (.int (4 : Int32)), .val (.int (4 : Int32))]) rfl k₀) ?_
      refine own_step (s₁.setTop (mkF m 2 #[.val (.ref bs), .val (.int (3 : Int32)), .val (.int (4 : Int32)), .val (.int (4 : Int32))] [])) (fun t₀ k₀ => XS.goto X0.here hx rfl (pc0 := 26) (pc' := 2) rfl (hb hby d3_26) (by decide) (by decide) k₀) ?_
      refine own_step (s₁.setTop (mkF m 3 #[.val (.ref bs), .val (.int (3 : Int32)), .val (.int (4 : Int32)), .val (.int (4 : Int32))] [(.int (4 : Int32))])) (fun t₀ k₀ => XS.iloadN X0.here hx rfl (hb hby d3_2) rfl k₀) ?_
      refine own_step (s₁.setTop (mkF m 4 #[.val (.ref bs), .val (.int (3 : Int32)), .val (.int (4 : Int32)), .val (.int (4 : Int32))] [(.int (4 : Int32)), (.int (4 : Int32))])) (fun t₀ k₀ => XS.iloadN X0.here hx rfl (hb hby d3_3) rfl k₀) ?_
      refine own_step (s₁.setTop (mkF m 29 #[.val (.ref bs), .val (.int (3 : Int32)), .val (.int (4 : Int32)), .val (.int (4 : Int32))] [])) (fun t₀ k₀ => XS.icmpYes X0.here hx rfl (pc0 := 4) (pc' := 29) rfl (hb hby d3_4) rfl (by decide) (by decide) (by decide) k₀) ?_
      refine own_step (s₁.setTop (mkF m 30 #[.val (.ref bs), .val (.int (3 : Int32)), .val (.int (4 : Int32)), .val (.int (4 : Int32))] [(.int (4 : Int32))])) (fun t₀ k₀ => XS.iloadN X0.here hx rfl (hb hby d3_29) rfl k₀) ?_
      obtain ⟨fs, hr, hrun, hended, hW, hsame⟩ := X0.leave (v := some (.int (4 : Int32))) (fun h => by rw [Bd.returns] at h; cases h)
      refine ⟨_, _, ?_, hrun, hended, _, _, rfl, ?_, ⟨_, rfl⟩, hW, hsame.mono (by decide) (by decide)⟩
      · exact retI X0 hx Bd.returns (hb hby d3_30) hr
      · show Q_rm3_3_4 Z bs b0 b1 b2 b3 kc h0 n0 _ s₁.heap _
        rw [e0]
        exact ⟨by simp +decide [own_all, own_st, own_e0 hc12 hc20], N0, rfl⟩
theorem ef_rm3_4_4 (m : MethodId) (bs : Addr) : entryFrame m #[(.ref bs), (.int (4 : Int32)), (.int (4 : Int32))] 4 = mkF m 0 #[.val (.ref bs), .val (.int (4 : Int32)), .val (.int (4 : Int32)), .unset] [] := by first | (simp [entryFrame, mkF, argsToLocals, Value.category]; done) | rfl
def Q_rm3_4_4 (Z : State) (bs : Addr) (b0 : Int32) (b1 : Int32) (b2 : Int32) (b3 : Int32) (kc : ClassId) (h0 : Heap) (n0 : Nat) (v : Option Value) (h : Heap) (L : List Loc) : Prop := v = some (.int (own_all 4 4 b0 b1 b2 b3)) ∧ Fr n0 L ∧ h = h0
set_option maxRecDepth 65536 in
set_option maxHeartbeats 40000000 in
theorem rm3_4_4 (l : Launch) (Z : State) (a0 : Array Value) (hw : ∀ d ∈ tables_1, d.before a0 Z = true) (ws : List Jvm.Cond) (bs : Addr) (b0 : Int32) (b1 : Int32) (b2 : Int32) (b3 : Int32) (kc : ClassId) (h0 : Heap) (n0 : Nat) (Z0 : n0 ≤ h0.size) (Vb : Arv Z h0 bs kc .byte (4 : Int32) [(.int b0), (.int b1), (.int b2), (.int b3)] (.int (0 : Int32))) :
    MetFree l (⟨"com/example/labrelay/labrelay/model/SegmentMaker", "textEnd", "([BII)I"⟩ : MethodName) (head1 (Jvm.Cond.code (⟨"com/example/labrelay/labrelay/model/SegmentMaker", "textEnd", "([BII)I"⟩ : MethodName) prog_68_method_2_code 4 (some .int) :: ws) ({ frames := 0, cells := 0, slots := 0, locals := 0 } : Room)) (fun as₉ U => as₉ = #[(.ref bs), (.int (4 : Int32)), (.int (4 : Int32))] ∧ Z.Warmed39 U.vm ∧ U.heap = h0) (fun _ _ _ _ _ => True) (fun _ U o₉ U' => ∃ v L, o₉ = .returned v ∧ Q_rm3_4_4 Z bs b0 b1 b2 b3 kc h0 n0 v U'.heap L ∧ FrameEnd U o₉ U' L ({ frames := 0, cells := 0, slots := 0, locals := 0 } : Room).cells ({ frames := 0, cells := 0, slots := 0, locals := 0 } : Room).slots) := by
  refine MetFree.of_bodySF (plainFor_of_name pn_3) hisR ?_
  intro p e s m args below meth c s₁ Bd hml0 hP hK
  obtain ⟨rfl, hZ, hh⟩ := hP
  have hx := Bd.exec
  have hby := Bd.bytes
  have hml : c.maxLocals = 4 := hml0
  have hown : s.vm.findClass "com/example/labrelay/labrelay/model/SegmentMaker" = some m.cls := findClass_of_methodNamed Bd.named
  have hnm := (name_of_methodNamed Bd.named Bd.method).1
  have X0 : Stand p l e ({ frames := 0, cells := 0, slots := 0, locals := 0 } : Room) s m #[(.ref bs), (.int (4 : Int32)), (.int (4 : Int32))] below meth c s₁ [] 0 0 := Stand.of_body Bd
  have e0 : s₁.heap = h0 := by rw [← hh, Bd.state]; rfl
  have N0 := Fr.nil n0
  show own_Go p e below (fun s₂ o₉ => s₂.status = .running ∧ Ended s₂ below o₉ ∧ ∃ v L, o₉ = .returned v ∧ Q_rm3_4_4 Z bs b0 b1 b2 b3 kc h0 n0 v s₂.heap L ∧ FrameEnd s o₉ s₂ L ({ frames := 0, cells := 0, slots := 0, locals := 0 } : Room).cells ({ frames := 0, cells := 0, slots := 0, locals := 0 } : Room).slots) (s₁.setTop (entryFrame m #[(.ref bs), (.int (4 : Int32)), (.int (4 : Int32))] 4))
  rw [ef_rm3_4_4 m bs]
  refine own_step (s₁.setTop (mkF m 1 #[.val (.ref bs), .val (.int (4 : Int32)), .val (.int (4 : Int32)), .unset] [(.int (4 : Int32))])) (fun t₀ k₀ => XS.iloadN X0.here hx rfl (hb hby d3_0) rfl k₀) ?_
  refine own_step (s₁.setTop (mkF m 2 #[.val (.ref bs), .val (.int (4 : Int32)), .val (.int (4 : Int32)), .val (.int (4 : Int32))] [])) (fun t₀ k₀ => XS.istoreN X0.here hx rfl (hb hby d3_1) rfl (l' := #[.val (.ref bs), .val (.int (4 : Int32)), .val (.int (4 : Int32)), .val (.int (4 : Int32))]) rfl k₀) ?_
  refine own_step (s₁.setTop (mkF m 3 #[.val (.ref bs), .val (.int (4 : Int32)), .val (.int (4 : Int32)), .val (.int (4 : Int32))] [(.int (4 : Int32))])) (fun t₀ k₀ => XS.iloadN X0.here hx rfl (hb hby d3_2) rfl k₀) ?_
  refine own_step (s₁.setTop (mkF m 4 #[.val (.ref bs), .val (.int (4 : Int32)), .val (.int (4 : Int32)), .val (.int (4 : Int32))] [(.int (4 : Int32)), (.int (4 : Int32))])) (fun t₀ k₀ => XS.iloadN X0.here hx rfl (hb hby d3_3) rfl k₀) ?_
  refine own_step (s₁.setTop (mkF m 29 #[.val (.ref bs), .val (.int (4 : Int32)), .val (.int (4 : Int32)), .val (.int (4 : Int32))] [])) (fun t₀ k₀ => XS.icmpYes X0.here hx rfl (pc0 := 4) (pc' := 29) rfl (hb hby d3_4) rfl (by decide) (by decide) (by decide) k₀) ?_
  refine own_step (s₁.setTop (mkF m 30 #[.val (.ref bs), .val (.int (4 : Int32)), .val (.int (4 : Int32)), .val (.int (4 : Int32))] [(.int (4 : Int32))])) (fun t₀ k₀ => XS.iloadN X0.here hx rfl (hb hby d3_29) rfl k₀) ?_
  obtain ⟨fs, hr, hrun, hended, hW, hsame⟩ := X0.leave (v := some (.int (4 : Int32))) (fun h => by rw [Bd.returns] at h; cases h)
  refine ⟨_, _, ?_, hrun, hended, _, _, rfl, ?_, ⟨_, rfl⟩, hW, hsame.mono (by decide) (by decide)⟩
  · exact retI X0 hx Bd.returns (hb hby d3_30) hr
  · show Q_rm3_4_4 Z bs b0 b1 b2 b3 kc h0 n0 _ s₁.heap _
    rw [e0]
    exact ⟨by simp +decide [own_all, own_st], N0, rfl⟩
theorem ef_rm0 (m : MethodId) (p0 : Int32) (p1 : Int32) (p2 : Int32) (p3 : Int32) (ff : Int32) (tt : Int32) : entryFrame m #[(.int p0), (.int p1), (.int p2), (.int p3), (.int ff), (.int tt)] maxLocals = mkF m 0 #[.val (.int p0), .val (.int p1), .val (.int p2), .val (.int p3), .val (.int ff), .val (.int tt), .unset, .unset, .unset, .unset] [] := by first | (simp [entryFrame, mkF, argsToLocals, Value.category, maxLocals]; done) | rfl
def Q_rm0 (Z : State) (p0 : Int32) (p1 : Int32) (p2 : Int32) (p3 : Int32) (ff : Int32) (tt : Int32) (h0 : Heap) (n0 : Nat) (v : Option Value) (h : Heap) (L : List Loc) : Prop := v = some (.int 1) ∧ Fr n0 L
set_option maxRecDepth 65536 in
set_option maxHeartbeats 40000000 in
theorem rm0 (l : Launch) (Z : State) (a0 : Array Value) (hw : ∀ d ∈ tables_1, d.before a0 Z = true) (ws : List Jvm.Cond) (p0 : Int32) (p1 : Int32) (p2 : Int32) (p3 : Int32) (ff : Int32) (tt : Int32) (h0 : Heap) (n0 : Nat) (Z0 : n0 ≤ h0.size) :
    MetFree l x (head1 (Jvm.Cond.code x code maxLocals ret :: ws) room_1) (fun as₉ U => as₉ = #[(.int p0), (.int p1), (.int p2), (.int p3), (.int ff), (.int tt)] ∧ Z.Warmed39 U.vm ∧ U.heap = h0) (fun _ _ _ _ _ => True) (fun _ U o₉ U' => ∃ v L, o₉ = .returned v ∧ Q_rm0 Z p0 p1 p2 p3 ff tt h0 n0 v U'.heap L ∧ FrameEnd U o₉ U' L room_1.cells room_1.slots) := by
  refine MetFree.of_bodySF (plainFor_of_name pn_1) hisR ?_
  intro p e s m args below meth c s₁ Bd hml0 hP hK
  obtain ⟨rfl, hZ, hh⟩ := hP
  have hx := Bd.exec
  have hby := Bd.bytes
  have hml : c.maxLocals = 10 := hml0
  have hown : s.vm.findClass "com/example/labrelay/labrelay/model/SegmentMakerTextEndPinLaw" = some m.cls := findClass_of_methodNamed Bd.named
  have hnm := (name_of_methodNamed Bd.named Bd.method).1
  have X0 : Stand p l e room_1 s m #[(.int p0), (.int p1), (.int p2), (.int p3), (.int ff), (.int tt)] below meth c s₁ [] 0 0 := Stand.of_body Bd
  have e0 : s₁.heap = h0 := by rw [← hh, Bd.state]; rfl
  have N0 := Fr.nil n0
  have cut160 : ∀ (bs : Addr) (kc : ClassId) (b0 : Int32) (b1 : Int32) (b2 : Int32) (b3 : Int32) (fr : Int32) (to : Int32) (ex : Int32) (hh : Heap) (Zc160 : n0 ≤ hh.size) (Tc160 : State) (lc160 : List Loc) (Nc160 : Fr n0 lc160) (Xc160 : Stand p l e room_1 s m #[(.int p0), (.int p1), (.int p2), (.int p3), (.int ff), (.int tt)] below meth c Tc160 lc160 1 4) (ec160 : Tc160.heap = hh) (Vb : Arv Z hh bs kc .byte (4 : Int32) [(.int b0), (.int b1), (.int b2), (.int b3)] (.int (0 : Int32))) (hft : own_FT fr to) (hex : ex = own_all fr to b0 b1 b2 b3), own_Go p e below (fun s₂ o₉ => s₂.status = .running ∧ Ended s₂ below o₉ ∧ ∃ v L, o₉ = .returned v ∧ Q_rm0 Z p0 p1 p2 p3 ff tt h0 n0 v s₂.heap L ∧ FrameEnd s o₉ s₂ L room_1.cells room_1.slots) (Tc160.setTop (mkF m 160 #[.val (.int p0), .val (.int p1), .val (.int p2), .val (.int p3), .val (.int ff), .val (.int tt), .val (.ref bs), .val (.int fr), .val (.int to), .val (.int ex)] [])) := by
    intro bs kc b0 b1 b2 b3 fr to ex hh Zc160 Tc160 lc160 Nc160 Xc160 ec160 Vb hft hex
    rcases own_15 hft with ⟨q1, q2⟩ | ⟨q1, q2⟩ | ⟨q1, q2⟩ | ⟨q1, q2⟩ | ⟨q1, q2⟩ | ⟨q1, q2⟩ | ⟨q1, q2⟩ | ⟨q1, q2⟩ | ⟨q1, q2⟩ | ⟨q1, q2⟩ | ⟨q1, q2⟩ | ⟨q1, q2⟩ | ⟨q1, q2⟩ | ⟨q1, q2⟩ | ⟨q1, q2⟩
    · subst q1 q2
      refine own_step (Tc160.setTop (mkF m 162 #[.val (.int p0), .val (.int p1), .val (.int p2), .val (.int p3), .val (.int ff), .val (.int tt), .val (.ref bs), .val (.int (0 : Int32)), .val (.int (0 : Int32)), .val (.int ex)] [(.ref bs)])) (fun t₀ k₀ => XS.aload Xc160.here hx rfl (hb hby at_160) rfl rfl k₀) ?_
      refine own_step (Tc160.setTop (mkF m 164 #[.val (.int p0), .val (.int p1), .val (.int p2), .val (.int p3), .val (.int ff), .val (.int tt), .val (.ref bs), .val (.int (0 : Int32)), .val (.int (0 : Int32)), .val (.int ex)] [(.int (0 : Int32)), (.ref bs)])) (fun t₀ k₀ => XS.iload Xc160.here hx rfl (hb hby at_162) rfl k₀) ?_
      refine own_step (Tc160.setTop (mkF m 166 #[.val (.int p0), .val (.int p1), .val (.int p2), .val (.int p3), .val (.int ff), .val (.int tt), .val (.ref bs), .val (.int (0 : Int32)), .val (.int (0 : Int32)), .val (.int ex)] [(.int (0 : Int32)), (.int (0 : Int32)), (.ref bs)])) (fun t₀ k₀ => XS.iload Xc160.here hx rfl (hb hby at_164) rfl k₀) ?_
      obtain ⟨_, _, ⟨T61, L61, k61, n61⟩, -, X61, ⟨Lc61, hQ61, l61, y61, z61⟩, st61⟩ := Jvm.LawKit.callS Xc160 hx (y := (⟨"com/example/labrelay/labrelay/model/SegmentMaker", "textEnd", "([BII)I"⟩ : MethodName)) hown (mvT hZ (hw _ (List.mem_of_getElem? (i := 9) rfl))) (mvT hZ (hw _ (List.mem_of_getElem? (i := 10) rfl))) (mvT hZ (hw _ (List.mem_of_getElem? (i := 11) rfl))) (mvT hZ (hw _ (List.mem_of_getElem? (i := 12) rfl))) (by decide) (backOf (W := 0) (rm3_0_0 l Z a0 hw [] bs b0 b1 b2 b3 kc hh n0 Zc160 Vb) hZ (hw _ (List.mem_of_getElem? (i := 12) rfl)) (hw _ (List.mem_of_getElem? (i := 11) rfl)) (by decide) (by decide)) (g := (mkF m 166 #[.val (.int p0), .val (.int p1), .val (.int p2), .val (.int p3), .val (.int ff), .val (.int tt), .val (.ref bs), .val (.int (0 : Int32)), .val (.int (0 : Int32)), .val (.int ex)] [(.int (0 : Int32)), (.int (0 : Int32)), (.ref bs)])) rfl (by rw [hml]; rfl) (argsL := [(.ref bs), (.int (0 : Int32)), (.int (0 : Int32))]) (rest := []) (lenOf pd_2 rfl) rfl (by show 2 * 0 + _ ≤ _; exact Nat.le_of_eq rfl) (hb hby at_166) (fun _ _ => ⟨rfl, ec160, (by decide : 1 + 0 ≤ _), (by decide : 4 + 0 ≤ _)⟩)
      dsimp only [Pt.U, Pt.locs, Pt.cells, Pt.slots] at X61 l61 y61 z61 st61 hQ61
      subst l61 y61 z61
      obtain ⟨rfl, N61q, e61⟩ := hQ61
      have N61 := Fr.app Nc160 N61q
      refine own_step (T61.setTop (mkF m 169 #[.val (.int p0), .val (.int p1), .val (.int p2), .val (.int p3), .val (.int ff), .val (.int tt), .val (.ref bs), .val (.int (0 : Int32)), .val (.int (0 : Int32)), .val (.int ex)] [(.int (own_all 0 0 b0 b1 b2 b3))])) (fun t₀ k₀ => st61 t₀ k₀) ?_
      refine own_step (T61.setTop (mkF m 171 #[.val (.int p0), .val (.int p1), .val (.int p2), .val (.int p3), .val (.int ff), .val (.int tt), .val (.ref bs), .val (.int (0 : Int32)), .val (.int (0 : Int32)), .val (.int ex)] [(.int ex), (.int (own_all 0 0 b0 b1 b2 b3))])) (fun t₀ k₀ => XS.iload X61.here hx rfl (hb hby at_169) rfl k₀) ?_
      have hk62 : (own_all 0 0 b0 b1 b2 b3) = ex := hex.symm
      refine own_step (T61.setTop (mkF m 174 #[.val (.int p0), .val (.int p1), .val (.int p2), .val (.int p3), .val (.int ff), .val (.int tt), .val (.ref bs), .val (.int (0 : Int32)), .val (.int (0 : Int32)), .val (.int ex)] [])) (fun t₀ k₀ => XS.icmpNo X61.here hx rfl (hb hby at_171) rfl (teq hk62).2 k₀) ?_
      refine own_step (T61.setTop (mkF m 175 #[.val (.int p0), .val (.int p1), .val (.int p2), .val (.int p3), .val (.int ff), .val (.int tt), .val (.ref bs), .val (.int (0 : Int32)), .val (.int (0 : Int32)), .val (.int ex)] [(.int (1 : Int32))])) (fun t₀ k₀ => XS.iconst X61.here hx rfl (hb hby at_174) k₀) ?_
      refine own_step (T61.setTop (mkF m 179 #[.val (.int p0), .val (.int p1), .val (.int p2), .val (.int p3), .val (.int ff), .val (.int tt), .val (.ref bs), .val (.int (0 : Int32)), .val (.int (0 : Int32)), .val (.int ex)] [(.int (1 : Int32))])) (fun t₀ k₀ => XS.goto X61.here hx rfl (pc0 := 175) (pc' := 179) rfl (hb hby at_175) (by decide) (by decide) k₀) ?_
      obtain ⟨fs, hr, hrun, hended, hW, hsame⟩ := X61.leave (v := some (.int (1 : Int32))) (fun h => by rw [Bd.returns] at h; cases h)
      refine ⟨_, _, ?_, hrun, hended, _, _, rfl, ?_, ⟨_, rfl⟩, hW, hsame.mono (by decide) (by decide)⟩
      · exact retN X61 hx (t := .boolean) Bd.returns (by simp) (hb hby at_179) hr
      · show Q_rm0 Z p0 p1 p2 p3 ff tt h0 n0 _ T61.heap _
        rw [e61]
        exact ⟨rfl, N61⟩
    · subst q1 q2
      refine own_step (Tc160.setTop (mkF m 162 #[.val (.int p0), .val (.int p1), .val (.int p2), .val (.int p3), .val (.int ff), .val (.int tt), .val (.ref bs), .val (.int (0 : Int32)), .val (.int (1 : Int32)), .val (.int ex)] [(.ref bs)])) (fun t₀ k₀ => XS.aload Xc160.here hx rfl (hb hby at_160) rfl rfl k₀) ?_
      refine own_step (Tc160.setTop (mkF m 164 #[.val (.int p0), .val (.int p1), .val (.int p2), .val (.int p3), .val (.int ff), .val (.int tt), .val (.ref bs), .val (.int (0 : Int32)), .val (.int (1 : Int32)), .val (.int ex)] [(.int (0 : Int32)), (.ref bs)])) (fun t₀ k₀ => XS.iload Xc160.here hx rfl (hb hby at_162) rfl k₀) ?_
      refine own_step (Tc160.setTop (mkF m 166 #[.val (.int p0), .val (.int p1), .val (.int p2), .val (.int p3), .val (.int ff), .val (.int tt), .val (.ref bs), .val (.int (0 : Int32)), .val (.int (1 : Int32)), .val (.int ex)] [(.int (1 : Int32)), (.int (0 : Int32)), (.ref bs)])) (fun t₀ k₀ => XS.iload Xc160.here hx rfl (hb hby at_164) rfl k₀) ?_
      obtain ⟨_, _, ⟨T63, L63, k63, n63⟩, -, X63, ⟨Lc63, hQ63, l63, y63, z63⟩, st63⟩ := Jvm.LawKit.callS Xc160 hx (y := (⟨"com/example/labrelay/labrelay/model/SegmentMaker", "textEnd", "([BII)I"⟩ : MethodName)) hown (mvT hZ (hw _ (List.mem_of_getElem? (i := 9) rfl))) (mvT hZ (hw _ (List.mem_of_getElem? (i := 10) rfl))) (mvT hZ (hw _ (List.mem_of_getElem? (i := 11) rfl))) (mvT hZ (hw _ (List.mem_of_getElem? (i := 12) rfl))) (by decide) (backOf (W := 0) (rm3_0_1 l Z a0 hw [] bs b0 b1 b2 b3 kc hh n0 Zc160 Vb) hZ (hw _ (List.mem_of_getElem? (i := 12) rfl)) (hw _ (List.mem_of_getElem? (i := 11) rfl)) (by decide) (by decide)) (g := (mkF m 166 #[.val (.int p0), .val (.int p1), .val (.int p2), .val (.int p3), .val (.int ff), .val (.int tt), .val (.ref bs), .val (.int (0 : Int32)), .val (.int (1 : Int32)), .val (.int ex)] [(.int (1 : Int32)), (.int (0 : Int32)), (.ref bs)])) rfl (by rw [hml]; rfl) (argsL := [(.ref bs), (.int (0 : Int32)), (.int (1 : Int32))]) (rest := []) (lenOf pd_2 rfl) rfl (by show 2 * 0 + _ ≤ _; exact Nat.le_of_eq rfl) (hb hby at_166) (fun _ _ => ⟨rfl, ec160, (by decide : 1 + 0 ≤ _), (by decide : 4 + 0 ≤ _)⟩)
      dsimp only [Pt.U, Pt.locs, Pt.cells, Pt.slots] at X63 l63 y63 z63 st63 hQ63
      subst l63 y63 z63
      obtain ⟨rfl, N63q, e63⟩ := hQ63
      have N63 := Fr.app Nc160 N63q
      refine own_step (T63.setTop (mkF m 169 #[.val (.int p0), .val (.int p1), .val (.int p2), .val (.int p3), .val (.int ff), .val (.int tt), .val (.ref bs), .val (.int (0 : Int32)), .val (.int (1 : Int32)), .val (.int ex)] [(.int (own_all 0 1 b0 b1 b2 b3))])) (fun t₀ k₀ => st63 t₀ k₀) ?_
      refine own_step (T63.setTop (mkF m 171 #[.val (.int p0), .val (.int p1), .val (.int p2), .val (.int p3), .val (.int ff), .val (.int tt), .val (.ref bs), .val (.int (0 : Int32)), .val (.int (1 : Int32)), .val (.int ex)] [(.int ex), (.int (own_all 0 1 b0 b1 b2 b3))])) (fun t₀ k₀ => XS.iload X63.here hx rfl (hb hby at_169) rfl k₀) ?_
      have hk64 : (own_all 0 1 b0 b1 b2 b3) = ex := hex.symm
      refine own_step (T63.setTop (mkF m 174 #[.val (.int p0), .val (.int p1), .val (.int p2), .val (.int p3), .val (.int ff), .val (.int tt), .val (.ref bs), .val (.int (0 : Int32)), .val (.int (1 : Int32)), .val (.int ex)] [])) (fun t₀ k₀ => XS.icmpNo X63.here hx rfl (hb hby at_171) rfl (teq hk64).2 k₀) ?_
      refine own_step (T63.setTop (mkF m 175 #[.val (.int p0), .val (.int p1), .val (.int p2), .val (.int p3), .val (.int ff), .val (.int tt), .val (.ref bs), .val (.int (0 : Int32)), .val (.int (1 : Int32)), .val (.int ex)] [(.int (1 : Int32))])) (fun t₀ k₀ => XS.iconst X63.here hx rfl (hb hby at_174) k₀) ?_
      refine own_step (T63.setTop (mkF m 179 #[.val (.int p0), .val (.int p1), .val (.int p2), .val (.int p3), .val (.int ff), .val (.int tt), .val (.ref bs), .val (.int (0 : Int32)), .val (.int (1 : Int32)), .val (.int ex)] [(.int (1 : Int32))])) (fun t₀ k₀ => XS.goto X63.here hx rfl (pc0 := 175) (pc' := 179) rfl (hb hby at_175) (by decide) (by decide) k₀) ?_
      obtain ⟨fs, hr, hrun, hended, hW, hsame⟩ := X63.leave (v := some (.int (1 : Int32))) (fun h => by rw [Bd.returns] at h; cases h)
      refine ⟨_, _, ?_, hrun, hended, _, _, rfl, ?_, ⟨_, rfl⟩, hW, hsame.mono (by decide) (by decide)⟩
      · exact retN X63 hx (t := .boolean) Bd.returns (by simp) (hb hby at_179) hr
      · show Q_rm0 Z p0 p1 p2 p3 ff tt h0 n0 _ T63.heap _
        rw [e63]
        exact ⟨rfl, N63⟩
    · subst q1 q2
      refine own_step (Tc160.setTop (mkF m 162 #[.val (.int p0), .val (.int p1), .val (.int p2), .val (.int p3), .val (.int ff), .val (.int tt), .val (.ref bs), .val (.int (0 : Int32)), .val (.int (2 : Int32)), .val (.int ex)] [(.ref bs)])) (fun t₀ k₀ => XS.aload Xc160.here hx rfl (hb hby at_160) rfl rfl k₀) ?_
      refine own_step (Tc160.setTop (mkF m 164 #[.val (.int p0), .val (.int p1), .val (.int p2), .val (.int p3), .val (.int ff), .val (.int tt), .val (.ref bs), .val (.int (0 : Int32)), .val (.int (2 : Int32)), .val (.int ex)] [(.int (0 : Int32)), (.ref bs)])) (fun t₀ k₀ => XS.iload Xc160.here hx rfl (hb hby at_162) rfl k₀) ?_
      refine own_step (Tc160.setTop (mkF m 166 #[.val (.int p0), .val (.int p1), .val (.int p2), .val (.int p3), .val (.int ff), .val (.int tt), .val (.ref bs), .val (.int (0 : Int32)), .val (.int (2 : Int32)), .val (.int ex)] [(.int (2 : Int32)), (.int (0 : Int32)), (.ref bs)])) (fun t₀ k₀ => XS.iload Xc160.here hx rfl (hb hby at_164) rfl k₀) ?_
      obtain ⟨_, _, ⟨T65, L65, k65, n65⟩, -, X65, ⟨Lc65, hQ65, l65, y65, z65⟩, st65⟩ := Jvm.LawKit.callS Xc160 hx (y := (⟨"com/example/labrelay/labrelay/model/SegmentMaker", "textEnd", "([BII)I"⟩ : MethodName)) hown (mvT hZ (hw _ (List.mem_of_getElem? (i := 9) rfl))) (mvT hZ (hw _ (List.mem_of_getElem? (i := 10) rfl))) (mvT hZ (hw _ (List.mem_of_getElem? (i := 11) rfl))) (mvT hZ (hw _ (List.mem_of_getElem? (i := 12) rfl))) (by decide) (backOf (W := 0) (rm3_0_2 l Z a0 hw [] bs b0 b1 b2 b3 kc hh n0 Zc160 Vb) hZ (hw _ (List.mem_of_getElem? (i := 12) rfl)) (hw _ (List.mem_of_getElem? (i := 11) rfl)) (by decide) (by decide)) (g := (mkF m 166 #[.val (.int p0), .val (.int p1), .val (.int p2), .val (.int p3), .val (.int ff), .val (.int tt), .val (.ref bs), .val (.int (0 : Int32)), .val (.int (2 : Int32)), .val (.int ex)] [(.int (2 : Int32)), (.int (0 : Int32)), (.ref bs)])) rfl (by rw [hml]; rfl) (argsL := [(.ref bs), (.int (0 : Int32)), (.int (2 : Int32))]) (rest := []) (lenOf pd_2 rfl) rfl (by show 2 * 0 + _ ≤ _; exact Nat.le_of_eq rfl) (hb hby at_166) (fun _ _ => ⟨rfl, ec160, (by decide : 1 + 0 ≤ _), (by decide : 4 + 0 ≤ _)⟩)
      dsimp only [Pt.U, Pt.locs, Pt.cells, Pt.slots] at X65 l65 y65 z65 st65 hQ65
      subst l65 y65 z65
      obtain ⟨rfl, N65q, e65⟩ := hQ65
      have N65 := Fr.app Nc160 N65q
      refine own_step (T65.setTop (mkF m 169 #[.val (.int p0), .val (.int p1), .val (.int p2), .val (.int p3), .val (.int ff), .val (.int tt), .val (.ref bs), .val (.int (0 : Int32)), .val (.int (2 : Int32)), .val (.int ex)] [(.int (own_all 0 2 b0 b1 b2 b3))])) (fun t₀ k₀ => st65 t₀ k₀) ?_
      refine own_step (T65.setTop (mkF m 171 #[.val (.int p0), .val (.int p1), .val (.int p2), .val (.int p3), .val (.int ff), .val (.int tt), .val (.ref bs), .val (.int (0 : Int32)), .val (.int (2 : Int32)), .val (.int ex)] [(.int ex), (.int (own_all 0 2 b0 b1 b2 b3))])) (fun t₀ k₀ => XS.iload X65.here hx rfl (hb hby at_169) rfl k₀) ?_
      have hk66 : (own_all 0 2 b0 b1 b2 b3) = ex := hex.symm
      refine own_step (T65.setTop (mkF m 174 #[.val (.int p0), .val (.int p1), .val (.int p2), .val (.int p3), .val (.int ff), .val (.int tt), .val (.ref bs), .val (.int (0 : Int32)), .val (.int (2 : Int32)), .val (.int ex)] [])) (fun t₀ k₀ => XS.icmpNo X65.here hx rfl (hb hby at_171) rfl (teq hk66).2 k₀) ?_
      refine own_step (T65.setTop (mkF m 175 #[.val (.int p0), .val (.int p1), .val (.int p2), .val (.int p3), .val (.int ff), .val (.int tt), .val (.ref bs), .val (.int (0 : Int32)), .val (.int (2 : Int32)), .val (.int ex)] [(.int (1 : Int32))])) (fun t₀ k₀ => XS.iconst X65.here hx rfl (hb hby at_174) k₀) ?_
      refine own_step (T65.setTop (mkF m 179 #[.val (.int p0), .val (.int p1), .val (.int p2), .val (.int p3), .val (.int ff), .val (.int tt), .val (.ref bs), .val (.int (0 : Int32)), .val (.int (2 : Int32)), .val (.int ex)] [(.int (1 : Int32))])) (fun t₀ k₀ => XS.goto X65.here hx rfl (pc0 := 175) (pc' := 179) rfl (hb hby at_175) (by decide) (by decide) k₀) ?_
      obtain ⟨fs, hr, hrun, hended, hW, hsame⟩ := X65.leave (v := some (.int (1 : Int32))) (fun h => by rw [Bd.returns] at h; cases h)
      refine ⟨_, _, ?_, hrun, hended, _, _, rfl, ?_, ⟨_, rfl⟩, hW, hsame.mono (by decide) (by decide)⟩
      · exact retN X65 hx (t := .boolean) Bd.returns (by simp) (hb hby at_179) hr
      · show Q_rm0 Z p0 p1 p2 p3 ff tt h0 n0 _ T65.heap _
        rw [e65]
        exact ⟨rfl, N65⟩
    · subst q1 q2
      refine own_step (Tc160.setTop (mkF m 162 #[.val (.int p0), .val (.int p1), .val (.int p2), .val (.int p3), .val (.int ff), .val (.int tt), .val (.ref bs), .val (.int (0 : Int32)), .val (.int (3 : Int32)), .val (.int ex)] [(.ref bs)])) (fun t₀ k₀ => XS.aload Xc160.here hx rfl (hb hby at_160) rfl rfl k₀) ?_
      refine own_step (Tc160.setTop (mkF m 164 #[.val (.int p0), .val (.int p1), .val (.int p2), .val (.int p3), .val (.int ff), .val (.int tt), .val (.ref bs), .val (.int (0 : Int32)), .val (.int (3 : Int32)), .val (.int ex)] [(.int (0 : Int32)), (.ref bs)])) (fun t₀ k₀ => XS.iload Xc160.here hx rfl (hb hby at_162) rfl k₀) ?_
      refine own_step (Tc160.setTop (mkF m 166 #[.val (.int p0), .val (.int p1), .val (.int p2), .val (.int p3), .val (.int ff), .val (.int tt), .val (.ref bs), .val (.int (0 : Int32)), .val (.int (3 : Int32)), .val (.int ex)] [(.int (3 : Int32)), (.int (0 : Int32)), (.ref bs)])) (fun t₀ k₀ => XS.iload Xc160.here hx rfl (hb hby at_164) rfl k₀) ?_
      obtain ⟨_, _, ⟨T67, L67, k67, n67⟩, -, X67, ⟨Lc67, hQ67, l67, y67, z67⟩, st67⟩ := Jvm.LawKit.callS Xc160 hx (y := (⟨"com/example/labrelay/labrelay/model/SegmentMaker", "textEnd", "([BII)I"⟩ : MethodName)) hown (mvT hZ (hw _ (List.mem_of_getElem? (i := 9) rfl))) (mvT hZ (hw _ (List.mem_of_getElem? (i := 10) rfl))) (mvT hZ (hw _ (List.mem_of_getElem? (i := 11) rfl))) (mvT hZ (hw _ (List.mem_of_getElem? (i := 12) rfl))) (by decide) (backOf (W := 0) (rm3_0_3 l Z a0 hw [] bs b0 b1 b2 b3 kc hh n0 Zc160 Vb) hZ (hw _ (List.mem_of_getElem? (i := 12) rfl)) (hw _ (List.mem_of_getElem? (i := 11) rfl)) (by decide) (by decide)) (g := (mkF m 166 #[.val (.int p0), .val (.int p1), .val (.int p2), .val (.int p3), .val (.int ff), .val (.int tt), .val (.ref bs), .val (.int (0 : Int32)), .val (.int (3 : Int32)), .val (.int ex)] [(.int (3 : Int32)), (.int (0 : Int32)), (.ref bs)])) rfl (by rw [hml]; rfl) (argsL := [(.ref bs), (.int (0 : Int32)), (.int (3 : Int32))]) (rest := []) (lenOf pd_2 rfl) rfl (by show 2 * 0 + _ ≤ _; exact Nat.le_of_eq rfl) (hb hby at_166) (fun _ _ => ⟨rfl, ec160, (by decide : 1 + 0 ≤ _), (by decide : 4 + 0 ≤ _)⟩)
      dsimp only [Pt.U, Pt.locs, Pt.cells, Pt.slots] at X67 l67 y67 z67 st67 hQ67
      subst l67 y67 z67
      obtain ⟨rfl, N67q, e67⟩ := hQ67
      have N67 := Fr.app Nc160 N67q
      refine own_step (T67.setTop (mkF m 169 #[.val (.int p0), .val (.int p1), .val (.int p2), .val (.int p3), .val (.int ff), .val (.int tt), .val (.ref bs), .val (.int (0 : Int32)), .val (.int (3 : Int32)), .val (.int ex)] [(.int (own_all 0 3 b0 b1 b2 b3))])) (fun t₀ k₀ => st67 t₀ k₀) ?_
      refine own_step (T67.setTop (mkF m 171 #[.val (.int p0), .val (.int p1), .val (.int p2), .val (.int p3), .val (.int ff), .val (.int tt), .val (.ref bs), .val (.int (0 : Int32)), .val (.int (3 : Int32)), .val (.int ex)] [(.int ex), (.int (own_all 0 3 b0 b1 b2 b3))])) (fun t₀ k₀ => XS.iload X67.here hx rfl (hb hby at_169) rfl k₀) ?_
      have hk68 : (own_all 0 3 b0 b1 b2 b3) = ex := hex.symm
      refine own_step (T67.setTop (mkF m 174 #[.val (.int p0), .val (.int p1), .val (.int p2), .val (.int p3), .val (.int ff), .val (.int tt), .val (.ref bs), .val (.int (0 : Int32)), .val (.int (3 : Int32)), .val (.int ex)] [])) (fun t₀ k₀ => XS.icmpNo X67.here hx rfl (hb hby at_171) rfl (teq hk68).2 k₀) ?_
      refine own_step (T67.setTop (mkF m 175 #[.val (.int p0), .val (.int p1), .val (.int p2), .val (.int p3), .val (.int ff), .val (.int tt), .val (.ref bs), .val (.int (0 : Int32)), .val (.int (3 : Int32)), .val (.int ex)] [(.int (1 : Int32))])) (fun t₀ k₀ => XS.iconst X67.here hx rfl (hb hby at_174) k₀) ?_
      refine own_step (T67.setTop (mkF m 179 #[.val (.int p0), .val (.int p1), .val (.int p2), .val (.int p3), .val (.int ff), .val (.int tt), .val (.ref bs), .val (.int (0 : Int32)), .val (.int (3 : Int32)), .val (.int ex)] [(.int (1 : Int32))])) (fun t₀ k₀ => XS.goto X67.here hx rfl (pc0 := 175) (pc' := 179) rfl (hb hby at_175) (by decide) (by decide) k₀) ?_
      obtain ⟨fs, hr, hrun, hended, hW, hsame⟩ := X67.leave (v := some (.int (1 : Int32))) (fun h => by rw [Bd.returns] at h; cases h)
      refine ⟨_, _, ?_, hrun, hended, _, _, rfl, ?_, ⟨_, rfl⟩, hW, hsame.mono (by decide) (by decide)⟩
      · exact retN X67 hx (t := .boolean) Bd.returns (by simp) (hb hby at_179) hr
      · show Q_rm0 Z p0 p1 p2 p3 ff tt h0 n0 _ T67.heap _
        rw [e67]
        exact ⟨rfl, N67⟩
    · subst q1 q2
      refine own_step (Tc160.setTop (mkF m 162 #[.val (.int p0), .val (.int p1), .val (.int p2), .val (.int p3), .val (.int ff), .val (.int tt), .val (.ref bs), .val (.int (0 : Int32)), .val (.int (4 : Int32)), .val (.int ex)] [(.ref bs)])) (fun t₀ k₀ => XS.aload Xc160.here hx rfl (hb hby at_160) rfl rfl k₀) ?_
      refine own_step (Tc160.setTop (mkF m 164 #[.val (.int p0), .val (.int p1), .val (.int p2), .val (.int p3), .val (.int ff), .val (.int tt), .val (.ref bs), .val (.int (0 : Int32)), .val (.int (4 : Int32)), .val (.int ex)] [(.int (0 : Int32)), (.ref bs)])) (fun t₀ k₀ => XS.iload Xc160.here hx rfl (hb hby at_162) rfl k₀) ?_
      refine own_step (Tc160.setTop (mkF m 166 #[.val (.int p0), .val (.int p1), .val (.int p2), .val (.int p3), .val (.int ff), .val (.int tt), .val (.ref bs), .val (.int (0 : Int32)), .val (.int (4 : Int32)), .val (.int ex)] [(.int (4 : Int32)), (.int (0 : Int32)), (.ref bs)])) (fun t₀ k₀ => XS.iload Xc160.here hx rfl (hb hby at_164) rfl k₀) ?_
      obtain ⟨_, _, ⟨T69, L69, k69, n69⟩, -, X69, ⟨Lc69, hQ69, l69, y69, z69⟩, st69⟩ := Jvm.LawKit.callS Xc160 hx (y := (⟨"com/example/labrelay/labrelay/model/SegmentMaker", "textEnd", "([BII)I"⟩ : MethodName)) hown (mvT hZ (hw _ (List.mem_of_getElem? (i := 9) rfl))) (mvT hZ (hw _ (List.mem_of_getElem? (i := 10) rfl))) (mvT hZ (hw _ (List.mem_of_getElem? (i := 11) rfl))) (mvT hZ (hw _ (List.mem_of_getElem? (i := 12) rfl))) (by decide) (backOf (W := 0) (rm3_0_4 l Z a0 hw [] bs b0 b1 b2 b3 kc hh n0 Zc160 Vb) hZ (hw _ (List.mem_of_getElem? (i := 12) rfl)) (hw _ (List.mem_of_getElem? (i := 11) rfl)) (by decide) (by decide)) (g := (mkF m 166 #[.val (.int p0), .val (.int p1), .val (.int p2), .val (.int p3), .val (.int ff), .val (.int tt), .val (.ref bs), .val (.int (0 : Int32)), .val (.int (4 : Int32)), .val (.int ex)] [(.int (4 : Int32)), (.int (0 : Int32)), (.ref bs)])) rfl (by rw [hml]; rfl) (argsL := [(.ref bs), (.int (0 : Int32)), (.int (4 : Int32))]) (rest := []) (lenOf pd_2 rfl) rfl (by show 2 * 0 + _ ≤ _; exact Nat.le_of_eq rfl) (hb hby at_166) (fun _ _ => ⟨rfl, ec160, (by decide : 1 + 0 ≤ _), (by decide : 4 + 0 ≤ _)⟩)
      dsimp only [Pt.U, Pt.locs, Pt.cells, Pt.slots] at X69 l69 y69 z69 st69 hQ69
      subst l69 y69 z69
      obtain ⟨rfl, N69q, e69⟩ := hQ69
      have N69 := Fr.app Nc160 N69q
      refine own_step (T69.setTop (mkF m 169 #[.val (.int p0), .val (.int p1), .val (.int p2), .val (.int p3), .val (.int ff), .val (.int tt), .val (.ref bs), .val (.int (0 : Int32)), .val (.int (4 : Int32)), .val (.int ex)] [(.int (own_all 0 4 b0 b1 b2 b3))])) (fun t₀ k₀ => st69 t₀ k₀) ?_
      refine own_step (T69.setTop (mkF m 171 #[.val (.int p0), .val (.int p1), .val (.int p2), .val (.int p3), .val (.int ff), .val (.int tt), .val (.ref bs), .val (.int (0 : Int32)), .val (.int (4 : Int32)), .val (.int ex)] [(.int ex), (.int (own_all 0 4 b0 b1 b2 b3))])) (fun t₀ k₀ => XS.iload X69.here hx rfl (hb hby at_169) rfl k₀) ?_
      have hk70 : (own_all 0 4 b0 b1 b2 b3) = ex := hex.symm
      refine own_step (T69.setTop (mkF m 174 #[.val (.int p0), .val (.int p1), .val (.int p2), .val (.int p3), .val (.int ff), .val (.int tt), .val (.ref bs), .val (.int (0 : Int32)), .val (.int (4 : Int32)), .val (.int ex)] [])) (fun t₀ k₀ => XS.icmpNo X69.here hx rfl (hb hby at_171) rfl (teq hk70).2 k₀) ?_
      refine own_step (T69.setTop (mkF m 175 #[.val (.int p0), .val (.int p1), .val (.int p2), .val (.int p3), .val (.int ff), .val (.int tt), .val (.ref bs), .val (.int (0 : Int32)), .val (.int (4 : Int32)), .val (.int ex)] [(.int (1 : Int32))])) (fun t₀ k₀ => XS.iconst X69.here hx rfl (hb hby at_174) k₀) ?_
      refine own_step (T69.setTop (mkF m 179 #[.val (.int p0), .val (.int p1), .val (.int p2), .val (.int p3), .val (.int ff), .val (.int tt), .val (.ref bs), .val (.int (0 : Int32)), .val (.int (4 : Int32)), .val (.int ex)] [(.int (1 : Int32))])) (fun t₀ k₀ => XS.goto X69.here hx rfl (pc0 := 175) (pc' := 179) rfl (hb hby at_175) (by decide) (by decide) k₀) ?_
      obtain ⟨fs, hr, hrun, hended, hW, hsame⟩ := X69.leave (v := some (.int (1 : Int32))) (fun h => by rw [Bd.returns] at h; cases h)
      refine ⟨_, _, ?_, hrun, hended, _, _, rfl, ?_, ⟨_, rfl⟩, hW, hsame.mono (by decide) (by decide)⟩
      · exact retN X69 hx (t := .boolean) Bd.returns (by simp) (hb hby at_179) hr
      · show Q_rm0 Z p0 p1 p2 p3 ff tt h0 n0 _ T69.heap _
        rw [e69]
        exact ⟨rfl, N69⟩
    · subst q1 q2
      refine own_step (Tc160.setTop (mkF m 162 #[.val (.int p0), .val (.int p1), .val (.int p2), .val (.int p3), .val (.int ff), .val (.int tt), .val (.ref bs), .val (.int (1 : Int32)), .val (.int (1 : Int32)), .val (.int ex)] [(.ref bs)])) (fun t₀ k₀ => XS.aload Xc160.here hx rfl (hb hby at_160) rfl rfl k₀) ?_
      refine own_step (Tc160.setTop (mkF m 164 #[.val (.int p0), .val (.int p1), .val (.int p2), .val (.int p3), .val (.int ff), .val (.int tt), .val (.ref bs), .val (.int (1 : Int32)), .val (.int (1 : Int32)), .val (.int ex)] [(.int (1 : Int32)), (.ref bs)])) (fun t₀ k₀ => XS.iload Xc160.here hx rfl (hb hby at_162) rfl k₀) ?_
      refine own_step (Tc160.setTop (mkF m 166 #[.val (.int p0), .val (.int p1), .val (.int p2), .val (.int p3), .val (.int ff), .val (.int tt), .val (.ref bs), .val (.int (1 : Int32)), .val (.int (1 : Int32)), .val (.int ex)] [(.int (1 : Int32)), (.int (1 : Int32)), (.ref bs)])) (fun t₀ k₀ => XS.iload Xc160.here hx rfl (hb hby at_164) rfl k₀) ?_
      obtain ⟨_, _, ⟨T71, L71, k71, n71⟩, -, X71, ⟨Lc71, hQ71, l71, y71, z71⟩, st71⟩ := Jvm.LawKit.callS Xc160 hx (y := (⟨"com/example/labrelay/labrelay/model/SegmentMaker", "textEnd", "([BII)I"⟩ : MethodName)) hown (mvT hZ (hw _ (List.mem_of_getElem? (i := 9) rfl))) (mvT hZ (hw _ (List.mem_of_getElem? (i := 10) rfl))) (mvT hZ (hw _ (List.mem_of_getElem? (i := 11) rfl))) (mvT hZ (hw _ (List.mem_of_getElem? (i := 12) rfl))) (by decide) (backOf (W := 0) (rm3_1_1 l Z a0 hw [] bs b0 b1 b2 b3 kc hh n0 Zc160 Vb) hZ (hw _ (List.mem_of_getElem? (i := 12) rfl)) (hw _ (List.mem_of_getElem? (i := 11) rfl)) (by decide) (by decide)) (g := (mkF m 166 #[.val (.int p0), .val (.int p1), .val (.int p2), .val (.int p3), .val (.int ff), .val (.int tt), .val (.ref bs), .val (.int (1 : Int32)), .val (.int (1 : Int32)), .val (.int ex)] [(.int (1 : Int32)), (.int (1 : Int32)), (.ref bs)])) rfl (by rw [hml]; rfl) (argsL := [(.ref bs), (.int (1 : Int32)), (.int (1 : Int32))]) (rest := []) (lenOf pd_2 rfl) rfl (by show 2 * 0 + _ ≤ _; exact Nat.le_of_eq rfl) (hb hby at_166) (fun _ _ => ⟨rfl, ec160, (by decide : 1 + 0 ≤ _), (by decide : 4 + 0 ≤ _)⟩)
      dsimp only [Pt.U, Pt.locs, Pt.cells, Pt.slots] at X71 l71 y71 z71 st71 hQ71
      subst l71 y71 z71
      obtain ⟨rfl, N71q, e71⟩ := hQ71
      have N71 := Fr.app Nc160 N71q
      refine own_step (T71.setTop (mkF m 169 #[.val (.int p0), .val (.int p1), .val (.int p2), .val (.int p3), .val (.int ff), .val (.int tt), .val (.ref bs), .val (.int (1 : Int32)), .val (.int (1 : Int32)), .val (.int ex)] [(.int (own_all 1 1 b0 b1 b2 b3))])) (fun t₀ k₀ => st71 t₀ k₀) ?_
      refine own_step (T71.setTop (mkF m 171 #[.val (.int p0), .val (.int p1), .val (.int p2), .val (.int p3), .val (.int ff), .val (.int tt), .val (.ref bs), .val (.int (1 : Int32)), .val (.int (1 : Int32)), .val (.int ex)] [(.int ex), (.int (own_all 1 1 b0 b1 b2 b3))])) (fun t₀ k₀ => XS.iload X71.here hx rfl (hb hby at_169) rfl k₀) ?_
      have hk72 : (own_all 1 1 b0 b1 b2 b3) = ex := hex.symm
      refine own_step (T71.setTop (mkF m 174 #[.val (.int p0), .val (.int p1), .val (.int p2), .val (.int p3), .val (.int ff), .val (.int tt), .val (.ref bs), .val (.int (1 : Int32)), .val (.int (1 : Int32)), .val (.int ex)] [])) (fun t₀ k₀ => XS.icmpNo X71.here hx rfl (hb hby at_171) rfl (teq hk72).2 k₀) ?_
      refine own_step (T71.setTop (mkF m 175 #[.val (.int p0), .val (.int p1), .val (.int p2), .val (.int p3), .val (.int ff), .val (.int tt), .val (.ref bs), .val (.int (1 : Int32)), .val (.int (1 : Int32)), .val (.int ex)] [(.int (1 : Int32))])) (fun t₀ k₀ => XS.iconst X71.here hx rfl (hb hby at_174) k₀) ?_
      refine own_step (T71.setTop (mkF m 179 #[.val (.int p0), .val (.int p1), .val (.int p2), .val (.int p3), .val (.int ff), .val (.int tt), .val (.ref bs), .val (.int (1 : Int32)), .val (.int (1 : Int32)), .val (.int ex)] [(.int (1 : Int32))])) (fun t₀ k₀ => XS.goto X71.here hx rfl (pc0 := 175) (pc' := 179) rfl (hb hby at_175) (by decide) (by decide) k₀) ?_
      obtain ⟨fs, hr, hrun, hended, hW, hsame⟩ := X71.leave (v := some (.int (1 : Int32))) (fun h => by rw [Bd.returns] at h; cases h)
      refine ⟨_, _, ?_, hrun, hended, _, _, rfl, ?_, ⟨_, rfl⟩, hW, hsame.mono (by decide) (by decide)⟩
      · exact retN X71 hx (t := .boolean) Bd.returns (by simp) (hb hby at_179) hr
      · show Q_rm0 Z p0 p1 p2 p3 ff tt h0 n0 _ T71.heap _
        rw [e71]
        exact ⟨rfl, N71⟩
    · subst q1 q2
      refine own_step (Tc160.setTop (mkF m 162 #[.val (.int p0), .val (.int p1), .val (.int p2), .val (.int p3), .val (.int ff), .val (.int tt), .val (.ref bs), .val (.int (1 : Int32)), .val (.int (2 : Int32)), .val (.int ex)] [(.ref bs)])) (fun t₀ k₀ => XS.aload Xc160.here hx rfl (hb hby at_160) rfl rfl k₀) ?_
      refine own_step (Tc160.setTop (mkF m 164 #[.val (.int p0), .val (.int p1), .val (.int p2), .val (.int p3), .val (.int ff), .val (.int tt), .val (.ref bs), .val (.int (1 : Int32)), .val (.int (2 : Int32)), .val (.int ex)] [(.int (1 : Int32)), (.ref bs)])) (fun t₀ k₀ => XS.iload Xc160.here hx rfl (hb hby at_162) rfl k₀) ?_
      refine own_step (Tc160.setTop (mkF m 166 #[.val (.int p0), .val (.int p1), .val (.int p2), .val (.int p3), .val (.int ff), .val (.int tt), .val (.ref bs), .val (.int (1 : Int32)), .val (.int (2 : Int32)), .val (.int ex)] [(.int (2 : Int32)), (.int (1 : Int32)), (.ref bs)])) (fun t₀ k₀ => XS.iload Xc160.here hx rfl (hb hby at_164) rfl k₀) ?_
      obtain ⟨_, _, ⟨T73, L73, k73, n73⟩, -, X73, ⟨Lc73, hQ73, l73, y73, z73⟩, st73⟩ := Jvm.LawKit.callS Xc160 hx (y := (⟨"com/example/labrelay/labrelay/model/SegmentMaker", "textEnd", "([BII)I"⟩ : MethodName)) hown (mvT hZ (hw _ (List.mem_of_getElem? (i := 9) rfl))) (mvT hZ (hw _ (List.mem_of_getElem? (i := 10) rfl))) (mvT hZ (hw _ (List.mem_of_getElem? (i := 11) rfl))) (mvT hZ (hw _ (List.mem_of_getElem? (i := 12) rfl))) (by decide) (backOf (W := 0) (rm3_1_2 l Z a0 hw [] bs b0 b1 b2 b3 kc hh n0 Zc160 Vb) hZ (hw _ (List.mem_of_getElem? (i := 12) rfl)) (hw _ (List.mem_of_getElem? (i := 11) rfl)) (by decide) (by decide)) (g := (mkF m 166 #[.val (.int p0), .val (.int p1), .val (.int p2), .val (.int p3), .val (.int ff), .val (.int tt), .val (.ref bs), .val (.int (1 : Int32)), .val (.int (2 : Int32)), .val (.int ex)] [(.int (2 : Int32)), (.int (1 : Int32)), (.ref bs)])) rfl (by rw [hml]; rfl) (argsL := [(.ref bs), (.int (1 : Int32)), (.int (2 : Int32))]) (rest := []) (lenOf pd_2 rfl) rfl (by show 2 * 0 + _ ≤ _; exact Nat.le_of_eq rfl) (hb hby at_166) (fun _ _ => ⟨rfl, ec160, (by decide : 1 + 0 ≤ _), (by decide : 4 + 0 ≤ _)⟩)
      dsimp only [Pt.U, Pt.locs, Pt.cells, Pt.slots] at X73 l73 y73 z73 st73 hQ73
      subst l73 y73 z73
      obtain ⟨rfl, N73q, e73⟩ := hQ73
      have N73 := Fr.app Nc160 N73q
      refine own_step (T73.setTop (mkF m 169 #[.val (.int p0), .val (.int p1), .val (.int p2), .val (.int p3), .val (.int ff), .val (.int tt), .val (.ref bs), .val (.int (1 : Int32)), .val (.int (2 : Int32)), .val (.int ex)] [(.int (own_all 1 2 b0 b1 b2 b3))])) (fun t₀ k₀ => st73 t₀ k₀) ?_
      refine own_step (T73.setTop (mkF m 171 #[.val (.int p0), .val (.int p1), .val (.int p2), .val (.int p3), .val (.int ff), .val (.int tt), .val (.ref bs), .val (.int (1 : Int32)), .val (.int (2 : Int32)), .val (.int ex)] [(.int ex), (.int (own_all 1 2 b0 b1 b2 b3))])) (fun t₀ k₀ => XS.iload X73.here hx rfl (hb hby at_169) rfl k₀) ?_
      have hk74 : (own_all 1 2 b0 b1 b2 b3) = ex := hex.symm
      refine own_step (T73.setTop (mkF m 174 #[.val (.int p0), .val (.int p1), .val (.int p2), .val (.int p3), .val (.int ff), .val (.int tt), .val (.ref bs), .val (.int (1 : Int32)), .val (.int (2 : Int32)), .val (.int ex)] [])) (fun t₀ k₀ => XS.icmpNo X73.here hx rfl (hb hby at_171) rfl (teq hk74).2 k₀) ?_
      refine own_step (T73.setTop (mkF m 175 #[.val (.int p0), .val (.int p1), .val (.int p2), .val (.int p3), .val (.int ff), .val (.int tt), .val (.ref bs), .val (.int (1 : Int32)), .val (.int (2 : Int32)), .val (.int ex)] [(.int (1 : Int32))])) (fun t₀ k₀ => XS.iconst X73.here hx rfl (hb hby at_174) k₀) ?_
      refine own_step (T73.setTop (mkF m 179 #[.val (.int p0), .val (.int p1), .val (.int p2), .val (.int p3), .val (.int ff), .val (.int tt), .val (.ref bs), .val (.int (1 : Int32)), .val (.int (2 : Int32)), .val (.int ex)] [(.int (1 : Int32))])) (fun t₀ k₀ => XS.goto X73.here hx rfl (pc0 := 175) (pc' := 179) rfl (hb hby at_175) (by decide) (by decide) k₀) ?_
      obtain ⟨fs, hr, hrun, hended, hW, hsame⟩ := X73.leave (v := some (.int (1 : Int32))) (fun h => by rw [Bd.returns] at h; cases h)
      refine ⟨_, _, ?_, hrun, hended, _, _, rfl, ?_, ⟨_, rfl⟩, hW, hsame.mono (by decide) (by decide)⟩
      · exact retN X73 hx (t := .boolean) Bd.returns (by simp) (hb hby at_179) hr
      · show Q_rm0 Z p0 p1 p2 p3 ff tt h0 n0 _ T73.heap _
        rw [e73]
        exact ⟨rfl, N73⟩
    · subst q1 q2
      refine own_step (Tc160.setTop (mkF m 162 #[.val (.int p0), .val (.int p1), .val (.int p2), .val (.int p3), .val (.int ff), .val (.int tt), .val (.ref bs), .val (.int (1 : Int32)), .val (.int (3 : Int32)), .val (.int ex)] [(.ref bs)])) (fun t₀ k₀ => XS.aload Xc160.here hx rfl (hb hby at_160) rfl rfl k₀) ?_
      refine own_step (Tc160.setTop (mkF m 164 #[.val (.int p0), .val (.int p1), .val (.int p2), .val (.int p3), .val (.int ff), .val (.int tt), .val (.ref bs), .val (.int (1 : Int32)), .val (.int (3 : Int32)), .val (.int ex)] [(.int (1 : Int32)), (.ref bs)])) (fun t₀ k₀ => XS.iload Xc160.here hx rfl (hb hby at_162) rfl k₀) ?_
      refine own_step (Tc160.setTop (mkF m 166 #[.val (.int p0), .val (.int p1), .val (.int p2), .val (.int p3), .val (.int ff), .val (.int tt), .val (.ref bs), .val (.int (1 : Int32)), .val (.int (3 : Int32)), .val (.int ex)] [(.int (3 : Int32)), (.int (1 : Int32)), (.ref bs)])) (fun t₀ k₀ => XS.iload Xc160.here hx rfl (hb hby at_164) rfl k₀) ?_
      obtain ⟨_, _, ⟨T75, L75, k75, n75⟩, -, X75, ⟨Lc75, hQ75, l75, y75, z75⟩, st75⟩ := Jvm.LawKit.callS Xc160 hx (y := (⟨"com/example/labrelay/labrelay/model/SegmentMaker", "textEnd", "([BII)I"⟩ : MethodName)) hown (mvT hZ (hw _ (List.mem_of_getElem? (i := 9) rfl))) (mvT hZ (hw _ (List.mem_of_getElem? (i := 10) rfl))) (mvT hZ (hw _ (List.mem_of_getElem? (i := 11) rfl))) (mvT hZ (hw _ (List.mem_of_getElem? (i := 12) rfl))) (by decide) (backOf (W := 0) (rm3_1_3 l Z a0 hw [] bs b0 b1 b2 b3 kc hh n0 Zc160 Vb) hZ (hw _ (List.mem_of_getElem? (i := 12) rfl)) (hw _ (List.mem_of_getElem? (i := 11) rfl)) (by decide) (by decide)) (g := (mkF m 166 #[.val (.int p0), .val (.int p1), .val (.int p2), .val (.int p3), .val (.int ff), .val (.int tt), .val (.ref bs), .val (.int (1 : Int32)), .val (.int (3 : Int32)), .val (.int ex)] [(.int (3 : Int32)), (.int (1 : Int32)), (.ref bs)])) rfl (by rw [hml]; rfl) (argsL := [(.ref bs), (.int (1 : Int32)), (.int (3 : Int32))]) (rest := []) (lenOf pd_2 rfl) rfl (by show 2 * 0 + _ ≤ _; exact Nat.le_of_eq rfl) (hb hby at_166) (fun _ _ => ⟨rfl, ec160, (by decide : 1 + 0 ≤ _), (by decide : 4 + 0 ≤ _)⟩)
      dsimp only [Pt.U, Pt.locs, Pt.cells, Pt.slots] at X75 l75 y75 z75 st75 hQ75
      subst l75 y75 z75
      obtain ⟨rfl, N75q, e75⟩ := hQ75
      have N75 := Fr.app Nc160 N75q
      refine own_step (T75.setTop (mkF m 169 #[.val (.int p0), .val (.int p1), .val (.int p2), .val (.int p3), .val (.int ff), .val (.int tt), .val (.ref bs), .val (.int (1 : Int32)), .val (.int (3 : Int32)), .val (.int ex)] [(.int (own_all 1 3 b0 b1 b2 b3))])) (fun t₀ k₀ => st75 t₀ k₀) ?_
      refine own_step (T75.setTop (mkF m 171 #[.val (.int p0), .val (.int p1), .val (.int p2), .val (.int p3), .val (.int ff), .val (.int tt), .val (.ref bs), .val (.int (1 : Int32)), .val (.int (3 : Int32)), .val (.int ex)] [(.int ex), (.int (own_all 1 3 b0 b1 b2 b3))])) (fun t₀ k₀ => XS.iload X75.here hx rfl (hb hby at_169) rfl k₀) ?_
      have hk76 : (own_all 1 3 b0 b1 b2 b3) = ex := hex.symm
      refine own_step (T75.setTop (mkF m 174 #[.val (.int p0), .val (.int p1), .val (.int p2), .val (.int p3), .val (.int ff), .val (.int tt), .val (.ref bs), .val (.int (1 : Int32)), .val (.int (3 : Int32)), .val (.int ex)] [])) (fun t₀ k₀ => XS.icmpNo X75.here hx rfl (hb hby at_171) rfl (teq hk76).2 k₀) ?_
      refine own_step (T75.setTop (mkF m 175 #[.val (.int p0), .val (.int p1), .val (.int p2), .val (.int p3), .val (.int ff), .val (.int tt), .val (.ref bs), .val (.int (1 : Int32)), .val (.int (3 : Int32)), .val (.int ex)] [(.int (1 : Int32))])) (fun t₀ k₀ => XS.iconst X75.here hx rfl (hb hby at_174) k₀) ?_
      refine own_step (T75.setTop (mkF m 179 #[.val (.int p0), .val (.int p1), .val (.int p2), .val (.int p3), .val (.int ff), .val (.int tt), .val (.ref bs), .val (.int (1 : Int32)), .val (.int (3 : Int32)), .val (.int ex)] [(.int (1 : Int32))])) (fun t₀ k₀ => XS.goto X75.here hx rfl (pc0 := 175) (pc' := 179) rfl (hb hby at_175) (by decide) (by decide) k₀) ?_
      obtain ⟨fs, hr, hrun, hended, hW, hsame⟩ := X75.leave (v := some (.int (1 : Int32))) (fun h => by rw [Bd.returns] at h; cases h)
      refine ⟨_, _, ?_, hrun, hended, _, _, rfl, ?_, ⟨_, rfl⟩, hW, hsame.mono (by decide) (by decide)⟩
      · exact retN X75 hx (t := .boolean) Bd.returns (by simp) (hb hby at_179) hr
      · show Q_rm0 Z p0 p1 p2 p3 ff tt h0 n0 _ T75.heap _
        rw [e75]
        exact ⟨rfl, N75⟩
    · subst q1 q2
      refine own_step (Tc160.setTop (mkF m 162 #[.val (.int p0), .val (.int p1), .val (.int p2), .val (.int p3), .val (.int ff), .val (.int tt), .val (.ref bs), .val (.int (1 : Int32)), .val (.int (4 : Int32)), .val (.int ex)] [(.ref bs)])) (fun t₀ k₀ => XS.aload Xc160.here hx rfl (hb hby at_160) rfl rfl k₀) ?_
      refine own_step (Tc160.setTop (mkF m 164 #[.val (.int p0), .val (.int p1), .val (.int p2), .val (.int p3), .val (.int ff), .val (.int tt), .val (.ref bs), .val (.int (1 : Int32)), .val (.int (4 : Int32)), .val (.int ex)] [(.int (1 : Int32)), (.ref bs)])) (fun t₀ k₀ => XS.iload Xc160.here hx rfl (hb hby at_162) rfl k₀) ?_
      refine own_step (Tc160.setTop (mkF m 166 #[.val (.int p0), .val (.int p1), .val (.int p2), .val (.int p3), .val (.int ff), .val (.int tt), .val (.ref bs), .val (.int (1 : Int32)), .val (.int (4 : Int32)), .val (.int ex)] [(.int (4 : Int32)), (.int (1 : Int32)), (.ref bs)])) (fun t₀ k₀ => XS.iload Xc160.here hx rfl (hb hby at_164) rfl k₀) ?_
      obtain ⟨_, _, ⟨T77, L77, k77, n77⟩, -, X77, ⟨Lc77, hQ77, l77, y77, z77⟩, st77⟩ := Jvm.LawKit.callS Xc160 hx (y := (⟨"com/example/labrelay/labrelay/model/SegmentMaker", "textEnd", "([BII)I"⟩ : MethodName)) hown (mvT hZ (hw _ (List.mem_of_getElem? (i := 9) rfl))) (mvT hZ (hw _ (List.mem_of_getElem? (i := 10) rfl))) (mvT hZ (hw _ (List.mem_of_getElem? (i := 11) rfl))) (mvT hZ (hw _ (List.mem_of_getElem? (i := 12) rfl))) (by decide) (backOf (W := 0) (rm3_1_4 l Z a0 hw [] bs b0 b1 b2 b3 kc hh n0 Zc160 Vb) hZ (hw _ (List.mem_of_getElem? (i := 12) rfl)) (hw _ (List.mem_of_getElem? (i := 11) rfl)) (by decide) (by decide)) (g := (mkF m 166 #[.val (.int p0), .val (.int p1), .val (.int p2), .val (.int p3), .val (.int ff), .val (.int tt), .val (.ref bs), .val (.int (1 : Int32)), .val (.int (4 : Int32)), .val (.int ex)] [(.int (4 : Int32)), (.int (1 : Int32)), (.ref bs)])) rfl (by rw [hml]; rfl) (argsL := [(.ref bs), (.int (1 : Int32)), (.int (4 : Int32))]) (rest := []) (lenOf pd_2 rfl) rfl (by show 2 * 0 + _ ≤ _; exact Nat.le_of_eq rfl) (hb hby at_166) (fun _ _ => ⟨rfl, ec160, (by decide : 1 + 0 ≤ _), (by decide : 4 + 0 ≤ _)⟩)
      dsimp only [Pt.U, Pt.locs, Pt.cells, Pt.slots] at X77 l77 y77 z77 st77 hQ77
      subst l77 y77 z77
      obtain ⟨rfl, N77q, e77⟩ := hQ77
      have N77 := Fr.app Nc160 N77q
      refine own_step (T77.setTop (mkF m 169 #[.val (.int p0), .val (.int p1), .val (.int p2), .val (.int p3), .val (.int ff), .val (.int tt), .val (.ref bs), .val (.int (1 : Int32)), .val (.int (4 : Int32)), .val (.int ex)] [(.int (own_all 1 4 b0 b1 b2 b3))])) (fun t₀ k₀ => st77 t₀ k₀) ?_
      refine own_step (T77.setTop (mkF m 171 #[.val (.int p0), .val (.int p1), .val (.int p2), .val (.int p3), .val (.int ff), .val (.int tt), .val (.ref bs), .val (.int (1 : Int32)), .val (.int (4 : Int32)), .val (.int ex)] [(.int ex), (.int (own_all 1 4 b0 b1 b2 b3))])) (fun t₀ k₀ => XS.iload X77.here hx rfl (hb hby at_169) rfl k₀) ?_
      have hk78 : (own_all 1 4 b0 b1 b2 b3) = ex := hex.symm
      refine own_step (T77.setTop (mkF m 174 #[.val (.int p0), .val (.int p1), .val (.int p2), .val (.int p3), .val (.int ff), .val (.int tt), .val (.ref bs), .val (.int (1 : Int32)), .val (.int (4 : Int32)), .val (.int ex)] [])) (fun t₀ k₀ => XS.icmpNo X77.here hx rfl (hb hby at_171) rfl (teq hk78).2 k₀) ?_
      refine own_step (T77.setTop (mkF m 175 #[.val (.int p0), .val (.int p1), .val (.int p2), .val (.int p3), .val (.int ff), .val (.int tt), .val (.ref bs), .val (.int (1 : Int32)), .val (.int (4 : Int32)), .val (.int ex)] [(.int (1 : Int32))])) (fun t₀ k₀ => XS.iconst X77.here hx rfl (hb hby at_174) k₀) ?_
      refine own_step (T77.setTop (mkF m 179 #[.val (.int p0), .val (.int p1), .val (.int p2), .val (.int p3), .val (.int ff), .val (.int tt), .val (.ref bs), .val (.int (1 : Int32)), .val (.int (4 : Int32)), .val (.int ex)] [(.int (1 : Int32))])) (fun t₀ k₀ => XS.goto X77.here hx rfl (pc0 := 175) (pc' := 179) rfl (hb hby at_175) (by decide) (by decide) k₀) ?_
      obtain ⟨fs, hr, hrun, hended, hW, hsame⟩ := X77.leave (v := some (.int (1 : Int32))) (fun h => by rw [Bd.returns] at h; cases h)
      refine ⟨_, _, ?_, hrun, hended, _, _, rfl, ?_, ⟨_, rfl⟩, hW, hsame.mono (by decide) (by decide)⟩
      · exact retN X77 hx (t := .boolean) Bd.returns (by simp) (hb hby at_179) hr
      · show Q_rm0 Z p0 p1 p2 p3 ff tt h0 n0 _ T77.heap _
        rw [e77]
        exact ⟨rfl, N77⟩
    · subst q1 q2
      refine own_step (Tc160.setTop (mkF m 162 #[.val (.int p0), .val (.int p1), .val (.int p2), .val (.int p3), .val (.int ff), .val (.int tt), .val (.ref bs), .val (.int (2 : Int32)), .val (.int (2 : Int32)), .val (.int ex)] [(.ref bs)])) (fun t₀ k₀ => XS.aload Xc160.here hx rfl (hb hby at_160) rfl rfl k₀) ?_
      refine own_step (Tc160.setTop (mkF m 164 #[.val (.int p0), .val (.int p1), .val (.int p2), .val (.int p3), .val (.int ff), .val (.int tt), .val (.ref bs), .val (.int (2 : Int32)), .val (.int (2 : Int32)), .val (.int ex)] [(.int (2 : Int32)), (.ref bs)])) (fun t₀ k₀ => XS.iload Xc160.here hx rfl (hb hby at_162) rfl k₀) ?_
      refine own_step (Tc160.setTop (mkF m 166 #[.val (.int p0), .val (.int p1), .val (.int p2), .val (.int p3), .val (.int ff), .val (.int tt), .val (.ref bs), .val (.int (2 : Int32)), .val (.int (2 : Int32)), .val (.int ex)] [(.int (2 : Int32)), (.int (2 : Int32)), (.ref bs)])) (fun t₀ k₀ => XS.iload Xc160.here hx rfl (hb hby at_164) rfl k₀) ?_
      obtain ⟨_, _, ⟨T79, L79, k79, n79⟩, -, X79, ⟨Lc79, hQ79, l79, y79, z79⟩, st79⟩ := Jvm.LawKit.callS Xc160 hx (y := (⟨"com/example/labrelay/labrelay/model/SegmentMaker", "textEnd", "([BII)I"⟩ : MethodName)) hown (mvT hZ (hw _ (List.mem_of_getElem? (i := 9) rfl))) (mvT hZ (hw _ (List.mem_of_getElem? (i := 10) rfl))) (mvT hZ (hw _ (List.mem_of_getElem? (i := 11) rfl))) (mvT hZ (hw _ (List.mem_of_getElem? (i := 12) rfl))) (by decide) (backOf (W := 0) (rm3_2_2 l Z a0 hw [] bs b0 b1 b2 b3 kc hh n0 Zc160 Vb) hZ (hw _ (List.mem_of_getElem? (i := 12) rfl)) (hw _ (List.mem_of_getElem? (i := 11) rfl)) (by decide) (by decide)) (g := (mkF m 166 #[.val (.int p0), .val (.int p1), .val (.int p2), .val (.int p3), .val (.int ff), .val (.int tt), .val (.ref bs), .val (.int (2 : Int32)), .val (.int (2 : Int32)), .val (.int ex)] [(.int (2 : Int32)), (.int (2 : Int32)), (.ref bs)])) rfl (by rw [hml]; rfl) (argsL := [(.ref bs), (.int (2 : Int32)), (.int (2 : Int32))]) (rest := []) (lenOf pd_2 rfl) rfl (by show 2 * 0 + _ ≤ _; exact Nat.le_of_eq rfl) (hb hby at_166) (fun _ _ => ⟨rfl, ec160, (by decide : 1 + 0 ≤ _), (by decide : 4 + 0 ≤ _)⟩)
      dsimp only [Pt.U, Pt.locs, Pt.cells, Pt.slots] at X79 l79 y79 z79 st79 hQ79
      subst l79 y79 z79
      obtain ⟨rfl, N79q, e79⟩ := hQ79
      have N79 := Fr.app Nc160 N79q
      refine own_step (T79.setTop (mkF m 169 #[.val (.int p0), .val (.int p1), .val (.int p2), .val (.int p3), .val (.int ff), .val (.int tt), .val (.ref bs), .val (.int (2 : Int32)), .val (.int (2 : Int32)), .val (.int ex)] [(.int (own_all 2 2 b0 b1 b2 b3))])) (fun t₀ k₀ => st79 t₀ k₀) ?_
      refine own_step (T79.setTop (mkF m 171 #[.val (.int p0), .val (.int p1), .val (.int p2), .val (.int p3), .val (.int ff), .val (.int tt), .val (.ref bs), .val (.int (2 : Int32)), .val (.int (2 : Int32)), .val (.int ex)] [(.int ex), (.int (own_all 2 2 b0 b1 b2 b3))])) (fun t₀ k₀ => XS.iload X79.here hx rfl (hb hby at_169) rfl k₀) ?_
      have hk80 : (own_all 2 2 b0 b1 b2 b3) = ex := hex.symm
      refine own_step (T79.setTop (mkF m 174 #[.val (.int p0), .val (.int p1), .val (.int p2), .val (.int p3), .val (.int ff), .val (.int tt), .val (.ref bs), .val (.int (2 : Int32)), .val (.int (2 : Int32)), .val (.int ex)] [])) (fun t₀ k₀ => XS.icmpNo X79.here hx rfl (hb hby at_171) rfl (teq hk80).2 k₀) ?_
      refine own_step (T79.setTop (mkF m 175 #[.val (.int p0), .val (.int p1), .val (.int p2), .val (.int p3), .val (.int ff), .val (.int tt), .val (.ref bs), .val (.int (2 : Int32)), .val (.int (2 : Int32)), .val (.int ex)] [(.int (1 : Int32))])) (fun t₀ k₀ => XS.iconst X79.here hx rfl (hb hby at_174) k₀) ?_
      refine own_step (T79.setTop (mkF m 179 #[.val (.int p0), .val (.int p1), .val (.int p2), .val (.int p3), .val (.int ff), .val (.int tt), .val (.ref bs), .val (.int (2 : Int32)), .val (.int (2 : Int32)), .val (.int ex)] [(.int (1 : Int32))])) (fun t₀ k₀ => XS.goto X79.here hx rfl (pc0 := 175) (pc' := 179) rfl (hb hby at_175) (by decide) (by decide) k₀) ?_
      obtain ⟨fs, hr, hrun, hended, hW, hsame⟩ := X79.leave (v := some (.int (1 : Int32))) (fun h => by rw [Bd.returns] at h; cases h)
      refine ⟨_, _, ?_, hrun, hended, _, _, rfl, ?_, ⟨_, rfl⟩, hW, hsame.mono (by decide) (by decide)⟩
      · exact retN X79 hx (t := .boolean) Bd.returns (by simp) (hb hby at_179) hr
      · show Q_rm0 Z p0 p1 p2 p3 ff tt h0 n0 _ T79.heap _
        rw [e79]
        exact ⟨rfl, N79⟩
    · subst q1 q2
      refine own_step (Tc160.setTop (mkF m 162 #[.val (.int p0), .val (.int p1), .val (.int p2), .val (.int p3), .val (.int ff), .val (.int tt), .val (.ref bs), .val (.int (2 : Int32)), .val (.int (3 : Int32)), .val (.int ex)] [(.ref bs)])) (fun t₀ k₀ => XS.aload Xc160.here hx rfl (hb hby at_160) rfl rfl k₀) ?_
      refine own_step (Tc160.setTop (mkF m 164 #[.val (.int p0), .val (.int p1), .val (.int p2), .val (.int p3), .val (.int ff), .val (.int tt), .val (.ref bs), .val (.int (2 : Int32)), .val (.int (3 : Int32)), .val (.int ex)] [(.int (2 : Int32)), (.ref bs)])) (fun t₀ k₀ => XS.iload Xc160.here hx rfl (hb hby at_162) rfl k₀) ?_
      refine own_step (Tc160.setTop (mkF m 166 #[.val (.int p0), .val (.int p1), .val (.int p2), .val (.int p3), .val (.int ff), .val (.int tt), .val (.ref bs), .val (.int (2 : Int32)), .val (.int (3 : Int32)), .val (.int ex)] [(.int (3 : Int32)), (.int (2 : Int32)), (.ref bs)])) (fun t₀ k₀ => XS.iload Xc160.here hx rfl (hb hby at_164) rfl k₀) ?_
      obtain ⟨_, _, ⟨T81, L81, k81, n81⟩, -, X81, ⟨Lc81, hQ81, l81, y81, z81⟩, st81⟩ := Jvm.LawKit.callS Xc160 hx (y := (⟨"com/example/labrelay/labrelay/model/SegmentMaker", "textEnd", "([BII)I"⟩ : MethodName)) hown (mvT hZ (hw _ (List.mem_of_getElem? (i := 9) rfl))) (mvT hZ (hw _ (List.mem_of_getElem? (i := 10) rfl))) (mvT hZ (hw _ (List.mem_of_getElem? (i := 11) rfl))) (mvT hZ (hw _ (List.mem_of_getElem? (i := 12) rfl))) (by decide) (backOf (W := 0) (rm3_2_3 l Z a0 hw [] bs b0 b1 b2 b3 kc hh n0 Zc160 Vb) hZ (hw _ (List.mem_of_getElem? (i := 12) rfl)) (hw _ (List.mem_of_getElem? (i := 11) rfl)) (by decide) (by decide)) (g := (mkF m 166 #[.val (.int p0), .val (.int p1), .val (.int p2), .val (.int p3), .val (.int ff), .val (.int tt), .val (.ref bs), .val (.int (2 : Int32)), .val (.int (3 : Int32)), .val (.int ex)] [(.int (3 : Int32)), (.int (2 : Int32)), (.ref bs)])) rfl (by rw [hml]; rfl) (argsL := [(.ref bs), (.int (2 : Int32)), (.int (3 : Int32))]) (rest := []) (lenOf pd_2 rfl) rfl (by show 2 * 0 + _ ≤ _; exact Nat.le_of_eq rfl) (hb hby at_166) (fun _ _ => ⟨rfl, ec160, (by decide : 1 + 0 ≤ _), (by decide : 4 + 0 ≤ _)⟩)
      dsimp only [Pt.U, Pt.locs, Pt.cells, Pt.slots] at X81 l81 y81 z81 st81 hQ81
      subst l81 y81 z81
      obtain ⟨rfl, N81q, e81⟩ := hQ81
      have N81 := Fr.app Nc160 N81q
      refine own_step (T81.setTop (mkF m 169 #[.val (.int p0), .val (.int p1), .val (.int p2), .val (.int p3), .val (.int ff), .val (.int tt), .val (.ref bs), .val (.int (2 : Int32)), .val (.int (3 : Int32)), .val (.int ex)] [(.int (own_all 2 3 b0 b1 b2 b3))])) (fun t₀ k₀ => st81 t₀ k₀) ?_
      refine own_step (T81.setTop (mkF m 171 #[.val (.int p0), .val (.int p1), .val (.int p2), .val (.int p3), .val (.int ff), .val (.int tt), .val (.ref bs), .val (.int (2 : Int32)), .val (.int (3 : Int32)), .val (.int ex)] [(.int ex), (.int (own_all 2 3 b0 b1 b2 b3))])) (fun t₀ k₀ => XS.iload X81.here hx rfl (hb hby at_169) rfl k₀) ?_
      have hk82 : (own_all 2 3 b0 b1 b2 b3) = ex := hex.symm
      refine own_step (T81.setTop (mkF m 174 #[.val (.int p0), .val (.int p1), .val (.int p2), .val (.int p3), .val (.int ff), .val (.int tt), .val (.ref bs), .val (.int (2 : Int32)), .val (.int (3 : Int32)), .val (.int ex)] [])) (fun t₀ k₀ => XS.icmpNo X81.here hx rfl (hb hby at_171) rfl (teq hk82).2 k₀) ?_
      refine own_step (T81.setTop (mkF m 175 #[.val (.int p0), .val (.int p1), .val (.int p2), .val (.int p3), .val (.int ff), .val (.int tt), .val (.ref bs), .val (.int (2 : Int32)), .val (.int (3 : Int32)), .val (.int ex)] [(.int (1 : Int32))])) (fun t₀ k₀ => XS.iconst X81.here hx rfl (hb hby at_174) k₀) ?_
      refine own_step (T81.setTop (mkF m 179 #[.val (.int p0), .val (.int p1), .val (.int p2), .val (.int p3), .val (.int ff), .val (.int tt), .val (.ref bs), .val (.int (2 : Int32)), .val (.int (3 : Int32)), .val (.int ex)] [(.int (1 : Int32))])) (fun t₀ k₀ => XS.goto X81.here hx rfl (pc0 := 175) (pc' := 179) rfl (hb hby at_175) (by decide) (by decide) k₀) ?_
      obtain ⟨fs, hr, hrun, hended, hW, hsame⟩ := X81.leave (v := some (.int (1 : Int32))) (fun h => by rw [Bd.returns] at h; cases h)
      refine ⟨_, _, ?_, hrun, hended, _, _, rfl, ?_, ⟨_, rfl⟩, hW, hsame.mono (by decide) (by decide)⟩
      · exact retN X81 hx (t := .boolean) Bd.returns (by simp) (hb hby at_179) hr
      · show Q_rm0 Z p0 p1 p2 p3 ff tt h0 n0 _ T81.heap _
        rw [e81]
        exact ⟨rfl, N81⟩
    · subst q1 q2
      refine own_step (Tc160.setTop (mkF m 162 #[.val (.int p0), .val (.int p1), .val (.int p2), .val (.int p3), .val (.int ff), .val (.int tt), .val (.ref bs), .val (.int (2 : Int32)), .val (.int (4 : Int32)), .val (.int ex)] [(.ref bs)])) (fun t₀ k₀ => XS.aload Xc160.here hx rfl (hb hby at_160) rfl rfl k₀) ?_
      refine own_step (Tc160.setTop (mkF m 164 #[.val (.int p0), .val (.int p1), .val (.int p2), .val (.int p3), .val (.int ff), .val (.int tt), .val (.ref bs), .val (.int (2 : Int32)), .val (.int (4 : Int32)), .val (.int ex)] [(.int (2 : Int32)), (.ref bs)])) (fun t₀ k₀ => XS.iload Xc160.here hx rfl (hb hby at_162) rfl k₀) ?_
      refine own_step (Tc160.setTop (mkF m 166 #[.val (.int p0), .val (.int p1), .val (.int p2), .val (.int p3), .val (.int ff), .val (.int tt), .val (.ref bs), .val (.int (2 : Int32)), .val (.int (4 : Int32)), .val (.int ex)] [(.int (4 : Int32)), (.int (2 : Int32)), (.ref bs)])) (fun t₀ k₀ => XS.iload Xc160.here hx rfl (hb hby at_164) rfl k₀) ?_
      obtain ⟨_, _, ⟨T83, L83, k83, n83⟩, -, X83, ⟨Lc83, hQ83, l83, y83, z83⟩, st83⟩ := Jvm.LawKit.callS Xc160 hx (y := (⟨"com/example/labrelay/labrelay/model/SegmentMaker", "textEnd", "([BII)I"⟩ : MethodName)) hown (mvT hZ (hw _ (List.mem_of_getElem? (i := 9) rfl))) (mvT hZ (hw _ (List.mem_of_getElem? (i := 10) rfl))) (mvT hZ (hw _ (List.mem_of_getElem? (i := 11) rfl))) (mvT hZ (hw _ (List.mem_of_getElem? (i := 12) rfl))) (by decide) (backOf (W := 0) (rm3_2_4 l Z a0 hw [] bs b0 b1 b2 b3 kc hh n0 Zc160 Vb) hZ (hw _ (List.mem_of_getElem? (i := 12) rfl)) (hw _ (List.mem_of_getElem? (i := 11) rfl)) (by decide) (by decide)) (g := (mkF m 166 #[.val (.int p0), .val (.int p1), .val (.int p2), .val (.int p3), .val (.int ff), .val (.int tt), .val (.ref bs), .val (.int (2 : Int32)), .val (.int (4 : Int32)), .val (.int ex)] [(.int (4 : Int32)), (.int (2 : Int32)), (.ref bs)])) rfl (by rw [hml]; rfl) (argsL := [(.ref bs), (.int (2 : Int32)), (.int (4 : Int32))]) (rest := []) (lenOf pd_2 rfl) rfl (by show 2 * 0 + _ ≤ _; exact Nat.le_of_eq rfl) (hb hby at_166) (fun _ _ => ⟨rfl, ec160, (by decide : 1 + 0 ≤ _), (by decide : 4 + 0 ≤ _)⟩)
      dsimp only [Pt.U, Pt.locs, Pt.cells, Pt.slots] at X83 l83 y83 z83 st83 hQ83
      subst l83 y83 z83
      obtain ⟨rfl, N83q, e83⟩ := hQ83
      have N83 := Fr.app Nc160 N83q
      refine own_step (T83.setTop (mkF m 169 #[.val (.int p0), .val (.int p1), .val (.int p2), .val (.int p3), .val (.int ff), .val (.int tt), .val (.ref bs), .val (.int (2 : Int32)), .val (.int (4 : Int32)), .val (.int ex)] [(.int (own_all 2 4 b0 b1 b2 b3))])) (fun t₀ k₀ => st83 t₀ k₀) ?_
      refine own_step (T83.setTop (mkF m 171 #[.val (.int p0), .val (.int p1), .val (.int p2), .val (.int p3), .val (.int ff), .val (.int tt), .val (.ref bs), .val (.int (2 : Int32)), .val (.int (4 : Int32)), .val (.int ex)] [(.int ex), (.int (own_all 2 4 b0 b1 b2 b3))])) (fun t₀ k₀ => XS.iload X83.here hx rfl (hb hby at_169) rfl k₀) ?_
      have hk84 : (own_all 2 4 b0 b1 b2 b3) = ex := hex.symm
      refine own_step (T83.setTop (mkF m 174 #[.val (.int p0), .val (.int p1), .val (.int p2), .val (.int p3), .val (.int ff), .val (.int tt), .val (.ref bs), .val (.int (2 : Int32)), .val (.int (4 : Int32)), .val (.int ex)] [])) (fun t₀ k₀ => XS.icmpNo X83.here hx rfl (hb hby at_171) rfl (teq hk84).2 k₀) ?_
      refine own_step (T83.setTop (mkF m 175 #[.val (.int p0), .val (.int p1), .val (.int p2), .val (.int p3), .val (.int ff), .val (.int tt), .val (.ref bs), .val (.int (2 : Int32)), .val (.int (4 : Int32)), .val (.int ex)] [(.int (1 : Int32))])) (fun t₀ k₀ => XS.iconst X83.here hx rfl (hb hby at_174) k₀) ?_
      refine own_step (T83.setTop (mkF m 179 #[.val (.int p0), .val (.int p1), .val (.int p2), .val (.int p3), .val (.int ff), .val (.int tt), .val (.ref bs), .val (.int (2 : Int32)), .val (.int (4 : Int32)), .val (.int ex)] [(.int (1 : Int32))])) (fun t₀ k₀ => XS.goto X83.here hx rfl (pc0 := 175) (pc' := 179) rfl (hb hby at_175) (by decide) (by decide) k₀) ?_
      obtain ⟨fs, hr, hrun, hended, hW, hsame⟩ := X83.leave (v := some (.int (1 : Int32))) (fun h => by rw [Bd.returns] at h; cases h)
      refine ⟨_, _, ?_, hrun, hended, _, _, rfl, ?_, ⟨_, rfl⟩, hW, hsame.mono (by decide) (by decide)⟩
      · exact retN X83 hx (t := .boolean) Bd.returns (by simp) (hb hby at_179) hr
      · show Q_rm0 Z p0 p1 p2 p3 ff tt h0 n0 _ T83.heap _
        rw [e83]
        exact ⟨rfl, N83⟩
    · subst q1 q2
      refine own_step (Tc160.setTop (mkF m 162 #[.val (.int p0), .val (.int p1), .val (.int p2), .val (.int p3), .val (.int ff), .val (.int tt), .val (.ref bs), .val (.int (3 : Int32)), .val (.int (3 : Int32)), .val (.int ex)] [(.ref bs)])) (fun t₀ k₀ => XS.aload Xc160.here hx rfl (hb hby at_160) rfl rfl k₀) ?_
      refine own_step (Tc160.setTop (mkF m 164 #[.val (.int p0), .val (.int p1), .val (.int p2), .val (.int p3), .val (.int ff), .val (.int tt), .val (.ref bs), .val (.int (3 : Int32)), .val (.int (3 : Int32)), .val (.int ex)] [(.int (3 : Int32)), (.ref bs)])) (fun t₀ k₀ => XS.iload Xc160.here hx rfl (hb hby at_162) rfl k₀) ?_
      refine own_step (Tc160.setTop (mkF m 166 #[.val (.int p0), .val (.int p1), .val (.int p2), .val (.int p3), .val (.int ff), .val (.int tt), .val (.ref bs), .val (.int (3 : Int32)), .val (.int (3 : Int32)), .val (.int ex)] [(.int (3 : Int32)), (.int (3 : Int32)), (.ref bs)])) (fun t₀ k₀ => XS.iload Xc160.here hx rfl (hb hby at_164) rfl k₀) ?_
      obtain ⟨_, _, ⟨T85, L85, k85, n85⟩, -, X85, ⟨Lc85, hQ85, l85, y85, z85⟩, st85⟩ := Jvm.LawKit.callS Xc160 hx (y := (⟨"com/example/labrelay/labrelay/model/SegmentMaker", "textEnd", "([BII)I"⟩ : MethodName)) hown (mvT hZ (hw _ (List.mem_of_getElem? (i := 9) rfl))) (mvT hZ (hw _ (List.mem_of_getElem? (i := 10) rfl))) (mvT hZ (hw _ (List.mem_of_getElem? (i := 11) rfl))) (mvT hZ (hw _ (List.mem_of_getElem? (i := 12) rfl))) (by decide) (backOf (W := 0) (rm3_3_3 l Z a0 hw [] bs b0 b1 b2 b3 kc hh n0 Zc160 Vb) hZ (hw _ (List.mem_of_getElem? (i := 12) rfl)) (hw _ (List.mem_of_getElem? (i := 11) rfl)) (by decide) (by decide)) (g := (mkF m 166 #[.val (.int p0), .val (.int p1), .val (.int p2), .val (.int p3), .val (.int ff), .val (.int tt), .val (.ref bs), .val (.int (3 : Int32)), .val (.int (3 : Int32)), .val (.int ex)] [(.int (3 : Int32)), (.int (3 : Int32)), (.ref bs)])) rfl (by rw [hml]; rfl) (argsL := [(.ref bs), (.int (3 : Int32)), (.int (3 : Int32))]) (rest := []) (lenOf pd_2 rfl) rfl (by show 2 * 0 + _ ≤ _; exact Nat.le_of_eq rfl) (hb hby at_166) (fun _ _ => ⟨rfl, ec160, (by decide : 1 + 0 ≤ _), (by decide : 4 + 0 ≤ _)⟩)
      dsimp only [Pt.U, Pt.locs, Pt.cells, Pt.slots] at X85 l85 y85 z85 st85 hQ85
      subst l85 y85 z85
      obtain ⟨rfl, N85q, e85⟩ := hQ85
      have N85 := Fr.app Nc160 N85q
      refine own_step (T85.setTop (mkF m 169 #[.val (.int p0), .val (.int p1), .val (.int p2), .val (.int p3), .val (.int ff), .val (.int tt), .val (.ref bs), .val (.int (3 : Int32)), .val (.int (3 : Int32)), .val (.int ex)] [(.int (own_all 3 3 b0 b1 b2 b3))])) (fun t₀ k₀ => st85 t₀ k₀) ?_
      refine own_step (T85.setTop (mkF m 171 #[.val (.int p0), .val (.int p1), .val (.int p2), .val (.int p3), .val (.int ff), .val (.int tt), .val (.ref bs), .val (.int (3 : Int32)), .val (.int (3 : Int32)), .val (.int ex)] [(.int ex), (.int (own_all 3 3 b0 b1 b2 b3))])) (fun t₀ k₀ => XS.iload X85.here hx rfl (hb hby at_169) rfl k₀) ?_
      have hk86 : (own_all 3 3 b0 b1 b2 b3) = ex := hex.symm
      refine own_step (T85.setTop (mkF m 174 #[.val (.int p0), .val (.int p1), .val (.int p2), .val (.int p3), .val (.int ff), .val (.int tt), .val (.ref bs), .val (.int (3 : Int32)), .val (.int (3 : Int32)), .val (.int ex)] [])) (fun t₀ k₀ => XS.icmpNo X85.here hx rfl (hb hby at_171) rfl (teq hk86).2 k₀) ?_
      refine own_step (T85.setTop (mkF m 175 #[.val (.int p0), .val (.int p1), .val (.int p2), .val (.int p3), .val (.int ff), .val (.int tt), .val (.ref bs), .val (.int (3 : Int32)), .val (.int (3 : Int32)), .val (.int ex)] [(.int (1 : Int32))])) (fun t₀ k₀ => XS.iconst X85.here hx rfl (hb hby at_174) k₀) ?_
      refine own_step (T85.setTop (mkF m 179 #[.val (.int p0), .val (.int p1), .val (.int p2), .val (.int p3), .val (.int ff), .val (.int tt), .val (.ref bs), .val (.int (3 : Int32)), .val (.int (3 : Int32)), .val (.int ex)] [(.int (1 : Int32))])) (fun t₀ k₀ => XS.goto X85.here hx rfl (pc0 := 175) (pc' := 179) rfl (hb hby at_175) (by decide) (by decide) k₀) ?_
      obtain ⟨fs, hr, hrun, hended, hW, hsame⟩ := X85.leave (v := some (.int (1 : Int32))) (fun h => by rw [Bd.returns] at h; cases h)
      refine ⟨_, _, ?_, hrun, hended, _, _, rfl, ?_, ⟨_, rfl⟩, hW, hsame.mono (by decide) (by decide)⟩
      · exact retN X85 hx (t := .boolean) Bd.returns (by simp) (hb hby at_179) hr
      · show Q_rm0 Z p0 p1 p2 p3 ff tt h0 n0 _ T85.heap _
        rw [e85]
        exact ⟨rfl, N85⟩
    · subst q1 q2
      refine own_step (Tc160.setTop (mkF m 162 #[.val (.int p0), .val (.int p1), .val (.int p2), .val (.int p3), .val (.int ff), .val (.int tt), .val (.ref bs), .val (.int (3 : Int32)), .val (.int (4 : Int32)), .val (.int ex)] [(.ref bs)])) (fun t₀ k₀ => XS.aload Xc160.here hx rfl (hb hby at_160) rfl rfl k₀) ?_
      refine own_step (Tc160.setTop (mkF m 164 #[.val (.int p0), .val (.int p1), .val (.int p2), .val (.int p3), .val (.int ff), .val (.int tt), .val (.ref bs), .val (.int (3 : Int32)), .val (.int (4 : Int32)), .val (.int ex)] [(.int (3 : Int32)), (.ref bs)])) (fun t₀ k₀ => XS.iload Xc160.here hx rfl (hb hby at_162) rfl k₀) ?_
      refine own_step (Tc160.setTop (mkF m 166 #[.val (.int p0), .val (.int p1), .val (.int p2), .val (.int p3), .val (.int ff), .val (.int tt), .val (.ref bs), .val (.int (3 : Int32)), .val (.int (4 : Int32)), .val (.int ex)] [(.int (4 : Int32)), (.int (3 : Int32)), (.ref bs)])) (fun t₀ k₀ => XS.iload Xc160.here hx rfl (hb hby at_164) rfl k₀) ?_
      obtain ⟨_, _, ⟨T87, L87, k87, n87⟩, -, X87, ⟨Lc87, hQ87, l87, y87, z87⟩, st87⟩ := Jvm.LawKit.callS Xc160 hx (y := (⟨"com/example/labrelay/labrelay/model/SegmentMaker", "textEnd", "([BII)I"⟩ : MethodName)) hown (mvT hZ (hw _ (List.mem_of_getElem? (i := 9) rfl))) (mvT hZ (hw _ (List.mem_of_getElem? (i := 10) rfl))) (mvT hZ (hw _ (List.mem_of_getElem? (i := 11) rfl))) (mvT hZ (hw _ (List.mem_of_getElem? (i := 12) rfl))) (by decide) (backOf (W := 0) (rm3_3_4 l Z a0 hw [] bs b0 b1 b2 b3 kc hh n0 Zc160 Vb) hZ (hw _ (List.mem_of_getElem? (i := 12) rfl)) (hw _ (List.mem_of_getElem? (i := 11) rfl)) (by decide) (by decide)) (g := (mkF m 166 #[.val (.int p0), .val (.int p1), .val (.int p2), .val (.int p3), .val (.int ff), .val (.int tt), .val (.ref bs), .val (.int (3 : Int32)), .val (.int (4 : Int32)), .val (.int ex)] [(.int (4 : Int32)), (.int (3 : Int32)), (.ref bs)])) rfl (by rw [hml]; rfl) (argsL := [(.ref bs), (.int (3 : Int32)), (.int (4 : Int32))]) (rest := []) (lenOf pd_2 rfl) rfl (by show 2 * 0 + _ ≤ _; exact Nat.le_of_eq rfl) (hb hby at_166) (fun _ _ => ⟨rfl, ec160, (by decide : 1 + 0 ≤ _), (by decide : 4 + 0 ≤ _)⟩)
      dsimp only [Pt.U, Pt.locs, Pt.cells, Pt.slots] at X87 l87 y87 z87 st87 hQ87
      subst l87 y87 z87
      obtain ⟨rfl, N87q, e87⟩ := hQ87
      have N87 := Fr.app Nc160 N87q
      refine own_step (T87.setTop (mkF m 169 #[.val (.int p0), .val (.int p1), .val (.int p2), .val (.int p3), .val (.int ff), .val (.int tt), .val (.ref bs), .val (.int (3 : Int32)), .val (.int (4 : Int32)), .val (.int ex)] [(.int (own_all 3 4 b0 b1 b2 b3))])) (fun t₀ k₀ => st87 t₀ k₀) ?_
      refine own_step (T87.setTop (mkF m 171 #[.val (.int p0), .val (.int p1), .val (.int p2), .val (.int p3), .val (.int ff), .val (.int tt), .val (.ref bs), .val (.int (3 : Int32)), .val (.int (4 : Int32)), .val (.int ex)] [(.int ex), (.int (own_all 3 4 b0 b1 b2 b3))])) (fun t₀ k₀ => XS.iload X87.here hx rfl (hb hby at_169) rfl k₀) ?_
      have hk88 : (own_all 3 4 b0 b1 b2 b3) = ex := hex.symm
      refine own_step (T87.setTop (mkF m 174 #[.val (.int p0), .val (.int p1), .val (.int p2), .val (.int p3), .val (.int ff), .val (.int tt), .val (.ref bs), .val (.int (3 : Int32)), .val (.int (4 : Int32)), .val (.int ex)] [])) (fun t₀ k₀ => XS.icmpNo X87.here hx rfl (hb hby at_171) rfl (teq hk88).2 k₀) ?_
      refine own_step (T87.setTop (mkF m 175 #[.val (.int p0), .val (.int p1), .val (.int p2), .val (.int p3), .val (.int ff), .val (.int tt), .val (.ref bs), .val (.int (3 : Int32)), .val (.int (4 : Int32)), .val (.int ex)] [(.int (1 : Int32))])) (fun t₀ k₀ => XS.iconst X87.here hx rfl (hb hby at_174) k₀) ?_
      refine own_step (T87.setTop (mkF m 179 #[.val (.int p0), .val (.int p1), .val (.int p2), .val (.int p3), .val (.int ff), .val (.int tt), .val (.ref bs), .val (.int (3 : Int32)), .val (.int (4 : Int32)), .val (.int ex)] [(.int (1 : Int32))])) (fun t₀ k₀ => XS.goto X87.here hx rfl (pc0 := 175) (pc' := 179) rfl (hb hby at_175) (by decide) (by decide) k₀) ?_
      obtain ⟨fs, hr, hrun, hended, hW, hsame⟩ := X87.leave (v := some (.int (1 : Int32))) (fun h => by rw [Bd.returns] at h; cases h)
      refine ⟨_, _, ?_, hrun, hended, _, _, rfl, ?_, ⟨_, rfl⟩, hW, hsame.mono (by decide) (by decide)⟩
      · exact retN X87 hx (t := .boolean) Bd.returns (by simp) (hb hby at_179) hr
      · show Q_rm0 Z p0 p1 p2 p3 ff tt h0 n0 _ T87.heap _
        rw [e87]
        exact ⟨rfl, N87⟩
    · subst q1 q2
      refine own_step (Tc160.setTop (mkF m 162 #[.val (.int p0), .val (.int p1), .val (.int p2), .val (.int p3), .val (.int ff), .val (.int tt), .val (.ref bs), .val (.int (4 : Int32)), .val (.int (4 : Int32)), .val (.int ex)] [(.ref bs)])) (fun t₀ k₀ => XS.aload Xc160.here hx rfl (hb hby at_160) rfl rfl k₀) ?_
      refine own_step (Tc160.setTop (mkF m 164 #[.val (.int p0), .val (.int p1), .val (.int p2), .val (.int p3), .val (.int ff), .val (.int tt), .val (.ref bs), .val (.int (4 : Int32)), .val (.int (4 : Int32)), .val (.int ex)] [(.int (4 : Int32)), (.ref bs)])) (fun t₀ k₀ => XS.iload Xc160.here hx rfl (hb hby at_162) rfl k₀) ?_
      refine own_step (Tc160.setTop (mkF m 166 #[.val (.int p0), .val (.int p1), .val (.int p2), .val (.int p3), .val (.int ff), .val (.int tt), .val (.ref bs), .val (.int (4 : Int32)), .val (.int (4 : Int32)), .val (.int ex)] [(.int (4 : Int32)), (.int (4 : Int32)), (.ref bs)])) (fun t₀ k₀ => XS.iload Xc160.here hx rfl (hb hby at_164) rfl k₀) ?_
      obtain ⟨_, _, ⟨T89, L89, k89, n89⟩, -, X89, ⟨Lc89, hQ89, l89, y89, z89⟩, st89⟩ := Jvm.LawKit.callS Xc160 hx (y := (⟨"com/example/labrelay/labrelay/model/SegmentMaker", "textEnd", "([BII)I"⟩ : MethodName)) hown (mvT hZ (hw _ (List.mem_of_getElem? (i := 9) rfl))) (mvT hZ (hw _ (List.mem_of_getElem? (i := 10) rfl))) (mvT hZ (hw _ (List.mem_of_getElem? (i := 11) rfl))) (mvT hZ (hw _ (List.mem_of_getElem? (i := 12) rfl))) (by decide) (backOf (W := 0) (rm3_4_4 l Z a0 hw [] bs b0 b1 b2 b3 kc hh n0 Zc160 Vb) hZ (hw _ (List.mem_of_getElem? (i := 12) rfl)) (hw _ (List.mem_of_getElem? (i := 11) rfl)) (by decide) (by decide)) (g := (mkF m 166 #[.val (.int p0), .val (.int p1), .val (.int p2), .val (.int p3), .val (.int ff), .val (.int tt), .val (.ref bs), .val (.int (4 : Int32)), .val (.int (4 : Int32)), .val (.int ex)] [(.int (4 : Int32)), (.int (4 : Int32)), (.ref bs)])) rfl (by rw [hml]; rfl) (argsL := [(.ref bs), (.int (4 : Int32)), (.int (4 : Int32))]) (rest := []) (lenOf pd_2 rfl) rfl (by show 2 * 0 + _ ≤ _; exact Nat.le_of_eq rfl) (hb hby at_166) (fun _ _ => ⟨rfl, ec160, (by decide : 1 + 0 ≤ _), (by decide : 4 + 0 ≤ _)⟩)
      dsimp only [Pt.U, Pt.locs, Pt.cells, Pt.slots] at X89 l89 y89 z89 st89 hQ89
      subst l89 y89 z89
      obtain ⟨rfl, N89q, e89⟩ := hQ89
      have N89 := Fr.app Nc160 N89q
      refine own_step (T89.setTop (mkF m 169 #[.val (.int p0), .val (.int p1), .val (.int p2), .val (.int p3), .val (.int ff), .val (.int tt), .val (.ref bs), .val (.int (4 : Int32)), .val (.int (4 : Int32)), .val (.int ex)] [(.int (own_all 4 4 b0 b1 b2 b3))])) (fun t₀ k₀ => st89 t₀ k₀) ?_
      refine own_step (T89.setTop (mkF m 171 #[.val (.int p0), .val (.int p1), .val (.int p2), .val (.int p3), .val (.int ff), .val (.int tt), .val (.ref bs), .val (.int (4 : Int32)), .val (.int (4 : Int32)), .val (.int ex)] [(.int ex), (.int (own_all 4 4 b0 b1 b2 b3))])) (fun t₀ k₀ => XS.iload X89.here hx rfl (hb hby at_169) rfl k₀) ?_
      have hk90 : (own_all 4 4 b0 b1 b2 b3) = ex := hex.symm
      refine own_step (T89.setTop (mkF m 174 #[.val (.int p0), .val (.int p1), .val (.int p2), .val (.int p3), .val (.int ff), .val (.int tt), .val (.ref bs), .val (.int (4 : Int32)), .val (.int (4 : Int32)), .val (.int ex)] [])) (fun t₀ k₀ => XS.icmpNo X89.here hx rfl (hb hby at_171) rfl (teq hk90).2 k₀) ?_
      refine own_step (T89.setTop (mkF m 175 #[.val (.int p0), .val (.int p1), .val (.int p2), .val (.int p3), .val (.int ff), .val (.int tt), .val (.ref bs), .val (.int (4 : Int32)), .val (.int (4 : Int32)), .val (.int ex)] [(.int (1 : Int32))])) (fun t₀ k₀ => XS.iconst X89.here hx rfl (hb hby at_174) k₀) ?_
      refine own_step (T89.setTop (mkF m 179 #[.val (.int p0), .val (.int p1), .val (.int p2), .val (.int p3), .val (.int ff), .val (.int tt), .val (.ref bs), .val (.int (4 : Int32)), .val (.int (4 : Int32)), .val (.int ex)] [(.int (1 : Int32))])) (fun t₀ k₀ => XS.goto X89.here hx rfl (pc0 := 175) (pc' := 179) rfl (hb hby at_175) (by decide) (by decide) k₀) ?_
      obtain ⟨fs, hr, hrun, hended, hW, hsame⟩ := X89.leave (v := some (.int (1 : Int32))) (fun h => by rw [Bd.returns] at h; cases h)
      refine ⟨_, _, ?_, hrun, hended, _, _, rfl, ?_, ⟨_, rfl⟩, hW, hsame.mono (by decide) (by decide)⟩
      · exact retN X89 hx (t := .boolean) Bd.returns (by simp) (hb hby at_179) hr
      · show Q_rm0 Z p0 p1 p2 p3 ff tt h0 n0 _ T89.heap _
        rw [e89]
        exact ⟨rfl, N89⟩
  have cut136 : ∀ (bs : Addr) (kc : ClassId) (b0 : Int32) (b1 : Int32) (b2 : Int32) (b3 : Int32) (fr : Int32) (to : Int32) (ex : Int32) (hh : Heap) (Zc136 : n0 ≤ hh.size) (Tc136 : State) (lc136 : List Loc) (Nc136 : Fr n0 lc136) (Xc136 : Stand p l e room_1 s m #[(.int p0), (.int p1), (.int p2), (.int p3), (.int ff), (.int tt)] below meth c Tc136 lc136 1 4) (ec136 : Tc136.heap = hh) (Vb : Arv Z hh bs kc .byte (4 : Int32) [(.int b0), (.int b1), (.int b2), (.int b3)] (.int (0 : Int32))) (hft : own_FT fr to) (hex : ex = own_st 1 fr to b1 (own_st 2 fr to b2 (own_st 3 fr to b3 to))), own_Go p e below (fun s₂ o₉ => s₂.status = .running ∧ Ended s₂ below o₉ ∧ ∃ v L, o₉ = .returned v ∧ Q_rm0 Z p0 p1 p2 p3 ff tt h0 n0 v s₂.heap L ∧ FrameEnd s o₉ s₂ L room_1.cells room_1.slots) (Tc136.setTop (mkF m 136 #[.val (.int p0), .val (.int p1), .val (.int p2), .val (.int p3), .val (.int ff), .val (.int tt), .val (.ref bs), .val (.int fr), .val (.int to), .val (.int ex)] [])) := by
    intro bs kc b0 b1 b2 b3 fr to ex hh Zc136 Tc136 lc136 Nc136 Xc136 ec136 Vb hft hex
    refine own_step (Tc136.setTop (mkF m 138 #[.val (.int p0), .val (.int p1), .val (.int p2), .val (.int p3), .val (.int ff), .val (.int tt), .val (.ref bs), .val (.int fr), .val (.int to), .val (.int ex)] [(.int fr)])) (fun t₀ k₀ => XS.iload Xc136.here hx rfl (hb hby at_136) rfl k₀) ?_
    by_cases hc138 : (0 : Int32) < fr
    · skip
      refine own_step (Tc136.setTop (mkF m 160 #[.val (.int p0), .val (.int p1), .val (.int p2), .val (.int p3), .val (.int ff), .val (.int tt), .val (.ref bs), .val (.int fr), .val (.int to), .val (.int ex)] [])) (fun t₀ k₀ => XS.ifYes Xc136.here hx rfl (pc0 := 138) (pc' := 160) rfl (hb hby at_138) rfl ((if0 _ _).trans (tlt hc138).2.2.1) (by decide) (by decide) k₀) ?_
      exact cut160 bs kc b0 b1 b2 b3 fr to ex _ Zc136 _ _ Nc136 Xc136 ec136 Vb hft (by unfold own_all; rw [own_st]; rw [if_neg (fun q => q.1 hc138)]; exact hex)
    · skip
      refine own_step (Tc136.setTop (mkF m 141 #[.val (.int p0), .val (.int p1), .val (.int p2), .val (.int p3), .val (.int ff), .val (.int tt), .val (.ref bs), .val (.int fr), .val (.int to), .val (.int ex)] [])) (fun t₀ k₀ => XS.ifNo Xc136.here hx rfl (hb hby at_138) rfl ((if0 _ _).trans (flt hc138).2.2.1) k₀) ?_
      refine own_step (Tc136.setTop (mkF m 142 #[.val (.int p0), .val (.int p1), .val (.int p2), .val (.int p3), .val (.int ff), .val (.int tt), .val (.ref bs), .val (.int fr), .val (.int to), .val (.int ex)] [(.int (0 : Int32))])) (fun t₀ k₀ => XS.iconst Xc136.here hx rfl (hb hby at_141) k₀) ?_
      refine own_step (Tc136.setTop (mkF m 144 #[.val (.int p0), .val (.int p1), .val (.int p2), .val (.int p3), .val (.int ff), .val (.int tt), .val (.ref bs), .val (.int fr), .val (.int to), .val (.int ex)] [(.int to), (.int (0 : Int32))])) (fun t₀ k₀ => XS.iload Xc136.here hx rfl (hb hby at_142) rfl k₀) ?_
      by_cases hc144 : (0 : Int32) < to
      · skip
        refine own_step (Tc136.setTop (mkF m 147 #[.val (.int p0), .val (.int p1), .val (.int p2), .val (.int p3), .val (.int ff), .val (.int tt), .val (.ref bs), .val (.int fr), .val (.int to), .val (.int ex)] [])) (fun t₀ k₀ => XS.icmpNo Xc136.here hx rfl (hb hby at_144) rfl (tlt hc144).2.1 k₀) ?_
        refine own_step (Tc136.setTop (mkF m 149 #[.val (.int p0), .val (.int p1), .val (.int p2), .val (.int p3), .val (.int ff), .val (.int tt), .val (.ref bs), .val (.int fr), .val (.int to), .val (.int ex)] [(.ref bs)])) (fun t₀ k₀ => XS.aload Xc136.here hx rfl (hb hby at_147) rfl rfl k₀) ?_
        refine own_step (Tc136.setTop (mkF m 150 #[.val (.int p0), .val (.int p1), .val (.int p2), .val (.int p3), .val (.int ff), .val (.int tt), .val (.ref bs), .val (.int fr), .val (.int to), .val (.int ex)] [(.int (0 : Int32)), (.ref bs)])) (fun t₀ k₀ => XS.iconst Xc136.here hx rfl (hb hby at_149) k₀) ?_
        obtain ⟨clo91, Aro91, qo91, So91, Mo91, Ho91, Go91⟩ := id Vb
        have hino91 : ¬ ((0 : Int32) < 0 ∨ clo91.slots.size ≤ ((0 : Int32)).toNatClampNeg) := inb_of So91 ⟨by decide, by decide⟩
        have hato91 : clo91.slots[((0 : Int32)).toNatClampNeg]? = some (.int b0) := Ho91 0 (by rw [So91]; decide)
        refine own_step (Tc136.setTop (mkF m 151 #[.val (.int p0), .val (.int p1), .val (.int p2), .val (.int p3), .val (.int ff), .val (.int tt), .val (.ref bs), .val (.int fr), .val (.int to), .val (.int ex)] [(.int b0)])) (fun t₀ k₀ => Xc136.baloadBytes hx (j := (0 : Int32)) (v := (.int b0)) (by rw [ec136]; exact Aro91.1) (State.isArrayOf_alike hZ.alike Aro91.2.1) Aro91.2.2 hino91 hato91 (g := (mkF m 150 #[.val (.int p0), .val (.int p1), .val (.int p2), .val (.int p3), .val (.int ff), .val (.int tt), .val (.ref bs), .val (.int fr), .val (.int to), .val (.int ex)] [(.int (0 : Int32)), (.ref bs)])) rfl rfl (hb hby at_150) _ k₀) ?_
        obtain ⟨_, _, ⟨T92, L92, k92, n92⟩, -, X92, ⟨Lc92, hQ92, l92, y92, z92⟩, st92⟩ := Jvm.LawKit.callS Xc136 hx (y := (⟨"com/example/labrelay/labrelay/model/SegmentMakerTextEndPinLaw", "ends", "(B)Z"⟩ : MethodName)) hown (mvT hZ (hw _ (List.mem_of_getElem? (i := 6) rfl))) (mvT hZ (hw _ (List.mem_of_getElem? (i := 7) rfl))) (mvT hZ (hw _ (List.mem_of_getElem? (i := 3) rfl))) (mvT hZ (hw _ (List.mem_of_getElem? (i := 8) rfl))) (by decide) (backOf (W := 0) (rm2 l Z a0 hw [] b0 hh n0 Zc136) hZ (hw _ (List.mem_of_getElem? (i := 8) rfl)) (hw _ (List.mem_of_getElem? (i := 3) rfl)) (by decide) (by decide)) (g := (mkF m 151 #[.val (.int p0), .val (.int p1), .val (.int p2), .val (.int p3), .val (.int ff), .val (.int tt), .val (.ref bs), .val (.int fr), .val (.int to), .val (.int ex)] [(.int b0)])) rfl (by rw [hml]; rfl) (argsL := [(.int b0)]) (rest := []) (lenOf pd_1 rfl) rfl (by show 2 * 0 + _ ≤ _; exact Nat.le_of_eq rfl) (hb hby at_151) (fun _ _ => ⟨rfl, ec136, (by decide : 1 + 0 ≤ _), (by decide : 4 + 0 ≤ _)⟩)
        dsimp only [Pt.U, Pt.locs, Pt.cells, Pt.slots] at X92 l92 y92 z92 st92 hQ92
        subst l92 y92 z92
        obtain ⟨rfl, N92q, e92⟩ := hQ92
        have N92 := Fr.app Nc136 N92q
        refine own_step (T92.setTop (mkF m 154 #[.val (.int p0), .val (.int p1), .val (.int p2), .val (.int p3), .val (.int ff), .val (.int tt), .val (.ref bs), .val (.int fr), .val (.int to), .val (.int ex)] [(.int (own_e b0))])) (fun t₀ k₀ => st92 t₀ k₀) ?_
        by_cases hc154 : (own_e b0) = (0 : Int32)
        · skip
          refine own_step (T92.setTop (mkF m 160 #[.val (.int p0), .val (.int p1), .val (.int p2), .val (.int p3), .val (.int ff), .val (.int tt), .val (.ref bs), .val (.int fr), .val (.int to), .val (.int ex)] [])) (fun t₀ k₀ => XS.ifYes X92.here hx rfl (pc0 := 154) (pc' := 160) rfl (hb hby at_154) rfl ((if0 _ _).trans (teq hc154).1) (by decide) (by decide) k₀) ?_
          exact cut160 bs kc b0 b1 b2 b3 fr to ex _ Zc136 _ _ N92 X92 e92 Vb hft (by unfold own_all; rw [own_st]; rw [if_neg (fun q => q.2.2 hc154)]; exact hex)
        · skip
          refine own_step (T92.setTop (mkF m 157 #[.val (.int p0), .val (.int p1), .val (.int p2), .val (.int p3), .val (.int ff), .val (.int tt), .val (.ref bs), .val (.int fr), .val (.int to), .val (.int ex)] [])) (fun t₀ k₀ => XS.ifNo X92.here hx rfl (hb hby at_154) rfl ((if0 _ _).trans (feq hc154).1) k₀) ?_
          refine own_step (T92.setTop (mkF m 158 #[.val (.int p0), .val (.int p1), .val (.int p2), .val (.int p3), .val (.int ff), .val (.int tt), .val (.ref bs), .val (.int fr), .val (.int to), .val (.int ex)] [(.int (0 : Int32))])) (fun t₀ k₀ => XS.iconst X92.here hx rfl (hb hby at_157) k₀) ?_
          refine own_step (T92.setTop (mkF m 160 #[.val (.int p0), .val (.int p1), .val (.int p2), .val (.int p3), .val (.int ff), .val (.int tt), .val (.ref bs), .val (.int fr), .val (.int to), .val (.int (0 : Int32))] [])) (fun t₀ k₀ => XS.istore X92.here hx rfl (hb hby at_158) rfl (l' := #[.val (.int p0), .val (.int p1), .val (.int p2), .val (.int p3), .val (.int ff), .val (.int tt), .val (.ref bs), .val (.int fr), .val (.int to), .val (.int (0 : Int32))]) rfl k₀) ?_
          exact cut160 bs kc b0 b1 b2 b3 fr to (0 : Int32) _ Zc136 _ _ N92 X92 e92 Vb hft (by unfold own_all; rw [own_st]; rw [if_pos ⟨hc138, hc144, hc154⟩])
      · skip
        refine own_step (Tc136.setTop (mkF m 160 #[.val (.int p0), .val (.int p1), .val (.int p2), .val (.int p3), .val (.int ff), .val (.int tt), .val (.ref bs), .val (.int fr), .val (.int to), .val (.int ex)] [])) (fun t₀ k₀ => XS.icmpYes Xc136.here hx rfl (pc0 := 144) (pc' := 160) rfl (hb hby at_144) rfl (flt hc144).2.1 (by decide) (by decide) k₀) ?_
        exact cut160 bs kc b0 b1 b2 b3 fr to ex _ Zc136 _ _ Nc136 Xc136 ec136 Vb hft (by unfold own_all; rw [own_st]; rw [if_neg (fun q => hc144 q.2.1)]; exact hex)
  have cut111 : ∀ (bs : Addr) (kc : ClassId) (b0 : Int32) (b1 : Int32) (b2 : Int32) (b3 : Int32) (fr : Int32) (to : Int32) (ex : Int32) (hh : Heap) (Zc111 : n0 ≤ hh.size) (Tc111 : State) (lc111 : List Loc) (Nc111 : Fr n0 lc111) (Xc111 : Stand p l e room_1 s m #[(.int p0), (.int p1), (.int p2), (.int p3), (.int ff), (.int tt)] below meth c Tc111 lc111 1 4) (ec111 : Tc111.heap = hh) (Vb : Arv Z hh bs kc .byte (4 : Int32) [(.int b0), (.int b1), (.int b2), (.int b3)] (.int (0 : Int32))) (hft : own_FT fr to) (hex : ex = own_st 2 fr to b2 (own_st 3 fr to b3 to)), own_Go p e below (fun s₂ o₉ => s₂.status = .running ∧ Ended s₂ below o₉ ∧ ∃ v L, o₉ = .returned v ∧ Q_rm0 Z p0 p1 p2 p3 ff tt h0 n0 v s₂.heap L ∧ FrameEnd s o₉ s₂ L room_1.cells room_1.slots) (Tc111.setTop (mkF m 111 #[.val (.int p0), .val (.int p1), .val (.int p2), .val (.int p3), .val (.int ff), .val (.int tt), .val (.ref bs), .val (.int fr), .val (.int to), .val (.int ex)] [])) := by
    intro bs kc b0 b1 b2 b3 fr to ex hh Zc111 Tc111 lc111 Nc111 Xc111 ec111 Vb hft hex
    refine own_step (Tc111.setTop (mkF m 113 #[.val (.int p0), .val (.int p1), .val (.int p2), .val (.int p3), .val (.int ff), .val (.int tt), .val (.ref bs), .val (.int fr), .val (.int to), .val (.int ex)] [(.int fr)])) (fun t₀ k₀ => XS.iload Xc111.here hx rfl (hb hby at_111) rfl k₀) ?_
    refine own_step (Tc111.setTop (mkF m 114 #[.val (.int p0), .val (.int p1), .val (.int p2), .val (.int p3), .val (.int ff), .val (.int tt), .val (.ref bs), .val (.int fr), .val (.int to), .val (.int ex)] [(.int (1 : Int32)), (.int fr)])) (fun t₀ k₀ => XS.iconst Xc111.here hx rfl (hb hby at_113) k₀) ?_
    by_cases hc114 : (1 : Int32) < fr
    · skip
      refine own_step (Tc111.setTop (mkF m 136 #[.val (.int p0), .val (.int p1), .val (.int p2), .val (.int p3), .val (.int ff), .val (.int tt), .val (.ref bs), .val (.int fr), .val (.int to), .val (.int ex)] [])) (fun t₀ k₀ => XS.icmpYes Xc111.here hx rfl (pc0 := 114) (pc' := 136) rfl (hb hby at_114) rfl (tlt hc114).2.2.1 (by decide) (by decide) k₀) ?_
      exact cut136 bs kc b0 b1 b2 b3 fr to ex _ Zc111 _ _ Nc111 Xc111 ec111 Vb hft (by rw [own_st]; rw [if_neg (fun q => q.1 hc114)]; exact hex)
    · skip
      refine own_step (Tc111.setTop (mkF m 117 #[.val (.int p0), .val (.int p1), .val (.int p2), .val (.int p3), .val (.int ff), .val (.int tt), .val (.ref bs), .val (.int fr), .val (.int to), .val (.int ex)] [])) (fun t₀ k₀ => XS.icmpNo Xc111.here hx rfl (hb hby at_114) rfl (flt hc114).2.2.1 k₀) ?_
      refine own_step (Tc111.setTop (mkF m 118 #[.val (.int p0), .val (.int p1), .val (.int p2), .val (.int p3), .val (.int ff), .val (.int tt), .val (.ref bs), .val (.int fr), .val (.int to), .val (.int ex)] [(.int (1 : Int32))])) (fun t₀ k₀ => XS.iconst Xc111.here hx rfl (hb hby at_117) k₀) ?_
      refine own_step (Tc111.setTop (mkF m 120 #[.val (.int p0), .val (.int p1), .val (.int p2), .val (.int p3), .val (.int ff), .val (.int tt), .val (.ref bs), .val (.int fr), .val (.int to), .val (.int ex)] [(.int to), (.int (1 : Int32))])) (fun t₀ k₀ => XS.iload Xc111.here hx rfl (hb hby at_118) rfl k₀) ?_
      by_cases hc120 : (1 : Int32) < to
      · skip
        refine own_step (Tc111.setTop (mkF m 123 #[.val (.int p0), .val (.int p1), .val (.int p2), .val (.int p3), .val (.int ff), .val (.int tt), .val (.ref bs), .val (.int fr), .val (.int to), .val (.int ex)] [])) (fun t₀ k₀ => XS.icmpNo Xc111.here hx rfl (hb hby at_120) rfl (tlt hc120).2.1 k₀) ?_
        refine own_step (Tc111.setTop (mkF m 125 #[.val (.int p0), .val (.int p1), .val (.int p2), .val (.int p3), .val (.int ff), .val (.int tt), .val (.ref bs), .val (.int fr), .val (.int to), .val (.int ex)] [(.ref bs)])) (fun t₀ k₀ => XS.aload Xc111.here hx rfl (hb hby at_123) rfl rfl k₀) ?_
        refine own_step (Tc111.setTop (mkF m 126 #[.val (.int p0), .val (.int p1), .val (.int p2), .val (.int p3), .val (.int ff), .val (.int tt), .val (.ref bs), .val (.int fr), .val (.int to), .val (.int ex)] [(.int (1 : Int32)), (.ref bs)])) (fun t₀ k₀ => XS.iconst Xc111.here hx rfl (hb hby at_125) k₀) ?_
        obtain ⟨clo93, Aro93, qo93, So93, Mo93, Ho93, Go93⟩ := id Vb
        have hino93 : ¬ ((1 : Int32) < 0 ∨ clo93.slots.size ≤ ((1 : Int32)).toNatClampNeg) := inb_of So93 ⟨by decide, by decide⟩
        have hato93 : clo93.slots[((1 : Int32)).toNatClampNeg]? = some (.int b1) := Ho93 1 (by rw [So93]; decide)
        refine own_step (Tc111.setTop (mkF m 127 #[.val (.int p0), .val (.int p1), .val (.int p2), .val (.int p3), .val (.int ff), .val (.int tt), .val (.ref bs), .val (.int fr), .val (.int to), .val (.int ex)] [(.int b1)])) (fun t₀ k₀ => Xc111.baloadBytes hx (j := (1 : Int32)) (v := (.int b1)) (by rw [ec111]; exact Aro93.1) (State.isArrayOf_alike hZ.alike Aro93.2.1) Aro93.2.2 hino93 hato93 (g := (mkF m 126 #[.val (.int p0), .val (.int p1), .val (.int p2), .val (.int p3), .val (.int ff), .val (.int tt), .val (.ref bs), .val (.int fr), .val (.int to), .val (.int ex)] [(.int (1 : Int32)), (.ref bs)])) rfl rfl (hb hby at_126) _ k₀) ?_
        obtain ⟨_, _, ⟨T94, L94, k94, n94⟩, -, X94, ⟨Lc94, hQ94, l94, y94, z94⟩, st94⟩ := Jvm.LawKit.callS Xc111 hx (y := (⟨"com/example/labrelay/labrelay/model/SegmentMakerTextEndPinLaw", "ends", "(B)Z"⟩ : MethodName)) hown (mvT hZ (hw _ (List.mem_of_getElem? (i := 6) rfl))) (mvT hZ (hw _ (List.mem_of_getElem? (i := 7) rfl))) (mvT hZ (hw _ (List.mem_of_getElem? (i := 3) rfl))) (mvT hZ (hw _ (List.mem_of_getElem? (i := 8) rfl))) (by decide) (backOf (W := 0) (rm2 l Z a0 hw [] b1 hh n0 Zc111) hZ (hw _ (List.mem_of_getElem? (i := 8) rfl)) (hw _ (List.mem_of_getElem? (i := 3) rfl)) (by decide) (by decide)) (g := (mkF m 127 #[.val (.int p0), .val (.int p1), .val (.int p2), .val (.int p3), .val (.int ff), .val (.int tt), .val (.ref bs), .val (.int fr), .val (.int to), .val (.int ex)] [(.int b1)])) rfl (by rw [hml]; rfl) (argsL := [(.int b1)]) (rest := []) (lenOf pd_1 rfl) rfl (by show 2 * 0 + _ ≤ _; exact Nat.le_of_eq rfl) (hb hby at_127) (fun _ _ => ⟨rfl, ec111, (by decide : 1 + 0 ≤ _), (by decide : 4 + 0 ≤ _)⟩)
        dsimp only [Pt.U, Pt.locs, Pt.cells, Pt.slots] at X94 l94 y94 z94 st94 hQ94
        subst l94 y94 z94
        obtain ⟨rfl, N94q, e94⟩ := hQ94
        have N94 := Fr.app Nc111 N94q
        refine own_step (T94.setTop (mkF m 130 #[.val (.int p0), .val (.int p1), .val (.int p2), .val (.int p3), .val (.int ff), .val (.int tt), .val (.ref bs), .val (.int fr), .val (.int to), .val (.int ex)] [(.int (own_e b1))])) (fun t₀ k₀ => st94 t₀ k₀) ?_
        by_cases hc130 : (own_e b1) = (0 : Int32)
        · skip
          refine own_step (T94.setTop (mkF m 136 #[.val (.int p0), .val (.int p1), .val (.int p2), .val (.int p3), .val (.int ff), .val (.int tt), .val (.ref bs), .val (.int fr), .val (.int to), .val (.int ex)] [])) (fun t₀ k₀ => XS.ifYes X94.here hx rfl (pc0 := 130) (pc' := 136) rfl (hb hby at_130) rfl ((if0 _ _).trans (teq hc130).1) (by decide) (by decide) k₀) ?_
          exact cut136 bs kc b0 b1 b2 b3 fr to ex _ Zc111 _ _ N94 X94 e94 Vb hft (by rw [own_st]; rw [if_neg (fun q => q.2.2 hc130)]; exact hex)
        · skip
          refine own_step (T94.setTop (mkF m 133 #[.val (.int p0), .val (.int p1), .val (.int p2), .val (.int p3), .val (.int ff), .val (.int tt), .val (.ref bs), .val (.int fr), .val (.int to), .val (.int ex)] [])) (fun t₀ k₀ => XS.ifNo X94.here hx rfl (hb hby at_130) rfl ((if0 _ _).trans (feq hc130).1) k₀) ?_
          refine own_step (T94.setTop (mkF m 134 #[.val (.int p0), .val (.int p1), .val (.int p2), .val (.int p3), .val (.int ff), .val (.int tt), .val (.ref bs), .val (.int fr), .val (.int to), .val (.int ex)] [(.int (1 : Int32))])) (fun t₀ k₀ => XS.iconst X94.here hx rfl (hb hby at_133) k₀) ?_
          refine own_step (T94.setTop (mkF m 136 #[.val (.int p0), .val (.int p1), .val (.int p2), .val (.int p3), .val (.int ff), .val (.int tt), .val (.ref bs), .val (.int fr), .val (.int to), .val (.int (1 : Int32))] [])) (fun t₀ k₀ => XS.istore X94.here hx rfl (hb hby at_134) rfl (l' := #[.val (.int p0), .val (.int p1), .val (.int p2), .val (.int p3), .val (.int ff), .val (.int tt), .val (.ref bs), .val (.int fr), .val (.int to), .val (.int (1 : Int32))]) rfl k₀) ?_
          exact cut136 bs kc b0 b1 b2 b3 fr to (1 : Int32) _ Zc111 _ _ N94 X94 e94 Vb hft (by rw [own_st]; rw [if_pos ⟨hc114, hc120, hc130⟩])
      · skip
        refine own_step (Tc111.setTop (mkF m 136 #[.val (.int p0), .val (.int p1), .val (.int p2), .val (.int p3), .val (.int ff), .val (.int tt), .val (.ref bs), .val (.int fr), .val (.int to), .val (.int ex)] [])) (fun t₀ k₀ => XS.icmpYes Xc111.here hx rfl (pc0 := 120) (pc' := 136) rfl (hb hby at_120) rfl (flt hc120).2.1 (by decide) (by decide) k₀) ?_
        exact cut136 bs kc b0 b1 b2 b3 fr to ex _ Zc111 _ _ Nc111 Xc111 ec111 Vb hft (by rw [own_st]; rw [if_neg (fun q => hc120 q.2.1)]; exact hex)
  have cut86 : ∀ (bs : Addr) (kc : ClassId) (b0 : Int32) (b1 : Int32) (b2 : Int32) (b3 : Int32) (fr : Int32) (to : Int32) (ex : Int32) (hh : Heap) (Zc86 : n0 ≤ hh.size) (Tc86 : State) (lc86 : List Loc) (Nc86 : Fr n0 lc86) (Xc86 : Stand p l e room_1 s m #[(.int p0), (.int p1), (.int p2), (.int p3), (.int ff), (.int tt)] below meth c Tc86 lc86 1 4) (ec86 : Tc86.heap = hh) (Vb : Arv Z hh bs kc .byte (4 : Int32) [(.int b0), (.int b1), (.int b2), (.int b3)] (.int (0 : Int32))) (hft : own_FT fr to) (hex : ex = own_st 3 fr to b3 to), own_Go p e below (fun s₂ o₉ => s₂.status = .running ∧ Ended s₂ below o₉ ∧ ∃ v L, o₉ = .returned v ∧ Q_rm0 Z p0 p1 p2 p3 ff tt h0 n0 v s₂.heap L ∧ FrameEnd s o₉ s₂ L room_1.cells room_1.slots) (Tc86.setTop (mkF m 86 #[.val (.int p0), .val (.int p1), .val (.int p2), .val (.int p3), .val (.int ff), .val (.int tt), .val (.ref bs), .val (.int fr), .val (.int to), .val (.int ex)] [])) := by
    intro bs kc b0 b1 b2 b3 fr to ex hh Zc86 Tc86 lc86 Nc86 Xc86 ec86 Vb hft hex
    refine own_step (Tc86.setTop (mkF m 88 #[.val (.int p0), .val (.int p1), .val (.int p2), .val (.int p3), .val (.int ff), .val (.int tt), .val (.ref bs), .val (.int fr), .val (.int to), .val (.int ex)] [(.int fr)])) (fun t₀ k₀ => XS.iload Xc86.here hx rfl (hb hby at_86) rfl k₀) ?_
    refine own_step (Tc86.setTop (mkF m 89 #[.val (.int p0), .val (.int p1), .val (.int p2), .val (.int p3), .val (.int ff), .val (.int tt), .val (.ref bs), .val (.int fr), .val (.int to), .val (.int ex)] [(.int (2 : Int32)), (.int fr)])) (fun t₀ k₀ => XS.iconst Xc86.here hx rfl (hb hby at_88) k₀) ?_
    by_cases hc89 : (2 : Int32) < fr
    · skip
      refine own_step (Tc86.setTop (mkF m 111 #[.val (.int p0), .val (.int p1), .val (.int p2), .val (.int p3), .val (.int ff), .val (.int tt), .val (.ref bs), .val (.int fr), .val (.int to), .val (.int ex)] [])) (fun t₀ k₀ => XS.icmpYes Xc86.here hx rfl (pc0 := 89) (pc' := 111) rfl (hb hby at_89) rfl (tlt hc89).2.2.1 (by decide) (by decide) k₀) ?_
      exact cut111 bs kc b0 b1 b2 b3 fr to ex _ Zc86 _ _ Nc86 Xc86 ec86 Vb hft (by rw [own_st]; rw [if_neg (fun q => q.1 hc89)]; exact hex)
    · skip
      refine own_step (Tc86.setTop (mkF m 92 #[.val (.int p0), .val (.int p1), .val (.int p2), .val (.int p3), .val (.int ff), .val (.int tt), .val (.ref bs), .val (.int fr), .val (.int to), .val (.int ex)] [])) (fun t₀ k₀ => XS.icmpNo Xc86.here hx rfl (hb hby at_89) rfl (flt hc89).2.2.1 k₀) ?_
      refine own_step (Tc86.setTop (mkF m 93 #[.val (.int p0), .val (.int p1), .val (.int p2), .val (.int p3), .val (.int ff), .val (.int tt), .val (.ref bs), .val (.int fr), .val (.int to), .val (.int ex)] [(.int (2 : Int32))])) (fun t₀ k₀ => XS.iconst Xc86.here hx rfl (hb hby at_92) k₀) ?_
      refine own_step (Tc86.setTop (mkF m 95 #[.val (.int p0), .val (.int p1), .val (.int p2), .val (.int p3), .val (.int ff), .val (.int tt), .val (.ref bs), .val (.int fr), .val (.int to), .val (.int ex)] [(.int to), (.int (2 : Int32))])) (fun t₀ k₀ => XS.iload Xc86.here hx rfl (hb hby at_93) rfl k₀) ?_
      by_cases hc95 : (2 : Int32) < to
      · skip
        refine own_step (Tc86.setTop (mkF m 98 #[.val (.int p0), .val (.int p1), .val (.int p2), .val (.int p3), .val (.int ff), .val (.int tt), .val (.ref bs), .val (.int fr), .val (.int to), .val (.int ex)] [])) (fun t₀ k₀ => XS.icmpNo Xc86.here hx rfl (hb hby at_95) rfl (tlt hc95).2.1 k₀) ?_
        refine own_step (Tc86.setTop (mkF m 100 #[.val (.int p0), .val (.int p1), .val (.int p2), .val (.int p3), .val (.int ff), .val (.int tt), .val (.ref bs), .val (.int fr), .val (.int to), .val (.int ex)] [(.ref bs)])) (fun t₀ k₀ => XS.aload Xc86.here hx rfl (hb hby at_98) rfl rfl k₀) ?_
        refine own_step (Tc86.setTop (mkF m 101 #[.val (.int p0), .val (.int p1), .val (.int p2), .val (.int p3), .val (.int ff), .val (.int tt), .val (.ref bs), .val (.int fr), .val (.int to), .val (.int ex)] [(.int (2 : Int32)), (.ref bs)])) (fun t₀ k₀ => XS.iconst Xc86.here hx rfl (hb hby at_100) k₀) ?_
        obtain ⟨clo95, Aro95, qo95, So95, Mo95, Ho95, Go95⟩ := id Vb
        have hino95 : ¬ ((2 : Int32) < 0 ∨ clo95.slots.size ≤ ((2 : Int32)).toNatClampNeg) := inb_of So95 ⟨by decide, by decide⟩
        have hato95 : clo95.slots[((2 : Int32)).toNatClampNeg]? = some (.int b2) := Ho95 2 (by rw [So95]; decide)
        refine own_step (Tc86.setTop (mkF m 102 #[.val (.int p0), .val (.int p1), .val (.int p2), .val (.int p3), .val (.int ff), .val (.int tt), .val (.ref bs), .val (.int fr), .val (.int to), .val (.int ex)] [(.int b2)])) (fun t₀ k₀ => Xc86.baloadBytes hx (j := (2 : Int32)) (v := (.int b2)) (by rw [ec86]; exact Aro95.1) (State.isArrayOf_alike hZ.alike Aro95.2.1) Aro95.2.2 hino95 hato95 (g := (mkF m 101 #[.val (.int p0), .val (.int p1), .val (.int p2), .val (.int p3), .val (.int ff), .val (.int tt), .val (.ref bs), .val (.int fr), .val (.int to), .val (.int ex)] [(.int (2 : Int32)), (.ref bs)])) rfl rfl (hb hby at_101) _ k₀) ?_
        obtain ⟨_, _, ⟨T96, L96, k96, n96⟩, -, X96, ⟨Lc96, hQ96, l96, y96, z96⟩, st96⟩ := Jvm.LawKit.callS Xc86 hx (y := (⟨"com/example/labrelay/labrelay/model/SegmentMakerTextEndPinLaw", "ends", "(B)Z"⟩ : MethodName)) hown (mvT hZ (hw _ (List.mem_of_getElem? (i := 6) rfl))) (mvT hZ (hw _ (List.mem_of_getElem? (i := 7) rfl))) (mvT hZ (hw _ (List.mem_of_getElem? (i := 3) rfl))) (mvT hZ (hw _ (List.mem_of_getElem? (i := 8) rfl))) (by decide) (backOf (W := 0) (rm2 l Z a0 hw [] b2 hh n0 Zc86) hZ (hw _ (List.mem_of_getElem? (i := 8) rfl)) (hw _ (List.mem_of_getElem? (i := 3) rfl)) (by decide) (by decide)) (g := (mkF m 102 #[.val (.int p0), .val (.int p1), .val (.int p2), .val (.int p3), .val (.int ff), .val (.int tt), .val (.ref bs), .val (.int fr), .val (.int to), .val (.int ex)] [(.int b2)])) rfl (by rw [hml]; rfl) (argsL := [(.int b2)]) (rest := []) (lenOf pd_1 rfl) rfl (by show 2 * 0 + _ ≤ _; exact Nat.le_of_eq rfl) (hb hby at_102) (fun _ _ => ⟨rfl, ec86, (by decide : 1 + 0 ≤ _), (by decide : 4 + 0 ≤ _)⟩)
        dsimp only [Pt.U, Pt.locs, Pt.cells, Pt.slots] at X96 l96 y96 z96 st96 hQ96
        subst l96 y96 z96
        obtain ⟨rfl, N96q, e96⟩ := hQ96
        have N96 := Fr.app Nc86 N96q
        refine own_step (T96.setTop (mkF m 105 #[.val (.int p0), .val (.int p1), .val (.int p2), .val (.int p3), .val (.int ff), .val (.int tt), .val (.ref bs), .val (.int fr), .val (.int to), .val (.int ex)] [(.int (own_e b2))])) (fun t₀ k₀ => st96 t₀ k₀) ?_
        by_cases hc105 : (own_e b2) = (0 : Int32)
        · skip
          refine own_step (T96.setTop (mkF m 111 #[.val (.int p0), .val (.int p1), .val (.int p2), .val (.int p3), .val (.int ff), .val (.int tt), .val (.ref bs), .val (.int fr), .val (.int to), .val (.int ex)] [])) (fun t₀ k₀ => XS.ifYes X96.here hx rfl (pc0 := 105) (pc' := 111) rfl (hb hby at_105) rfl ((if0 _ _).trans (teq hc105).1) (by decide) (by decide) k₀) ?_
          exact cut111 bs kc b0 b1 b2 b3 fr to ex _ Zc86 _ _ N96 X96 e96 Vb hft (by rw [own_st]; rw [if_neg (fun q => q.2.2 hc105)]; exact hex)
        · skip
          refine own_step (T96.setTop (mkF m 108 #[.val (.int p0), .val (.int p1), .val (.int p2), .val (.int p3), .val (.int ff), .val (.int tt), .val (.ref bs), .val (.int fr), .val (.int to), .val (.int ex)] [])) (fun t₀ k₀ => XS.ifNo X96.here hx rfl (hb hby at_105) rfl ((if0 _ _).trans (feq hc105).1) k₀) ?_
          refine own_step (T96.setTop (mkF m 109 #[.val (.int p0), .val (.int p1), .val (.int p2), .val (.int p3), .val (.int ff), .val (.int tt), .val (.ref bs), .val (.int fr), .val (.int to), .val (.int ex)] [(.int (2 : Int32))])) (fun t₀ k₀ => XS.iconst X96.here hx rfl (hb hby at_108) k₀) ?_
          refine own_step (T96.setTop (mkF m 111 #[.val (.int p0), .val (.int p1), .val (.int p2), .val (.int p3), .val (.int ff), .val (.int tt), .val (.ref bs), .val (.int fr), .val (.int to), .val (.int (2 : Int32))] [])) (fun t₀ k₀ => XS.istore X96.here hx rfl (hb hby at_109) rfl (l' := #[.val (.int p0), .val (.int p1), .val (.int p2), .val (.int p3), .val (.int ff), .val (.int tt), .val (.ref bs), .val (.int fr), .val (.int to), .val (.int (2 : Int32))]) rfl k₀) ?_
          exact cut111 bs kc b0 b1 b2 b3 fr to (2 : Int32) _ Zc86 _ _ N96 X96 e96 Vb hft (by rw [own_st]; rw [if_pos ⟨hc89, hc95, hc105⟩])
      · skip
        refine own_step (Tc86.setTop (mkF m 111 #[.val (.int p0), .val (.int p1), .val (.int p2), .val (.int p3), .val (.int ff), .val (.int tt), .val (.ref bs), .val (.int fr), .val (.int to), .val (.int ex)] [])) (fun t₀ k₀ => XS.icmpYes Xc86.here hx rfl (pc0 := 95) (pc' := 111) rfl (hb hby at_95) rfl (flt hc95).2.1 (by decide) (by decide) k₀) ?_
        exact cut111 bs kc b0 b1 b2 b3 fr to ex _ Zc86 _ _ Nc86 Xc86 ec86 Vb hft (by rw [own_st]; rw [if_neg (fun q => hc95 q.2.1)]; exact hex)
  have cut61 : ∀ (bs : Addr) (kc : ClassId) (b0 : Int32) (b1 : Int32) (b2 : Int32) (b3 : Int32) (fr : Int32) (to : Int32) (hh : Heap) (Zc61 : n0 ≤ hh.size) (Tc61 : State) (lc61 : List Loc) (Nc61 : Fr n0 lc61) (Xc61 : Stand p l e room_1 s m #[(.int p0), (.int p1), (.int p2), (.int p3), (.int ff), (.int tt)] below meth c Tc61 lc61 1 4) (ec61 : Tc61.heap = hh) (Vb : Arv Z hh bs kc .byte (4 : Int32) [(.int b0), (.int b1), (.int b2), (.int b3)] (.int (0 : Int32))) (hft : own_FT fr to), own_Go p e below (fun s₂ o₉ => s₂.status = .running ∧ Ended s₂ below o₉ ∧ ∃ v L, o₉ = .returned v ∧ Q_rm0 Z p0 p1 p2 p3 ff tt h0 n0 v s₂.heap L ∧ FrameEnd s o₉ s₂ L room_1.cells room_1.slots) (Tc61.setTop (mkF m 61 #[.val (.int p0), .val (.int p1), .val (.int p2), .val (.int p3), .val (.int ff), .val (.int tt), .val (.ref bs), .val (.int fr), .val (.int to), .val (.int to)] [])) := by
    intro bs kc b0 b1 b2 b3 fr to hh Zc61 Tc61 lc61 Nc61 Xc61 ec61 Vb hft
    refine own_step (Tc61.setTop (mkF m 63 #[.val (.int p0), .val (.int p1), .val (.int p2), .val (.int p3), .val (.int ff), .val (.int tt), .val (.ref bs), .val (.int fr), .val (.int to), .val (.int to)] [(.int fr)])) (fun t₀ k₀ => XS.iload Xc61.here hx rfl (hb hby at_61) rfl k₀) ?_
    refine own_step (Tc61.setTop (mkF m 64 #[.val (.int p0), .val (.int p1), .val (.int p2), .val (.int p3), .val (.int ff), .val (.int tt), .val (.ref bs), .val (.int fr), .val (.int to), .val (.int to)] [(.int (3 : Int32)), (.int fr)])) (fun t₀ k₀ => XS.iconst Xc61.here hx rfl (hb hby at_63) k₀) ?_
    by_cases hc64 : (3 : Int32) < fr
    · skip
      refine own_step (Tc61.setTop (mkF m 86 #[.val (.int p0), .val (.int p1), .val (.int p2), .val (.int p3), .val (.int ff), .val (.int tt), .val (.ref bs), .val (.int fr), .val (.int to), .val (.int to)] [])) (fun t₀ k₀ => XS.icmpYes Xc61.here hx rfl (pc0 := 64) (pc' := 86) rfl (hb hby at_64) rfl (tlt hc64).2.2.1 (by decide) (by decide) k₀) ?_
      exact cut86 bs kc b0 b1 b2 b3 fr to to _ Zc61 _ _ Nc61 Xc61 ec61 Vb hft (by rw [own_st]; rw [if_neg (fun q => q.1 hc64)])
    · skip
      refine own_step (Tc61.setTop (mkF m 67 #[.val (.int p0), .val (.int p1), .val (.int p2), .val (.int p3), .val (.int ff), .val (.int tt), .val (.ref bs), .val (.int fr), .val (.int to), .val (.int to)] [])) (fun t₀ k₀ => XS.icmpNo Xc61.here hx rfl (hb hby at_64) rfl (flt hc64).2.2.1 k₀) ?_
      refine own_step (Tc61.setTop (mkF m 68 #[.val (.int p0), .val (.int p1), .val (.int p2), .val (.int p3), .val (.int ff), .val (.int tt), .val (.ref bs), .val (.int fr), .val (.int to), .val (.int to)] [(.int (3 : Int32))])) (fun t₀ k₀ => XS.iconst Xc61.here hx rfl (hb hby at_67) k₀) ?_
      refine own_step (Tc61.setTop (mkF m 70 #[.val (.int p0), .val (.int p1), .val (.int p2), .val (.int p3), .val (.int ff), .val (.int tt), .val (.ref bs), .val (.int fr), .val (.int to), .val (.int to)] [(.int to), (.int (3 : Int32))])) (fun t₀ k₀ => XS.iload Xc61.here hx rfl (hb hby at_68) rfl k₀) ?_
      by_cases hc70 : (3 : Int32) < to
      · skip
        refine own_step (Tc61.setTop (mkF m 73 #[.val (.int p0), .val (.int p1), .val (.int p2), .val (.int p3), .val (.int ff), .val (.int tt), .val (.ref bs), .val (.int fr), .val (.int to), .val (.int to)] [])) (fun t₀ k₀ => XS.icmpNo Xc61.here hx rfl (hb hby at_70) rfl (tlt hc70).2.1 k₀) ?_
        refine own_step (Tc61.setTop (mkF m 75 #[.val (.int p0), .val (.int p1), .val (.int p2), .val (.int p3), .val (.int ff), .val (.int tt), .val (.ref bs), .val (.int fr), .val (.int to), .val (.int to)] [(.ref bs)])) (fun t₀ k₀ => XS.aload Xc61.here hx rfl (hb hby at_73) rfl rfl k₀) ?_
        refine own_step (Tc61.setTop (mkF m 76 #[.val (.int p0), .val (.int p1), .val (.int p2), .val (.int p3), .val (.int ff), .val (.int tt), .val (.ref bs), .val (.int fr), .val (.int to), .val (.int to)] [(.int (3 : Int32)), (.ref bs)])) (fun t₀ k₀ => XS.iconst Xc61.here hx rfl (hb hby at_75) k₀) ?_
        obtain ⟨clo97, Aro97, qo97, So97, Mo97, Ho97, Go97⟩ := id Vb
        have hino97 : ¬ ((3 : Int32) < 0 ∨ clo97.slots.size ≤ ((3 : Int32)).toNatClampNeg) := inb_of So97 ⟨by decide, by decide⟩
        have hato97 : clo97.slots[((3 : Int32)).toNatClampNeg]? = some (.int b3) := Ho97 3 (by rw [So97]; decide)
        refine own_step (Tc61.setTop (mkF m 77 #[.val (.int p0), .val (.int p1), .val (.int p2), .val (.int p3), .val (.int ff), .val (.int tt), .val (.ref bs), .val (.int fr), .val (.int to), .val (.int to)] [(.int b3)])) (fun t₀ k₀ => Xc61.baloadBytes hx (j := (3 : Int32)) (v := (.int b3)) (by rw [ec61]; exact Aro97.1) (State.isArrayOf_alike hZ.alike Aro97.2.1) Aro97.2.2 hino97 hato97 (g := (mkF m 76 #[.val (.int p0), .val (.int p1), .val (.int p2), .val (.int p3), .val (.int ff), .val (.int tt), .val (.ref bs), .val (.int fr), .val (.int to), .val (.int to)] [(.int (3 : Int32)), (.ref bs)])) rfl rfl (hb hby at_76) _ k₀) ?_
        obtain ⟨_, _, ⟨T98, L98, k98, n98⟩, -, X98, ⟨Lc98, hQ98, l98, y98, z98⟩, st98⟩ := Jvm.LawKit.callS Xc61 hx (y := (⟨"com/example/labrelay/labrelay/model/SegmentMakerTextEndPinLaw", "ends", "(B)Z"⟩ : MethodName)) hown (mvT hZ (hw _ (List.mem_of_getElem? (i := 6) rfl))) (mvT hZ (hw _ (List.mem_of_getElem? (i := 7) rfl))) (mvT hZ (hw _ (List.mem_of_getElem? (i := 3) rfl))) (mvT hZ (hw _ (List.mem_of_getElem? (i := 8) rfl))) (by decide) (backOf (W := 0) (rm2 l Z a0 hw [] b3 hh n0 Zc61) hZ (hw _ (List.mem_of_getElem? (i := 8) rfl)) (hw _ (List.mem_of_getElem? (i := 3) rfl)) (by decide) (by decide)) (g := (mkF m 77 #[.val (.int p0), .val (.int p1), .val (.int p2), .val (.int p3), .val (.int ff), .val (.int tt), .val (.ref bs), .val (.int fr), .val (.int to), .val (.int to)] [(.int b3)])) rfl (by rw [hml]; rfl) (argsL := [(.int b3)]) (rest := []) (lenOf pd_1 rfl) rfl (by show 2 * 0 + _ ≤ _; exact Nat.le_of_eq rfl) (hb hby at_77) (fun _ _ => ⟨rfl, ec61, (by decide : 1 + 0 ≤ _), (by decide : 4 + 0 ≤ _)⟩)
        dsimp only [Pt.U, Pt.locs, Pt.cells, Pt.slots] at X98 l98 y98 z98 st98 hQ98
        subst l98 y98 z98
        obtain ⟨rfl, N98q, e98⟩ := hQ98
        have N98 := Fr.app Nc61 N98q
        refine own_step (T98.setTop (mkF m 80 #[.val (.int p0), .val (.int p1), .val (.int p2), .val (.int p3), .val (.int ff), .val (.int tt), .val (.ref bs), .val (.int fr), .val (.int to), .val (.int to)] [(.int (own_e b3))])) (fun t₀ k₀ => st98 t₀ k₀) ?_
        by_cases hc80 : (own_e b3) = (0 : Int32)
        · skip
          refine own_step (T98.setTop (mkF m 86 #[.val (.int p0), .val (.int p1), .val (.int p2), .val (.int p3), .val (.int ff), .val (.int tt), .val (.ref bs), .val (.int fr), .val (.int to), .val (.int to)] [])) (fun t₀ k₀ => XS.ifYes X98.here hx rfl (pc0 := 80) (pc' := 86) rfl (hb hby at_80) rfl ((if0 _ _).trans (teq hc80).1) (by decide) (by decide) k₀) ?_
          exact cut86 bs kc b0 b1 b2 b3 fr to to _ Zc61 _ _ N98 X98 e98 Vb hft (by rw [own_st]; rw [if_neg (fun q => q.2.2 hc80)])
        · skip
          refine own_step (T98.setTop (mkF m 83 #[.val (.int p0), .val (.int p1), .val (.int p2), .val (.int p3), .val (.int ff), .val (.int tt), .val (.ref bs), .val (.int fr), .val (.int to), .val (.int to)] [])) (fun t₀ k₀ => XS.ifNo X98.here hx rfl (hb hby at_80) rfl ((if0 _ _).trans (feq hc80).1) k₀) ?_
          refine own_step (T98.setTop (mkF m 84 #[.val (.int p0), .val (.int p1), .val (.int p2), .val (.int p3), .val (.int ff), .val (.int tt), .val (.ref bs), .val (.int fr), .val (.int to), .val (.int to)] [(.int (3 : Int32))])) (fun t₀ k₀ => XS.iconst X98.here hx rfl (hb hby at_83) k₀) ?_
          refine own_step (T98.setTop (mkF m 86 #[.val (.int p0), .val (.int p1), .val (.int p2), .val (.int p3), .val (.int ff), .val (.int tt), .val (.ref bs), .val (.int fr), .val (.int to), .val (.int (3 : Int32))] [])) (fun t₀ k₀ => XS.istore X98.here hx rfl (hb hby at_84) rfl (l' := #[.val (.int p0), .val (.int p1), .val (.int p2), .val (.int p3), .val (.int ff), .val (.int tt), .val (.ref bs), .val (.int fr), .val (.int to), .val (.int (3 : Int32))]) rfl k₀) ?_
          exact cut86 bs kc b0 b1 b2 b3 fr to (3 : Int32) _ Zc61 _ _ N98 X98 e98 Vb hft (by rw [own_st]; rw [if_pos ⟨hc64, hc70, hc80⟩])
      · skip
        refine own_step (Tc61.setTop (mkF m 86 #[.val (.int p0), .val (.int p1), .val (.int p2), .val (.int p3), .val (.int ff), .val (.int tt), .val (.ref bs), .val (.int fr), .val (.int to), .val (.int to)] [])) (fun t₀ k₀ => XS.icmpYes Xc61.here hx rfl (pc0 := 70) (pc' := 86) rfl (hb hby at_70) rfl (flt hc70).2.1 (by decide) (by decide) k₀) ?_
        exact cut86 bs kc b0 b1 b2 b3 fr to to _ Zc61 _ _ Nc61 Xc61 ec61 Vb hft (by rw [own_st]; rw [if_neg (fun q => hc70 q.2.1)])
  show own_Go p e below (fun s₂ o₉ => s₂.status = .running ∧ Ended s₂ below o₉ ∧ ∃ v L, o₉ = .returned v ∧ Q_rm0 Z p0 p1 p2 p3 ff tt h0 n0 v s₂.heap L ∧ FrameEnd s o₉ s₂ L room_1.cells room_1.slots) (s₁.setTop (entryFrame m #[(.int p0), (.int p1), (.int p2), (.int p3), (.int ff), (.int tt)] maxLocals))
  rw [ef_rm0 m p0 p1 p2 p3 ff tt]
  refine own_step (s₁.setTop (mkF m 1 #[.val (.int p0), .val (.int p1), .val (.int p2), .val (.int p3), .val (.int ff), .val (.int tt), .unset, .unset, .unset, .unset] [(.int (4 : Int32))])) (fun t₀ k₀ => XS.iconst X0.here hx rfl (hb hby at_0) k₀) ?_
  obtain ⟨T99, h99, k99, X99, e99, E99, A99, st99⟩ := newP X0 hx hZ (hw _ (List.mem_of_getElem? (i := 0) rfl)) e0 (g := (mkF m 1 #[.val (.int p0), .val (.int p1), .val (.int p2), .val (.int p3), .val (.int ff), .val (.int tt), .unset, .unset, .unset, .unset] [(.int (4 : Int32))])) rfl (hb hby at_1) rfl (by decide) (cap := 4) (by decide) (by decide) (by decide) (by decide)
  obtain ⟨b99, g99⟩ : ∃ z, z = h0.size := ⟨_, rfl⟩
  rw [← g99] at A99 st99
  have fr_b99 : n0 ≤ b99 := Nat.le_trans Z0 (Nat.le_of_eq g99.symm)
  have V99 : Arv Z h99 b99 k99 .byte (4 : Int32) [(.int (0 : Int32)), (.int (0 : Int32)), (.int (0 : Int32)), (.int (0 : Int32))] (.int (0 : Int32)) := (Arv.new A99 (by decide)).pad (pad_rep [] (.int (0 : Int32)) 4)
  have z99 : n0 ≤ h99.size := Nat.le_trans Z0 E99.1
  refine own_step (T99.setTop (mkF m 3 #[.val (.int p0), .val (.int p1), .val (.int p2), .val (.int p3), .val (.int ff), .val (.int tt), .unset, .unset, .unset, .unset] [(.ref b99)])) (fun t₀ k₀ => st99 t₀ k₀) ?_
  refine own_step (T99.setTop (mkF m 4 #[.val (.int p0), .val (.int p1), .val (.int p2), .val (.int p3), .val (.int ff), .val (.int tt), .unset, .unset, .unset, .unset] [(.ref b99), (.ref b99)])) (fun t₀ k₀ => XS.dup X99.here hx rfl (hb hby at_3) rfl rfl k₀) ?_
  refine own_step (T99.setTop (mkF m 5 #[.val (.int p0), .val (.int p1), .val (.int p2), .val (.int p3), .val (.int ff), .val (.int tt), .unset, .unset, .unset, .unset] [(.int (0 : Int32)), (.ref b99), (.ref b99)])) (fun t₀ k₀ => XS.iconst X99.here hx rfl (hb hby at_4) k₀) ?_
  refine own_step (T99.setTop (mkF m 6 #[.val (.int p0), .val (.int p1), .val (.int p2), .val (.int p3), .val (.int ff), .val (.int tt), .unset, .unset, .unset, .unset] [(.int p0), (.int (0 : Int32)), (.ref b99), (.ref b99)])) (fun t₀ k₀ => XS.iloadN X99.here hx rfl (hb hby at_5) rfl k₀) ?_
  obtain ⟨_, _, ⟨T100, L100, k100, n100⟩, -, X100, ⟨Lc100, hQ100, l100, y100, z100⟩, st100⟩ := Jvm.LawKit.callS X99 hx (y := (⟨"com/example/labrelay/labrelay/model/SegmentMakerTextEndPinLaw", "draw", "(I)B"⟩ : MethodName)) hown (mvT hZ (hw _ (List.mem_of_getElem? (i := 1) rfl))) (mvT hZ (hw _ (List.mem_of_getElem? (i := 2) rfl))) (mvT hZ (hw _ (List.mem_of_getElem? (i := 3) rfl))) (mvT hZ (hw _ (List.mem_of_getElem? (i := 4) rfl))) (by decide) (backOf (W := 3) (rm1 l Z a0 hw [] p0 h99 n0 z99) hZ (hw _ (List.mem_of_getElem? (i := 4) rfl)) (hw _ (List.mem_of_getElem? (i := 3) rfl)) (by decide) (by decide)) (g := (mkF m 6 #[.val (.int p0), .val (.int p1), .val (.int p2), .val (.int p3), .val (.int ff), .val (.int tt), .unset, .unset, .unset, .unset] [(.int p0), (.int (0 : Int32)), (.ref b99), (.ref b99)])) rfl (by rw [hml]; rfl) (argsL := [(.int p0)]) (rest := [(.int (0 : Int32)), (.ref b99), (.ref b99)]) (lenOf pd_0 rfl) rfl (by show 2 * 0 + _ ≤ _; exact Nat.le_of_eq rfl) (hb hby at_6) (fun _ _ => ⟨rfl, e99, (by decide : 1 + 0 ≤ _), (by decide : 4 + 0 ≤ _)⟩)
  dsimp only [Pt.U, Pt.locs, Pt.cells, Pt.slots] at X100 l100 y100 z100 st100 hQ100
  subst l100 y100 z100
  obtain ⟨t101, rfl, N100q, e100⟩ := hQ100
  have N100 := Fr.app N0 N100q
  refine own_step (T100.setTop (mkF m 9 #[.val (.int p0), .val (.int p1), .val (.int p2), .val (.int p3), .val (.int ff), .val (.int tt), .unset, .unset, .unset, .unset] [(.int t101), (.int (0 : Int32)), (.ref b99), (.ref b99)])) (fun t₀ k₀ => st100 t₀ k₀) ?_
  obtain ⟨clo102, Aro102, qo102, So102, Mo102, Ho102, Go102⟩ := id V99
  have hino102 : ¬ ((0 : Int32) < 0 ∨ clo102.slots.size ≤ ((0 : Int32)).toNatClampNeg) := inb_of So102 ⟨by decide, by decide⟩
  obtain ⟨T103, h103, X103, e103, W103, st103⟩ := stB X100 hx hZ e100 Aro102 (j := (0 : Int32)) hino102 (g := (mkF m 9 #[.val (.int p0), .val (.int p1), .val (.int p2), .val (.int p3), .val (.int ff), .val (.int tt), .unset, .unset, .unset, .unset] [(.int t101), (.int (0 : Int32)), (.ref b99), (.ref b99)])) rfl rfl (hb hby at_9)
  have V103 : Arv Z h103 b99 k99 .byte (4 : Int32) [(.int (nar .byte t101)), (.int (0 : Int32)), (.int (0 : Int32)), (.int (0 : Int32))] (.int (0 : Int32)) := Arv.set Aro102 qo102 So102 Mo102 Ho102 Go102 (fits_nar_byte _) W103 0 rfl (Nat.le_of_ble_eq_true rfl)
  have N103 := Fr.snoc X103 N100 fr_b99
  have z103 : n0 ≤ h103.size := Nat.le_trans z99 (Keep.of_wr W103).1
  refine own_step (T103.setTop (mkF m 10 #[.val (.int p0), .val (.int p1), .val (.int p2), .val (.int p3), .val (.int ff), .val (.int tt), .unset, .unset, .unset, .unset] [(.ref b99)])) (fun t₀ k₀ => st103 t₀ k₀) ?_
  refine own_step (T103.setTop (mkF m 11 #[.val (.int p0), .val (.int p1), .val (.int p2), .val (.int p3), .val (.int ff), .val (.int tt), .unset, .unset, .unset, .unset] [(.ref b99), (.ref b99)])) (fun t₀ k₀ => XS.dup X103.here hx rfl (hb hby at_10) rfl rfl k₀) ?_
  refine own_step (T103.setTop (mkF m 12 #[.val (.int p0), .val (.int p1), .val (.int p2), .val (.int p3), .val (.int ff), .val (.int tt), .unset, .unset, .unset, .unset] [(.int (1 : Int32)), (.ref b99), (.ref b99)])) (fun t₀ k₀ => XS.iconst X103.here hx rfl (hb hby at_11) k₀) ?_
  refine own_step (T103.setTop (mkF m 13 #[.val (.int p0), .val (.int p1), .val (.int p2), .val (.int p3), .val (.int ff), .val (.int tt), .unset, .unset, .unset, .unset] [(.int p1), (.int (1 : Int32)), (.ref b99), (.ref b99)])) (fun t₀ k₀ => XS.iloadN X103.here hx rfl (hb hby at_12) rfl k₀) ?_
  obtain ⟨_, _, ⟨T104, L104, k104, n104⟩, -, X104, ⟨Lc104, hQ104, l104, y104, z104⟩, st104⟩ := Jvm.LawKit.callS X103 hx (y := (⟨"com/example/labrelay/labrelay/model/SegmentMakerTextEndPinLaw", "draw", "(I)B"⟩ : MethodName)) hown (mvT hZ (hw _ (List.mem_of_getElem? (i := 1) rfl))) (mvT hZ (hw _ (List.mem_of_getElem? (i := 2) rfl))) (mvT hZ (hw _ (List.mem_of_getElem? (i := 3) rfl))) (mvT hZ (hw _ (List.mem_of_getElem? (i := 4) rfl))) (by decide) (backOf (W := 3) (rm1 l Z a0 hw [] p1 h103 n0 z103) hZ (hw _ (List.mem_of_getElem? (i := 4) rfl)) (hw _ (List.mem_of_getElem? (i := 3) rfl)) (by decide) (by decide)) (g := (mkF m 13 #[.val (.int p0), .val (.int p1), .val (.int p2), .val (.int p3), .val (.int ff), .val (.int tt), .unset, .unset, .unset, .unset] [(.int p1), (.int (1 : Int32)), (.ref b99), (.ref b99)])) rfl (by rw [hml]; rfl) (argsL := [(.int p1)]) (rest := [(.int (1 : Int32)), (.ref b99), (.ref b99)]) (lenOf pd_0 rfl) rfl (by show 2 * 0 + _ ≤ _; exact Nat.le_of_eq rfl) (hb hby at_13) (fun _ _ => ⟨rfl, e103, (by decide : 1 + 0 ≤ _), (by decide : 4 + 0 ≤ _)⟩)
  dsimp only [Pt.U, Pt.locs, Pt.cells, Pt.slots] at X104 l104 y104 z104 st104 hQ104
  subst l104 y104 z104
  obtain ⟨t105, rfl, N104q, e104⟩ := hQ104
  have N104 := Fr.app N103 N104q
  refine own_step (T104.setTop (mkF m 16 #[.val (.int p0), .val (.int p1), .val (.int p2), .val (.int p3), .val (.int ff), .val (.int tt), .unset, .unset, .unset, .unset] [(.int t105), (.int (1 : Int32)), (.ref b99), (.ref b99)])) (fun t₀ k₀ => st104 t₀ k₀) ?_
  obtain ⟨clo106, Aro106, qo106, So106, Mo106, Ho106, Go106⟩ := id V103
  have hino106 : ¬ ((1 : Int32) < 0 ∨ clo106.slots.size ≤ ((1 : Int32)).toNatClampNeg) := inb_of So106 ⟨by decide, by decide⟩
  obtain ⟨T107, h107, X107, e107, W107, st107⟩ := stB X104 hx hZ e104 Aro106 (j := (1 : Int32)) hino106 (g := (mkF m 16 #[.val (.int p0), .val (.int p1), .val (.int p2), .val (.int p3), .val (.int ff), .val (.int tt), .unset, .unset, .unset, .unset] [(.int t105), (.int (1 : Int32)), (.ref b99), (.ref b99)])) rfl rfl (hb hby at_16)
  have V107 : Arv Z h107 b99 k99 .byte (4 : Int32) [(.int (nar .byte t101)), (.int (nar .byte t105)), (.int (0 : Int32)), (.int (0 : Int32))] (.int (0 : Int32)) := Arv.set Aro106 qo106 So106 Mo106 Ho106 Go106 (fits_nar_byte _) W107 1 rfl (Nat.le_of_ble_eq_true rfl)
  have N107 := Fr.snoc X107 N104 fr_b99
  have z107 : n0 ≤ h107.size := Nat.le_trans z103 (Keep.of_wr W107).1
  refine own_step (T107.setTop (mkF m 17 #[.val (.int p0), .val (.int p1), .val (.int p2), .val (.int p3), .val (.int ff), .val (.int tt), .unset, .unset, .unset, .unset] [(.ref b99)])) (fun t₀ k₀ => st107 t₀ k₀) ?_
  refine own_step (T107.setTop (mkF m 18 #[.val (.int p0), .val (.int p1), .val (.int p2), .val (.int p3), .val (.int ff), .val (.int tt), .unset, .unset, .unset, .unset] [(.ref b99), (.ref b99)])) (fun t₀ k₀ => XS.dup X107.here hx rfl (hb hby at_17) rfl rfl k₀) ?_
  refine own_step (T107.setTop (mkF m 19 #[.val (.int p0), .val (.int p1), .val (.int p2), .val (.int p3), .val (.int ff), .val (.int tt), .unset, .unset, .unset, .unset] [(.int (2 : Int32)), (.ref b99), (.ref b99)])) (fun t₀ k₀ => XS.iconst X107.here hx rfl (hb hby at_18) k₀) ?_
  refine own_step (T107.setTop (mkF m 20 #[.val (.int p0), .val (.int p1), .val (.int p2), .val (.int p3), .val (.int ff), .val (.int tt), .unset, .unset, .unset, .unset] [(.int p2), (.int (2 : Int32)), (.ref b99), (.ref b99)])) (fun t₀ k₀ => XS.iloadN X107.here hx rfl (hb hby at_19) rfl k₀) ?_
  obtain ⟨_, _, ⟨T108, L108, k108, n108⟩, -, X108, ⟨Lc108, hQ108, l108, y108, z108⟩, st108⟩ := Jvm.LawKit.callS X107 hx (y := (⟨"com/example/labrelay/labrelay/model/SegmentMakerTextEndPinLaw", "draw", "(I)B"⟩ : MethodName)) hown (mvT hZ (hw _ (List.mem_of_getElem? (i := 1) rfl))) (mvT hZ (hw _ (List.mem_of_getElem? (i := 2) rfl))) (mvT hZ (hw _ (List.mem_of_getElem? (i := 3) rfl))) (mvT hZ (hw _ (List.mem_of_getElem? (i := 4) rfl))) (by decide) (backOf (W := 3) (rm1 l Z a0 hw [] p2 h107 n0 z107) hZ (hw _ (List.mem_of_getElem? (i := 4) rfl)) (hw _ (List.mem_of_getElem? (i := 3) rfl)) (by decide) (by decide)) (g := (mkF m 20 #[.val (.int p0), .val (.int p1), .val (.int p2), .val (.int p3), .val (.int ff), .val (.int tt), .unset, .unset, .unset, .unset] [(.int p2), (.int (2 : Int32)), (.ref b99), (.ref b99)])) rfl (by rw [hml]; rfl) (argsL := [(.int p2)]) (rest := [(.int (2 : Int32)), (.ref b99), (.ref b99)]) (lenOf pd_0 rfl) rfl (by show 2 * 0 + _ ≤ _; exact Nat.le_of_eq rfl) (hb hby at_20) (fun _ _ => ⟨rfl, e107, (by decide : 1 + 0 ≤ _), (by decide : 4 + 0 ≤ _)⟩)
  dsimp only [Pt.U, Pt.locs, Pt.cells, Pt.slots] at X108 l108 y108 z108 st108 hQ108
  subst l108 y108 z108
  obtain ⟨t109, rfl, N108q, e108⟩ := hQ108
  have N108 := Fr.app N107 N108q
  refine own_step (T108.setTop (mkF m 23 #[.val (.int p0), .val (.int p1), .val (.int p2), .val (.int p3), .val (.int ff), .val (.int tt), .unset, .unset, .unset, .unset] [(.int t109), (.int (2 : Int32)), (.ref b99), (.ref b99)])) (fun t₀ k₀ => st108 t₀ k₀) ?_
  obtain ⟨clo110, Aro110, qo110, So110, Mo110, Ho110, Go110⟩ := id V107
  have hino110 : ¬ ((2 : Int32) < 0 ∨ clo110.slots.size ≤ ((2 : Int32)).toNatClampNeg) := inb_of So110 ⟨by decide, by decide⟩
  obtain ⟨T111, h111, X111, e111, W111, st111⟩ := stB X108 hx hZ e108 Aro110 (j := (2 : Int32)) hino110 (g := (mkF m 23 #[.val (.int p0), .val (.int p1), .val (.int p2), .val (.int p3), .val (.int ff), .val (.int tt), .unset, .unset, .unset, .unset] [(.int t109), (.int (2 : Int32)), (.ref b99), (.ref b99)])) rfl rfl (hb hby at_23)
  have V111 : Arv Z h111 b99 k99 .byte (4 : Int32) [(.int (nar .byte t101)), (.int (nar .byte t105)), (.int (nar .byte t109)), (.int (0 : Int32))] (.int (0 : Int32)) := Arv.set Aro110 qo110 So110 Mo110 Ho110 Go110 (fits_nar_byte _) W111 2 rfl (Nat.le_of_ble_eq_true rfl)
  have N111 := Fr.snoc X111 N108 fr_b99
  have z111 : n0 ≤ h111.size := Nat.le_trans z107 (Keep.of_wr W111).1
  refine own_step (T111.setTop (mkF m 24 #[.val (.int p0), .val (.int p1), .val (.int p2), .val (.int p3), .val (.int ff), .val (.int tt), .unset, .unset, .unset, .unset] [(.ref b99)])) (fun t₀ k₀ => st111 t₀ k₀) ?_
  refine own_step (T111.setTop (mkF m 25 #[.val (.int p0), .val (.int p1), .val (.int p2), .val (.int p3), .val (.int ff), .val (.int tt), .unset, .unset, .unset, .unset] [(.ref b99), (.ref b99)])) (fun t₀ k₀ => XS.dup X111.here hx rfl (hb hby at_24) rfl rfl k₀) ?_
  refine own_step (T111.setTop (mkF m 26 #[.val (.int p0), .val (.int p1), .val (.int p2), .val (.int p3), .val (.int ff), .val (.int tt), .unset, .unset, .unset, .unset] [(.int (3 : Int32)), (.ref b99), (.ref b99)])) (fun t₀ k₀ => XS.iconst X111.here hx rfl (hb hby at_25) k₀) ?_
  refine own_step (T111.setTop (mkF m 27 #[.val (.int p0), .val (.int p1), .val (.int p2), .val (.int p3), .val (.int ff), .val (.int tt), .unset, .unset, .unset, .unset] [(.int p3), (.int (3 : Int32)), (.ref b99), (.ref b99)])) (fun t₀ k₀ => XS.iloadN X111.here hx rfl (hb hby at_26) rfl k₀) ?_
  obtain ⟨_, _, ⟨T112, L112, k112, n112⟩, -, X112, ⟨Lc112, hQ112, l112, y112, z112⟩, st112⟩ := Jvm.LawKit.callS X111 hx (y := (⟨"com/example/labrelay/labrelay/model/SegmentMakerTextEndPinLaw", "draw", "(I)B"⟩ : MethodName)) hown (mvT hZ (hw _ (List.mem_of_getElem? (i := 1) rfl))) (mvT hZ (hw _ (List.mem_of_getElem? (i := 2) rfl))) (mvT hZ (hw _ (List.mem_of_getElem? (i := 3) rfl))) (mvT hZ (hw _ (List.mem_of_getElem? (i := 4) rfl))) (by decide) (backOf (W := 3) (rm1 l Z a0 hw [] p3 h111 n0 z111) hZ (hw _ (List.mem_of_getElem? (i := 4) rfl)) (hw _ (List.mem_of_getElem? (i := 3) rfl)) (by decide) (by decide)) (g := (mkF m 27 #[.val (.int p0), .val (.int p1), .val (.int p2), .val (.int p3), .val (.int ff), .val (.int tt), .unset, .unset, .unset, .unset] [(.int p3), (.int (3 : Int32)), (.ref b99), (.ref b99)])) rfl (by rw [hml]; rfl) (argsL := [(.int p3)]) (rest := [(.int (3 : Int32)), (.ref b99), (.ref b99)]) (lenOf pd_0 rfl) rfl (by show 2 * 0 + _ ≤ _; exact Nat.le_of_eq rfl) (hb hby at_27) (fun _ _ => ⟨rfl, e111, (by decide : 1 + 0 ≤ _), (by decide : 4 + 0 ≤ _)⟩)
  dsimp only [Pt.U, Pt.locs, Pt.cells, Pt.slots] at X112 l112 y112 z112 st112 hQ112
  subst l112 y112 z112
  obtain ⟨t113, rfl, N112q, e112⟩ := hQ112
  have N112 := Fr.app N111 N112q
  refine own_step (T112.setTop (mkF m 30 #[.val (.int p0), .val (.int p1), .val (.int p2), .val (.int p3), .val (.int ff), .val (.int tt), .unset, .unset, .unset, .unset] [(.int t113), (.int (3 : Int32)), (.ref b99), (.ref b99)])) (fun t₀ k₀ => st112 t₀ k₀) ?_
  obtain ⟨clo114, Aro114, qo114, So114, Mo114, Ho114, Go114⟩ := id V111
  have hino114 : ¬ ((3 : Int32) < 0 ∨ clo114.slots.size ≤ ((3 : Int32)).toNatClampNeg) := inb_of So114 ⟨by decide, by decide⟩
  obtain ⟨T115, h115, X115, e115, W115, st115⟩ := stB X112 hx hZ e112 Aro114 (j := (3 : Int32)) hino114 (g := (mkF m 30 #[.val (.int p0), .val (.int p1), .val (.int p2), .val (.int p3), .val (.int ff), .val (.int tt), .unset, .unset, .unset, .unset] [(.int t113), (.int (3 : Int32)), (.ref b99), (.ref b99)])) rfl rfl (hb hby at_30)
  have V115 : Arv Z h115 b99 k99 .byte (4 : Int32) [(.int (nar .byte t101)), (.int (nar .byte t105)), (.int (nar .byte t109)), (.int (nar .byte t113))] (.int (0 : Int32)) := Arv.set Aro114 qo114 So114 Mo114 Ho114 Go114 (fits_nar_byte _) W115 3 rfl (Nat.le_of_ble_eq_true rfl)
  have N115 := Fr.snoc X115 N112 fr_b99
  have z115 : n0 ≤ h115.size := Nat.le_trans z111 (Keep.of_wr W115).1
  refine own_step (T115.setTop (mkF m 31 #[.val (.int p0), .val (.int p1), .val (.int p2), .val (.int p3), .val (.int ff), .val (.int tt), .unset, .unset, .unset, .unset] [(.ref b99)])) (fun t₀ k₀ => st115 t₀ k₀) ?_
  refine own_step (T115.setTop (mkF m 33 #[.val (.int p0), .val (.int p1), .val (.int p2), .val (.int p3), .val (.int ff), .val (.int tt), .val (.ref b99), .unset, .unset, .unset] [])) (fun t₀ k₀ => XS.astore X115.here hx rfl (hb hby at_31) rfl rfl (l' := #[.val (.int p0), .val (.int p1), .val (.int p2), .val (.int p3), .val (.int ff), .val (.int tt), .val (.ref b99), .unset, .unset, .unset]) rfl k₀) ?_
  refine own_step (T115.setTop (mkF m 35 #[.val (.int p0), .val (.int p1), .val (.int p2), .val (.int p3), .val (.int ff), .val (.int tt), .val (.ref b99), .unset, .unset, .unset] [(.int ff)])) (fun t₀ k₀ => XS.iload X115.here hx rfl (hb hby at_33) rfl k₀) ?_
  refine own_step (T115.setTop (mkF m 37 #[.val (.int p0), .val (.int p1), .val (.int p2), .val (.int p3), .val (.int ff), .val (.int tt), .val (.ref b99), .unset, .unset, .unset] [(.int (2147483647 : Int32)), (.int ff)])) (fun t₀ k₀ => X115.ldcInt hx hown (mvT hZ (hw _ (List.mem_of_getElem? (i := 5) rfl))) (g := (mkF m 35 #[.val (.int p0), .val (.int p1), .val (.int p2), .val (.int p3), .val (.int ff), .val (.int tt), .val (.ref b99), .unset, .unset, .unset] [(.int ff)])) rfl (hb hby at_35) _ k₀) ?_
  refine own_step (T115.setTop (mkF m 38 #[.val (.int p0), .val (.int p1), .val (.int p2), .val (.int p3), .val (.int ff), .val (.int tt), .val (.ref b99), .unset, .unset, .unset] [(.int (ff &&& (2147483647 : Int32)))])) (fun t₀ k₀ => XS.iand X115.here hx rfl (hb hby at_37) rfl k₀) ?_
  refine own_step (T115.setTop (mkF m 39 #[.val (.int p0), .val (.int p1), .val (.int p2), .val (.int p3), .val (.int ff), .val (.int tt), .val (.ref b99), .unset, .unset, .unset] [(.int (5 : Int32)), (.int (ff &&& (2147483647 : Int32)))])) (fun t₀ k₀ => XS.iconst X115.here hx rfl (hb hby at_38) k₀) ?_
  refine own_step (T115.setTop (mkF m 40 #[.val (.int p0), .val (.int p1), .val (.int p2), .val (.int p3), .val (.int ff), .val (.int tt), .val (.ref b99), .unset, .unset, .unset] [(.int ((ff &&& (2147483647 : Int32)) % (5 : Int32)))])) (fun t₀ k₀ => Jvm.RoadKit.iremM X115 hx rfl (hb hby at_39) rfl (by decide) k₀) ?_
  refine own_step (T115.setTop (mkF m 42 #[.val (.int p0), .val (.int p1), .val (.int p2), .val (.int p3), .val (.int ff), .val (.int tt), .val (.ref b99), .val (.int ((ff &&& (2147483647 : Int32)) % (5 : Int32))), .unset, .unset] [])) (fun t₀ k₀ => XS.istore X115.here hx rfl (hb hby at_40) rfl (l' := #[.val (.int p0), .val (.int p1), .val (.int p2), .val (.int p3), .val (.int ff), .val (.int tt), .val (.ref b99), .val (.int ((ff &&& (2147483647 : Int32)) % (5 : Int32))), .unset, .unset]) rfl k₀) ?_
  refine own_step (T115.setTop (mkF m 44 #[.val (.int p0), .val (.int p1), .val (.int p2), .val (.int p3), .val (.int ff), .val (.int tt), .val (.ref b99), .val (.int ((ff &&& (2147483647 : Int32)) % (5 : Int32))), .unset, .unset] [(.int ((ff &&& (2147483647 : Int32)) % (5 : Int32)))])) (fun t₀ k₀ => XS.iload X115.here hx rfl (hb hby at_42) rfl k₀) ?_
  refine own_step (T115.setTop (mkF m 46 #[.val (.int p0), .val (.int p1), .val (.int p2), .val (.int p3), .val (.int ff), .val (.int tt), .val (.ref b99), .val (.int ((ff &&& (2147483647 : Int32)) % (5 : Int32))), .unset, .unset] [(.int tt), (.int ((ff &&& (2147483647 : Int32)) % (5 : Int32)))])) (fun t₀ k₀ => XS.iload X115.here hx rfl (hb hby at_44) rfl k₀) ?_
  refine own_step (T115.setTop (mkF m 48 #[.val (.int p0), .val (.int p1), .val (.int p2), .val (.int p3), .val (.int ff), .val (.int tt), .val (.ref b99), .val (.int ((ff &&& (2147483647 : Int32)) % (5 : Int32))), .unset, .unset] [(.int (2147483647 : Int32)), (.int tt), (.int ((ff &&& (2147483647 : Int32)) % (5 : Int32)))])) (fun t₀ k₀ => X115.ldcInt hx hown (mvT hZ (hw _ (List.mem_of_getElem? (i := 5) rfl))) (g := (mkF m 46 #[.val (.int p0), .val (.int p1), .val (.int p2), .val (.int p3), .val (.int ff), .val (.int tt), .val (.ref b99), .val (.int ((ff &&& (2147483647 : Int32)) % (5 : Int32))), .unset, .unset] [(.int tt), (.int ((ff &&& (2147483647 : Int32)) % (5 : Int32)))])) rfl (hb hby at_46) _ k₀) ?_
  refine own_step (T115.setTop (mkF m 49 #[.val (.int p0), .val (.int p1), .val (.int p2), .val (.int p3), .val (.int ff), .val (.int tt), .val (.ref b99), .val (.int ((ff &&& (2147483647 : Int32)) % (5 : Int32))), .unset, .unset] [(.int (tt &&& (2147483647 : Int32))), (.int ((ff &&& (2147483647 : Int32)) % (5 : Int32)))])) (fun t₀ k₀ => XS.iand X115.here hx rfl (hb hby at_48) rfl k₀) ?_
  refine own_step (T115.setTop (mkF m 50 #[.val (.int p0), .val (.int p1), .val (.int p2), .val (.int p3), .val (.int ff), .val (.int tt), .val (.ref b99), .val (.int ((ff &&& (2147483647 : Int32)) % (5 : Int32))), .unset, .unset] [(.int (5 : Int32)), (.int (tt &&& (2147483647 : Int32))), (.int ((ff &&& (2147483647 : Int32)) % (5 : Int32)))])) (fun t₀ k₀ => XS.iconst X115.here hx rfl (hb hby at_49) k₀) ?_
  refine own_step (T115.setTop (mkF m 52 #[.val (.int p0), .val (.int p1), .val (.int p2), .val (.int p3), .val (.int ff), .val (.int tt), .val (.ref b99), .val (.int ((ff &&& (2147483647 : Int32)) % (5 : Int32))), .unset, .unset] [(.int ((ff &&& (2147483647 : Int32)) % (5 : Int32))), (.int (5 : Int32)), (.int (tt &&& (2147483647 : Int32))), (.int ((ff &&& (2147483647 : Int32)) % (5 : Int32)))])) (fun t₀ k₀ => XS.iload X115.here hx rfl (hb hby at_50) rfl k₀) ?_
  refine own_step (T115.setTop (mkF m 53 #[.val (.int p0), .val (.int p1), .val (.int p2), .val (.int p3), .val (.int ff), .val (.int tt), .val (.ref b99), .val (.int ((ff &&& (2147483647 : Int32)) % (5 : Int32))), .unset, .unset] [(.int ((5 : Int32) - ((ff &&& (2147483647 : Int32)) % (5 : Int32)))), (.int (tt &&& (2147483647 : Int32))), (.int ((ff &&& (2147483647 : Int32)) % (5 : Int32)))])) (fun t₀ k₀ => XS.isub X115.here hx rfl (hb hby at_52) rfl k₀) ?_
  refine own_step (T115.setTop (mkF m 54 #[.val (.int p0), .val (.int p1), .val (.int p2), .val (.int p3), .val (.int ff), .val (.int tt), .val (.ref b99), .val (.int ((ff &&& (2147483647 : Int32)) % (5 : Int32))), .unset, .unset] [(.int ((tt &&& (2147483647 : Int32)) % ((5 : Int32) - ((ff &&& (2147483647 : Int32)) % (5 : Int32))))), (.int ((ff &&& (2147483647 : Int32)) % (5 : Int32)))])) (fun t₀ k₀ => Jvm.RoadKit.iremM X115 hx rfl (hb hby at_53) rfl (own_nz5 _) k₀) ?_
  refine own_step (T115.setTop (mkF m 55 #[.val (.int p0), .val (.int p1), .val (.int p2), .val (.int p3), .val (.int ff), .val (.int tt), .val (.ref b99), .val (.int ((ff &&& (2147483647 : Int32)) % (5 : Int32))), .unset, .unset] [(.int (((ff &&& (2147483647 : Int32)) % (5 : Int32)) + ((tt &&& (2147483647 : Int32)) % ((5 : Int32) - ((ff &&& (2147483647 : Int32)) % (5 : Int32))))))])) (fun t₀ k₀ => XS.iadd X115.here hx rfl (hb hby at_54) rfl k₀) ?_
  refine own_step (T115.setTop (mkF m 57 #[.val (.int p0), .val (.int p1), .val (.int p2), .val (.int p3), .val (.int ff), .val (.int tt), .val (.ref b99), .val (.int ((ff &&& (2147483647 : Int32)) % (5 : Int32))), .val (.int (((ff &&& (2147483647 : Int32)) % (5 : Int32)) + ((tt &&& (2147483647 : Int32)) % ((5 : Int32) - ((ff &&& (2147483647 : Int32)) % (5 : Int32)))))), .unset] [])) (fun t₀ k₀ => XS.istore X115.here hx rfl (hb hby at_55) rfl (l' := #[.val (.int p0), .val (.int p1), .val (.int p2), .val (.int p3), .val (.int ff), .val (.int tt), .val (.ref b99), .val (.int ((ff &&& (2147483647 : Int32)) % (5 : Int32))), .val (.int (((ff &&& (2147483647 : Int32)) % (5 : Int32)) + ((tt &&& (2147483647 : Int32)) % ((5 : Int32) - ((ff &&& (2147483647 : Int32)) % (5 : Int32)))))), .unset]) rfl k₀) ?_
  refine own_step (T115.setTop (mkF m 59 #[.val (.int p0), .val (.int p1), .val (.int p2), .val (.int p3), .val (.int ff), .val (.int tt), .val (.ref b99), .val (.int ((ff &&& (2147483647 : Int32)) % (5 : Int32))), .val (.int (((ff &&& (2147483647 : Int32)) % (5 : Int32)) + ((tt &&& (2147483647 : Int32)) % ((5 : Int32) - ((ff &&& (2147483647 : Int32)) % (5 : Int32)))))), .unset] [(.int (((ff &&& (2147483647 : Int32)) % (5 : Int32)) + ((tt &&& (2147483647 : Int32)) % ((5 : Int32) - ((ff &&& (2147483647 : Int32)) % (5 : Int32))))))])) (fun t₀ k₀ => XS.iload X115.here hx rfl (hb hby at_57) rfl k₀) ?_
  refine own_step (T115.setTop (mkF m 61 #[.val (.int p0), .val (.int p1), .val (.int p2), .val (.int p3), .val (.int ff), .val (.int tt), .val (.ref b99), .val (.int ((ff &&& (2147483647 : Int32)) % (5 : Int32))), .val (.int (((ff &&& (2147483647 : Int32)) % (5 : Int32)) + ((tt &&& (2147483647 : Int32)) % ((5 : Int32) - ((ff &&& (2147483647 : Int32)) % (5 : Int32)))))), .val (.int (((ff &&& (2147483647 : Int32)) % (5 : Int32)) + ((tt &&& (2147483647 : Int32)) % ((5 : Int32) - ((ff &&& (2147483647 : Int32)) % (5 : Int32))))))] [])) (fun t₀ k₀ => XS.istore X115.here hx rfl (hb hby at_59) rfl (l' := #[.val (.int p0), .val (.int p1), .val (.int p2), .val (.int p3), .val (.int ff), .val (.int tt), .val (.ref b99), .val (.int ((ff &&& (2147483647 : Int32)) % (5 : Int32))), .val (.int (((ff &&& (2147483647 : Int32)) % (5 : Int32)) + ((tt &&& (2147483647 : Int32)) % ((5 : Int32) - ((ff &&& (2147483647 : Int32)) % (5 : Int32)))))), .val (.int (((ff &&& (2147483647 : Int32)) % (5 : Int32)) + ((tt &&& (2147483647 : Int32)) % ((5 : Int32) - ((ff &&& (2147483647 : Int32)) % (5 : Int32))))))]) rfl k₀) ?_
  exact cut61 b99 k99 (nar .byte t101) (nar .byte t105) (nar .byte t109) (nar .byte t113) ((ff &&& (2147483647 : Int32)) % (5 : Int32)) (((ff &&& (2147483647 : Int32)) % (5 : Int32)) + ((tt &&& (2147483647 : Int32)) % ((5 : Int32) - ((ff &&& (2147483647 : Int32)) % (5 : Int32))))) _ z115 _ _ N115 X115 e115 V115 (own_ft _ _)
set_option maxRecDepth 65536 in
set_option maxHeartbeats 40000000 in
theorem comes_1 {Post : Tables → Env → Array Value → State → Outcome → State → Prop} (hpost : ∀ tb e args s v u, (limb_1_1.after args s (.returned v) u = true ∧ limb_1_2.after args s (.returned v) u = true ∧ True) → FrameEnd s (.returned v) u (Jvm.fieldLocs frame_1_writes args s ++ Jvm.arrayLocs frame_1_arrays args s ++ Jvm.staticLocs frame_1_statics s) 16 128 → Post tb e args s (.returned v) u) :
    ArmFor flags0 classFile x code maxLocals ret World_1 tables_1 room_1 Calls_1 rest_1 Pre_1 Post := by
  intro l hfl _ _ p e ha hc hk s m args below hf hA hF happ hP
  obtain ⟨hcalls, hrest, hpre⟩ := hP
  obtain ⟨-, -, -, hnamed, -, -, -, hat⟩ := (Spec.applies_iff hf).mp happ
  obtain ⟨hg, hn⟩ := and_e (Cond.before_iff.mp (show (Jvm.Cond.and given_1 narrow_1).before args s = true from hpre))
  obtain ⟨hcount, hg0⟩ := and_e hg
  obtain ⟨ga0, hg1⟩ := and_e hg0
  obtain ⟨ga1, hg2⟩ := and_e hg1
  obtain ⟨ga2, hg3⟩ := and_e hg2
  obtain ⟨ga3, hg4⟩ := and_e hg3
  obtain ⟨ga4, hg5⟩ := and_e hg4
  have ga5 := hg5
  obtain ⟨w0, w1, w2, w3, w4, w5, rfl⟩ : ∃ w0 w1 w2 w3 w4 w5 : Value, args = #[w0, w1, w2, w3, w4, w5] := by
    have hs : args.size = 6 := by simpa [Cond.value, given_1] using hcount
    obtain ⟨L⟩ := args
    match L, hs with
    | [w0, w1, w2, w3, w4, w5], _ => exact ⟨w0, w1, w2, w3, w4, w5, rfl⟩
  have hw := fun d (hd : d ∈ tables_1) => atoms_spec (ws := Jvm.Cond.code x code maxLocals ret :: tables_1) hat d (List.mem_cons_of_mem _ hd)
  have hfit : Fit s := fun {y c} hc i hi => by
    obtain ⟨ha, rfl⟩ := Array.getElem?_eq_some_iff.mp hc
    have q := List.all_eq_true.mp ((Array.all_eq_true_iff_forall_mem.mp hF) _ (Array.getElem_mem ha)) i (List.mem_range.mpr hi)
    simpa [Array.getElem?_eq_getElem hi] using q
  obtain ⟨i0, ei0⟩ := is_v ga0
  obtain rfl : w0 = (.int i0) := Option.some.inj ei0
  obtain ⟨i1, ei1⟩ := is_v ga1
  obtain rfl : w1 = (.int i1) := Option.some.inj ei1
  obtain ⟨i2, ei2⟩ := is_v ga2
  obtain rfl : w2 = (.int i2) := Option.some.inj ei2
  obtain ⟨i3, ei3⟩ := is_v ga3
  obtain rfl : w3 = (.int i3) := Option.some.inj ei3
  obtain ⟨i4, ei4⟩ := is_v ga4
  obtain rfl : w4 = (.int i4) := Option.some.inj ei4
  obtain ⟨i5, ei5⟩ := is_v ga5
  obtain rfl : w5 = (.int i5) := Option.some.inj ei5
  obtain ⟨n, o, h1, h2, h3, _, L, rfl, ⟨rfl, N⟩, hq⟩ := rm0 l s _ hw tables_1 i0 i1 i2 i3 i4 i5 s.heap s.heap.size (Nat.le_refl _) p e ha hc hk s m _ below hf ((Spec.applies_iff_loose hf).mp happ).1 ⟨rfl, State.Warmed39.refl s, rfl⟩ trivial
  refine ⟨n, _, h1, h2, h3, hpost _ _ _ _ _ _ ⟨Cond.after_iff.mpr rfl, Cond.after_iff.mpr (eq_i res_at (Term.int_eval (1)) rfl), trivial⟩ ⟨hq.1, hq.2.1, (hq.2.2.sift fun y hy => Or.inr (N y hy)).mono (by decide) (by decide)⟩⟩
theorem main_1_1 : Claimed_1_1 := comes_1 fun _ _ _ _ _ _ h hF => ⟨h.1, hF⟩
theorem main_1_2 : Claimed_1_2 := comes_1 fun _ _ _ _ _ _ h hF => ⟨h.2.1, hF⟩
end Jvm.Pilot.@@N@@
namespace Jvm.Pilot.@@N@@
open Jvm Jvm.ClassFile Sem Op Lib Jvm.Free Jvm.Stand Jvm.Pilot.@@N@@.Jvm.D
/-! MADE BY PROGRAM (witnessworld.py) out of the Statement's table words and the real class files: 9 classes; the members and pool entries that the words name. The judged class is class 1, her method 3. -/
namespace start1
open Jvm.ClassFile
def u (s : String) : CpInfo := .utf8 (stringToUtf16 s)
/-- a pool by its gaps: so many unusable entries, then the entry; so many at the end -/
def gap : Nat → List CpInfo → List CpInfo
  | 0, r => r
  | n + 1, r => .unusable :: gap n r
def poolList (es : List (Nat × CpInfo)) (last : Nat) : List CpInfo := es.foldr (fun e r => gap e.1 (e.2 :: r)) (gap last [])
def pool (es : List (Nat × CpInfo)) (last : Nat) : Array CpInfo := ⟨poolList es last⟩
def fileOf (pool : Array CpInfo) (this : Nat) (attrs : Array Attribute := #[]) (ms : Array MethodInfo := #[]) (fl : Nat := 33) (sup : Nat := 0) (ifs : Array Nat := #[]) (fds : Array FieldInfo := #[]) : ClassFile where
  minorVersion := 0
  majorVersion := 65
  constantPool := pool
  accessFlags := fl
  thisClass := this
  superClass := sup
  interfaces := ifs
  fields := fds
  methods := ms
  attributes := attrs
def plain (name : String) (sup : Option ClassId) : Class where
  name := name
  kind := .ordinary
  loader := none
  accessFlags := 33
  super := sup
  interfaces := #[]
  cf := none
  fields := #[]
  methods := #[]
  instanceTypes := #[]
  staticTypes := #[]
  resolved := #[]
  callSites := []
  init := .initialized
  statics := none
  mirror := none

def pool0 : Array CpInfo := pool [(5, u "<init>"), (0, u "()V"), (1, .class_ 10), (1, u "java/lang/Object")] 113

def k0m0 : Method := { name := "<init>", desc := "()V", sig := { parameters := [], returnType := none }, accessFlags := 1, code := none }
/-- java/lang/Object -/
def k0 : Class := { plain "java/lang/Object" none with
  accessFlags := 33
  interfaces := #[]
  cf := some (fileOf pool0 8 #[] #[{ accessFlags := 1, nameIndex := 5, descriptorIndex := 6, attributes := #[] }] 33 0 #[] #[])
  fields := #[]
  methods := #[k0m0]
  instanceTypes := #[]
  staticTypes := #[]
  resolved := Array.replicate 124 none
  statics := none }

def pool1 : Array CpInfo := pool [(2, .class_ 4), (1, u "java/lang/Object"), (0, u "<init>"), (0, u "()V"), (0, .methodref 8 9), (0, .class_ 10), (0, .nameAndType 11 12), (0, u "com/example/labrelay/labrelay/model/SegmentMakerTextEndPinLaw"), (0, u "draw"), (0, u "(I)B"), (0, .integer 2147483647), (0, .methodref 8 15), (0, .nameAndType 16 17), (0, u "ends"), (0, u "(B)Z"), (0, .methodref 19 20), (0, .class_ 21), (0, .nameAndType 22 23), (0, u "com/example/labrelay/labrelay/model/SegmentMaker"), (0, u "textEnd"), (0, u "([BII)I"), (3, u "law"), (0, u "(IIIIII)Z")] 4

def k1m0 : Method := { name := "<init>", desc := "()V", sig := { parameters := [], returnType := none }, accessFlags := 1, code := none }
def k1c1 : Code := { maxStack := 2, maxLocals := 2, code := method_2_code, exceptionTable := #[], attributes := #[] }
def k1m1 : Method := { name := "draw", desc := "(I)B", sig := { parameters := [.int], returnType := some .byte }, accessFlags := 10, code := some k1c1 }
def k1c2 : Code := { maxStack := 2, maxLocals := 1, code := method_3_code, exceptionTable := #[], attributes := #[] }
def k1m2 : Method := { name := "ends", desc := "(B)Z", sig := { parameters := [.byte], returnType := some .boolean }, accessFlags := 10, code := some k1c2 }
def k1c3 : Code := { maxStack := 4, maxLocals := 10, code := code, exceptionTable := #[], attributes := #[] }
def k1m3 : Method := { name := "law", desc := "(IIIIII)Z", sig := { parameters := [.int, .int, .int, .int, .int, .int], returnType := some .boolean }, accessFlags := 9, code := some k1c3 }
/-- com/example/labrelay/labrelay/model/SegmentMakerTextEndPinLaw -/
def k1 : Class := { plain "com/example/labrelay/labrelay/model/SegmentMakerTextEndPinLaw" (some 0) with
  accessFlags := 49
  interfaces := #[]
  cf := some (fileOf pool1 8 #[] #[{ accessFlags := 1, nameIndex := 5, descriptorIndex := 6, attributes := #[] }, { accessFlags := 10, nameIndex := 11, descriptorIndex := 12, attributes := #[] }, { accessFlags := 10, nameIndex := 16, descriptorIndex := 17, attributes := #[] }, { accessFlags := 9, nameIndex := 27, descriptorIndex := 28, attributes := #[] }] 49 2 #[] #[])
  fields := #[]
  methods := #[k1m0, k1m1, k1m2, k1m3]
  instanceTypes := #[]
  staticTypes := #[]
  resolved := Array.replicate 33 none
  statics := none }

def pool2 : Array CpInfo := pool [(2, .class_ 4), (1, u "java/lang/Object"), (0, u "<init>"), (0, u "()V"), (4, .class_ 13), (1, u "com/example/labrelay/labrelay/model/SegmentMaker"), (0, u "ids"), (0, u "Ljava/util/Map;"), (10, .class_ 27), (0, u "com/example/labrelay/labrelay/model/SegmentMaker$Occurrences"), (3, u "I"), (8, u "made"), (3, u "CR"), (0, u "B"), (2, u "LF"), (5, u "textEnd"), (0, u "([BII)I")] 29

def k2m0 : Method := { name := "<init>", desc := "()V", sig := { parameters := [], returnType := none }, accessFlags := 0, code := none }
def k2c1 : Code := { maxStack := 2, maxLocals := 4, code := prog_68_method_2_code, exceptionTable := #[], attributes := #[] }
def k2m1 : Method := { name := "textEnd", desc := "([BII)I", sig := { parameters := [(.array .byte), .int, .int], returnType := some .int }, accessFlags := 8, code := some k2c1 }
/-- com/example/labrelay/labrelay/model/SegmentMaker -/
def k2 : Class := { plain "com/example/labrelay/labrelay/model/SegmentMaker" (some 0) with
  accessFlags := 48
  interfaces := #[]
  cf := some (fileOf pool2 11 #[.nestMembers #[26]] #[{ accessFlags := 0, nameIndex := 5, descriptorIndex := 6, attributes := #[] }, { accessFlags := 8, nameIndex := 54, descriptorIndex := 55, attributes := #[] }] 48 2 #[] #[{ accessFlags := 24, nameIndex := 44, descriptorIndex := 45, attributes := #[] }, { accessFlags := 24, nameIndex := 48, descriptorIndex := 45, attributes := #[] }, { accessFlags := 18, nameIndex := 14, descriptorIndex := 15, attributes := #[] }, { accessFlags := 2, nameIndex := 40, descriptorIndex := 31, attributes := #[] }])
  fields := #[{ name := "CR", type := .byte, accessFlags := 24, slot := 0, constantValue := 0 }, { name := "LF", type := .byte, accessFlags := 24, slot := 1, constantValue := 0 }, { name := "ids", type := (.object "java/util/Map"), accessFlags := 18, slot := 0, constantValue := 0 }, { name := "made", type := .int, accessFlags := 2, slot := 1, constantValue := 0 }]
  methods := #[k2m0, k2m1]
  instanceTypes := #[(.object "java/util/Map"), .int]
  staticTypes := #[.byte, .byte]
  resolved := Array.replicate 85 none
  statics := none }

def pool3 : Array CpInfo := pool [(1, u "java/lang/Cloneable"), (0, .class_ 1), (0, u "java/lang/Object"), (0, .class_ 3)] 3

/-- java/lang/Cloneable -/
def k3 : Class := { plain "java/lang/Cloneable" (some 0) with
  accessFlags := 1537
  interfaces := #[]
  cf := some (fileOf pool3 2 #[] #[] 1537 4 #[] #[])
  fields := #[]
  methods := #[]
  instanceTypes := #[]
  staticTypes := #[]
  resolved := Array.replicate 8 none
  statics := none }

def pool4 : Array CpInfo := pool [(1, u "java/io/Serializable"), (0, .class_ 1), (0, u "java/lang/Object"), (0, .class_ 3)] 3

/-- java/io/Serializable -/
def k4 : Class := { plain "java/io/Serializable" (some 0) with
  accessFlags := 1537
  interfaces := #[]
  cf := some (fileOf pool4 2 #[] #[] 1537 4 #[] #[])
  fields := #[]
  methods := #[]
  instanceTypes := #[]
  staticTypes := #[]
  resolved := Array.replicate 8 none
  statics := none }

/-- the primitive byte -/
def k5 : Class := { plain "byte" none with kind := .primitive 'B', accessFlags := 0x411 }
/-- [B -/
def k6 : Class := { plain "[B" (some 0) with kind := .array 5 .byte, interfaces := #[3, 4], accessFlags := 1041 }

/-- the primitive int -/
def k7 : Class := { plain "int" none with kind := .primitive 'I', accessFlags := 0x411 }
/-- [I -/
def k8 : Class := { plain "[I" (some 0) with kind := .array 7 .int, interfaces := #[3, 4], accessFlags := 1041 }

def heap : Heap := #[]
def classes : Array Class := #[k0, k1, k2, k3, k4, k5, k6, k7, k8]
def interned : List (Array UInt16 × Addr) := []
def slotsUsed : Nat := 0
def theMethod : MethodId := ⟨1, 3⟩
def args0 : Array Value := #[.int 5, .int 7, .int 6, .int 0, .int 1, .int 2]
def aboutOver (below : List Frame) : State where
  vm := { classes := classes, interned := interned.toArray }
  heap := heap
  slotsUsed := slotsUsed
  threads := #[{ frames := .invoking theMethod args0 :: below }]
def below0 : List Frame := [.native { method := ⟨0, 0⟩, args := #[] }]
def about1 : State := aboutOver below0
def p0 : Program := .bare "" "" ""
def e0 : Env := launch0.env 0 0 0
theorem w_frames : about1.frames = Frame.invoking theMethod args0 :: below0 := rfl
set_option maxRecDepth 65536 in
theorem w_args : argsFit about1.vm theMethod args0 = true := by decide +kernel
set_option maxRecDepth 65536 in
theorem w_heap : heapFits about1 = true := by decide +kernel
set_option maxRecDepth 65536 in
theorem w_runnable : about1.curStatus? = some .runnable := by decide +kernel
set_option maxRecDepth 65536 in
theorem w_alone : about1.alone = true := by decide +kernel
set_option maxRecDepth 65536 in
theorem w_named : about1.methodNamed? x = some theMethod := by decide +kernel
set_option maxRecDepth 65536 in
theorem w_hears : about1.hears theMethod below0 = true := by decide +kernel
set_option maxRecDepth 65536 in
theorem w_ripe : about1.ripe theMethod args0 below0 = true := by decide +kernel
theorem w_running : about1.status = .running := rfl
set_option maxRecDepth 65536 in
theorem w_room : about1.hasRoom e0.platform room_1 = true :=
  launch0.hasRoom_least _ room_1 (by decide +kernel) (by decide +kernel) (by decide +kernel) (by decide +kernel) (by decide +kernel) (by decide +kernel)
theorem allAtoms_all (ts : List Jvm.Cond) (a : Array Jvm.Value) (st : Jvm.State) : (allAtoms ts).before a st = ts.all (fun c => c.before a st) := by
  induction ts with
  | nil => rfl
  | cons c t ih =>
    show (Jvm.Cond.and c (allAtoms t)).before a st = _
    rw [Jvm.Cond.before_and, ih, List.all_cons]
def words1 : List Jvm.Cond := Jvm.Cond.code x code maxLocals ret :: tables_1
/-- a 'code' word, met by the world's own term for the bytes: nothing is compared byte by byte -/
theorem code_word {y : MethodName} {bytes : ByteArray} {mx : Nat} {rt : Option FieldType} {a : Array Value} {s : State} {m : MethodId} {meth : Method} {c : Code} (h1 : s.methodNamed? y = some m) (h2 : s.vm.method? m = some meth) (h3 : meth.code = some c) (h4 : c.code = bytes)
    (h5 : (c.maxLocals == mx && c.exceptionTable.isEmpty && decide (c.maxStack ≤ mostOperands) && decide (meth.sig.returnType = rt) && !meth.locks && decide (parseMethodDescriptor y.desc = some meth.sig)) = true) : (Jvm.Cond.code y bytes mx rt).before a s = true := by
  simp only [Bool.and_eq_true, beq_iff_eq, Bool.not_eq_true', decide_eq_true_eq] at h5
  obtain ⟨⟨⟨⟨⟨g1, g2⟩, g3⟩, g4⟩, g5⟩, g6⟩ := h5
  simp [Cond.before, Cond.holds, Cond.value, h1, h2, h3, h4, g1, g2, g3, g4, g5, g6]
def isCode : Jvm.Cond → Bool
  | .code _ _ _ _ => true
  | _ => false
theorem all_split {L : List Jvm.Cond} {P : Jvm.Cond → Bool} (h1 : L.all (fun c => isCode c || P c) = true) (h2 : ∀ c ∈ L.filter isCode, P c = true) : L.all P = true := by
  refine List.all_eq_true.mpr fun c hc => ?_
  have h := List.all_eq_true.mp h1 c hc
  rcases Bool.eq_false_or_eq_true (isCode c) with hi | hi
  · exact h2 c (List.mem_filter.mpr ⟨hc, hi⟩)
  · simpa [hi] using h
set_option maxRecDepth 65536 in
theorem w_c0 : (Jvm.Cond.code x code maxLocals ret).before args0 about1 = true := code_word (m := ⟨1, 3⟩) (meth := k1m3) (c := k1c3) (by decide +kernel) rfl rfl rfl (by decide +kernel)
set_option maxRecDepth 65536 in
theorem w_c1 : (Jvm.Cond.code ({ cls := "com/example/labrelay/labrelay/model/SegmentMakerTextEndPinLaw", name := "draw", desc := "(I)B" } : Jvm.MethodName) method_2_code (2 : Nat) (Option.some Jvm.ClassFile.FieldType.byte)).before args0 about1 = true := code_word (m := ⟨1, 1⟩) (meth := k1m1) (c := k1c1) (by decide +kernel) rfl rfl rfl (by decide +kernel)
set_option maxRecDepth 65536 in
theorem w_c2 : (Jvm.Cond.code ({ cls := "com/example/labrelay/labrelay/model/SegmentMakerTextEndPinLaw", name := "ends", desc := "(B)Z" } : Jvm.MethodName) method_3_code (1 : Nat) (Option.some Jvm.ClassFile.FieldType.boolean)).before args0 about1 = true := code_word (m := ⟨1, 2⟩) (meth := k1m2) (c := k1c2) (by decide +kernel) rfl rfl rfl (by decide +kernel)
set_option maxRecDepth 65536 in
theorem w_c3 : (Jvm.Cond.code ({ cls := "com/example/labrelay/labrelay/model/SegmentMaker", name := "textEnd", desc := "([BII)I" } : Jvm.MethodName) prog_68_method_2_code (4 : Nat) (Option.some Jvm.ClassFile.FieldType.int)).before args0 about1 = true := code_word (m := ⟨2, 1⟩) (meth := k2m1) (c := k2c1) (by decide +kernel) rfl rfl rfl (by decide +kernel)
def codes1 : List Jvm.Cond := [Jvm.Cond.code x code maxLocals ret, Jvm.Cond.code ({ cls := "com/example/labrelay/labrelay/model/SegmentMakerTextEndPinLaw", name := "draw", desc := "(I)B" } : Jvm.MethodName) method_2_code (2 : Nat) (Option.some Jvm.ClassFile.FieldType.byte), Jvm.Cond.code ({ cls := "com/example/labrelay/labrelay/model/SegmentMakerTextEndPinLaw", name := "ends", desc := "(B)Z" } : Jvm.MethodName) method_3_code (1 : Nat) (Option.some Jvm.ClassFile.FieldType.boolean), Jvm.Cond.code ({ cls := "com/example/labrelay/labrelay/model/SegmentMaker", name := "textEnd", desc := "([BII)I" } : Jvm.MethodName) prog_68_method_2_code (4 : Nat) (Option.some Jvm.ClassFile.FieldType.int)]
set_option maxRecDepth 65536 in
theorem codes_eq : words1.filter isCode = codes1 := rfl
theorem w_codes : ∀ c ∈ words1.filter isCode, c.before args0 about1 = true := by
  rw [codes_eq]
  intro c hc
  simp only [codes1, List.mem_cons, List.not_mem_nil, or_false] at hc
  rcases hc with rfl | rfl | rfl | rfl
  · exact w_c0
  · exact w_c1
  · exact w_c2
  · exact w_c3
set_option maxRecDepth 65536 in
theorem w_t1 : words1.all (fun c => isCode c || c.before args0 about1) = true := by decide +kernel
theorem w_tables : (allAtoms (Jvm.Cond.code x code maxLocals ret :: tables_1)).before args0 about1 = true := by
  rw [allAtoms_all]
  show words1.all (fun c => c.before args0 about1) = true
  refine all_split ?_ w_codes
  rw [w_t1]
set_option maxRecDepth 65536 in
theorem w_case : (Jvm.Cond.and given_1 narrow_1).before args0 about1 = true := by decide +kernel
theorem w_applies : (headSpec (Jvm.Cond.code x code maxLocals ret :: tables_1) room_1).applies x e0.platform about1 = true :=
  (Spec.applies_iff w_frames).mpr ⟨w_running, w_runnable, w_alone, w_named, w_hears, w_ripe, w_room, w_tables⟩
theorem atStart : AtStart classFile x code maxLocals ret World_1 tables_1 room_1 Calls_1 rest_1 Pre_1 launch0 p0 e0 about1 theMethod args0 below0 :=
  ⟨lists_1, trivial, launch0.admits_env _ _ _, launch0.least_env, fairChoices_fair.cas, fairChoices_fair.clock, w_frames, w_args, w_heap, w_applies, trivial, trivial, w_case⟩
end start1
theorem witness_1 : WitnessClaimed_1 := ⟨start1.p0, start1.e0, start1.about1, start1.theMethod, start1.args0, start1.below0, start1.atStart⟩
end Jvm.Pilot.@@N@@
