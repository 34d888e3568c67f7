import JvmDerived
import JvmDerived.Pilot.@@N@@Statement
import JvmDerived.Pilot.@@N@@Code
set_option linter.unusedVariables false
set_option linter.unusedSimpArgs false
@@BLOCK:NumsL.lean.txt@@
namespace Jvm.RoadKit
open Sem ClassFile Op Lib Jvm.Stand Jvm.Free Jvm.LawKit
section New
variable {p : Program} {l : Launch} {e : Env} {R : Room} {s : State} {m : MethodId} {args : Array Value} {below : List Frame} {meth : Method} {c : Code} {T : State} {locs : List Loc} {cells slots : Nat}
theorem retI (X : Stand p l e R s m args below meth c T locs cells slots) (hx : p.tables.exec = Jvm.exec) {pc : Nat} {Ls : Array Slot} {z : Int32} {rest : List Value} (hret : meth.sig.returnType = some .int) (hd : decode c.code pc = .ok (.ireturn, 1)) {fs : List Frame}
    (hl : ∀ (f : JFrame) (acts : List Action), f.method = m → f.locked = none → f.entered = [] → (doReturn e (T.setTop f) acts (some (.int z))).1 = T.setFrames fs) : Steps p.tables e below (T.setTop (mkF m pc Ls (.int z :: rest))) (T.setFrames fs) := by
  have hm' : T.vm.method? m = some meth := X.method'
  have hn : narrow .int (.int z) = .int z := rfl
  show Steps p.tables e below (T.setTop { method := m, pc := pc, locals := Ls, stack := _ :: rest, locked := none }) _
  jvm_step X.here [X.here.top, hx, hd, hm', hret, hn]
  first | (intro acts; rw [hl _ acts rfl rfl rfl]) | rw [hl _ _ rfl rfl rfl]
  exact Steps.refl _
end New
end Jvm.RoadKit
namespace Jvm.Pilot.@@N@@
open Jvm Jvm.ClassFile Sem Op Lib Jvm.Free Jvm.Stand Jvm.LawKit Jvm.RoadKit Bundle Jvm.Pilot.@@N@@.Jvm.D
/-- from A the run comes to an end of which P is said -/
def own_Go (p : Program) (e : Env) (below : List Frame) (P : State → Outcome → Prop) (A : State) : Prop := ∃ s₂ o, Steps p.tables e below A s₂ ∧ P s₂ o
theorem own_step {p : Program} {e : Env} {below : List Frame} {P : State → Outcome → Prop} {A : State} (B : State) (h : ∀ t, Steps p.tables e below B t → Steps p.tables e below A t) (g : own_Go p e below P B) : own_Go p e below P A := by
  obtain ⟨s₂, o, h1, h2⟩ := g; exact ⟨s₂, o, h s₂ h1, h2⟩
theorem own_comes {p : Program} {e : Env} {below : List Frame} {P : State → Outcome → Prop} {A : State} (B : State) (h : Steps p.tables e below A B) (g : own_Go p e below P B) : own_Go p e below P A := by
  obtain ⟨s₂, o, h1, h2⟩ := g; exact ⟨s₂, o, h.trans h1, h2⟩
theorem own_sta_keep {Z : State} {h h' : Heap} {C n d : String} {w : Value} {ws : List Addr} (F : Sta Z h C n d w) (K : Keep h h' ws) (hw : ∀ x ∈ ws, ∀ cell : Cell, h[x]? = some cell → cell.vm.isStatics = false) : Sta Z h' C n d w := by
  obtain ⟨cf, i, k, f, st, cell, h1, h2, h3, h4, h5, h6, r⟩ := F
  exact ⟨cf, i, k, f, st, cell, h1, h2, h3, h4, K.2.1 _ _ h5 (fun q => by rw [hw _ q _ h5] at h6; cases h6), h6, r⟩
theorem own_sel {s : State} {args : Array Value} {y : MethodName} {n : Nat} (w : (Cond.instantiable y.cls n).before args s = true) (hp : (Cond.privateMethod y).before args s = true) (hi : (Cond.instanceMethod y).before args s = true) (hy : y.cls ≠ "java/lang/invoke/MethodHandle" ∧ y.cls ≠ "java/lang/invoke/VarHandle") : (Cond.selects y.cls y y).before args s = true := by
  obtain ⟨c, k, h1, h2, -, h4, -, -⟩ := Cond.instantiable_spec w
  simp only [Bool.or_eq_false_iff] at h4
  exact Jvm.Stand.selects_self_of_private h1 h2 h4.1 (Cond.privateMethod_at hp) hi hy
def own_lrem (x y : Int64) : Int64 := x - x / y * y
theorem own_vne {a b : Int32} (h : a ≠ b) : Value.int a ≠ Value.int b := fun q => h (Value.int.inj q)
theorem own_lgtT {x y : Int64} (h : y < x) : ifCond.holds .gt (lcmpW x y) = true := (if0 _ _).trans (tlt ((lw_gt x y).mpr h)).2.2.1
theorem own_lgtF {x y : Int64} (h : ¬ y < x) : ifCond.holds .gt (lcmpW x y) = false := (if0 _ _).trans (flt (fun q => h ((lw_gt x y).mp q))).2.2.1
theorem own_lleT {x y : Int64} (h : ¬ y < x) : ifCond.holds .le (lcmpW x y) = true := (if0 _ _).trans (flt (fun q => h ((lw_gt x y).mp q))).2.2.2
theorem own_lleF {x y : Int64} (h : y < x) : ifCond.holds .le (lcmpW x y) = false := (if0 _ _).trans (tlt ((lw_gt x y).mpr h)).2.2.2
theorem own_lltT {x y : Int64} (h : x < y) : ifCond.holds .lt (lcmpW x y) = true := (if0 _ _).trans (tlt ((lw_lt x y).mpr h)).1
theorem own_lltF {x y : Int64} (h : ¬ x < y) : ifCond.holds .lt (lcmpW x y) = false := (if0 _ _).trans (flt (fun q => h ((lw_lt x y).mp q))).1
theorem own_lgeT {x y : Int64} (h : ¬ x < y) : ifCond.holds .ge (lcmpW x y) = true := (if0 _ _).trans (flt (fun q => h ((lw_lt x y).mp q))).2.1
theorem own_lgeF {x y : Int64} (h : x < y) : ifCond.holds .ge (lcmpW x y) = false := (if0 _ _).trans (tlt ((lw_lt x y).mpr h)).2.1
theorem own_leqT {x y : Int64} (h : x = y) : ifCond.holds .eq (lcmpW x y) = true := (if0 _ _).trans (teq ((lw_eq x y).mpr h)).1
theorem own_leqF {x y : Int64} (h : ¬ x = y) : ifCond.holds .eq (lcmpW x y) = false := (if0 _ _).trans (feq (fun q => h ((lw_eq x y).mp q))).1
theorem own_lneT {x y : Int64} (h : ¬ x = y) : ifCond.holds .ne (lcmpW x y) = true := (if0 _ _).trans (feq (fun q => h ((lw_eq x y).mp q))).2
theorem own_lneF {x y : Int64} (h : x = y) : ifCond.holds .ne (lcmpW x y) = false := (if0 _ _).trans (teq ((lw_eq x y).mpr h)).2
theorem own_basic {N D : Int} (h0 : 0 ≤ N) (h1 : 1 ≤ D) (h3 : N < 92233720368547758 * D) :
    0 ≤ N / D ∧ N / D < 92233720368547758 ∧ 0 ≤ N % D ∧ N % D < D ∧ 0 ≤ (N % D * 100) / D ∧ (N % D * 100) / D < 100 ∧ 0 ≤ (N % D * 100) % D ∧ (N % D * 100) % D < D ∧ D * ((N % D * 100) / D) + (N % D * 100) % D = N % D * 100 := by
  have hD : 0 < D := by omega
  have a1 : 0 ≤ N % D := Int.emod_nonneg _ (by omega)
  have a2 : N % D < D := Int.emod_lt_of_pos _ hD
  refine ⟨Int.ediv_nonneg h0 (by omega), Int.ediv_lt_of_lt_mul hD h3, a1, a2, Int.ediv_nonneg (by omega) (by omega), Int.ediv_lt_of_lt_mul hD (by omega), Int.emod_nonneg _ (by omega), Int.emod_lt_of_pos _ hD, Int.mul_ediv_add_emod _ _⟩
theorem own_k100 : (100 : Int64).toInt = 100 := rfl
theorem own_k2 : (2 : Int64).toInt = 2 := rfl
theorem own_k1 : (1 : Int64).toInt = 1 := rfl
theorem own_k0 : (0 : Int64).toInt = 0 := rfl
theorem own_kL : (92233720368547758 : Int64).toInt = 92233720368547758 := rfl
theorem own_div {x y : Int64} (hx : 0 ≤ x.toInt) (hy : 1 ≤ y.toInt) : (x / y).toInt = x.toInt / y.toInt := by
  rw [Jvm.Kit.i64_div (by omega), Int.tdiv_eq_ediv_of_nonneg hx]
theorem own_rem {x y : Int64} (hx : 0 ≤ x.toInt) : (own_lrem x y).toInt = x.toInt % y.toInt := Jvm.Kit.i64_rem_nonneg hx
theorem own_nz {d : Int64} (h1 : 1 ≤ d.toInt) : d ≠ 0 := fun q => by rw [q, own_k0] at h1; omega
theorem own_hl {n d : Int64} (hn : 0 ≤ n.toInt) (h1 : 1 ≤ d.toInt) (h2 : d.toInt ≤ 92233720368547758) (h3 : n.toInt < 92233720368547758 * d.toInt) : ((own_lrem n d) * (100 : Int64)).toInt = n.toInt % d.toInt * 100 := by
  obtain ⟨a1, a2, a3, a4, -⟩ := own_basic hn h1 h3
  rw [Jvm.Kit.i64_mul, own_rem hn, own_k100] <;> rw [own_rem hn, own_k100] <;> omega
theorem own_cents {n d : Int64} (hn : 0 ≤ n.toInt) (h1 : 1 ≤ d.toInt) (h2 : d.toInt ≤ 92233720368547758) (h3 : n.toInt < 92233720368547758 * d.toInt) : (((n / d) * (100 : Int64)) + (((own_lrem n d) * (100 : Int64)) / d)).toInt = n.toInt / d.toInt * 100 + (n.toInt % d.toInt * 100) / d.toInt := by
  obtain ⟨a1, a2, a3, a4, a5, a6, a7, a8, a9⟩ := own_basic hn h1 h3
  have e1 : ((n / d) * (100 : Int64)).toInt = n.toInt / d.toInt * 100 := by
    rw [Jvm.Kit.i64_mul, own_div hn h1, own_k100] <;> rw [own_div hn h1, own_k100] <;> omega
  have e2 : (((own_lrem n d) * (100 : Int64)) / d).toInt = (n.toInt % d.toInt * 100) / d.toInt := by
    rw [own_div _ h1, own_hl hn h1 h2 h3]; rw [own_hl hn h1 h2 h3]; omega
  rw [Jvm.Kit.i64_add, e1, e2] <;> rw [e1, e2] <;> omega
theorem own_two {n d : Int64} (hn : 0 ≤ n.toInt) (h1 : 1 ≤ d.toInt) (h2 : d.toInt ≤ 92233720368547758) (h3 : n.toInt < 92233720368547758 * d.toInt) : (((2 : Int64) * (own_lrem ((own_lrem n d) * (100 : Int64)) d)) < d) ↔ 2 * ((n.toInt % d.toInt * 100) % d.toInt) < d.toInt := by
  obtain ⟨a1, a2, a3, a4, a5, a6, a7, a8, a9⟩ := own_basic hn h1 h3
  have e1 : (own_lrem ((own_lrem n d) * (100 : Int64)) d).toInt = (n.toInt % d.toInt * 100) % d.toInt := by
    rw [own_rem, own_hl hn h1 h2 h3]; rw [own_hl hn h1 h2 h3]; omega
  rw [Int64.lt_iff_toInt_lt, Jvm.Kit.i64_mul, own_k2, e1] <;> rw [own_k2, e1] <;> omega
def own_C (N D : Int) : Int := N / D * 100 + (N % D * 100) / D + (if 2 * ((N % D * 100) % D) < D then 0 else 1)
theorem own_leaf0 {n d : Int64} (hn : 0 ≤ n.toInt) (h1 : 1 ≤ d.toInt) (h2 : d.toInt ≤ 92233720368547758) (h3 : n.toInt < 92233720368547758 * d.toInt) (h : ((2 : Int64) * (own_lrem ((own_lrem n d) * (100 : Int64)) d)) < d) : (((n / d) * (100 : Int64)) + (((own_lrem n d) * (100 : Int64)) / d)).toInt = own_C n.toInt d.toInt := by
  rw [own_two hn h1 h2 h3] at h
  rw [own_cents hn h1 h2 h3, own_C, if_pos h]; omega
theorem own_leaf1 {n d : Int64} (hn : 0 ≤ n.toInt) (h1 : 1 ≤ d.toInt) (h2 : d.toInt ≤ 92233720368547758) (h3 : n.toInt < 92233720368547758 * d.toInt) (h : ¬ ((2 : Int64) * (own_lrem ((own_lrem n d) * (100 : Int64)) d)) < d) : ((((n / d) * (100 : Int64)) + (((own_lrem n d) * (100 : Int64)) / d)) + (1 : Int64)).toInt = own_C n.toInt d.toInt := by
  obtain ⟨a1, a2, a3, a4, a5, a6, a7, a8, a9⟩ := own_basic hn h1 h3
  rw [own_two hn h1 h2 h3] at h
  rw [Jvm.Kit.i64_add, own_cents hn h1 h2 h3, own_C, if_neg h, own_k1] <;> rw [own_cents hn h1 h2 h3, own_k1] <;> omega
theorem own_e {n d c1 : Int64} (hn : 0 ≤ n.toInt) (h1 : 1 ≤ d.toInt) (h2 : d.toInt ≤ 92233720368547758) (h3 : n.toInt < 92233720368547758 * d.toInt) (hc : c1.toInt = own_C n.toInt d.toInt) : (c1 - ((100 : Int64) * (n / d))).toInt = (n.toInt % d.toInt * 100) / d.toInt + (if 2 * ((n.toInt % d.toInt * 100) % d.toInt) < d.toInt then 0 else 1) := by
  obtain ⟨a1, a2, a3, a4, a5, a6, a7, a8, a9⟩ := own_basic hn h1 h3
  have e1 : ((100 : Int64) * (n / d)).toInt = 100 * (n.toInt / d.toInt) := by
    rw [Jvm.Kit.i64_mul, own_div hn h1, own_k100] <;> rw [own_div hn h1, own_k100] <;> omega
  unfold own_C at hc
  have b1 : -2 ^ 63 ≤ c1.toInt - ((100 : Int64) * (n / d)).toInt ∧ c1.toInt - ((100 : Int64) * (n / d)).toInt < 2 ^ 63 := by rw [e1, hc]; split <;> omega
  rw [Jvm.Kit.i64_sub b1.1 b1.2, e1, hc]; omega
theorem own_115 {n d c1 : Int64} (hn : 0 ≤ n.toInt) (h1 : 1 ≤ d.toInt) (h2 : d.toInt ≤ 92233720368547758) (h3 : n.toInt < 92233720368547758 * d.toInt) (hc : c1.toInt = own_C n.toInt d.toInt) : ¬ (c1 - ((100 : Int64) * (n / d))) < (0 : Int64) := by
  obtain ⟨a1, a2, a3, a4, a5, a6, a7, a8, a9⟩ := own_basic hn h1 h3
  rw [Int64.lt_iff_toInt_lt, own_e hn h1 h2 h3 hc, own_k0]; split <;> omega
theorem own_124 {n d c1 : Int64} (hn : 0 ≤ n.toInt) (h1 : 1 ≤ d.toInt) (h2 : d.toInt ≤ 92233720368547758) (h3 : n.toInt < 92233720368547758 * d.toInt) (hc : c1.toInt = own_C n.toInt d.toInt) : ¬ (100 : Int64) < (c1 - ((100 : Int64) * (n / d))) := by
  obtain ⟨a1, a2, a3, a4, a5, a6, a7, a8, a9⟩ := own_basic hn h1 h3
  rw [Int64.lt_iff_toInt_lt, own_e hn h1 h2 h3 hc, own_k100]; split <;> omega
theorem own_t {n d c1 : Int64} (hn : 0 ≤ n.toInt) (h1 : 1 ≤ d.toInt) (h2 : d.toInt ≤ 92233720368547758) (h3 : n.toInt < 92233720368547758 * d.toInt) (hc : c1.toInt = own_C n.toInt d.toInt) :
    (((100 : Int64) * (own_lrem n d)) - ((c1 - ((100 : Int64) * (n / d))) * d)).toInt = (n.toInt % d.toInt * 100) % d.toInt - (if 2 * ((n.toInt % d.toInt * 100) % d.toInt) < d.toInt then 0 else d.toInt) := by
  obtain ⟨a1, a2, a3, a4, a5, a6, a7, a8, a9⟩ := own_basic hn h1 h3
  have b1 : -2 ^ 63 ≤ (100 : Int64).toInt * (own_lrem n d).toInt ∧ (100 : Int64).toInt * (own_lrem n d).toInt < 2 ^ 63 := by rw [own_rem hn, own_k100]; omega
  have e1 : ((100 : Int64) * (own_lrem n d)).toInt = n.toInt % d.toInt * 100 := by
    rw [Jvm.Kit.i64_mul b1.1 b1.2, own_rem hn, own_k100]; omega
  have hm : d.toInt * ((n.toInt % d.toInt * 100) / d.toInt) ≤ d.toInt * 99 := Int.mul_le_mul_of_nonneg_left (by omega) (by omega)
  have ee := own_e hn h1 h2 h3 hc
  have e3 : (c1 - ((100 : Int64) * (n / d))).toInt * d.toInt = n.toInt % d.toInt * 100 - (n.toInt % d.toInt * 100) % d.toInt + (if 2 * ((n.toInt % d.toInt * 100) % d.toInt) < d.toInt then 0 else d.toInt) := by
    rw [ee, Int.add_mul, Int.mul_comm ((n.toInt % d.toInt * 100) / d.toInt)]
    split
    · rw [Int.zero_mul]; omega
    · rw [Int.one_mul]; omega
  have e2 : ((c1 - ((100 : Int64) * (n / d))) * d).toInt = (c1 - ((100 : Int64) * (n / d))).toInt * d.toInt := by
    apply Jvm.Kit.i64_mul <;> rw [e3] <;> split <;> omega
  have b2 : -2 ^ 63 ≤ ((100 : Int64) * (own_lrem n d)).toInt - ((c1 - ((100 : Int64) * (n / d))) * d).toInt ∧ ((100 : Int64) * (own_lrem n d)).toInt - ((c1 - ((100 : Int64) * (n / d))) * d).toInt < 2 ^ 63 := by rw [e1, e2, e3]; split <;> omega
  rw [Jvm.Kit.i64_sub b2.1 b2.2, e1, e2, e3]; split <;> omega
theorem own_158 {n d c1 : Int64} (hn : 0 ≤ n.toInt) (h1 : 1 ≤ d.toInt) (h2 : d.toInt ≤ 92233720368547758) (h3 : n.toInt < 92233720368547758 * d.toInt) (hc : c1.toInt = own_C n.toInt d.toInt) {t : Int64} (ht : t = (((100 : Int64) * (own_lrem n d)) - ((c1 - ((100 : Int64) * (n / d))) * d))) (h : ¬ t < (0 : Int64)) : t < (d - t) := by
  obtain ⟨a1, a2, a3, a4, a5, a6, a7, a8, a9⟩ := own_basic hn h1 h3
  have e := own_t hn h1 h2 h3 hc
  rw [← ht] at e
  rw [Int64.lt_iff_toInt_lt, own_k0] at h
  rw [Int64.lt_iff_toInt_lt, Jvm.Kit.i64_sub]
  all_goals (split at e <;> omega)
theorem own_176 {n d c1 : Int64} (hn : 0 ≤ n.toInt) (h1 : 1 ≤ d.toInt) (h2 : d.toInt ≤ 92233720368547758) (h3 : n.toInt < 92233720368547758 * d.toInt) (hc : c1.toInt = own_C n.toInt d.toInt) {t : Int64} (ht : t = (((100 : Int64) * (own_lrem n d)) - ((c1 - ((100 : Int64) * (n / d))) * d))) (h : t < (0 : Int64)) : ¬ (d + t) < (-t) := by
  obtain ⟨a1, a2, a3, a4, a5, a6, a7, a8, a9⟩ := own_basic hn h1 h3
  have e := own_t hn h1 h2 h3 hc
  rw [← ht] at e
  rw [Int64.lt_iff_toInt_lt, own_k0] at h
  rw [Int64.lt_iff_toInt_lt, Jvm.Kit.i64_add, Jvm.Kit.i64_neg]
  all_goals (split at e <;> omega)
theorem own_dA (b : Int64) : 1 ≤ ((1 : Int64) + (b &&& (1023 : Int64))).toInt ∧ ((1 : Int64) + (b &&& (1023 : Int64))).toInt ≤ 92233720368547758 := by
  have e : (b &&& (1023 : Int64)).toInt = b.toInt % 2 ^ 10 := Jvm.Kit.i64_mask b 1023 (k := 10) (by decide) (by decide)
  rw [Jvm.Kit.i64_add, e, own_k1] <;> (try rw [e, own_k1]) <;> omega
theorem own_mx (a : Int64) : 0 ≤ (a &&& (9223372036854775807 : Int64)).toInt := by
  have e : (a &&& (9223372036854775807 : Int64)).toInt = a.toInt % 2 ^ 63 := Jvm.Kit.i64_mask a 9223372036854775807 (k := 63) (by decide) (by decide)
  omega
theorem own_mk (a : Int64) : 0 ≤ (a &&& (1048575 : Int64)).toInt := by
  have e : (a &&& (1048575 : Int64)).toInt = a.toInt % 2 ^ 20 := Jvm.Kit.i64_mask a 1048575 (k := 20) (by decide) (by decide)
  omega
theorem own_dB (b : Int64) : 1 ≤ ((1 : Int64) + (own_lrem (b &&& (9223372036854775807 : Int64)) (92233720368547758 : Int64))).toInt ∧ ((1 : Int64) + (own_lrem (b &&& (9223372036854775807 : Int64)) (92233720368547758 : Int64))).toInt ≤ 92233720368547758 := by
  have e : (own_lrem (b &&& (9223372036854775807 : Int64)) (92233720368547758 : Int64)).toInt = (b &&& (9223372036854775807 : Int64)).toInt % 92233720368547758 := by rw [own_rem (own_mx b), own_kL]
  rw [Jvm.Kit.i64_add, e, own_k1] <;> (try rw [e, own_k1]) <;> omega
theorem own_Ld {d : Int64} (h1 : 1 ≤ d.toInt) (h : ¬ (100 : Int64) < d) : ((92233720368547758 : Int64) * d).toInt = 92233720368547758 * d.toInt := by
  rw [Int64.lt_iff_toInt_lt, own_k100] at h
  rw [Jvm.Kit.i64_mul, own_kL] <;> rw [own_kL] <;> omega
theorem own_lt1 {n d : Int64} (h : (100 : Int64) < d) : n.toInt < 92233720368547758 * d.toInt := by
  rw [Int64.lt_iff_toInt_lt, own_k100] at h
  have := rng64 n; omega
theorem own_nz2 {d : Int64} (h1 : 1 ≤ d.toInt) (h : ¬ (100 : Int64) < d) : ((92233720368547758 : Int64) * d) ≠ 0 := own_nz (by rw [own_Ld h1 h]; omega)
theorem own_lt2 {n d : Int64} (hn : 0 ≤ n.toInt) (h1 : 1 ≤ d.toInt) (h : ¬ (100 : Int64) < d) : 0 ≤ (own_lrem n ((92233720368547758 : Int64) * d)).toInt ∧ (own_lrem n ((92233720368547758 : Int64) * d)).toInt < 92233720368547758 * d.toInt := by
  rw [own_rem hn, own_Ld h1 h]
  exact ⟨Int.emod_nonneg _ (by omega), Int.emod_lt_of_pos _ (by omega)⟩
theorem pd_0 : parseMethodDescriptor "(JJ)J" = some ⟨[.long, .long], some .long⟩ := by decide +kernel
theorem d1_0 : decode prog_119_method_7_code 0 = .ok (.lload_n 0, 1) := by decide +kernel
theorem d1_1 : decode prog_119_method_7_code 1 = .ok (.lload_n 2, 1) := by decide +kernel
theorem d1_2 : decode prog_119_method_7_code 2 = .ok (.lrem, 1) := by decide +kernel
theorem d1_3 : decode prog_119_method_7_code 3 = .ok (.ldc2_w 48, 3) := by decide +kernel
theorem d1_6 : decode prog_119_method_7_code 6 = .ok (.lmul, 1) := by decide +kernel
theorem d1_7 : decode prog_119_method_7_code 7 = .ok (.lstore 4, 2) := by decide +kernel
theorem d1_9 : decode prog_119_method_7_code 9 = .ok (.lload_n 0, 1) := by decide +kernel
theorem d1_10 : decode prog_119_method_7_code 10 = .ok (.lload_n 2, 1) := by decide +kernel
theorem d1_11 : decode prog_119_method_7_code 11 = .ok (.ldiv, 1) := by decide +kernel
theorem d1_12 : decode prog_119_method_7_code 12 = .ok (.ldc2_w 48, 3) := by decide +kernel
theorem d1_15 : decode prog_119_method_7_code 15 = .ok (.lmul, 1) := by decide +kernel
theorem d1_16 : decode prog_119_method_7_code 16 = .ok (.lload 4, 2) := by decide +kernel
theorem d1_18 : decode prog_119_method_7_code 18 = .ok (.lload_n 2, 1) := by decide +kernel
theorem d1_19 : decode prog_119_method_7_code 19 = .ok (.ldiv, 1) := by decide +kernel
theorem d1_20 : decode prog_119_method_7_code 20 = .ok (.ladd, 1) := by decide +kernel
theorem d1_21 : decode prog_119_method_7_code 21 = .ok (.lstore 6, 2) := by decide +kernel
theorem d1_23 : decode prog_119_method_7_code 23 = .ok (.ldc2_w 50, 3) := by decide +kernel
theorem d1_26 : decode prog_119_method_7_code 26 = .ok (.lload 4, 2) := by decide +kernel
theorem d1_28 : decode prog_119_method_7_code 28 = .ok (.lload_n 2, 1) := by decide +kernel
theorem d1_29 : decode prog_119_method_7_code 29 = .ok (.lrem, 1) := by decide +kernel
theorem d1_30 : decode prog_119_method_7_code 30 = .ok (.lmul, 1) := by decide +kernel
theorem d1_31 : decode prog_119_method_7_code 31 = .ok (.lload_n 2, 1) := by decide +kernel
theorem d1_32 : decode prog_119_method_7_code 32 = .ok (.lcmp, 1) := by decide +kernel
theorem d1_33 : decode prog_119_method_7_code 33 = .ok (.ifCond .lt 10, 3) := by decide +kernel
theorem d1_36 : decode prog_119_method_7_code 36 = .ok (.lload 6, 2) := by decide +kernel
theorem d1_38 : decode prog_119_method_7_code 38 = .ok (.lconst 1, 1) := by decide +kernel
theorem d1_39 : decode prog_119_method_7_code 39 = .ok (.ladd, 1) := by decide +kernel
theorem d1_40 : decode prog_119_method_7_code 40 = .ok (.goto 5, 3) := by decide +kernel
theorem d1_43 : decode prog_119_method_7_code 43 = .ok (.lload 6, 2) := by decide +kernel
theorem d1_45 : decode prog_119_method_7_code 45 = .ok (.lreturn, 1) := by decide +kernel
theorem pn_1 : plainName "com/example/notesmith/notesmith/util/Rounding" = true := by first | (simp [plainName, overriddenIn]; done) | decide +kernel
theorem ef_rm1 (m : MethodId) (n : Int64) (d : Int64) : entryFrame m #[(.long n), (.long d)] 8 = mkF m 0 #[.val (.long n), .second, .val (.long d), .second, .unset, .unset, .unset, .unset] [] := by first | (simp [entryFrame, mkF, argsToLocals, Value.category]; done) | rfl
def Q_rm1 (Z : State) (n : Int64) (d : Int64) (h0 : Heap) (n0 : Nat) (v : Option Value) (h : Heap) (L : List Loc) : Prop := ∃ c1 : Int64, v = some (.long c1) ∧ Fr n0 L ∧ h = h0 ∧ c1.toInt = own_C n.toInt d.toInt
set_option maxRecDepth 65536 in
set_option maxHeartbeats 40000000 in
theorem rm1 (l : Launch) (Z : State) (a0 : Array Value) (hw : ∀ d ∈ tables_1, d.before a0 Z = true) (ws : List Jvm.Cond) (n : Int64) (d : Int64) (h0 : Heap) (n0 : Nat) (Z0 : n0 ≤ h0.size) (hn : 0 ≤ n.toInt) (hd1 : 1 ≤ d.toInt) (hd2 : d.toInt ≤ 92233720368547758) (hlt : n.toInt < 92233720368547758 * d.toInt) :
    MetFree l (⟨"com/example/notesmith/notesmith/util/Rounding", "wholeCents", "(JJ)J"⟩ : MethodName) (head1 (Jvm.Cond.code (⟨"com/example/notesmith/notesmith/util/Rounding", "wholeCents", "(JJ)J"⟩ : MethodName) prog_119_method_7_code 8 (some .long) :: ws) ({ frames := 0, cells := 0, slots := 0, locals := 0 } : Room)) (fun as₉ U => as₉ = #[(.long n), (.long d)] ∧ Z.Warmed39 U.vm ∧ U.heap = h0) (fun _ _ _ _ _ => True) (fun _ U o₉ U' => ∃ v L, o₉ = .returned v ∧ Q_rm1 Z n d h0 n0 v U'.heap L ∧ FrameEnd U o₉ U' L ({ frames := 0, cells := 0, slots := 0, locals := 0 } : Room).cells ({ frames := 0, cells := 0, slots := 0, locals := 0 } : Room).slots) := by
  refine MetFree.of_bodySF (plainFor_of_name pn_1) hisR ?_
  intro p e s m args below meth c s₁ Bd hml0 hP hK
  obtain ⟨rfl, hZ, hh⟩ := hP
  have hx := Bd.exec
  have hby := Bd.bytes
  have hml : c.maxLocals = 8 := hml0
  have hown : s.vm.findClass "com/example/notesmith/notesmith/util/Rounding" = some m.cls := findClass_of_methodNamed Bd.named
  have hnm := (name_of_methodNamed Bd.named Bd.method).1
  have X0 : Stand p l e ({ frames := 0, cells := 0, slots := 0, locals := 0 } : Room) s m #[(.long n), (.long d)] below meth c s₁ [] 0 0 := Stand.of_body Bd
  have e0 : s₁.heap = h0 := by rw [← hh, Bd.state]; rfl
  have N0 := Fr.nil n0
  show own_Go p e below (fun s₂ o₉ => s₂.status = .running ∧ Ended s₂ below o₉ ∧ ∃ v L, o₉ = .returned v ∧ Q_rm1 Z n d h0 n0 v s₂.heap L ∧ FrameEnd s o₉ s₂ L ({ frames := 0, cells := 0, slots := 0, locals := 0 } : Room).cells ({ frames := 0, cells := 0, slots := 0, locals := 0 } : Room).slots) (s₁.setTop (entryFrame m #[(.long n), (.long d)] 8))
  rw [ef_rm1 m n d]
  refine own_step (s₁.setTop (mkF m 1 #[.val (.long n), .second, .val (.long d), .second, .unset, .unset, .unset, .unset] [(.long n)])) (fun t₀ k₀ => XS.lloadN X0.here hx rfl (hb hby d1_0) rfl k₀) ?_
  refine own_step (s₁.setTop (mkF m 2 #[.val (.long n), .second, .val (.long d), .second, .unset, .unset, .unset, .unset] [(.long d), (.long n)])) (fun t₀ k₀ => XS.lloadN X0.here hx rfl (hb hby d1_1) rfl k₀) ?_
  refine own_step (s₁.setTop (mkF m 3 #[.val (.long n), .second, .val (.long d), .second, .unset, .unset, .unset, .unset] [(.long (own_lrem n d))])) (fun t₀ k₀ => XS.lrem X0.here hx rfl (hb hby d1_2) rfl (own_nz hd1) k₀) ?_
  refine own_step (s₁.setTop (mkF m 6 #[.val (.long n), .second, .val (.long d), .second, .unset, .unset, .unset, .unset] [(.long (100 : Int64)), (.long (own_lrem n d))])) (fun t₀ k₀ => X0.ldc2Long hx hown (mvT hZ (hw _ (List.mem_of_getElem? (i := 7) rfl))) (g := (mkF m 3 #[.val (.long n), .second, .val (.long d), .second, .unset, .unset, .unset, .unset] [(.long (own_lrem n d))])) rfl (hb hby d1_3) _ k₀) ?_
  refine own_step (s₁.setTop (mkF m 7 #[.val (.long n), .second, .val (.long d), .second, .unset, .unset, .unset, .unset] [(.long ((own_lrem n d) * (100 : Int64)))])) (fun t₀ k₀ => XS.lmul X0.here hx rfl (hb hby d1_6) rfl k₀) ?_
  refine own_step (s₁.setTop (mkF m 9 #[.val (.long n), .second, .val (.long d), .second, .val (.long ((own_lrem n d) * (100 : Int64))), .second, .unset, .unset] [])) (fun t₀ k₀ => XS.lstore X0.here hx rfl (hb hby d1_7) rfl (l' := #[.val (.long n), .second, .val (.long d), .second, .val (.long ((own_lrem n d) * (100 : Int64))), .second, .unset, .unset]) rfl k₀) ?_
  refine own_step (s₁.setTop (mkF m 10 #[.val (.long n), .second, .val (.long d), .second, .val (.long ((own_lrem n d) * (100 : Int64))), .second, .unset, .unset] [(.long n)])) (fun t₀ k₀ => XS.lloadN X0.here hx rfl (hb hby d1_9) rfl k₀) ?_
  refine own_step (s₁.setTop (mkF m 11 #[.val (.long n), .second, .val (.long d), .second, .val (.long ((own_lrem n d) * (100 : Int64))), .second, .unset, .unset] [(.long d), (.long n)])) (fun t₀ k₀ => XS.lloadN X0.here hx rfl (hb hby d1_10) rfl k₀) ?_
  refine own_step (s₁.setTop (mkF m 12 #[.val (.long n), .second, .val (.long d), .second, .val (.long ((own_lrem n d) * (100 : Int64))), .second, .unset, .unset] [(.long (n / d))])) (fun t₀ k₀ => XS.ldiv X0.here hx rfl (hb hby d1_11) rfl (own_nz hd1) k₀) ?_
  refine own_step (s₁.setTop (mkF m 15 #[.val (.long n), .second, .val (.long d), .second, .val (.long ((own_lrem n d) * (100 : Int64))), .second, .unset, .unset] [(.long (100 : Int64)), (.long (n / d))])) (fun t₀ k₀ => X0.ldc2Long hx hown (mvT hZ (hw _ (List.mem_of_getElem? (i := 7) rfl))) (g := (mkF m 12 #[.val (.long n), .second, .val (.long d), .second, .val (.long ((own_lrem n d) * (100 : Int64))), .second, .unset, .unset] [(.long (n / d))])) rfl (hb hby d1_12) _ k₀) ?_
  refine own_step (s₁.setTop (mkF m 16 #[.val (.long n), .second, .val (.long d), .second, .val (.long ((own_lrem n d) * (100 : Int64))), .second, .unset, .unset] [(.long ((n / d) * (100 : Int64)))])) (fun t₀ k₀ => XS.lmul X0.here hx rfl (hb hby d1_15) rfl k₀) ?_
  refine own_step (s₁.setTop (mkF m 18 #[.val (.long n), .second, .val (.long d), .second, .val (.long ((own_lrem n d) * (100 : Int64))), .second, .unset, .unset] [(.long ((own_lrem n d) * (100 : Int64))), (.long ((n / d) * (100 : Int64)))])) (fun t₀ k₀ => XS.lload X0.here hx rfl (hb hby d1_16) rfl k₀) ?_
  refine own_step (s₁.setTop (mkF m 19 #[.val (.long n), .second, .val (.long d), .second, .val (.long ((own_lrem n d) * (100 : Int64))), .second, .unset, .unset] [(.long d), (.long ((own_lrem n d) * (100 : Int64))), (.long ((n / d) * (100 : Int64)))])) (fun t₀ k₀ => XS.lloadN X0.here hx rfl (hb hby d1_18) rfl k₀) ?_
  refine own_step (s₁.setTop (mkF m 20 #[.val (.long n), .second, .val (.long d), .second, .val (.long ((own_lrem n d) * (100 : Int64))), .second, .unset, .unset] [(.long (((own_lrem n d) * (100 : Int64)) / d)), (.long ((n / d) * (100 : Int64)))])) (fun t₀ k₀ => XS.ldiv X0.here hx rfl (hb hby d1_19) rfl (own_nz hd1) k₀) ?_
  refine own_step (s₁.setTop (mkF m 21 #[.val (.long n), .second, .val (.long d), .second, .val (.long ((own_lrem n d) * (100 : Int64))), .second, .unset, .unset] [(.long (((n / d) * (100 : Int64)) + (((own_lrem n d) * (100 : Int64)) / d)))])) (fun t₀ k₀ => XS.ladd X0.here hx rfl (hb hby d1_20) rfl k₀) ?_
  refine own_step (s₁.setTop (mkF m 23 #[.val (.long n), .second, .val (.long d), .second, .val (.long ((own_lrem n d) * (100 : Int64))), .second, .val (.long (((n / d) * (100 : Int64)) + (((own_lrem n d) * (100 : Int64)) / d))), .second] [])) (fun t₀ k₀ => XS.lstore X0.here hx rfl (hb hby d1_21) rfl (l' := #[.val (.long n), .second, .val (.long d), .second, .val (.long ((own_lrem n d) * (100 : Int64))), .second, .val (.long (((n / d) * (100 : Int64)) + (((own_lrem n d) * (100 : Int64)) / d))), .second]) rfl k₀) ?_
  refine own_step (s₁.setTop (mkF m 26 #[.val (.long n), .second, .val (.long d), .second, .val (.long ((own_lrem n d) * (100 : Int64))), .second, .val (.long (((n / d) * (100 : Int64)) + (((own_lrem n d) * (100 : Int64)) / d))), .second] [(.long (2 : Int64))])) (fun t₀ k₀ => X0.ldc2Long hx hown (mvT hZ (hw _ (List.mem_of_getElem? (i := 8) rfl))) (g := (mkF m 23 #[.val (.long n), .second, .val (.long d), .second, .val (.long ((own_lrem n d) * (100 : Int64))), .second, .val (.long (((n / d) * (100 : Int64)) + (((own_lrem n d) * (100 : Int64)) / d))), .second] [])) rfl (hb hby d1_23) _ k₀) ?_
  refine own_step (s₁.setTop (mkF m 28 #[.val (.long n), .second, .val (.long d), .second, .val (.long ((own_lrem n d) * (100 : Int64))), .second, .val (.long (((n / d) * (100 : Int64)) + (((own_lrem n d) * (100 : Int64)) / d))), .second] [(.long ((own_lrem n d) * (100 : Int64))), (.long (2 : Int64))])) (fun t₀ k₀ => XS.lload X0.here hx rfl (hb hby d1_26) rfl k₀) ?_
  refine own_step (s₁.setTop (mkF m 29 #[.val (.long n), .second, .val (.long d), .second, .val (.long ((own_lrem n d) * (100 : Int64))), .second, .val (.long (((n / d) * (100 : Int64)) + (((own_lrem n d) * (100 : Int64)) / d))), .second] [(.long d), (.long ((own_lrem n d) * (100 : Int64))), (.long (2 : Int64))])) (fun t₀ k₀ => XS.lloadN X0.here hx rfl (hb hby d1_28) rfl k₀) ?_
  refine own_step (s₁.setTop (mkF m 30 #[.val (.long n), .second, .val (.long d), .second, .val (.long ((own_lrem n d) * (100 : Int64))), .second, .val (.long (((n / d) * (100 : Int64)) + (((own_lrem n d) * (100 : Int64)) / d))), .second] [(.long (own_lrem ((own_lrem n d) * (100 : Int64)) d)), (.long (2 : Int64))])) (fun t₀ k₀ => XS.lrem X0.here hx rfl (hb hby d1_29) rfl (own_nz hd1) k₀) ?_
  refine own_step (s₁.setTop (mkF m 31 #[.val (.long n), .second, .val (.long d), .second, .val (.long ((own_lrem n d) * (100 : Int64))), .second, .val (.long (((n / d) * (100 : Int64)) + (((own_lrem n d) * (100 : Int64)) / d))), .second] [(.long ((2 : Int64) * (own_lrem ((own_lrem n d) * (100 : Int64)) d)))])) (fun t₀ k₀ => XS.lmul X0.here hx rfl (hb hby d1_30) rfl k₀) ?_
  refine own_step (s₁.setTop (mkF m 32 #[.val (.long n), .second, .val (.long d), .second, .val (.long ((own_lrem n d) * (100 : Int64))), .second, .val (.long (((n / d) * (100 : Int64)) + (((own_lrem n d) * (100 : Int64)) / d))), .second] [(.long d), (.long ((2 : Int64) * (own_lrem ((own_lrem n d) * (100 : Int64)) d)))])) (fun t₀ k₀ => XS.lloadN X0.here hx rfl (hb hby d1_31) rfl k₀) ?_
  refine own_step (s₁.setTop (mkF m 33 #[.val (.long n), .second, .val (.long d), .second, .val (.long ((own_lrem n d) * (100 : Int64))), .second, .val (.long (((n / d) * (100 : Int64)) + (((own_lrem n d) * (100 : Int64)) / d))), .second] [(.int (lcmpW ((2 : Int64) * (own_lrem ((own_lrem n d) * (100 : Int64)) d)) d))])) (fun t₀ k₀ => XS.lcmp X0.here hx rfl (hb hby d1_32) rfl k₀) ?_
  by_cases hc33 : ((2 : Int64) * (own_lrem ((own_lrem n d) * (100 : Int64)) d)) < d
  · skip
    refine own_step (s₁.setTop (mkF m 43 #[.val (.long n), .second, .val (.long d), .second, .val (.long ((own_lrem n d) * (100 : Int64))), .second, .val (.long (((n / d) * (100 : Int64)) + (((own_lrem n d) * (100 : Int64)) / d))), .second] [])) (fun t₀ k₀ => XS.ifYes X0.here hx rfl (pc0 := 33) (pc' := 43) rfl (hb hby d1_33) rfl (own_lltT hc33) (by decide) (by decide) k₀) ?_
    refine own_step (s₁.setTop (mkF m 45 #[.val (.long n), .second, .val (.long d), .second, .val (.long ((own_lrem n d) * (100 : Int64))), .second, .val (.long (((n / d) * (100 : Int64)) + (((own_lrem n d) * (100 : Int64)) / d))), .second] [(.long (((n / d) * (100 : Int64)) + (((own_lrem n d) * (100 : Int64)) / d)))])) (fun t₀ k₀ => XS.lload X0.here hx rfl (hb hby d1_43) rfl k₀) ?_
    obtain ⟨fs, hr, hrun, hended, hW, hsame⟩ := X0.leave (v := some (.long (((n / d) * (100 : Int64)) + (((own_lrem n d) * (100 : Int64)) / d)))) (fun h => by rw [Bd.returns] at h; cases h)
    refine ⟨_, _, ?_, hrun, hended, _, _, rfl, ?_, ⟨_, rfl⟩, hW, hsame.mono (by decide) (by decide)⟩
    · jvm_step X0.here [X0.here.top, hx, (hb hby d1_45), X0.method', Bd.returns, narrow]
      first | (intro acts; rw [hr _ acts rfl rfl rfl]) | rw [hr _ _ rfl rfl rfl]
      exact Steps.refl _
    · show Q_rm1 Z n d h0 n0 _ s₁.heap _
      rw [e0]
      exact ⟨_, rfl, N0, rfl, own_leaf0 hn hd1 hd2 hlt hc33⟩
  · skip
    refine own_step (s₁.setTop (mkF m 36 #[.val (.long n), .second, .val (.long d), .second, .val (.long ((own_lrem n d) * (100 : Int64))), .second, .val (.long (((n / d) * (100 : Int64)) + (((own_lrem n d) * (100 : Int64)) / d))), .second] [])) (fun t₀ k₀ => XS.ifNo X0.here hx rfl (hb hby d1_33) rfl (own_lltF hc33) k₀) ?_
    refine own_step (s₁.setTop (mkF m 38 #[.val (.long n), .second, .val (.long d), .second, .val (.long ((own_lrem n d) * (100 : Int64))), .second, .val (.long (((n / d) * (100 : Int64)) + (((own_lrem n d) * (100 : Int64)) / d))), .second] [(.long (((n / d) * (100 : Int64)) + (((own_lrem n d) * (100 : Int64)) / d)))])) (fun t₀ k₀ => XS.lload X0.here hx rfl (hb hby d1_36) rfl k₀) ?_
    refine own_step (s₁.setTop (mkF m 39 #[.val (.long n), .second, .val (.long d), .second, .val (.long ((own_lrem n d) * (100 : Int64))), .second, .val (.long (((n / d) * (100 : Int64)) + (((own_lrem n d) * (100 : Int64)) / d))), .second] [(.long (1 : Int64)), (.long (((n / d) * (100 : Int64)) + (((own_lrem n d) * (100 : Int64)) / d)))])) (fun t₀ k₀ => XS.lconst X0.here hx rfl (hb hby d1_38) k₀) ?_
    refine own_step (s₁.setTop (mkF m 40 #[.val (.long n), .second, .val (.long d), .second, .val (.long ((own_lrem n d) * (100 : Int64))), .second, .val (.long (((n / d) * (100 : Int64)) + (((own_lrem n d) * (100 : Int64)) / d))), .second] [(.long ((((n / d) * (100 : Int64)) + (((own_lrem n d) * (100 : Int64)) / d)) + (1 : Int64)))])) (fun t₀ k₀ => XS.ladd X0.here hx rfl (hb hby d1_39) rfl k₀) ?_
    refine own_step (s₁.setTop (mkF m 45 #[.val (.long n), .second, .val (.long d), .second, .val (.long ((own_lrem n d) * (100 : Int64))), .second, .val (.long (((n / d) * (100 : Int64)) + (((own_lrem n d) * (100 : Int64)) / d))), .second] [(.long ((((n / d) * (100 : Int64)) + (((own_lrem n d) * (100 : Int64)) / d)) + (1 : Int64)))])) (fun t₀ k₀ => XS.goto X0.here hx rfl (pc0 := 40) (pc' := 45) rfl (hb hby d1_40) (by decide) (by decide) k₀) ?_
    obtain ⟨fs, hr, hrun, hended, hW, hsame⟩ := X0.leave (v := some (.long ((((n / d) * (100 : Int64)) + (((own_lrem n d) * (100 : Int64)) / d)) + (1 : Int64)))) (fun h => by rw [Bd.returns] at h; cases h)
    refine ⟨_, _, ?_, hrun, hended, _, _, rfl, ?_, ⟨_, rfl⟩, hW, hsame.mono (by decide) (by decide)⟩
    · jvm_step X0.here [X0.here.top, hx, (hb hby d1_45), X0.method', Bd.returns, narrow]
      first | (intro acts; rw [hr _ acts rfl rfl rfl]) | rw [hr _ _ rfl rfl rfl]
      exact Steps.refl _
    · show Q_rm1 Z n d h0 n0 _ s₁.heap _
      rw [e0]
      exact ⟨_, rfl, N0, rfl, own_leaf1 hn hd1 hd2 hlt hc33⟩
theorem pn_0 : plainName "com/example/notesmith/notesmith/util/RoundingWholeCentsPinLaw" = true := by first | (simp [plainName, overriddenIn]; done) | decide +kernel
theorem ef_rm0 (m : MethodId) (a : Int64) (b : Int64) (mode : Int32) : entryFrame m #[(.long a), (.long b), (.int mode)] maxLocals = mkF m 0 #[.val (.long a), .second, .val (.long b), .second, .val (.int mode), .unset, .unset, .unset, .unset, .unset, .unset, .unset, .unset, .unset, .unset, .unset, .unset, .unset, .unset, .unset, .unset] [] := by first | (simp [entryFrame, mkF, argsToLocals, Value.category, maxLocals]; done) | rfl
def Q_rm0 (Z : State) (a : Int64) (b : Int64) (mode : Int32) (h0 : Heap) (n0 : Nat) (v : Option Value) (h : Heap) (L : List Loc) : Prop := v = some (.int 1) ∧ Fr n0 L
set_option maxRecDepth 65536 in
set_option maxHeartbeats 40000000 in
theorem rm0 (l : Launch) (Z : State) (a0 : Array Value) (hw : ∀ d ∈ tables_1, d.before a0 Z = true) (ws : List Jvm.Cond) (a : Int64) (b : Int64) (mode : Int32) (h0 : Heap) (n0 : Nat) (Z0 : n0 ≤ h0.size) :
    MetFree l x (head1 (Jvm.Cond.code x code maxLocals ret :: ws) room_1) (fun as₉ U => as₉ = #[(.long a), (.long b), (.int mode)] ∧ Z.Warmed39 U.vm ∧ U.heap = h0) (fun _ _ _ _ _ => True) (fun _ U o₉ U' => ∃ v L, o₉ = .returned v ∧ Q_rm0 Z a b mode h0 n0 v U'.heap L ∧ FrameEnd U o₉ U' L room_1.cells room_1.slots) := by
  refine MetFree.of_bodySF (plainFor_of_name pn_0) hisR ?_
  intro p e s m args below meth c s₁ Bd hml0 hP hK
  obtain ⟨rfl, hZ, hh⟩ := hP
  have hx := Bd.exec
  have hby := Bd.bytes
  have hml : c.maxLocals = 21 := hml0
  have hown : s.vm.findClass "com/example/notesmith/notesmith/util/RoundingWholeCentsPinLaw" = some m.cls := findClass_of_methodNamed Bd.named
  have hnm := (name_of_methodNamed Bd.named Bd.method).1
  have X0 : Stand p l e room_1 s m #[(.long a), (.long b), (.int mode)] below meth c s₁ [] 0 0 := Stand.of_body Bd
  have e0 : s₁.heap = h0 := by rw [← hh, Bd.state]; rfl
  have N0 := Fr.nil n0
  have cut77 : ∀ (d : Int64) (n : Int64) (Tc77 : State) (Xc77 : Stand p l e room_1 s m #[(.long a), (.long b), (.int mode)] below meth c Tc77 [] 0 0) (ec77 : Tc77.heap = h0) (hn : 0 ≤ n.toInt) (hd1 : 1 ≤ d.toInt) (hd2 : d.toInt ≤ 92233720368547758) (hlt : n.toInt < 92233720368547758 * d.toInt), own_Go p e below (fun s₂ o₉ => s₂.status = .running ∧ Ended s₂ below o₉ ∧ ∃ v L, o₉ = .returned v ∧ Q_rm0 Z a b mode h0 n0 v s₂.heap L ∧ FrameEnd s o₉ s₂ L room_1.cells room_1.slots) (Tc77.setTop (mkF m 77 #[.val (.long a), .second, .val (.long b), .second, .val (.int mode), .val (.long (92233720368547758 : Int64)), .second, .val (.long d), .second, .val (.long n), .second, .unset, .unset, .unset, .unset, .unset, .unset, .unset, .unset, .unset, .unset] [])) := by
    intro d n Tc77 Xc77 ec77 hn hd1 hd2 hlt
    refine own_step (Tc77.setTop (mkF m 79 #[.val (.long a), .second, .val (.long b), .second, .val (.int mode), .val (.long (92233720368547758 : Int64)), .second, .val (.long d), .second, .val (.long n), .second, .unset, .unset, .unset, .unset, .unset, .unset, .unset, .unset, .unset, .unset] [(.long n)])) (fun t₀ k₀ => XS.lload Xc77.here hx rfl (hb hby at_77) rfl k₀) ?_
    refine own_step (Tc77.setTop (mkF m 81 #[.val (.long a), .second, .val (.long b), .second, .val (.int mode), .val (.long (92233720368547758 : Int64)), .second, .val (.long d), .second, .val (.long n), .second, .unset, .unset, .unset, .unset, .unset, .unset, .unset, .unset, .unset, .unset] [(.long d), (.long n)])) (fun t₀ k₀ => XS.lload Xc77.here hx rfl (hb hby at_79) rfl k₀) ?_
    obtain ⟨_, _, ⟨T1, L1, k1, n1⟩, -, X1, ⟨Lc1, hQ1, l1, y1, z1⟩, st1⟩ := Jvm.LawKit.callS Xc77 hx (y := (⟨"com/example/notesmith/notesmith/util/Rounding", "wholeCents", "(JJ)J"⟩ : MethodName)) hown (mvT hZ (hw _ (List.mem_of_getElem? (i := 3) rfl))) (mvT hZ (hw _ (List.mem_of_getElem? (i := 4) rfl))) (mvT hZ (hw _ (List.mem_of_getElem? (i := 5) rfl))) (mvT hZ (hw _ (List.mem_of_getElem? (i := 6) rfl))) (by decide) (backOf (W := 0) (rm1 l Z a0 hw [] n d h0 n0 Z0 hn hd1 hd2 hlt) hZ (hw _ (List.mem_of_getElem? (i := 6) rfl)) (hw _ (List.mem_of_getElem? (i := 5) rfl)) (by decide) (by decide)) (g := (mkF m 81 #[.val (.long a), .second, .val (.long b), .second, .val (.int mode), .val (.long (92233720368547758 : Int64)), .second, .val (.long d), .second, .val (.long n), .second, .unset, .unset, .unset, .unset, .unset, .unset, .unset, .unset, .unset, .unset] [(.long d), (.long n)])) rfl (by rw [hml]; rfl) (argsL := [(.long n), (.long d)]) (rest := []) (lenOf pd_0 rfl) rfl (by show 2 * 0 + _ ≤ _; exact Nat.le_of_eq rfl) (hb hby at_81) (fun _ _ => ⟨rfl, ec77, (by decide : 0 + 0 ≤ _), (by decide : 0 + 0 ≤ _)⟩)
    dsimp only [Pt.U, Pt.locs, Pt.cells, Pt.slots] at X1 l1 y1 z1 st1 hQ1
    subst l1 y1 z1
    obtain ⟨c12, rfl, N1q, e1, f3⟩ := hQ1
    have N1 := Fr.app N0 N1q
    refine own_step (T1.setTop (mkF m 84 #[.val (.long a), .second, .val (.long b), .second, .val (.int mode), .val (.long (92233720368547758 : Int64)), .second, .val (.long d), .second, .val (.long n), .second, .unset, .unset, .unset, .unset, .unset, .unset, .unset, .unset, .unset, .unset] [(.long c12)])) (fun t₀ k₀ => st1 t₀ k₀) ?_
    refine own_step (T1.setTop (mkF m 86 #[.val (.long a), .second, .val (.long b), .second, .val (.int mode), .val (.long (92233720368547758 : Int64)), .second, .val (.long d), .second, .val (.long n), .second, .val (.long c12), .second, .unset, .unset, .unset, .unset, .unset, .unset, .unset, .unset] [])) (fun t₀ k₀ => XS.lstore X1.here hx rfl (hb hby at_84) rfl (l' := #[.val (.long a), .second, .val (.long b), .second, .val (.int mode), .val (.long (92233720368547758 : Int64)), .second, .val (.long d), .second, .val (.long n), .second, .val (.long c12), .second, .unset, .unset, .unset, .unset, .unset, .unset, .unset, .unset]) rfl k₀) ?_
    refine own_step (T1.setTop (mkF m 88 #[.val (.long a), .second, .val (.long b), .second, .val (.int mode), .val (.long (92233720368547758 : Int64)), .second, .val (.long d), .second, .val (.long n), .second, .val (.long c12), .second, .unset, .unset, .unset, .unset, .unset, .unset, .unset, .unset] [(.long n)])) (fun t₀ k₀ => XS.lload X1.here hx rfl (hb hby at_86) rfl k₀) ?_
    refine own_step (T1.setTop (mkF m 90 #[.val (.long a), .second, .val (.long b), .second, .val (.int mode), .val (.long (92233720368547758 : Int64)), .second, .val (.long d), .second, .val (.long n), .second, .val (.long c12), .second, .unset, .unset, .unset, .unset, .unset, .unset, .unset, .unset] [(.long d), (.long n)])) (fun t₀ k₀ => XS.lload X1.here hx rfl (hb hby at_88) rfl k₀) ?_
    refine own_step (T1.setTop (mkF m 91 #[.val (.long a), .second, .val (.long b), .second, .val (.int mode), .val (.long (92233720368547758 : Int64)), .second, .val (.long d), .second, .val (.long n), .second, .val (.long c12), .second, .unset, .unset, .unset, .unset, .unset, .unset, .unset, .unset] [(.long (n / d))])) (fun t₀ k₀ => XS.ldiv X1.here hx rfl (hb hby at_90) rfl (own_nz hd1) k₀) ?_
    refine own_step (T1.setTop (mkF m 93 #[.val (.long a), .second, .val (.long b), .second, .val (.int mode), .val (.long (92233720368547758 : Int64)), .second, .val (.long d), .second, .val (.long n), .second, .val (.long c12), .second, .val (.long (n / d)), .second, .unset, .unset, .unset, .unset, .unset, .unset] [])) (fun t₀ k₀ => XS.lstore X1.here hx rfl (hb hby at_91) rfl (l' := #[.val (.long a), .second, .val (.long b), .second, .val (.int mode), .val (.long (92233720368547758 : Int64)), .second, .val (.long d), .second, .val (.long n), .second, .val (.long c12), .second, .val (.long (n / d)), .second, .unset, .unset, .unset, .unset, .unset, .unset]) rfl k₀) ?_
    refine own_step (T1.setTop (mkF m 95 #[.val (.long a), .second, .val (.long b), .second, .val (.int mode), .val (.long (92233720368547758 : Int64)), .second, .val (.long d), .second, .val (.long n), .second, .val (.long c12), .second, .val (.long (n / d)), .second, .unset, .unset, .unset, .unset, .unset, .unset] [(.long n)])) (fun t₀ k₀ => XS.lload X1.here hx rfl (hb hby at_93) rfl k₀) ?_
    refine own_step (T1.setTop (mkF m 97 #[.val (.long a), .second, .val (.long b), .second, .val (.int mode), .val (.long (92233720368547758 : Int64)), .second, .val (.long d), .second, .val (.long n), .second, .val (.long c12), .second, .val (.long (n / d)), .second, .unset, .unset, .unset, .unset, .unset, .unset] [(.long d), (.long n)])) (fun t₀ k₀ => XS.lload X1.here hx rfl (hb hby at_95) rfl k₀) ?_
    refine own_step (T1.setTop (mkF m 98 #[.val (.long a), .second, .val (.long b), .second, .val (.int mode), .val (.long (92233720368547758 : Int64)), .second, .val (.long d), .second, .val (.long n), .second, .val (.long c12), .second, .val (.long (n / d)), .second, .unset, .unset, .unset, .unset, .unset, .unset] [(.long (own_lrem n d))])) (fun t₀ k₀ => XS.lrem X1.here hx rfl (hb hby at_97) rfl (own_nz hd1) k₀) ?_
    refine own_step (T1.setTop (mkF m 100 #[.val (.long a), .second, .val (.long b), .second, .val (.int mode), .val (.long (92233720368547758 : Int64)), .second, .val (.long d), .second, .val (.long n), .second, .val (.long c12), .second, .val (.long (n / d)), .second, .val (.long (own_lrem n d)), .second, .unset, .unset, .unset, .unset] [])) (fun t₀ k₀ => XS.lstore X1.here hx rfl (hb hby at_98) rfl (l' := #[.val (.long a), .second, .val (.long b), .second, .val (.int mode), .val (.long (92233720368547758 : Int64)), .second, .val (.long d), .second, .val (.long n), .second, .val (.long c12), .second, .val (.long (n / d)), .second, .val (.long (own_lrem n d)), .second, .unset, .unset, .unset, .unset]) rfl k₀) ?_
    refine own_step (T1.setTop (mkF m 102 #[.val (.long a), .second, .val (.long b), .second, .val (.int mode), .val (.long (92233720368547758 : Int64)), .second, .val (.long d), .second, .val (.long n), .second, .val (.long c12), .second, .val (.long (n / d)), .second, .val (.long (own_lrem n d)), .second, .unset, .unset, .unset, .unset] [(.long c12)])) (fun t₀ k₀ => XS.lload X1.here hx rfl (hb hby at_100) rfl k₀) ?_
    refine own_step (T1.setTop (mkF m 105 #[.val (.long a), .second, .val (.long b), .second, .val (.int mode), .val (.long (92233720368547758 : Int64)), .second, .val (.long d), .second, .val (.long n), .second, .val (.long c12), .second, .val (.long (n / d)), .second, .val (.long (own_lrem n d)), .second, .unset, .unset, .unset, .unset] [(.long (100 : Int64)), (.long c12)])) (fun t₀ k₀ => X1.ldc2Long hx hown (mvT hZ (hw _ (List.mem_of_getElem? (i := 2) rfl))) (g := (mkF m 102 #[.val (.long a), .second, .val (.long b), .second, .val (.int mode), .val (.long (92233720368547758 : Int64)), .second, .val (.long d), .second, .val (.long n), .second, .val (.long c12), .second, .val (.long (n / d)), .second, .val (.long (own_lrem n d)), .second, .unset, .unset, .unset, .unset] [(.long c12)])) rfl (hb hby at_102) _ k₀) ?_
    refine own_step (T1.setTop (mkF m 107 #[.val (.long a), .second, .val (.long b), .second, .val (.int mode), .val (.long (92233720368547758 : Int64)), .second, .val (.long d), .second, .val (.long n), .second, .val (.long c12), .second, .val (.long (n / d)), .second, .val (.long (own_lrem n d)), .second, .unset, .unset, .unset, .unset] [(.long (n / d)), (.long (100 : Int64)), (.long c12)])) (fun t₀ k₀ => XS.lload X1.here hx rfl (hb hby at_105) rfl k₀) ?_
    refine own_step (T1.setTop (mkF m 108 #[.val (.long a), .second, .val (.long b), .second, .val (.int mode), .val (.long (92233720368547758 : Int64)), .second, .val (.long d), .second, .val (.long n), .second, .val (.long c12), .second, .val (.long (n / d)), .second, .val (.long (own_lrem n d)), .second, .unset, .unset, .unset, .unset] [(.long ((100 : Int64) * (n / d))), (.long c12)])) (fun t₀ k₀ => XS.lmul X1.here hx rfl (hb hby at_107) rfl k₀) ?_
    refine own_step (T1.setTop (mkF m 109 #[.val (.long a), .second, .val (.long b), .second, .val (.int mode), .val (.long (92233720368547758 : Int64)), .second, .val (.long d), .second, .val (.long n), .second, .val (.long c12), .second, .val (.long (n / d)), .second, .val (.long (own_lrem n d)), .second, .unset, .unset, .unset, .unset] [(.long (c12 - ((100 : Int64) * (n / d))))])) (fun t₀ k₀ => XS.lsub X1.here hx rfl (hb hby at_108) rfl k₀) ?_
    refine own_step (T1.setTop (mkF m 111 #[.val (.long a), .second, .val (.long b), .second, .val (.int mode), .val (.long (92233720368547758 : Int64)), .second, .val (.long d), .second, .val (.long n), .second, .val (.long c12), .second, .val (.long (n / d)), .second, .val (.long (own_lrem n d)), .second, .val (.long (c12 - ((100 : Int64) * (n / d)))), .second, .unset, .unset] [])) (fun t₀ k₀ => XS.lstore X1.here hx rfl (hb hby at_109) rfl (l' := #[.val (.long a), .second, .val (.long b), .second, .val (.int mode), .val (.long (92233720368547758 : Int64)), .second, .val (.long d), .second, .val (.long n), .second, .val (.long c12), .second, .val (.long (n / d)), .second, .val (.long (own_lrem n d)), .second, .val (.long (c12 - ((100 : Int64) * (n / d)))), .second, .unset, .unset]) rfl k₀) ?_
    refine own_step (T1.setTop (mkF m 113 #[.val (.long a), .second, .val (.long b), .second, .val (.int mode), .val (.long (92233720368547758 : Int64)), .second, .val (.long d), .second, .val (.long n), .second, .val (.long c12), .second, .val (.long (n / d)), .second, .val (.long (own_lrem n d)), .second, .val (.long (c12 - ((100 : Int64) * (n / d)))), .second, .unset, .unset] [(.long (c12 - ((100 : Int64) * (n / d))))])) (fun t₀ k₀ => XS.lload X1.here hx rfl (hb hby at_111) rfl k₀) ?_
    refine own_step (T1.setTop (mkF m 114 #[.val (.long a), .second, .val (.long b), .second, .val (.int mode), .val (.long (92233720368547758 : Int64)), .second, .val (.long d), .second, .val (.long n), .second, .val (.long c12), .second, .val (.long (n / d)), .second, .val (.long (own_lrem n d)), .second, .val (.long (c12 - ((100 : Int64) * (n / d)))), .second, .unset, .unset] [(.long (0 : Int64)), (.long (c12 - ((100 : Int64) * (n / d))))])) (fun t₀ k₀ => XS.lconst X1.here hx rfl (hb hby at_113) k₀) ?_
    refine own_step (T1.setTop (mkF m 115 #[.val (.long a), .second, .val (.long b), .second, .val (.int mode), .val (.long (92233720368547758 : Int64)), .second, .val (.long d), .second, .val (.long n), .second, .val (.long c12), .second, .val (.long (n / d)), .second, .val (.long (own_lrem n d)), .second, .val (.long (c12 - ((100 : Int64) * (n / d)))), .second, .unset, .unset] [(.int (lcmpW (c12 - ((100 : Int64) * (n / d))) (0 : Int64)))])) (fun t₀ k₀ => XS.lcmp X1.here hx rfl (hb hby at_114) rfl k₀) ?_
    have hk4 : ¬ ((c12 - ((100 : Int64) * (n / d))) < (0 : Int64)) := own_115 hn hd1 hd2 hlt f3
    refine own_step (T1.setTop (mkF m 118 #[.val (.long a), .second, .val (.long b), .second, .val (.int mode), .val (.long (92233720368547758 : Int64)), .second, .val (.long d), .second, .val (.long n), .second, .val (.long c12), .second, .val (.long (n / d)), .second, .val (.long (own_lrem n d)), .second, .val (.long (c12 - ((100 : Int64) * (n / d)))), .second, .unset, .unset] [])) (fun t₀ k₀ => XS.ifNo X1.here hx rfl (hb hby at_115) rfl (own_lltF hk4) k₀) ?_
    refine own_step (T1.setTop (mkF m 120 #[.val (.long a), .second, .val (.long b), .second, .val (.int mode), .val (.long (92233720368547758 : Int64)), .second, .val (.long d), .second, .val (.long n), .second, .val (.long c12), .second, .val (.long (n / d)), .second, .val (.long (own_lrem n d)), .second, .val (.long (c12 - ((100 : Int64) * (n / d)))), .second, .unset, .unset] [(.long (c12 - ((100 : Int64) * (n / d))))])) (fun t₀ k₀ => XS.lload X1.here hx rfl (hb hby at_118) rfl k₀) ?_
    refine own_step (T1.setTop (mkF m 123 #[.val (.long a), .second, .val (.long b), .second, .val (.int mode), .val (.long (92233720368547758 : Int64)), .second, .val (.long d), .second, .val (.long n), .second, .val (.long c12), .second, .val (.long (n / d)), .second, .val (.long (own_lrem n d)), .second, .val (.long (c12 - ((100 : Int64) * (n / d)))), .second, .unset, .unset] [(.long (100 : Int64)), (.long (c12 - ((100 : Int64) * (n / d))))])) (fun t₀ k₀ => X1.ldc2Long hx hown (mvT hZ (hw _ (List.mem_of_getElem? (i := 2) rfl))) (g := (mkF m 120 #[.val (.long a), .second, .val (.long b), .second, .val (.int mode), .val (.long (92233720368547758 : Int64)), .second, .val (.long d), .second, .val (.long n), .second, .val (.long c12), .second, .val (.long (n / d)), .second, .val (.long (own_lrem n d)), .second, .val (.long (c12 - ((100 : Int64) * (n / d)))), .second, .unset, .unset] [(.long (c12 - ((100 : Int64) * (n / d))))])) rfl (hb hby at_120) _ k₀) ?_
    refine own_step (T1.setTop (mkF m 124 #[.val (.long a), .second, .val (.long b), .second, .val (.int mode), .val (.long (92233720368547758 : Int64)), .second, .val (.long d), .second, .val (.long n), .second, .val (.long c12), .second, .val (.long (n / d)), .second, .val (.long (own_lrem n d)), .second, .val (.long (c12 - ((100 : Int64) * (n / d)))), .second, .unset, .unset] [(.int (lcmpW (c12 - ((100 : Int64) * (n / d))) (100 : Int64)))])) (fun t₀ k₀ => XS.lcmp X1.here hx rfl (hb hby at_123) rfl k₀) ?_
    have hk5 : ¬ ((100 : Int64) < (c12 - ((100 : Int64) * (n / d)))) := own_124 hn hd1 hd2 hlt f3
    refine own_step (T1.setTop (mkF m 129 #[.val (.long a), .second, .val (.long b), .second, .val (.int mode), .val (.long (92233720368547758 : Int64)), .second, .val (.long d), .second, .val (.long n), .second, .val (.long c12), .second, .val (.long (n / d)), .second, .val (.long (own_lrem n d)), .second, .val (.long (c12 - ((100 : Int64) * (n / d)))), .second, .unset, .unset] [])) (fun t₀ k₀ => XS.ifYes X1.here hx rfl (pc0 := 124) (pc' := 129) rfl (hb hby at_124) rfl (own_lleT hk5) (by decide) (by decide) k₀) ?_
    refine own_step (T1.setTop (mkF m 132 #[.val (.long a), .second, .val (.long b), .second, .val (.int mode), .val (.long (92233720368547758 : Int64)), .second, .val (.long d), .second, .val (.long n), .second, .val (.long c12), .second, .val (.long (n / d)), .second, .val (.long (own_lrem n d)), .second, .val (.long (c12 - ((100 : Int64) * (n / d)))), .second, .unset, .unset] [(.long (100 : Int64))])) (fun t₀ k₀ => X1.ldc2Long hx hown (mvT hZ (hw _ (List.mem_of_getElem? (i := 2) rfl))) (g := (mkF m 129 #[.val (.long a), .second, .val (.long b), .second, .val (.int mode), .val (.long (92233720368547758 : Int64)), .second, .val (.long d), .second, .val (.long n), .second, .val (.long c12), .second, .val (.long (n / d)), .second, .val (.long (own_lrem n d)), .second, .val (.long (c12 - ((100 : Int64) * (n / d)))), .second, .unset, .unset] [])) rfl (hb hby at_129) _ k₀) ?_
    refine own_step (T1.setTop (mkF m 134 #[.val (.long a), .second, .val (.long b), .second, .val (.int mode), .val (.long (92233720368547758 : Int64)), .second, .val (.long d), .second, .val (.long n), .second, .val (.long c12), .second, .val (.long (n / d)), .second, .val (.long (own_lrem n d)), .second, .val (.long (c12 - ((100 : Int64) * (n / d)))), .second, .unset, .unset] [(.long (own_lrem n d)), (.long (100 : Int64))])) (fun t₀ k₀ => XS.lload X1.here hx rfl (hb hby at_132) rfl k₀) ?_
    refine own_step (T1.setTop (mkF m 135 #[.val (.long a), .second, .val (.long b), .second, .val (.int mode), .val (.long (92233720368547758 : Int64)), .second, .val (.long d), .second, .val (.long n), .second, .val (.long c12), .second, .val (.long (n / d)), .second, .val (.long (own_lrem n d)), .second, .val (.long (c12 - ((100 : Int64) * (n / d)))), .second, .unset, .unset] [(.long ((100 : Int64) * (own_lrem n d)))])) (fun t₀ k₀ => XS.lmul X1.here hx rfl (hb hby at_134) rfl k₀) ?_
    refine own_step (T1.setTop (mkF m 137 #[.val (.long a), .second, .val (.long b), .second, .val (.int mode), .val (.long (92233720368547758 : Int64)), .second, .val (.long d), .second, .val (.long n), .second, .val (.long c12), .second, .val (.long (n / d)), .second, .val (.long (own_lrem n d)), .second, .val (.long (c12 - ((100 : Int64) * (n / d)))), .second, .unset, .unset] [(.long (c12 - ((100 : Int64) * (n / d)))), (.long ((100 : Int64) * (own_lrem n d)))])) (fun t₀ k₀ => XS.lload X1.here hx rfl (hb hby at_135) rfl k₀) ?_
    refine own_step (T1.setTop (mkF m 139 #[.val (.long a), .second, .val (.long b), .second, .val (.int mode), .val (.long (92233720368547758 : Int64)), .second, .val (.long d), .second, .val (.long n), .second, .val (.long c12), .second, .val (.long (n / d)), .second, .val (.long (own_lrem n d)), .second, .val (.long (c12 - ((100 : Int64) * (n / d)))), .second, .unset, .unset] [(.long d), (.long (c12 - ((100 : Int64) * (n / d)))), (.long ((100 : Int64) * (own_lrem n d)))])) (fun t₀ k₀ => XS.lload X1.here hx rfl (hb hby at_137) rfl k₀) ?_
    refine own_step (T1.setTop (mkF m 140 #[.val (.long a), .second, .val (.long b), .second, .val (.int mode), .val (.long (92233720368547758 : Int64)), .second, .val (.long d), .second, .val (.long n), .second, .val (.long c12), .second, .val (.long (n / d)), .second, .val (.long (own_lrem n d)), .second, .val (.long (c12 - ((100 : Int64) * (n / d)))), .second, .unset, .unset] [(.long ((c12 - ((100 : Int64) * (n / d))) * d)), (.long ((100 : Int64) * (own_lrem n d)))])) (fun t₀ k₀ => XS.lmul X1.here hx rfl (hb hby at_139) rfl k₀) ?_
    refine own_step (T1.setTop (mkF m 141 #[.val (.long a), .second, .val (.long b), .second, .val (.int mode), .val (.long (92233720368547758 : Int64)), .second, .val (.long d), .second, .val (.long n), .second, .val (.long c12), .second, .val (.long (n / d)), .second, .val (.long (own_lrem n d)), .second, .val (.long (c12 - ((100 : Int64) * (n / d)))), .second, .unset, .unset] [(.long (((100 : Int64) * (own_lrem n d)) - ((c12 - ((100 : Int64) * (n / d))) * d)))])) (fun t₀ k₀ => XS.lsub X1.here hx rfl (hb hby at_140) rfl k₀) ?_
    refine own_step (T1.setTop (mkF m 143 #[.val (.long a), .second, .val (.long b), .second, .val (.int mode), .val (.long (92233720368547758 : Int64)), .second, .val (.long d), .second, .val (.long n), .second, .val (.long c12), .second, .val (.long (n / d)), .second, .val (.long (own_lrem n d)), .second, .val (.long (c12 - ((100 : Int64) * (n / d)))), .second, .val (.long (((100 : Int64) * (own_lrem n d)) - ((c12 - ((100 : Int64) * (n / d))) * d))), .second] [])) (fun t₀ k₀ => XS.lstore X1.here hx rfl (hb hby at_141) rfl (l' := #[.val (.long a), .second, .val (.long b), .second, .val (.int mode), .val (.long (92233720368547758 : Int64)), .second, .val (.long d), .second, .val (.long n), .second, .val (.long c12), .second, .val (.long (n / d)), .second, .val (.long (own_lrem n d)), .second, .val (.long (c12 - ((100 : Int64) * (n / d)))), .second, .val (.long (((100 : Int64) * (own_lrem n d)) - ((c12 - ((100 : Int64) * (n / d))) * d))), .second]) rfl k₀) ?_
    refine own_step (T1.setTop (mkF m 145 #[.val (.long a), .second, .val (.long b), .second, .val (.int mode), .val (.long (92233720368547758 : Int64)), .second, .val (.long d), .second, .val (.long n), .second, .val (.long c12), .second, .val (.long (n / d)), .second, .val (.long (own_lrem n d)), .second, .val (.long (c12 - ((100 : Int64) * (n / d)))), .second, .val (.long (((100 : Int64) * (own_lrem n d)) - ((c12 - ((100 : Int64) * (n / d))) * d))), .second] [(.long (((100 : Int64) * (own_lrem n d)) - ((c12 - ((100 : Int64) * (n / d))) * d)))])) (fun t₀ k₀ => XS.lload X1.here hx rfl (hb hby at_143) rfl k₀) ?_
    refine own_step (T1.setTop (mkF m 146 #[.val (.long a), .second, .val (.long b), .second, .val (.int mode), .val (.long (92233720368547758 : Int64)), .second, .val (.long d), .second, .val (.long n), .second, .val (.long c12), .second, .val (.long (n / d)), .second, .val (.long (own_lrem n d)), .second, .val (.long (c12 - ((100 : Int64) * (n / d)))), .second, .val (.long (((100 : Int64) * (own_lrem n d)) - ((c12 - ((100 : Int64) * (n / d))) * d))), .second] [(.long (0 : Int64)), (.long (((100 : Int64) * (own_lrem n d)) - ((c12 - ((100 : Int64) * (n / d))) * d)))])) (fun t₀ k₀ => XS.lconst X1.here hx rfl (hb hby at_145) k₀) ?_
    refine own_step (T1.setTop (mkF m 147 #[.val (.long a), .second, .val (.long b), .second, .val (.int mode), .val (.long (92233720368547758 : Int64)), .second, .val (.long d), .second, .val (.long n), .second, .val (.long c12), .second, .val (.long (n / d)), .second, .val (.long (own_lrem n d)), .second, .val (.long (c12 - ((100 : Int64) * (n / d)))), .second, .val (.long (((100 : Int64) * (own_lrem n d)) - ((c12 - ((100 : Int64) * (n / d))) * d))), .second] [(.int (lcmpW (((100 : Int64) * (own_lrem n d)) - ((c12 - ((100 : Int64) * (n / d))) * d)) (0 : Int64)))])) (fun t₀ k₀ => XS.lcmp X1.here hx rfl (hb hby at_146) rfl k₀) ?_
    by_cases hc147 : (((100 : Int64) * (own_lrem n d)) - ((c12 - ((100 : Int64) * (n / d))) * d)) < (0 : Int64)
    · skip
      refine own_step (T1.setTop (mkF m 167 #[.val (.long a), .second, .val (.long b), .second, .val (.int mode), .val (.long (92233720368547758 : Int64)), .second, .val (.long d), .second, .val (.long n), .second, .val (.long c12), .second, .val (.long (n / d)), .second, .val (.long (own_lrem n d)), .second, .val (.long (c12 - ((100 : Int64) * (n / d)))), .second, .val (.long (((100 : Int64) * (own_lrem n d)) - ((c12 - ((100 : Int64) * (n / d))) * d))), .second] [])) (fun t₀ k₀ => XS.ifYes X1.here hx rfl (pc0 := 147) (pc' := 167) rfl (hb hby at_147) rfl (own_lltT hc147) (by decide) (by decide) k₀) ?_
      refine own_step (T1.setTop (mkF m 169 #[.val (.long a), .second, .val (.long b), .second, .val (.int mode), .val (.long (92233720368547758 : Int64)), .second, .val (.long d), .second, .val (.long n), .second, .val (.long c12), .second, .val (.long (n / d)), .second, .val (.long (own_lrem n d)), .second, .val (.long (c12 - ((100 : Int64) * (n / d)))), .second, .val (.long (((100 : Int64) * (own_lrem n d)) - ((c12 - ((100 : Int64) * (n / d))) * d))), .second] [(.long (((100 : Int64) * (own_lrem n d)) - ((c12 - ((100 : Int64) * (n / d))) * d)))])) (fun t₀ k₀ => XS.lload X1.here hx rfl (hb hby at_167) rfl k₀) ?_
      refine own_step (T1.setTop (mkF m 170 #[.val (.long a), .second, .val (.long b), .second, .val (.int mode), .val (.long (92233720368547758 : Int64)), .second, .val (.long d), .second, .val (.long n), .second, .val (.long c12), .second, .val (.long (n / d)), .second, .val (.long (own_lrem n d)), .second, .val (.long (c12 - ((100 : Int64) * (n / d)))), .second, .val (.long (((100 : Int64) * (own_lrem n d)) - ((c12 - ((100 : Int64) * (n / d))) * d))), .second] [(.long (-(((100 : Int64) * (own_lrem n d)) - ((c12 - ((100 : Int64) * (n / d))) * d))))])) (fun t₀ k₀ => XS.lneg X1.here hx rfl (hb hby at_169) rfl k₀) ?_
      refine own_step (T1.setTop (mkF m 172 #[.val (.long a), .second, .val (.long b), .second, .val (.int mode), .val (.long (92233720368547758 : Int64)), .second, .val (.long d), .second, .val (.long n), .second, .val (.long c12), .second, .val (.long (n / d)), .second, .val (.long (own_lrem n d)), .second, .val (.long (c12 - ((100 : Int64) * (n / d)))), .second, .val (.long (((100 : Int64) * (own_lrem n d)) - ((c12 - ((100 : Int64) * (n / d))) * d))), .second] [(.long d), (.long (-(((100 : Int64) * (own_lrem n d)) - ((c12 - ((100 : Int64) * (n / d))) * d))))])) (fun t₀ k₀ => XS.lload X1.here hx rfl (hb hby at_170) rfl k₀) ?_
      refine own_step (T1.setTop (mkF m 174 #[.val (.long a), .second, .val (.long b), .second, .val (.int mode), .val (.long (92233720368547758 : Int64)), .second, .val (.long d), .second, .val (.long n), .second, .val (.long c12), .second, .val (.long (n / d)), .second, .val (.long (own_lrem n d)), .second, .val (.long (c12 - ((100 : Int64) * (n / d)))), .second, .val (.long (((100 : Int64) * (own_lrem n d)) - ((c12 - ((100 : Int64) * (n / d))) * d))), .second] [(.long (((100 : Int64) * (own_lrem n d)) - ((c12 - ((100 : Int64) * (n / d))) * d))), (.long d), (.long (-(((100 : Int64) * (own_lrem n d)) - ((c12 - ((100 : Int64) * (n / d))) * d))))])) (fun t₀ k₀ => XS.lload X1.here hx rfl (hb hby at_172) rfl k₀) ?_
      refine own_step (T1.setTop (mkF m 175 #[.val (.long a), .second, .val (.long b), .second, .val (.int mode), .val (.long (92233720368547758 : Int64)), .second, .val (.long d), .second, .val (.long n), .second, .val (.long c12), .second, .val (.long (n / d)), .second, .val (.long (own_lrem n d)), .second, .val (.long (c12 - ((100 : Int64) * (n / d)))), .second, .val (.long (((100 : Int64) * (own_lrem n d)) - ((c12 - ((100 : Int64) * (n / d))) * d))), .second] [(.long (d + (((100 : Int64) * (own_lrem n d)) - ((c12 - ((100 : Int64) * (n / d))) * d)))), (.long (-(((100 : Int64) * (own_lrem n d)) - ((c12 - ((100 : Int64) * (n / d))) * d))))])) (fun t₀ k₀ => XS.ladd X1.here hx rfl (hb hby at_174) rfl k₀) ?_
      refine own_step (T1.setTop (mkF m 176 #[.val (.long a), .second, .val (.long b), .second, .val (.int mode), .val (.long (92233720368547758 : Int64)), .second, .val (.long d), .second, .val (.long n), .second, .val (.long c12), .second, .val (.long (n / d)), .second, .val (.long (own_lrem n d)), .second, .val (.long (c12 - ((100 : Int64) * (n / d)))), .second, .val (.long (((100 : Int64) * (own_lrem n d)) - ((c12 - ((100 : Int64) * (n / d))) * d))), .second] [(.int (lcmpW (-(((100 : Int64) * (own_lrem n d)) - ((c12 - ((100 : Int64) * (n / d))) * d))) (d + (((100 : Int64) * (own_lrem n d)) - ((c12 - ((100 : Int64) * (n / d))) * d)))))])) (fun t₀ k₀ => XS.lcmp X1.here hx rfl (hb hby at_175) rfl k₀) ?_
      have hk6 : ¬ ((d + (((100 : Int64) * (own_lrem n d)) - ((c12 - ((100 : Int64) * (n / d))) * d))) < (-(((100 : Int64) * (own_lrem n d)) - ((c12 - ((100 : Int64) * (n / d))) * d)))) := own_176 hn hd1 hd2 hlt f3 rfl hc147
      refine own_step (T1.setTop (mkF m 179 #[.val (.long a), .second, .val (.long b), .second, .val (.int mode), .val (.long (92233720368547758 : Int64)), .second, .val (.long d), .second, .val (.long n), .second, .val (.long c12), .second, .val (.long (n / d)), .second, .val (.long (own_lrem n d)), .second, .val (.long (c12 - ((100 : Int64) * (n / d)))), .second, .val (.long (((100 : Int64) * (own_lrem n d)) - ((c12 - ((100 : Int64) * (n / d))) * d))), .second] [])) (fun t₀ k₀ => XS.ifNo X1.here hx rfl (hb hby at_176) rfl (own_lgtF hk6) k₀) ?_
      refine own_step (T1.setTop (mkF m 180 #[.val (.long a), .second, .val (.long b), .second, .val (.int mode), .val (.long (92233720368547758 : Int64)), .second, .val (.long d), .second, .val (.long n), .second, .val (.long c12), .second, .val (.long (n / d)), .second, .val (.long (own_lrem n d)), .second, .val (.long (c12 - ((100 : Int64) * (n / d)))), .second, .val (.long (((100 : Int64) * (own_lrem n d)) - ((c12 - ((100 : Int64) * (n / d))) * d))), .second] [(.int (1 : Int32))])) (fun t₀ k₀ => XS.iconst X1.here hx rfl (hb hby at_179) k₀) ?_
      refine own_step (T1.setTop (mkF m 184 #[.val (.long a), .second, .val (.long b), .second, .val (.int mode), .val (.long (92233720368547758 : Int64)), .second, .val (.long d), .second, .val (.long n), .second, .val (.long c12), .second, .val (.long (n / d)), .second, .val (.long (own_lrem n d)), .second, .val (.long (c12 - ((100 : Int64) * (n / d)))), .second, .val (.long (((100 : Int64) * (own_lrem n d)) - ((c12 - ((100 : Int64) * (n / d))) * d))), .second] [(.int (1 : Int32))])) (fun t₀ k₀ => XS.goto X1.here hx rfl (pc0 := 180) (pc' := 184) rfl (hb hby at_180) (by decide) (by decide) k₀) ?_
      obtain ⟨fs, hr, hrun, hended, hW, hsame⟩ := X1.leave (v := some (.int (1 : Int32))) (fun h => by rw [Bd.returns] at h; cases h)
      refine ⟨_, _, ?_, hrun, hended, _, _, rfl, ?_, ⟨_, rfl⟩, hW, hsame.mono (by decide) (by decide)⟩
      · exact retN X1 hx (t := .boolean) Bd.returns (by simp) (hb hby at_184) hr
      · show Q_rm0 Z a b mode h0 n0 _ T1.heap _
        rw [e1]
        exact ⟨rfl, N1⟩
    · skip
      refine own_step (T1.setTop (mkF m 150 #[.val (.long a), .second, .val (.long b), .second, .val (.int mode), .val (.long (92233720368547758 : Int64)), .second, .val (.long d), .second, .val (.long n), .second, .val (.long c12), .second, .val (.long (n / d)), .second, .val (.long (own_lrem n d)), .second, .val (.long (c12 - ((100 : Int64) * (n / d)))), .second, .val (.long (((100 : Int64) * (own_lrem n d)) - ((c12 - ((100 : Int64) * (n / d))) * d))), .second] [])) (fun t₀ k₀ => XS.ifNo X1.here hx rfl (hb hby at_147) rfl (own_lltF hc147) k₀) ?_
      refine own_step (T1.setTop (mkF m 152 #[.val (.long a), .second, .val (.long b), .second, .val (.int mode), .val (.long (92233720368547758 : Int64)), .second, .val (.long d), .second, .val (.long n), .second, .val (.long c12), .second, .val (.long (n / d)), .second, .val (.long (own_lrem n d)), .second, .val (.long (c12 - ((100 : Int64) * (n / d)))), .second, .val (.long (((100 : Int64) * (own_lrem n d)) - ((c12 - ((100 : Int64) * (n / d))) * d))), .second] [(.long (((100 : Int64) * (own_lrem n d)) - ((c12 - ((100 : Int64) * (n / d))) * d)))])) (fun t₀ k₀ => XS.lload X1.here hx rfl (hb hby at_150) rfl k₀) ?_
      refine own_step (T1.setTop (mkF m 154 #[.val (.long a), .second, .val (.long b), .second, .val (.int mode), .val (.long (92233720368547758 : Int64)), .second, .val (.long d), .second, .val (.long n), .second, .val (.long c12), .second, .val (.long (n / d)), .second, .val (.long (own_lrem n d)), .second, .val (.long (c12 - ((100 : Int64) * (n / d)))), .second, .val (.long (((100 : Int64) * (own_lrem n d)) - ((c12 - ((100 : Int64) * (n / d))) * d))), .second] [(.long d), (.long (((100 : Int64) * (own_lrem n d)) - ((c12 - ((100 : Int64) * (n / d))) * d)))])) (fun t₀ k₀ => XS.lload X1.here hx rfl (hb hby at_152) rfl k₀) ?_
      refine own_step (T1.setTop (mkF m 156 #[.val (.long a), .second, .val (.long b), .second, .val (.int mode), .val (.long (92233720368547758 : Int64)), .second, .val (.long d), .second, .val (.long n), .second, .val (.long c12), .second, .val (.long (n / d)), .second, .val (.long (own_lrem n d)), .second, .val (.long (c12 - ((100 : Int64) * (n / d)))), .second, .val (.long (((100 : Int64) * (own_lrem n d)) - ((c12 - ((100 : Int64) * (n / d))) * d))), .second] [(.long (((100 : Int64) * (own_lrem n d)) - ((c12 - ((100 : Int64) * (n / d))) * d))), (.long d), (.long (((100 : Int64) * (own_lrem n d)) - ((c12 - ((100 : Int64) * (n / d))) * d)))])) (fun t₀ k₀ => XS.lload X1.here hx rfl (hb hby at_154) rfl k₀) ?_
      refine own_step (T1.setTop (mkF m 157 #[.val (.long a), .second, .val (.long b), .second, .val (.int mode), .val (.long (92233720368547758 : Int64)), .second, .val (.long d), .second, .val (.long n), .second, .val (.long c12), .second, .val (.long (n / d)), .second, .val (.long (own_lrem n d)), .second, .val (.long (c12 - ((100 : Int64) * (n / d)))), .second, .val (.long (((100 : Int64) * (own_lrem n d)) - ((c12 - ((100 : Int64) * (n / d))) * d))), .second] [(.long (d - (((100 : Int64) * (own_lrem n d)) - ((c12 - ((100 : Int64) * (n / d))) * d)))), (.long (((100 : Int64) * (own_lrem n d)) - ((c12 - ((100 : Int64) * (n / d))) * d)))])) (fun t₀ k₀ => XS.lsub X1.here hx rfl (hb hby at_156) rfl k₀) ?_
      refine own_step (T1.setTop (mkF m 158 #[.val (.long a), .second, .val (.long b), .second, .val (.int mode), .val (.long (92233720368547758 : Int64)), .second, .val (.long d), .second, .val (.long n), .second, .val (.long c12), .second, .val (.long (n / d)), .second, .val (.long (own_lrem n d)), .second, .val (.long (c12 - ((100 : Int64) * (n / d)))), .second, .val (.long (((100 : Int64) * (own_lrem n d)) - ((c12 - ((100 : Int64) * (n / d))) * d))), .second] [(.int (lcmpW (((100 : Int64) * (own_lrem n d)) - ((c12 - ((100 : Int64) * (n / d))) * d)) (d - (((100 : Int64) * (own_lrem n d)) - ((c12 - ((100 : Int64) * (n / d))) * d)))))])) (fun t₀ k₀ => XS.lcmp X1.here hx rfl (hb hby at_157) rfl k₀) ?_
      have hk7 : (((100 : Int64) * (own_lrem n d)) - ((c12 - ((100 : Int64) * (n / d))) * d)) < (d - (((100 : Int64) * (own_lrem n d)) - ((c12 - ((100 : Int64) * (n / d))) * d))) := own_158 hn hd1 hd2 hlt f3 rfl hc147
      refine own_step (T1.setTop (mkF m 161 #[.val (.long a), .second, .val (.long b), .second, .val (.int mode), .val (.long (92233720368547758 : Int64)), .second, .val (.long d), .second, .val (.long n), .second, .val (.long c12), .second, .val (.long (n / d)), .second, .val (.long (own_lrem n d)), .second, .val (.long (c12 - ((100 : Int64) * (n / d)))), .second, .val (.long (((100 : Int64) * (own_lrem n d)) - ((c12 - ((100 : Int64) * (n / d))) * d))), .second] [])) (fun t₀ k₀ => XS.ifNo X1.here hx rfl (hb hby at_158) rfl (own_lgeF hk7) k₀) ?_
      refine own_step (T1.setTop (mkF m 162 #[.val (.long a), .second, .val (.long b), .second, .val (.int mode), .val (.long (92233720368547758 : Int64)), .second, .val (.long d), .second, .val (.long n), .second, .val (.long c12), .second, .val (.long (n / d)), .second, .val (.long (own_lrem n d)), .second, .val (.long (c12 - ((100 : Int64) * (n / d)))), .second, .val (.long (((100 : Int64) * (own_lrem n d)) - ((c12 - ((100 : Int64) * (n / d))) * d))), .second] [(.int (1 : Int32))])) (fun t₀ k₀ => XS.iconst X1.here hx rfl (hb hby at_161) k₀) ?_
      refine own_step (T1.setTop (mkF m 166 #[.val (.long a), .second, .val (.long b), .second, .val (.int mode), .val (.long (92233720368547758 : Int64)), .second, .val (.long d), .second, .val (.long n), .second, .val (.long c12), .second, .val (.long (n / d)), .second, .val (.long (own_lrem n d)), .second, .val (.long (c12 - ((100 : Int64) * (n / d)))), .second, .val (.long (((100 : Int64) * (own_lrem n d)) - ((c12 - ((100 : Int64) * (n / d))) * d))), .second] [(.int (1 : Int32))])) (fun t₀ k₀ => XS.goto X1.here hx rfl (pc0 := 162) (pc' := 166) rfl (hb hby at_162) (by decide) (by decide) k₀) ?_
      obtain ⟨fs, hr, hrun, hended, hW, hsame⟩ := X1.leave (v := some (.int (1 : Int32))) (fun h => by rw [Bd.returns] at h; cases h)
      refine ⟨_, _, ?_, hrun, hended, _, _, rfl, ?_, ⟨_, rfl⟩, hW, hsame.mono (by decide) (by decide)⟩
      · exact retN X1 hx (t := .boolean) Bd.returns (by simp) (hb hby at_166) hr
      · show Q_rm0 Z a b mode h0 n0 _ T1.heap _
        rw [e1]
        exact ⟨rfl, N1⟩
  have cut58 : ∀ (d : Int64) (n : Int64) (Tc58 : State) (Xc58 : Stand p l e room_1 s m #[(.long a), (.long b), (.int mode)] below meth c Tc58 [] 0 0) (ec58 : Tc58.heap = h0) (hn : 0 ≤ n.toInt) (hd1 : 1 ≤ d.toInt) (hd2 : d.toInt ≤ 92233720368547758), own_Go p e below (fun s₂ o₉ => s₂.status = .running ∧ Ended s₂ below o₉ ∧ ∃ v L, o₉ = .returned v ∧ Q_rm0 Z a b mode h0 n0 v s₂.heap L ∧ FrameEnd s o₉ s₂ L room_1.cells room_1.slots) (Tc58.setTop (mkF m 58 #[.val (.long a), .second, .val (.long b), .second, .val (.int mode), .val (.long (92233720368547758 : Int64)), .second, .val (.long d), .second, .val (.long n), .second, .unset, .unset, .unset, .unset, .unset, .unset, .unset, .unset, .unset, .unset] [])) := by
    intro d n Tc58 Xc58 ec58 hn hd1 hd2
    refine own_step (Tc58.setTop (mkF m 60 #[.val (.long a), .second, .val (.long b), .second, .val (.int mode), .val (.long (92233720368547758 : Int64)), .second, .val (.long d), .second, .val (.long n), .second, .unset, .unset, .unset, .unset, .unset, .unset, .unset, .unset, .unset, .unset] [(.long d)])) (fun t₀ k₀ => XS.lload Xc58.here hx rfl (hb hby at_58) rfl k₀) ?_
    refine own_step (Tc58.setTop (mkF m 63 #[.val (.long a), .second, .val (.long b), .second, .val (.int mode), .val (.long (92233720368547758 : Int64)), .second, .val (.long d), .second, .val (.long n), .second, .unset, .unset, .unset, .unset, .unset, .unset, .unset, .unset, .unset, .unset] [(.long (100 : Int64)), (.long d)])) (fun t₀ k₀ => Xc58.ldc2Long hx hown (mvT hZ (hw _ (List.mem_of_getElem? (i := 2) rfl))) (g := (mkF m 60 #[.val (.long a), .second, .val (.long b), .second, .val (.int mode), .val (.long (92233720368547758 : Int64)), .second, .val (.long d), .second, .val (.long n), .second, .unset, .unset, .unset, .unset, .unset, .unset, .unset, .unset, .unset, .unset] [(.long d)])) rfl (hb hby at_60) _ k₀) ?_
    refine own_step (Tc58.setTop (mkF m 64 #[.val (.long a), .second, .val (.long b), .second, .val (.int mode), .val (.long (92233720368547758 : Int64)), .second, .val (.long d), .second, .val (.long n), .second, .unset, .unset, .unset, .unset, .unset, .unset, .unset, .unset, .unset, .unset] [(.int (lcmpW d (100 : Int64)))])) (fun t₀ k₀ => XS.lcmp Xc58.here hx rfl (hb hby at_63) rfl k₀) ?_
    by_cases hc64 : (100 : Int64) < d
    · skip
      refine own_step (Tc58.setTop (mkF m 77 #[.val (.long a), .second, .val (.long b), .second, .val (.int mode), .val (.long (92233720368547758 : Int64)), .second, .val (.long d), .second, .val (.long n), .second, .unset, .unset, .unset, .unset, .unset, .unset, .unset, .unset, .unset, .unset] [])) (fun t₀ k₀ => XS.ifYes Xc58.here hx rfl (pc0 := 64) (pc' := 77) rfl (hb hby at_64) rfl (own_lgtT hc64) (by decide) (by decide) k₀) ?_
      exact cut77 d n _ Xc58 ec58 hn hd1 hd2 (own_lt1 hc64)
    · skip
      refine own_step (Tc58.setTop (mkF m 67 #[.val (.long a), .second, .val (.long b), .second, .val (.int mode), .val (.long (92233720368547758 : Int64)), .second, .val (.long d), .second, .val (.long n), .second, .unset, .unset, .unset, .unset, .unset, .unset, .unset, .unset, .unset, .unset] [])) (fun t₀ k₀ => XS.ifNo Xc58.here hx rfl (hb hby at_64) rfl (own_lgtF hc64) k₀) ?_
      refine own_step (Tc58.setTop (mkF m 69 #[.val (.long a), .second, .val (.long b), .second, .val (.int mode), .val (.long (92233720368547758 : Int64)), .second, .val (.long d), .second, .val (.long n), .second, .unset, .unset, .unset, .unset, .unset, .unset, .unset, .unset, .unset, .unset] [(.long n)])) (fun t₀ k₀ => XS.lload Xc58.here hx rfl (hb hby at_67) rfl k₀) ?_
      refine own_step (Tc58.setTop (mkF m 71 #[.val (.long a), .second, .val (.long b), .second, .val (.int mode), .val (.long (92233720368547758 : Int64)), .second, .val (.long d), .second, .val (.long n), .second, .unset, .unset, .unset, .unset, .unset, .unset, .unset, .unset, .unset, .unset] [(.long (92233720368547758 : Int64)), (.long n)])) (fun t₀ k₀ => XS.lload Xc58.here hx rfl (hb hby at_69) rfl k₀) ?_
      refine own_step (Tc58.setTop (mkF m 73 #[.val (.long a), .second, .val (.long b), .second, .val (.int mode), .val (.long (92233720368547758 : Int64)), .second, .val (.long d), .second, .val (.long n), .second, .unset, .unset, .unset, .unset, .unset, .unset, .unset, .unset, .unset, .unset] [(.long d), (.long (92233720368547758 : Int64)), (.long n)])) (fun t₀ k₀ => XS.lload Xc58.here hx rfl (hb hby at_71) rfl k₀) ?_
      refine own_step (Tc58.setTop (mkF m 74 #[.val (.long a), .second, .val (.long b), .second, .val (.int mode), .val (.long (92233720368547758 : Int64)), .second, .val (.long d), .second, .val (.long n), .second, .unset, .unset, .unset, .unset, .unset, .unset, .unset, .unset, .unset, .unset] [(.long ((92233720368547758 : Int64) * d)), (.long n)])) (fun t₀ k₀ => XS.lmul Xc58.here hx rfl (hb hby at_73) rfl k₀) ?_
      refine own_step (Tc58.setTop (mkF m 75 #[.val (.long a), .second, .val (.long b), .second, .val (.int mode), .val (.long (92233720368547758 : Int64)), .second, .val (.long d), .second, .val (.long n), .second, .unset, .unset, .unset, .unset, .unset, .unset, .unset, .unset, .unset, .unset] [(.long (own_lrem n ((92233720368547758 : Int64) * d)))])) (fun t₀ k₀ => XS.lrem Xc58.here hx rfl (hb hby at_74) rfl (own_nz2 hd1 hc64) k₀) ?_
      refine own_step (Tc58.setTop (mkF m 77 #[.val (.long a), .second, .val (.long b), .second, .val (.int mode), .val (.long (92233720368547758 : Int64)), .second, .val (.long d), .second, .val (.long (own_lrem n ((92233720368547758 : Int64) * d))), .second, .unset, .unset, .unset, .unset, .unset, .unset, .unset, .unset, .unset, .unset] [])) (fun t₀ k₀ => XS.lstore Xc58.here hx rfl (hb hby at_75) rfl (l' := #[.val (.long a), .second, .val (.long b), .second, .val (.int mode), .val (.long (92233720368547758 : Int64)), .second, .val (.long d), .second, .val (.long (own_lrem n ((92233720368547758 : Int64) * d))), .second, .unset, .unset, .unset, .unset, .unset, .unset, .unset, .unset, .unset, .unset]) rfl k₀) ?_
      exact cut77 d (own_lrem n ((92233720368547758 : Int64) * d)) _ Xc58 ec58 (own_lt2 hn hd1 hc64).1 hd1 hd2 (own_lt2 hn hd1 hc64).2
  have cut36 : ∀ (d : Int64) (Tc36 : State) (Xc36 : Stand p l e room_1 s m #[(.long a), (.long b), (.int mode)] below meth c Tc36 [] 0 0) (ec36 : Tc36.heap = h0) (hd1 : 1 ≤ d.toInt) (hd2 : d.toInt ≤ 92233720368547758), own_Go p e below (fun s₂ o₉ => s₂.status = .running ∧ Ended s₂ below o₉ ∧ ∃ v L, o₉ = .returned v ∧ Q_rm0 Z a b mode h0 n0 v s₂.heap L ∧ FrameEnd s o₉ s₂ L room_1.cells room_1.slots) (Tc36.setTop (mkF m 36 #[.val (.long a), .second, .val (.long b), .second, .val (.int mode), .val (.long (92233720368547758 : Int64)), .second, .val (.long d), .second, .unset, .unset, .unset, .unset, .unset, .unset, .unset, .unset, .unset, .unset, .unset, .unset] [])) := by
    intro d Tc36 Xc36 ec36 hd1 hd2
    refine own_step (Tc36.setTop (mkF m 37 #[.val (.long a), .second, .val (.long b), .second, .val (.int mode), .val (.long (92233720368547758 : Int64)), .second, .val (.long d), .second, .unset, .unset, .unset, .unset, .unset, .unset, .unset, .unset, .unset, .unset, .unset, .unset] [(.long a)])) (fun t₀ k₀ => XS.lloadN Xc36.here hx rfl (hb hby at_36) rfl k₀) ?_
    refine own_step (Tc36.setTop (mkF m 40 #[.val (.long a), .second, .val (.long b), .second, .val (.int mode), .val (.long (92233720368547758 : Int64)), .second, .val (.long d), .second, .unset, .unset, .unset, .unset, .unset, .unset, .unset, .unset, .unset, .unset, .unset, .unset] [(.long (9223372036854775807 : Int64)), (.long a)])) (fun t₀ k₀ => Xc36.ldc2Long hx hown (mvT hZ (hw _ (List.mem_of_getElem? (i := 1) rfl))) (g := (mkF m 37 #[.val (.long a), .second, .val (.long b), .second, .val (.int mode), .val (.long (92233720368547758 : Int64)), .second, .val (.long d), .second, .unset, .unset, .unset, .unset, .unset, .unset, .unset, .unset, .unset, .unset, .unset, .unset] [(.long a)])) rfl (hb hby at_37) _ k₀) ?_
    refine own_step (Tc36.setTop (mkF m 41 #[.val (.long a), .second, .val (.long b), .second, .val (.int mode), .val (.long (92233720368547758 : Int64)), .second, .val (.long d), .second, .unset, .unset, .unset, .unset, .unset, .unset, .unset, .unset, .unset, .unset, .unset, .unset] [(.long (a &&& (9223372036854775807 : Int64)))])) (fun t₀ k₀ => XS.land Xc36.here hx rfl (hb hby at_40) rfl k₀) ?_
    refine own_step (Tc36.setTop (mkF m 43 #[.val (.long a), .second, .val (.long b), .second, .val (.int mode), .val (.long (92233720368547758 : Int64)), .second, .val (.long d), .second, .val (.long (a &&& (9223372036854775807 : Int64))), .second, .unset, .unset, .unset, .unset, .unset, .unset, .unset, .unset, .unset, .unset] [])) (fun t₀ k₀ => XS.lstore Xc36.here hx rfl (hb hby at_41) rfl (l' := #[.val (.long a), .second, .val (.long b), .second, .val (.int mode), .val (.long (92233720368547758 : Int64)), .second, .val (.long d), .second, .val (.long (a &&& (9223372036854775807 : Int64))), .second, .unset, .unset, .unset, .unset, .unset, .unset, .unset, .unset, .unset, .unset]) rfl k₀) ?_
    refine own_step (Tc36.setTop (mkF m 45 #[.val (.long a), .second, .val (.long b), .second, .val (.int mode), .val (.long (92233720368547758 : Int64)), .second, .val (.long d), .second, .val (.long (a &&& (9223372036854775807 : Int64))), .second, .unset, .unset, .unset, .unset, .unset, .unset, .unset, .unset, .unset, .unset] [(.int mode)])) (fun t₀ k₀ => XS.iload Xc36.here hx rfl (hb hby at_43) rfl k₀) ?_
    refine own_step (Tc36.setTop (mkF m 46 #[.val (.long a), .second, .val (.long b), .second, .val (.int mode), .val (.long (92233720368547758 : Int64)), .second, .val (.long d), .second, .val (.long (a &&& (9223372036854775807 : Int64))), .second, .unset, .unset, .unset, .unset, .unset, .unset, .unset, .unset, .unset, .unset] [(.int (2 : Int32)), (.int mode)])) (fun t₀ k₀ => XS.iconst Xc36.here hx rfl (hb hby at_45) k₀) ?_
    refine own_step (Tc36.setTop (mkF m 47 #[.val (.long a), .second, .val (.long b), .second, .val (.int mode), .val (.long (92233720368547758 : Int64)), .second, .val (.long d), .second, .val (.long (a &&& (9223372036854775807 : Int64))), .second, .unset, .unset, .unset, .unset, .unset, .unset, .unset, .unset, .unset, .unset] [(.int (mode &&& (2 : Int32)))])) (fun t₀ k₀ => XS.iand Xc36.here hx rfl (hb hby at_46) rfl k₀) ?_
    by_cases hc47 : (mode &&& (2 : Int32)) = (0 : Int32)
    · skip
      refine own_step (Tc36.setTop (mkF m 58 #[.val (.long a), .second, .val (.long b), .second, .val (.int mode), .val (.long (92233720368547758 : Int64)), .second, .val (.long d), .second, .val (.long (a &&& (9223372036854775807 : Int64))), .second, .unset, .unset, .unset, .unset, .unset, .unset, .unset, .unset, .unset, .unset] [])) (fun t₀ k₀ => XS.ifYes Xc36.here hx rfl (pc0 := 47) (pc' := 58) rfl (hb hby at_47) rfl ((if0 _ _).trans (teq hc47).1) (by decide) (by decide) k₀) ?_
      exact cut58 d (a &&& (9223372036854775807 : Int64)) _ Xc36 ec36 (own_mx _) hd1 hd2
    · skip
      refine own_step (Tc36.setTop (mkF m 50 #[.val (.long a), .second, .val (.long b), .second, .val (.int mode), .val (.long (92233720368547758 : Int64)), .second, .val (.long d), .second, .val (.long (a &&& (9223372036854775807 : Int64))), .second, .unset, .unset, .unset, .unset, .unset, .unset, .unset, .unset, .unset, .unset] [])) (fun t₀ k₀ => XS.ifNo Xc36.here hx rfl (hb hby at_47) rfl ((if0 _ _).trans (feq hc47).1) k₀) ?_
      refine own_step (Tc36.setTop (mkF m 52 #[.val (.long a), .second, .val (.long b), .second, .val (.int mode), .val (.long (92233720368547758 : Int64)), .second, .val (.long d), .second, .val (.long (a &&& (9223372036854775807 : Int64))), .second, .unset, .unset, .unset, .unset, .unset, .unset, .unset, .unset, .unset, .unset] [(.long (a &&& (9223372036854775807 : Int64)))])) (fun t₀ k₀ => XS.lload Xc36.here hx rfl (hb hby at_50) rfl k₀) ?_
      refine own_step (Tc36.setTop (mkF m 55 #[.val (.long a), .second, .val (.long b), .second, .val (.int mode), .val (.long (92233720368547758 : Int64)), .second, .val (.long d), .second, .val (.long (a &&& (9223372036854775807 : Int64))), .second, .unset, .unset, .unset, .unset, .unset, .unset, .unset, .unset, .unset, .unset] [(.long (1048575 : Int64)), (.long (a &&& (9223372036854775807 : Int64)))])) (fun t₀ k₀ => Xc36.ldc2Long hx hown (mvT hZ (hw _ (List.mem_of_getElem? (i := 10) rfl))) (g := (mkF m 52 #[.val (.long a), .second, .val (.long b), .second, .val (.int mode), .val (.long (92233720368547758 : Int64)), .second, .val (.long d), .second, .val (.long (a &&& (9223372036854775807 : Int64))), .second, .unset, .unset, .unset, .unset, .unset, .unset, .unset, .unset, .unset, .unset] [(.long (a &&& (9223372036854775807 : Int64)))])) rfl (hb hby at_52) _ k₀) ?_
      refine own_step (Tc36.setTop (mkF m 56 #[.val (.long a), .second, .val (.long b), .second, .val (.int mode), .val (.long (92233720368547758 : Int64)), .second, .val (.long d), .second, .val (.long (a &&& (9223372036854775807 : Int64))), .second, .unset, .unset, .unset, .unset, .unset, .unset, .unset, .unset, .unset, .unset] [(.long ((a &&& (9223372036854775807 : Int64)) &&& (1048575 : Int64)))])) (fun t₀ k₀ => XS.land Xc36.here hx rfl (hb hby at_55) rfl k₀) ?_
      refine own_step (Tc36.setTop (mkF m 58 #[.val (.long a), .second, .val (.long b), .second, .val (.int mode), .val (.long (92233720368547758 : Int64)), .second, .val (.long d), .second, .val (.long ((a &&& (9223372036854775807 : Int64)) &&& (1048575 : Int64))), .second, .unset, .unset, .unset, .unset, .unset, .unset, .unset, .unset, .unset, .unset] [])) (fun t₀ k₀ => XS.lstore Xc36.here hx rfl (hb hby at_56) rfl (l' := #[.val (.long a), .second, .val (.long b), .second, .val (.int mode), .val (.long (92233720368547758 : Int64)), .second, .val (.long d), .second, .val (.long ((a &&& (9223372036854775807 : Int64)) &&& (1048575 : Int64))), .second, .unset, .unset, .unset, .unset, .unset, .unset, .unset, .unset, .unset, .unset]) rfl k₀) ?_
      exact cut58 d ((a &&& (9223372036854775807 : Int64)) &&& (1048575 : Int64)) _ Xc36 ec36 (own_mk _) hd1 hd2
  show own_Go p e below (fun s₂ o₉ => s₂.status = .running ∧ Ended s₂ below o₉ ∧ ∃ v L, o₉ = .returned v ∧ Q_rm0 Z a b mode h0 n0 v s₂.heap L ∧ FrameEnd s o₉ s₂ L room_1.cells room_1.slots) (s₁.setTop (entryFrame m #[(.long a), (.long b), (.int mode)] maxLocals))
  rw [ef_rm0 m a b mode]
  refine own_step (s₁.setTop (mkF m 3 #[.val (.long a), .second, .val (.long b), .second, .val (.int mode), .unset, .unset, .unset, .unset, .unset, .unset, .unset, .unset, .unset, .unset, .unset, .unset, .unset, .unset, .unset, .unset] [(.long (92233720368547758 : Int64))])) (fun t₀ k₀ => X0.ldc2Long hx hown (mvT hZ (hw _ (List.mem_of_getElem? (i := 0) rfl))) (g := (mkF m 0 #[.val (.long a), .second, .val (.long b), .second, .val (.int mode), .unset, .unset, .unset, .unset, .unset, .unset, .unset, .unset, .unset, .unset, .unset, .unset, .unset, .unset, .unset, .unset] [])) rfl (hb hby at_0) _ k₀) ?_
  refine own_step (s₁.setTop (mkF m 5 #[.val (.long a), .second, .val (.long b), .second, .val (.int mode), .val (.long (92233720368547758 : Int64)), .second, .unset, .unset, .unset, .unset, .unset, .unset, .unset, .unset, .unset, .unset, .unset, .unset, .unset, .unset] [])) (fun t₀ k₀ => XS.lstore X0.here hx rfl (hb hby at_3) rfl (l' := #[.val (.long a), .second, .val (.long b), .second, .val (.int mode), .val (.long (92233720368547758 : Int64)), .second, .unset, .unset, .unset, .unset, .unset, .unset, .unset, .unset, .unset, .unset, .unset, .unset, .unset, .unset]) rfl k₀) ?_
  refine own_step (s₁.setTop (mkF m 7 #[.val (.long a), .second, .val (.long b), .second, .val (.int mode), .val (.long (92233720368547758 : Int64)), .second, .unset, .unset, .unset, .unset, .unset, .unset, .unset, .unset, .unset, .unset, .unset, .unset, .unset, .unset] [(.int mode)])) (fun t₀ k₀ => XS.iload X0.here hx rfl (hb hby at_5) rfl k₀) ?_
  refine own_step (s₁.setTop (mkF m 8 #[.val (.long a), .second, .val (.long b), .second, .val (.int mode), .val (.long (92233720368547758 : Int64)), .second, .unset, .unset, .unset, .unset, .unset, .unset, .unset, .unset, .unset, .unset, .unset, .unset, .unset, .unset] [(.int (1 : Int32)), (.int mode)])) (fun t₀ k₀ => XS.iconst X0.here hx rfl (hb hby at_7) k₀) ?_
  refine own_step (s₁.setTop (mkF m 9 #[.val (.long a), .second, .val (.long b), .second, .val (.int mode), .val (.long (92233720368547758 : Int64)), .second, .unset, .unset, .unset, .unset, .unset, .unset, .unset, .unset, .unset, .unset, .unset, .unset, .unset, .unset] [(.int (mode &&& (1 : Int32)))])) (fun t₀ k₀ => XS.iand X0.here hx rfl (hb hby at_8) rfl k₀) ?_
  by_cases hc9 : (mode &&& (1 : Int32)) = (0 : Int32)
  · skip
    refine own_step (s₁.setTop (mkF m 24 #[.val (.long a), .second, .val (.long b), .second, .val (.int mode), .val (.long (92233720368547758 : Int64)), .second, .unset, .unset, .unset, .unset, .unset, .unset, .unset, .unset, .unset, .unset, .unset, .unset, .unset, .unset] [])) (fun t₀ k₀ => XS.ifYes X0.here hx rfl (pc0 := 9) (pc' := 24) rfl (hb hby at_9) rfl ((if0 _ _).trans (teq hc9).1) (by decide) (by decide) k₀) ?_
    refine own_step (s₁.setTop (mkF m 25 #[.val (.long a), .second, .val (.long b), .second, .val (.int mode), .val (.long (92233720368547758 : Int64)), .second, .unset, .unset, .unset, .unset, .unset, .unset, .unset, .unset, .unset, .unset, .unset, .unset, .unset, .unset] [(.long (1 : Int64))])) (fun t₀ k₀ => XS.lconst X0.here hx rfl (hb hby at_24) k₀) ?_
    refine own_step (s₁.setTop (mkF m 26 #[.val (.long a), .second, .val (.long b), .second, .val (.int mode), .val (.long (92233720368547758 : Int64)), .second, .unset, .unset, .unset, .unset, .unset, .unset, .unset, .unset, .unset, .unset, .unset, .unset, .unset, .unset] [(.long b), (.long (1 : Int64))])) (fun t₀ k₀ => XS.lloadN X0.here hx rfl (hb hby at_25) rfl k₀) ?_
    refine own_step (s₁.setTop (mkF m 29 #[.val (.long a), .second, .val (.long b), .second, .val (.int mode), .val (.long (92233720368547758 : Int64)), .second, .unset, .unset, .unset, .unset, .unset, .unset, .unset, .unset, .unset, .unset, .unset, .unset, .unset, .unset] [(.long (9223372036854775807 : Int64)), (.long b), (.long (1 : Int64))])) (fun t₀ k₀ => X0.ldc2Long hx hown (mvT hZ (hw _ (List.mem_of_getElem? (i := 1) rfl))) (g := (mkF m 26 #[.val (.long a), .second, .val (.long b), .second, .val (.int mode), .val (.long (92233720368547758 : Int64)), .second, .unset, .unset, .unset, .unset, .unset, .unset, .unset, .unset, .unset, .unset, .unset, .unset, .unset, .unset] [(.long b), (.long (1 : Int64))])) rfl (hb hby at_26) _ k₀) ?_
    refine own_step (s₁.setTop (mkF m 30 #[.val (.long a), .second, .val (.long b), .second, .val (.int mode), .val (.long (92233720368547758 : Int64)), .second, .unset, .unset, .unset, .unset, .unset, .unset, .unset, .unset, .unset, .unset, .unset, .unset, .unset, .unset] [(.long (b &&& (9223372036854775807 : Int64))), (.long (1 : Int64))])) (fun t₀ k₀ => XS.land X0.here hx rfl (hb hby at_29) rfl k₀) ?_
    refine own_step (s₁.setTop (mkF m 32 #[.val (.long a), .second, .val (.long b), .second, .val (.int mode), .val (.long (92233720368547758 : Int64)), .second, .unset, .unset, .unset, .unset, .unset, .unset, .unset, .unset, .unset, .unset, .unset, .unset, .unset, .unset] [(.long (92233720368547758 : Int64)), (.long (b &&& (9223372036854775807 : Int64))), (.long (1 : Int64))])) (fun t₀ k₀ => XS.lload X0.here hx rfl (hb hby at_30) rfl k₀) ?_
    refine own_step (s₁.setTop (mkF m 33 #[.val (.long a), .second, .val (.long b), .second, .val (.int mode), .val (.long (92233720368547758 : Int64)), .second, .unset, .unset, .unset, .unset, .unset, .unset, .unset, .unset, .unset, .unset, .unset, .unset, .unset, .unset] [(.long (own_lrem (b &&& (9223372036854775807 : Int64)) (92233720368547758 : Int64))), (.long (1 : Int64))])) (fun t₀ k₀ => XS.lrem X0.here hx rfl (hb hby at_32) rfl (by decide) k₀) ?_
    refine own_step (s₁.setTop (mkF m 34 #[.val (.long a), .second, .val (.long b), .second, .val (.int mode), .val (.long (92233720368547758 : Int64)), .second, .unset, .unset, .unset, .unset, .unset, .unset, .unset, .unset, .unset, .unset, .unset, .unset, .unset, .unset] [(.long ((1 : Int64) + (own_lrem (b &&& (9223372036854775807 : Int64)) (92233720368547758 : Int64))))])) (fun t₀ k₀ => XS.ladd X0.here hx rfl (hb hby at_33) rfl k₀) ?_
    refine own_step (s₁.setTop (mkF m 36 #[.val (.long a), .second, .val (.long b), .second, .val (.int mode), .val (.long (92233720368547758 : Int64)), .second, .val (.long ((1 : Int64) + (own_lrem (b &&& (9223372036854775807 : Int64)) (92233720368547758 : Int64)))), .second, .unset, .unset, .unset, .unset, .unset, .unset, .unset, .unset, .unset, .unset, .unset, .unset] [])) (fun t₀ k₀ => XS.lstore X0.here hx rfl (hb hby at_34) rfl (l' := #[.val (.long a), .second, .val (.long b), .second, .val (.int mode), .val (.long (92233720368547758 : Int64)), .second, .val (.long ((1 : Int64) + (own_lrem (b &&& (9223372036854775807 : Int64)) (92233720368547758 : Int64)))), .second, .unset, .unset, .unset, .unset, .unset, .unset, .unset, .unset, .unset, .unset, .unset, .unset]) rfl k₀) ?_
    exact cut36 ((1 : Int64) + (own_lrem (b &&& (9223372036854775807 : Int64)) (92233720368547758 : Int64))) _ X0 e0 (own_dB _).1 (own_dB _).2
  · skip
    refine own_step (s₁.setTop (mkF m 12 #[.val (.long a), .second, .val (.long b), .second, .val (.int mode), .val (.long (92233720368547758 : Int64)), .second, .unset, .unset, .unset, .unset, .unset, .unset, .unset, .unset, .unset, .unset, .unset, .unset, .unset, .unset] [])) (fun t₀ k₀ => XS.ifNo X0.here hx rfl (hb hby at_9) rfl ((if0 _ _).trans (feq hc9).1) k₀) ?_
    refine own_step (s₁.setTop (mkF m 13 #[.val (.long a), .second, .val (.long b), .second, .val (.int mode), .val (.long (92233720368547758 : Int64)), .second, .unset, .unset, .unset, .unset, .unset, .unset, .unset, .unset, .unset, .unset, .unset, .unset, .unset, .unset] [(.long (1 : Int64))])) (fun t₀ k₀ => XS.lconst X0.here hx rfl (hb hby at_12) k₀) ?_
    refine own_step (s₁.setTop (mkF m 14 #[.val (.long a), .second, .val (.long b), .second, .val (.int mode), .val (.long (92233720368547758 : Int64)), .second, .unset, .unset, .unset, .unset, .unset, .unset, .unset, .unset, .unset, .unset, .unset, .unset, .unset, .unset] [(.long b), (.long (1 : Int64))])) (fun t₀ k₀ => XS.lloadN X0.here hx rfl (hb hby at_13) rfl k₀) ?_
    refine own_step (s₁.setTop (mkF m 17 #[.val (.long a), .second, .val (.long b), .second, .val (.int mode), .val (.long (92233720368547758 : Int64)), .second, .unset, .unset, .unset, .unset, .unset, .unset, .unset, .unset, .unset, .unset, .unset, .unset, .unset, .unset] [(.long (1023 : Int64)), (.long b), (.long (1 : Int64))])) (fun t₀ k₀ => X0.ldc2Long hx hown (mvT hZ (hw _ (List.mem_of_getElem? (i := 9) rfl))) (g := (mkF m 14 #[.val (.long a), .second, .val (.long b), .second, .val (.int mode), .val (.long (92233720368547758 : Int64)), .second, .unset, .unset, .unset, .unset, .unset, .unset, .unset, .unset, .unset, .unset, .unset, .unset, .unset, .unset] [(.long b), (.long (1 : Int64))])) rfl (hb hby at_14) _ k₀) ?_
    refine own_step (s₁.setTop (mkF m 18 #[.val (.long a), .second, .val (.long b), .second, .val (.int mode), .val (.long (92233720368547758 : Int64)), .second, .unset, .unset, .unset, .unset, .unset, .unset, .unset, .unset, .unset, .unset, .unset, .unset, .unset, .unset] [(.long (b &&& (1023 : Int64))), (.long (1 : Int64))])) (fun t₀ k₀ => XS.land X0.here hx rfl (hb hby at_17) rfl k₀) ?_
    refine own_step (s₁.setTop (mkF m 19 #[.val (.long a), .second, .val (.long b), .second, .val (.int mode), .val (.long (92233720368547758 : Int64)), .second, .unset, .unset, .unset, .unset, .unset, .unset, .unset, .unset, .unset, .unset, .unset, .unset, .unset, .unset] [(.long ((1 : Int64) + (b &&& (1023 : Int64))))])) (fun t₀ k₀ => XS.ladd X0.here hx rfl (hb hby at_18) rfl k₀) ?_
    refine own_step (s₁.setTop (mkF m 21 #[.val (.long a), .second, .val (.long b), .second, .val (.int mode), .val (.long (92233720368547758 : Int64)), .second, .val (.long ((1 : Int64) + (b &&& (1023 : Int64)))), .second, .unset, .unset, .unset, .unset, .unset, .unset, .unset, .unset, .unset, .unset, .unset, .unset] [])) (fun t₀ k₀ => XS.lstore X0.here hx rfl (hb hby at_19) rfl (l' := #[.val (.long a), .second, .val (.long b), .second, .val (.int mode), .val (.long (92233720368547758 : Int64)), .second, .val (.long ((1 : Int64) + (b &&& (1023 : Int64)))), .second, .unset, .unset, .unset, .unset, .unset, .unset, .unset, .unset, .unset, .unset, .unset, .unset]) rfl k₀) ?_
    refine own_step (s₁.setTop (mkF m 36 #[.val (.long a), .second, .val (.long b), .second, .val (.int mode), .val (.long (92233720368547758 : Int64)), .second, .val (.long ((1 : Int64) + (b &&& (1023 : Int64)))), .second, .unset, .unset, .unset, .unset, .unset, .unset, .unset, .unset, .unset, .unset, .unset, .unset] [])) (fun t₀ k₀ => XS.goto X0.here hx rfl (pc0 := 21) (pc' := 36) rfl (hb hby at_21) (by decide) (by decide) k₀) ?_
    exact cut36 ((1 : Int64) + (b &&& (1023 : Int64))) _ X0 e0 (own_dA _).1 (own_dA _).2
set_option maxRecDepth 65536 in
set_option maxHeartbeats 40000000 in
theorem comes_1 {Post : Tables → Env → Array Value → State → Outcome → State → Prop} (hpost : ∀ tb e args s v u, (limb_1_1.after args s (.returned v) u = true ∧ limb_1_2.after args s (.returned v) u = true ∧ True) → FrameEnd s (.returned v) u (Jvm.fieldLocs frame_1_writes args s ++ Jvm.arrayLocs frame_1_arrays args s ++ Jvm.staticLocs frame_1_statics s) 0 0 → Post tb e args s (.returned v) u) :
    ArmFor flags0 classFile x code maxLocals ret World_1 tables_1 room_1 Calls_1 rest_1 Pre_1 Post := by
  intro l hfl _ _ p e ha hc hk s m args below hf hA hF happ hP
  obtain ⟨hcalls, hrest, hpre⟩ := hP
  obtain ⟨-, -, -, hnamed, -, -, -, hat⟩ := (Spec.applies_iff hf).mp happ
  obtain ⟨hg, hn⟩ := and_e (Cond.before_iff.mp (show (Jvm.Cond.and given_1 narrow_1).before args s = true from hpre))
  obtain ⟨hcount, hg0⟩ := and_e hg
  obtain ⟨ga0, hg1⟩ := and_e hg0
  obtain ⟨ga1, hg2⟩ := and_e hg1
  have ga2 := hg2
  obtain ⟨w0, w1, w2, rfl⟩ : ∃ w0 w1 w2 : Value, args = #[w0, w1, w2] := by
    have hs : args.size = 3 := by simpa [Cond.value, given_1] using hcount
    obtain ⟨L⟩ := args
    match L, hs with
    | [w0, w1, w2], _ => exact ⟨w0, w1, w2, rfl⟩
  have hw := fun d (hd : d ∈ tables_1) => atoms_spec (ws := Jvm.Cond.code x code maxLocals ret :: tables_1) hat d (List.mem_cons_of_mem _ hd)
  have hfit : Fit s := fun {y c} hc i hi => by
    obtain ⟨ha, rfl⟩ := Array.getElem?_eq_some_iff.mp hc
    have q := List.all_eq_true.mp ((Array.all_eq_true_iff_forall_mem.mp hF) _ (Array.getElem_mem ha)) i (List.mem_range.mpr hi)
    simpa [Array.getElem?_eq_getElem hi] using q
  obtain ⟨i0, ei0⟩ := isL_v ga0
  obtain rfl : w0 = (.long i0) := Option.some.inj ei0
  obtain ⟨i1, ei1⟩ := isL_v ga1
  obtain rfl : w1 = (.long i1) := Option.some.inj ei1
  obtain ⟨i2, ei2⟩ := is_v ga2
  obtain rfl : w2 = (.int i2) := Option.some.inj ei2
  obtain ⟨n, o, h1, h2, h3, _, L, rfl, ⟨rfl, N⟩, hq⟩ := rm0 l s _ hw tables_1 i0 i1 i2 s.heap s.heap.size (Nat.le_refl _) p e ha hc hk s m _ below hf ((Spec.applies_iff_loose hf).mp happ).1 ⟨rfl, State.Warmed39.refl s, rfl⟩ trivial
  refine ⟨n, _, h1, h2, h3, hpost _ _ _ _ _ _ ⟨Cond.after_iff.mpr rfl, Cond.after_iff.mpr (eq_i res_at (Term.int_eval (1)) rfl), trivial⟩ ⟨hq.1, hq.2.1, (hq.2.2.sift fun y hy => Or.inr (N y hy)).mono (by decide) (by decide)⟩⟩
theorem main_1_1 : Claimed_1_1 := comes_1 fun _ _ _ _ _ _ h hF => ⟨h.1, hF⟩
theorem main_1_2 : Claimed_1_2 := comes_1 fun _ _ _ _ _ _ h hF => ⟨h.2.1, hF⟩
end Jvm.Pilot.@@N@@
namespace Jvm.Pilot.@@N@@
open Jvm Jvm.ClassFile Sem Op Lib Jvm.Free Jvm.Stand Jvm.Pilot.@@N@@.Jvm.D
/-! MADE BY PROGRAM (witnessworld.py) out of the Statement's table words and the real class files: 9 classes; the members and pool entries that the words name. The judged class is class 1, her method 1. -/
namespace start1
open Jvm.ClassFile
def u (s : String) : CpInfo := .utf8 (stringToUtf16 s)
/-- a pool by its gaps: so many unusable entries, then the entry; so many at the end -/
def gap : Nat → List CpInfo → List CpInfo
  | 0, r => r
  | n + 1, r => .unusable :: gap n r
def poolList (es : List (Nat × CpInfo)) (last : Nat) : List CpInfo := es.foldr (fun e r => gap e.1 (e.2 :: r)) (gap last [])
def pool (es : List (Nat × CpInfo)) (last : Nat) : Array CpInfo := ⟨poolList es last⟩
def fileOf (pool : Array CpInfo) (this : Nat) (attrs : Array Attribute := #[]) (ms : Array MethodInfo := #[]) (fl : Nat := 33) (sup : Nat := 0) (ifs : Array Nat := #[]) (fds : Array FieldInfo := #[]) : ClassFile where
  minorVersion := 0
  majorVersion := 65
  constantPool := pool
  accessFlags := fl
  thisClass := this
  superClass := sup
  interfaces := ifs
  fields := fds
  methods := ms
  attributes := attrs
def plain (name : String) (sup : Option ClassId) : Class where
  name := name
  kind := .ordinary
  loader := none
  accessFlags := 33
  super := sup
  interfaces := #[]
  cf := none
  fields := #[]
  methods := #[]
  instanceTypes := #[]
  staticTypes := #[]
  resolved := #[]
  callSites := []
  init := .initialized
  statics := none
  mirror := none

def pool0 : Array CpInfo := pool [(5, u "<init>"), (0, u "()V"), (1, .class_ 10), (1, u "java/lang/Object")] 113

def k0m0 : Method := { name := "<init>", desc := "()V", sig := { parameters := [], returnType := none }, accessFlags := 1, code := none }
/-- java/lang/Object -/
def k0 : Class := { plain "java/lang/Object" none with
  accessFlags := 33
  interfaces := #[]
  cf := some (fileOf pool0 8 #[] #[{ accessFlags := 1, nameIndex := 5, descriptorIndex := 6, attributes := #[] }] 33 0 #[] #[])
  fields := #[]
  methods := #[k0m0]
  instanceTypes := #[]
  staticTypes := #[]
  resolved := Array.replicate 124 none
  statics := none }

def pool1 : Array CpInfo := pool [(2, .class_ 4), (1, u "java/lang/Object"), (0, u "<init>"), (0, u "()V"), (0, .class_ 8), (0, u "com/example/notesmith/notesmith/util/Rounding"), (0, .long 92233720368547758), (1, .long 1023), (3, .long 9223372036854775807), (1, .long 1048575), (1, .long 100), (1, .methodref 7 22), (0, .nameAndType 23 24), (0, u "wholeCents"), (0, u "(JJ)J"), (0, .class_ 26), (0, u "com/example/notesmith/notesmith/util/RoundingWholeCentsPinLaw"), (2, u "law"), (0, u "(JJI)Z")] 3

def k1m0 : Method := { name := "<init>", desc := "()V", sig := { parameters := [], returnType := none }, accessFlags := 2, code := none }
def k1c1 : Code := { maxStack := 6, maxLocals := 21, code := code, exceptionTable := #[], attributes := #[] }
def k1m1 : Method := { name := "law", desc := "(JJI)Z", sig := { parameters := [.long, .long, .int], returnType := some .boolean }, accessFlags := 9, code := some k1c1 }
/-- com/example/notesmith/notesmith/util/RoundingWholeCentsPinLaw -/
def k1 : Class := { plain "com/example/notesmith/notesmith/util/RoundingWholeCentsPinLaw" (some 0) with
  accessFlags := 49
  interfaces := #[]
  cf := some (fileOf pool1 25 #[] #[{ accessFlags := 2, nameIndex := 5, descriptorIndex := 6, attributes := #[] }, { accessFlags := 9, nameIndex := 29, descriptorIndex := 30, attributes := #[] }] 49 2 #[] #[])
  fields := #[]
  methods := #[k1m0, k1m1]
  instanceTypes := #[]
  staticTypes := #[]
  resolved := Array.replicate 34 none
  statics := none }

def pool2 : Array CpInfo := pool [(4, .class_ 6), (1, u "java/lang/Object"), (0, u "<init>"), (0, u "()V"), (0, .class_ 10), (0, u "com/example/notesmith/notesmith/util/Rounding"), (37, .long 100), (1, .long 2), (22, u "Ljava/math/MathContext;"), (2, u "INTERMEDIATE"), (0, u "CENTS"), (0, u "I"), (2, u "LARGEST_IN_CENTS"), (0, u "J"), (2, u "LONG_DIGITS"), (12, u "wholeCents"), (0, u "(JJ)J")] 19

def k2m0 : Method := { name := "<init>", desc := "()V", sig := { parameters := [], returnType := none }, accessFlags := 2, code := none }
def k2c1 : Code := { maxStack := 6, maxLocals := 8, code := prog_119_method_7_code, exceptionTable := #[], attributes := #[] }
def k2m1 : Method := { name := "wholeCents", desc := "(JJ)J", sig := { parameters := [.long, .long], returnType := some .long }, accessFlags := 9, code := some k2c1 }
/-- com/example/notesmith/notesmith/util/Rounding -/
def k2 : Class := { plain "com/example/notesmith/notesmith/util/Rounding" (some 0) with
  accessFlags := 49
  interfaces := #[]
  cf := some (fileOf pool2 9 #[] #[{ accessFlags := 2, nameIndex := 7, descriptorIndex := 8, attributes := #[] }, { accessFlags := 9, nameIndex := 98, descriptorIndex := 99, attributes := #[] }] 49 4 #[] #[{ accessFlags := 25, nameIndex := 76, descriptorIndex := 73, attributes := #[] }, { accessFlags := 25, nameIndex := 77, descriptorIndex := 78, attributes := #[] }, { accessFlags := 25, nameIndex := 81, descriptorIndex := 82, attributes := #[] }, { accessFlags := 26, nameIndex := 85, descriptorIndex := 78, attributes := #[] }])
  fields := #[{ name := "INTERMEDIATE", type := (.object "java/math/MathContext"), accessFlags := 25, slot := 0, constantValue := 0 }, { name := "CENTS", type := .int, accessFlags := 25, slot := 1, constantValue := 0 }, { name := "LARGEST_IN_CENTS", type := .long, accessFlags := 25, slot := 2, constantValue := 0 }, { name := "LONG_DIGITS", type := .int, accessFlags := 26, slot := 3, constantValue := 0 }]
  methods := #[k2m0, k2m1]
  instanceTypes := #[]
  staticTypes := #[(.object "java/math/MathContext"), .int, .long, .int]
  resolved := Array.replicate 119 none
  statics := none }

def pool3 : Array CpInfo := pool [(1, u "java/lang/Cloneable"), (0, .class_ 1), (0, u "java/lang/Object"), (0, .class_ 3)] 3

/-- java/lang/Cloneable -/
def k3 : Class := { plain "java/lang/Cloneable" (some 0) with
  accessFlags := 1537
  interfaces := #[]
  cf := some (fileOf pool3 2 #[] #[] 1537 4 #[] #[])
  fields := #[]
  methods := #[]
  instanceTypes := #[]
  staticTypes := #[]
  resolved := Array.replicate 8 none
  statics := none }

def pool4 : Array CpInfo := pool [(1, u "java/io/Serializable"), (0, .class_ 1), (0, u "java/lang/Object"), (0, .class_ 3)] 3

/-- java/io/Serializable -/
def k4 : Class := { plain "java/io/Serializable" (some 0) with
  accessFlags := 1537
  interfaces := #[]
  cf := some (fileOf pool4 2 #[] #[] 1537 4 #[] #[])
  fields := #[]
  methods := #[]
  instanceTypes := #[]
  staticTypes := #[]
  resolved := Array.replicate 8 none
  statics := none }

/-- the primitive byte -/
def k5 : Class := { plain "byte" none with kind := .primitive 'B', accessFlags := 0x411 }
/-- [B -/
def k6 : Class := { plain "[B" (some 0) with kind := .array 5 .byte, interfaces := #[3, 4], accessFlags := 1041 }

/-- the primitive int -/
def k7 : Class := { plain "int" none with kind := .primitive 'I', accessFlags := 0x411 }
/-- [I -/
def k8 : Class := { plain "[I" (some 0) with kind := .array 7 .int, interfaces := #[3, 4], accessFlags := 1041 }

def heap : Heap := #[]
def classes : Array Class := #[k0, k1, k2, k3, k4, k5, k6, k7, k8]
def interned : List (Array UInt16 × Addr) := []
def slotsUsed : Nat := 0
def theMethod : MethodId := ⟨1, 1⟩
def args0 : Array Value := #[.long 5, .long 7, .int 6]
def aboutOver (below : List Frame) : State where
  vm := { classes := classes, interned := interned.toArray }
  heap := heap
  slotsUsed := slotsUsed
  threads := #[{ frames := .invoking theMethod args0 :: below }]
def below0 : List Frame := [.native { method := ⟨0, 0⟩, args := #[] }]
def about1 : State := aboutOver below0
def p0 : Program := .bare "" "" ""
def e0 : Env := launch0.env 0 0 0
theorem w_frames : about1.frames = Frame.invoking theMethod args0 :: below0 := rfl
set_option maxRecDepth 65536 in
theorem w_args : argsFit about1.vm theMethod args0 = true := by decide +kernel
set_option maxRecDepth 65536 in
theorem w_heap : heapFits about1 = true := by decide +kernel
set_option maxRecDepth 65536 in
theorem w_runnable : about1.curStatus? = some .runnable := by decide +kernel
set_option maxRecDepth 65536 in
theorem w_alone : about1.alone = true := by decide +kernel
set_option maxRecDepth 65536 in
theorem w_named : about1.methodNamed? x = some theMethod := by decide +kernel
set_option maxRecDepth 65536 in
theorem w_hears : about1.hears theMethod below0 = true := by decide +kernel
set_option maxRecDepth 65536 in
theorem w_ripe : about1.ripe theMethod args0 below0 = true := by decide +kernel
theorem w_running : about1.status = .running := rfl
set_option maxRecDepth 65536 in
theorem w_room : about1.hasRoom e0.platform room_1 = true :=
  launch0.hasRoom_least _ room_1 (by decide +kernel) (by decide +kernel) (by decide +kernel) (by decide +kernel) (by decide +kernel) (by decide +kernel)
theorem allAtoms_all (ts : List Jvm.Cond) (a : Array Jvm.Value) (st : Jvm.State) : (allAtoms ts).before a st = ts.all (fun c => c.before a st) := by
  induction ts with
  | nil => rfl
  | cons c t ih =>
    show (Jvm.Cond.and c (allAtoms t)).before a st = _
    rw [Jvm.Cond.before_and, ih, List.all_cons]
def words1 : List Jvm.Cond := Jvm.Cond.code x code maxLocals ret :: tables_1
/-- a 'code' word, met by the world's own term for the bytes: nothing is compared byte by byte -/
theorem code_word {y : MethodName} {bytes : ByteArray} {mx : Nat} {rt : Option FieldType} {a : Array Value} {s : State} {m : MethodId} {meth : Method} {c : Code} (h1 : s.methodNamed? y = some m) (h2 : s.vm.method? m = some meth) (h3 : meth.code = some c) (h4 : c.code = bytes)
    (h5 : (c.maxLocals == mx && c.exceptionTable.isEmpty && decide (c.maxStack ≤ mostOperands) && decide (meth.sig.returnType = rt) && !meth.locks && decide (parseMethodDescriptor y.desc = some meth.sig)) = true) : (Jvm.Cond.code y bytes mx rt).before a s = true := by
  simp only [Bool.and_eq_true, beq_iff_eq, Bool.not_eq_true', decide_eq_true_eq] at h5
  obtain ⟨⟨⟨⟨⟨g1, g2⟩, g3⟩, g4⟩, g5⟩, g6⟩ := h5
  simp [Cond.before, Cond.holds, Cond.value, h1, h2, h3, h4, g1, g2, g3, g4, g5, g6]
def isCode : Jvm.Cond → Bool
  | .code _ _ _ _ => true
  | _ => false
theorem all_split {L : List Jvm.Cond} {P : Jvm.Cond → Bool} (h1 : L.all (fun c => isCode c || P c) = true) (h2 : ∀ c ∈ L.filter isCode, P c = true) : L.all P = true := by
  refine List.all_eq_true.mpr fun c hc => ?_
  have h := List.all_eq_true.mp h1 c hc
  rcases Bool.eq_false_or_eq_true (isCode c) with hi | hi
  · exact h2 c (List.mem_filter.mpr ⟨hc, hi⟩)
  · simpa [hi] using h
set_option maxRecDepth 65536 in
theorem w_c0 : (Jvm.Cond.code x code maxLocals ret).before args0 about1 = true := code_word (m := ⟨1, 1⟩) (meth := k1m1) (c := k1c1) (by decide +kernel) rfl rfl rfl (by decide +kernel)
set_option maxRecDepth 65536 in
theorem w_c1 : (Jvm.Cond.code ({ cls := "com/example/notesmith/notesmith/util/Rounding", name := "wholeCents", desc := "(JJ)J" } : Jvm.MethodName) prog_119_method_7_code (8 : Nat) (Option.some Jvm.ClassFile.FieldType.long)).before args0 about1 = true := code_word (m := ⟨2, 1⟩) (meth := k2m1) (c := k2c1) (by decide +kernel) rfl rfl rfl (by decide +kernel)
def codes1 : List Jvm.Cond := [Jvm.Cond.code x code maxLocals ret, Jvm.Cond.code ({ cls := "com/example/notesmith/notesmith/util/Rounding", name := "wholeCents", desc := "(JJ)J" } : Jvm.MethodName) prog_119_method_7_code (8 : Nat) (Option.some Jvm.ClassFile.FieldType.long)]
set_option maxRecDepth 65536 in
theorem codes_eq : words1.filter isCode = codes1 := rfl
theorem w_codes : ∀ c ∈ words1.filter isCode, c.before args0 about1 = true := by
  rw [codes_eq]
  intro c hc
  simp only [codes1, List.mem_cons, List.not_mem_nil, or_false] at hc
  rcases hc with rfl | rfl
  · exact w_c0
  · exact w_c1
set_option maxRecDepth 65536 in
theorem w_t1 : words1.all (fun c => isCode c || c.before args0 about1) = true := by decide +kernel
theorem w_tables : (allAtoms (Jvm.Cond.code x code maxLocals ret :: tables_1)).before args0 about1 = true := by
  rw [allAtoms_all]
  show words1.all (fun c => c.before args0 about1) = true
  refine all_split ?_ w_codes
  rw [w_t1]
set_option maxRecDepth 65536 in
theorem w_case : (Jvm.Cond.and given_1 narrow_1).before args0 about1 = true := by decide +kernel
theorem w_applies : (headSpec (Jvm.Cond.code x code maxLocals ret :: tables_1) room_1).applies x e0.platform about1 = true :=
  (Spec.applies_iff w_frames).mpr ⟨w_running, w_runnable, w_alone, w_named, w_hears, w_ripe, w_room, w_tables⟩
theorem atStart : AtStart classFile x code maxLocals ret World_1 tables_1 room_1 Calls_1 rest_1 Pre_1 launch0 p0 e0 about1 theMethod args0 below0 :=
  ⟨lists_1, trivial, launch0.admits_env _ _ _, launch0.least_env, fairChoices_fair.cas, fairChoices_fair.clock, w_frames, w_args, w_heap, w_applies, trivial, trivial, w_case⟩
end start1
theorem witness_1 : WitnessClaimed_1 := ⟨start1.p0, start1.e0, start1.about1, start1.theMethod, start1.args0, start1.below0, start1.atStart⟩
end Jvm.Pilot.@@N@@
