import JvmDerived
import JvmDerived.Pilot.@@N@@Statement
import JvmDerived.Pilot.@@N@@Code
set_option linter.unusedVariables false
set_option linter.unusedSimpArgs false
@@BLOCK:NumsL.lean.txt@@
namespace Jvm.RoadKit
open Sem ClassFile Op Lib Jvm.Stand Jvm.Free Jvm.LawKit
section New
variable {p : Program} {l : Launch} {e : Env} {R : Room} {s : State} {m : MethodId} {args : Array Value} {below : List Frame} {meth : Method} {c : Code} {T : State} {locs : List Loc} {cells slots : Nat}
theorem retI (X : Stand p l e R s m args below meth c T locs cells slots) (hx : p.tables.exec = Jvm.exec) {pc : Nat} {Ls : Array Slot} {z : Int32} {rest : List Value} (hret : meth.sig.returnType = some .int) (hd : decode c.code pc = .ok (.ireturn, 1)) {fs : List Frame}
    (hl : ∀ (f : JFrame) (acts : List Action), f.method = m → f.locked = none → f.entered = [] → (doReturn e (T.setTop f) acts (some (.int z))).1 = T.setFrames fs) : Steps p.tables e below (T.setTop (mkF m pc Ls (.int z :: rest))) (T.setFrames fs) := by
  have hm' : T.vm.method? m = some meth := X.method'
  have hn : narrow .int (.int z) = .int z := rfl
  show Steps p.tables e below (T.setTop { method := m, pc := pc, locals := Ls, stack := _ :: rest, locked := none }) _
  jvm_step X.here [X.here.top, hx, hd, hm', hret, hn]
  first | (intro acts; rw [hl _ acts rfl rfl rfl]) | rw [hl _ _ rfl rfl rfl]
  exact Steps.refl _
end New
end Jvm.RoadKit
namespace Jvm.Pilot.@@N@@
open Jvm Jvm.ClassFile Sem Op Lib Jvm.Free Jvm.Stand Jvm.LawKit Jvm.RoadKit Bundle Jvm.Pilot.@@N@@.Jvm.D
/-- from A the run comes to an end of which P is said -/
def own_Go (p : Program) (e : Env) (below : List Frame) (P : State → Outcome → Prop) (A : State) : Prop := ∃ s₂ o, Steps p.tables e below A s₂ ∧ P s₂ o
theorem own_step {p : Program} {e : Env} {below : List Frame} {P : State → Outcome → Prop} {A : State} (B : State) (h : ∀ t, Steps p.tables e below B t → Steps p.tables e below A t) (g : own_Go p e below P B) : own_Go p e below P A := by
  obtain ⟨s₂, o, h1, h2⟩ := g; exact ⟨s₂, o, h s₂ h1, h2⟩
theorem own_comes {p : Program} {e : Env} {below : List Frame} {P : State → Outcome → Prop} {A : State} (B : State) (h : Steps p.tables e below A B) (g : own_Go p e below P B) : own_Go p e below P A := by
  obtain ⟨s₂, o, h1, h2⟩ := g; exact ⟨s₂, o, h.trans h1, h2⟩
theorem own_sta_keep {Z : State} {h h' : Heap} {C n d : String} {w : Value} {ws : List Addr} (F : Sta Z h C n d w) (K : Keep h h' ws) (hw : ∀ x ∈ ws, ∀ cell : Cell, h[x]? = some cell → cell.vm.isStatics = false) : Sta Z h' C n d w := by
  obtain ⟨cf, i, k, f, st, cell, h1, h2, h3, h4, h5, h6, r⟩ := F
  exact ⟨cf, i, k, f, st, cell, h1, h2, h3, h4, K.2.1 _ _ h5 (fun q => by rw [hw _ q _ h5] at h6; cases h6), h6, r⟩
theorem own_sel {s : State} {args : Array Value} {y : MethodName} {n : Nat} (w : (Cond.instantiable y.cls n).before args s = true) (hp : (Cond.privateMethod y).before args s = true) (hi : (Cond.instanceMethod y).before args s = true) (hy : y.cls ≠ "java/lang/invoke/MethodHandle" ∧ y.cls ≠ "java/lang/invoke/VarHandle") : (Cond.selects y.cls y y).before args s = true := by
  obtain ⟨c, k, h1, h2, -, h4, -, -⟩ := Cond.instantiable_spec w
  simp only [Bool.or_eq_false_iff] at h4
  exact Jvm.Stand.selects_self_of_private h1 h2 h4.1 (Cond.privateMethod_at hp) hi hy
def own_lrem (x y : Int64) : Int64 := x - x / y * y
def own_Bel (n : Nat) (h h' : Heap) : Prop := h.size ≤ h'.size ∧ ∀ (x : Addr) (c : Cell), x < n → h[x]? = some c → h'[x]? = some c
theorem own_Bel.refl (n : Nat) (h : Heap) : own_Bel n h h := ⟨Nat.le_refl _, fun _ _ _ q => q⟩
theorem own_Bel.ext {n : Nat} {h0 h h' : Heap} (B : own_Bel n h0 h) (E : Ext h h') : own_Bel n h0 h' := ⟨Nat.le_trans B.1 E.1, fun x c q r => E.2 x c (B.2 x c q r)⟩
theorem own_Bel.trans {n : Nat} {h0 h h' : Heap} (B : own_Bel n h0 h) (E : own_Bel n h h') : own_Bel n h0 h' := ⟨Nat.le_trans B.1 E.1, fun x c q r => E.2 x c q (B.2 x c q r)⟩
theorem own_Bel.keep {n : Nat} {h0 h h' : Heap} {ws : List Addr} (B : own_Bel n h0 h) (K : Keep h h' ws) (q : ∀ x ∈ ws, n ≤ x) : own_Bel n h0 h' := ⟨Nat.le_trans B.1 K.1, fun x c r u => K.2.1 x c (B.2 x c r u) (fun z => absurd (q x z) (Nat.not_le.mpr r))⟩
theorem own_Bel.wr {n : Nat} {h0 h h' : Heap} {a : Addr} {sl : Nat} {v : Value} (B : own_Bel n h0 h) (W : Wr h h' a sl v) (q : n ≤ a) : own_Bel n h0 h' := B.keep (Keep.of_wr W) (allS q all0)
theorem own_Frm {n0 n1 : Nat} {L : List Loc} (h : n0 ≤ n1) (N : Fr n1 L) : Fr n0 L := fun y q => Nat.le_trans h (N y q)
theorem own_bel_arv {Z : State} {h h' : Heap} {a : Addr} {k : ClassId} {ty : FieldType} {z : Int32} {vs : List Value} {d : Value} {n : Nat} (F : Arv Z h a k ty z vs d) (B : own_Bel n h h') (q : a < n) : Arv Z h' a k ty z vs d := by
  obtain ⟨c, A, r⟩ := F; exact ⟨c, ⟨B.2 a c q A.1, A.2⟩, r⟩
theorem own_widen {p : Program} {l : Launch} {e : Env} {R : Room} {s : State} {m : MethodId} {args : Array Value} {below : List Frame} {meth : Method} {c : Code} {T : State} {locs : List Loc} {cells slots cells' slots' : Nat} (X : Stand p l e R s m args below meth c T locs cells slots) (h1 : cells ≤ cells') (h2 : slots ≤ slots') : Stand p l e R s m args below meth c T locs cells' slots' := { X with same := X.same.mono h1 h2 }
theorem own_vne {a b : Int32} (h : a ≠ b) : Value.int a ≠ Value.int b := fun q => h (Value.int.inj q)
theorem own_lgtT {x y : Int64} (h : y < x) : ifCond.holds .gt (lcmpW x y) = true := (if0 _ _).trans (tlt ((lw_gt x y).mpr h)).2.2.1
theorem own_lgtF {x y : Int64} (h : ¬ y < x) : ifCond.holds .gt (lcmpW x y) = false := (if0 _ _).trans (flt (fun q => h ((lw_gt x y).mp q))).2.2.1
theorem own_lleT {x y : Int64} (h : ¬ y < x) : ifCond.holds .le (lcmpW x y) = true := (if0 _ _).trans (flt (fun q => h ((lw_gt x y).mp q))).2.2.2
theorem own_lleF {x y : Int64} (h : y < x) : ifCond.holds .le (lcmpW x y) = false := (if0 _ _).trans (tlt ((lw_gt x y).mpr h)).2.2.2
theorem own_lltT {x y : Int64} (h : x < y) : ifCond.holds .lt (lcmpW x y) = true := (if0 _ _).trans (tlt ((lw_lt x y).mpr h)).1
theorem own_lltF {x y : Int64} (h : ¬ x < y) : ifCond.holds .lt (lcmpW x y) = false := (if0 _ _).trans (flt (fun q => h ((lw_lt x y).mp q))).1
theorem own_lgeT {x y : Int64} (h : ¬ x < y) : ifCond.holds .ge (lcmpW x y) = true := (if0 _ _).trans (flt (fun q => h ((lw_lt x y).mp q))).2.1
theorem own_lgeF {x y : Int64} (h : x < y) : ifCond.holds .ge (lcmpW x y) = false := (if0 _ _).trans (tlt ((lw_lt x y).mpr h)).2.1
theorem own_leqT {x y : Int64} (h : x = y) : ifCond.holds .eq (lcmpW x y) = true := (if0 _ _).trans (teq ((lw_eq x y).mpr h)).1
theorem own_leqF {x y : Int64} (h : ¬ x = y) : ifCond.holds .eq (lcmpW x y) = false := (if0 _ _).trans (feq (fun q => h ((lw_eq x y).mp q))).1
theorem own_lneT {x y : Int64} (h : ¬ x = y) : ifCond.holds .ne (lcmpW x y) = true := (if0 _ _).trans (feq (fun q => h ((lw_eq x y).mp q))).2
theorem own_lneF {x y : Int64} (h : x = y) : ifCond.holds .ne (lcmpW x y) = false := (if0 _ _).trans (teq ((lw_eq x y).mpr h)).2
def own_imax (x y : Int32) : Int32 := if x < y then y else x
def own_imin (x y : Int32) : Int32 := if y < x then y else x
def own_minj (x y : Int64) : Int64 := if y < x then y else x
/-! The plain law: a Fenwick tree over the positions of D. own_lb i: the lowest one bit of i. -/
def own_lb (i : Nat) : Nat := i - (i &&& (i - 1))
def own_cnt : List Nat → Nat → Nat → Nat
  | [], _, _ => 0
  | d :: D, a, b => (if a < d ∧ d ≤ b then 1 else 0) + own_cnt D a b
theorem own_cnt_split : ∀ (D : List Nat) {a b c : Nat}, a ≤ b → b ≤ c → own_cnt D a c = own_cnt D a b + own_cnt D b c
  | [], _, _, _, _, _ => rfl
  | d :: D, a, b, c, h1, h2 => by
    simp only [own_cnt]
    rw [own_cnt_split D h1 h2]
    split <;> split <;> split <;> omega
theorem own_cnt_self : ∀ (D : List Nat) (a : Nat), own_cnt D a a = 0
  | [], _ => rfl
  | d :: D, a => by simp only [own_cnt]; rw [own_cnt_self D a, if_neg (by omega)]
theorem own_cnt_le : ∀ (D : List Nat) (a b : Nat), own_cnt D a b ≤ D.length
  | [], _, _ => Nat.le_refl _
  | d :: D, a, b => by simp only [own_cnt, List.length_cons]; have := own_cnt_le D a b; split <;> omega
theorem own_cnt_out : ∀ (D : List Nat) {a b : Nat}, (∀ d ∈ D, d ≤ a) → own_cnt D a b = 0
  | [], _, _, _ => rfl
  | d :: D, a, b, h => by
    simp only [own_cnt]
    rw [own_cnt_out D (fun x hx => h x (List.mem_cons_of_mem _ hx)), if_neg (fun q => by have := h d (List.mem_cons_self ..); omega)]
theorem own_cnt_all : ∀ (D : List Nat) {b : Nat}, (∀ d ∈ D, 0 < d ∧ d ≤ b) → own_cnt D 0 b = D.length
  | [], _, _ => rfl
  | d :: D, b, h => by
    simp only [own_cnt, List.length_cons]
    rw [own_cnt_all D (fun x hx => h x (List.mem_cons_of_mem _ hx)), if_pos (h d (List.mem_cons_self ..))]; omega
set_option maxRecDepth 100000 in
theorem own_lb1 : ∀ i, i < 1024 → 0 < i → 0 < own_lb i ∧ own_lb i ≤ i := by decide +kernel
set_option maxRecDepth 100000 in
theorem own_lb2 : ∀ i, i < 1024 → ∀ r, r < own_lb i → 0 < r → own_lb (i + r) ≤ r := by decide +kernel
set_option maxRecDepth 100000 in
theorem own_lb3 : ∀ i, i < 1024 → 0 < i → 2 * own_lb i ≤ own_lb (i + own_lb i) := by decide +kernel
set_option maxRecDepth 100000 in
theorem own_lb32 : ∀ i, i < 1024 → (Int32.ofNat i &&& -Int32.ofNat i) = Int32.ofNat (own_lb i) := by decide +kernel
set_option maxRecDepth 100000 in
theorem own_lb64 : ∀ i, i < 1024 → (Int64.ofNat i &&& -Int64.ofNat i) = Int64.ofNat (own_lb i) := by decide +kernel
/-- j's entry counts p -/
def own_cov (p j : Nat) : Prop := j - own_lb j < p ∧ p ≤ j
instance (p j : Nat) : Decidable (own_cov p j) := by unfold own_cov; infer_instance
theorem own_cov_self {p : Nat} (h1 : 0 < p) (h2 : p < 1024) : own_cov p p := ⟨by have := own_lb1 p h2 h1; omega, Nat.le_refl _⟩
theorem own_cov_next {p i : Nat} (hp : 0 < p) (h : i < 1024) (c : own_cov p i) : own_cov p (i + own_lb i) := by
  obtain ⟨c1, c2⟩ := c
  have h1 := own_lb1 i h (by omega); have h3 := own_lb3 i h (by omega)
  exact ⟨by omega, by omega⟩
theorem own_cov_gap {p i j : Nat} (hp : 0 < p) (h : i < 1024) (c : own_cov p i) (h1 : i < j) (h2 : j < i + own_lb i) : ¬ own_cov p j := by
  rintro ⟨d1, d2⟩
  obtain ⟨c1, c2⟩ := c
  have := own_lb2 i h (j - i) (by omega) (by omega)
  rw [show i + (j - i) = j by omega] at this
  omega
/-- what the tree says: entry j counts the positions in (j - lb j, j] -/
def own_Inv (D : List Nat) (N : Nat) (f : Nat → Int32) : Prop := ∀ j, 0 < j → j < N → f j = Int32.ofNat (own_cnt D (j - own_lb j) j)
theorem own_ofNat_add (a b : Nat) : Int32.ofNat (a + b) = Int32.ofNat a + Int32.ofNat b := by
  apply Int32.toBitVec_inj.mp
  show BitVec.ofNat 32 (a + b) = BitVec.ofNat 32 a + BitVec.ofNat 32 b
  rw [BitVec.ofNat_add]
theorem own_Inv_add {D : List Nat} {N p : Nat} {f g : Nat → Int32} (h : own_Inv D N f) (hg : ∀ j, j < N → g j = f j + (if own_cov p j then 1 else 0)) : own_Inv (p :: D) N g := by
  intro j h1 h2
  rw [hg j h2, h j h1 h2]
  simp only [own_cnt, own_ofNat_add]
  by_cases q : own_cov p j
  · rw [if_pos q, if_pos (show j - own_lb j < p ∧ p ≤ j from q), Int32.add_comm]; rfl
  · rw [if_neg q, if_neg (show ¬ (j - own_lb j < p ∧ p ≤ j) from q), Int32.add_comm]; rfl
/-! small naturals as ints -/
theorem own_toInt {i : Nat} (h : i < 4096) : (Int32.ofNat i).toInt = i := Int32.toInt_ofNat_of_lt (by omega)
theorem own_nat {i : Nat} (h : i < 4096) : (Int32.ofNat i).toNatClampNeg = i := by
  unfold Int32.toNatClampNeg; rw [own_toInt h]; rfl
theorem own_nn {i : Nat} (h : i < 4096) : ¬ Int32.ofNat i < 0 := by
  rw [Int32.lt_iff_toInt_lt, own_toInt h, show (0 : Int32).toInt = 0 from rfl]; omega
theorem own_lt {i j : Nat} (hi : i < 4096) (hj : j < 4096) : Int32.ofNat i < Int32.ofNat j ↔ i < j := by
  rw [Int32.lt_iff_toInt_lt, own_toInt hi, own_toInt hj]; omega
theorem own_sub {i j : Nat} (h : j ≤ i) : Int32.ofNat i - Int32.ofNat j = Int32.ofNat (i - j) := by
  have e : Int32.ofNat i = Int32.ofNat (i - j) + Int32.ofNat j := by rw [← own_ofNat_add, Nat.sub_add_cancel h]
  rw [e, Int32.add_sub_cancel]
theorem own_in {x : Int32} {i N : Nat} (e : x = Int32.ofNat i) (h : i < N) (hN : N < 4096) : ¬ x < 0 ∧ x < Int32.ofNat N := by
  subst e; exact ⟨own_nn (by omega), (own_lt (by omega) hN).mpr h⟩
/-! an array's values as a function -/
def own_L (N : Nat) (f : Nat → Int32) : List Value := (List.range N).map fun j => .int (f j)
theorem own_L_len (N : Nat) (f : Nat → Int32) : (own_L N f).length = N := by simp [own_L]
theorem own_L_get {N : Nat} {f : Nat → Int32} {j : Nat} (h : j < N) : (own_L N f).getD j (.int 0) = .int (f j) := by
  simp [own_L, List.getD_eq_getElem?_getD, h]
theorem own_at {N : Nat} {f : Nat → Int32} {i : Nat} {x : Int32} (e : x = Int32.ofNat i) (h : i < N) (hN : N < 4096) : (own_L N f).getD x.toNatClampNeg (.int 0) = .int (f i) := by
  subst e; rw [own_nat (by omega)]; exact own_L_get h
theorem own_L_set (N : Nat) (f : Nat → Int32) (i : Nat) (v : Int32) : (own_L N f).set i (.int v) = own_L N (fun j => if j = i then v else f j) := by
  apply List.ext_getElem?
  intro j
  simp only [own_L, List.getElem?_set, List.getElem?_map, List.length_map, List.length_range]
  by_cases h1 : i = j
  · subst h1
    by_cases h2 : i < N
    · simp [h2]
    · simp [h2]
  · have h3 : ¬ j = i := fun q => h1 q.symm
    by_cases h2 : j < N
    · simp [h1, h3, h2]
    · simp [h1, h2]
theorem own_L_congr {N : Nat} {f g : Nat → Int32} (h : ∀ j, j < N → f j = g j) : own_L N f = own_L N g := by
  unfold own_L
  exact List.map_congr_left fun j hj => by rw [h j (List.mem_range.mp hj)]
/-! through -/
def own_To (D : List Nat) (M : Nat) (f : Nat → Int32) : Prop := ∀ j, 0 < j → j ≤ M → f j = Int32.ofNat (own_cnt D (j - own_lb j) j)
def own_M (q : Int32) (N : Nat) : Nat := (min q.toInt ((N : Int) - 1)).toNat
def own_X (i : Nat) (x : Int32) : Prop := (i = 0 ∧ ¬ (0 : Int32) < x) ∨ (0 < i ∧ x = Int32.ofNat i)
theorem own_X0 {i : Nat} {x : Int32} (h : own_X i x) (q : (0 : Int32) < x) : 0 < i ∧ x = Int32.ofNat i := by
  rcases h with ⟨-, h⟩ | h
  · exact absurd q h
  · exact h
theorem own_X1 {i : Nat} {x : Int32} (hi : i < 4096) (h : own_X i x) (q : ¬ (0 : Int32) < x) : i = 0 := by
  rcases h with ⟨h, -⟩ | ⟨h1, h2⟩
  · exact h
  · exact absurd (by rw [h2]; exact (own_lt (i := 0) (by omega) hi).mpr h1) q
theorem own_Xn {i : Nat} {x : Int32} (h : i < 1024) (h0 : 0 < i) (e : x = Int32.ofNat i) : own_X (i - own_lb i) (x - (x &&& (-x))) := by
  subst e
  have h1 := own_lb1 i h h0
  rw [own_lb32 i h, own_sub h1.2]
  by_cases q : i - own_lb i = 0
  · exact Or.inl ⟨q, by rw [q]; decide⟩
  · exact Or.inr ⟨by omega, rfl⟩
theorem own_len1 {N : Nat} (h : 1 ≤ N) : Int32.ofNat N - 1 = Int32.ofNat (N - 1) := own_sub (j := 1) h
theorem own_Xs {q : Int32} {N : Nat} (h1 : 1 ≤ N) (h2 : N < 1024) : own_X (own_M q N) (own_imin q (Int32.ofNat N - 1)) := by
  have rq := rng32 q
  rw [own_len1 h1]
  unfold own_imin own_M
  have e0 : (0 : Int32).toInt = 0 := rfl
  by_cases c : Int32.ofNat (N - 1) < q
  · rw [if_pos c]
    rw [Int32.lt_iff_toInt_lt, own_toInt (by omega)] at c
    rw [show (min q.toInt ((N : Int) - 1)).toNat = N - 1 by omega]
    by_cases z : N - 1 = 0
    · exact Or.inl ⟨z, by rw [z]; decide⟩
    · exact Or.inr ⟨by omega, rfl⟩
  · rw [if_neg c]
    rw [Int32.lt_iff_toInt_lt, own_toInt (by omega)] at c
    by_cases z : 0 < q.toInt
    · refine Or.inr ⟨by omega, Int32.toInt_inj.mp ?_⟩
      rw [own_toInt (by omega)]; omega
    · exact Or.inl ⟨by omega, by rw [Int32.lt_iff_toInt_lt, e0]; exact z⟩
theorem own_M_lt {q : Int32} {N : Nat} (h : 1 ≤ N) : own_M q N < N := by unfold own_M; omega
theorem own_thr0 {D : List Nat} {s R : Int32} {i : Nat} (h : s + Int32.ofNat (own_cnt D 0 i) = R) (h0 : i = 0) : s = R := by
  subst h0; rw [own_cnt_self] at h; rw [← h]; exact (Int32.add_zero s).symm
theorem own_thr1 {D : List Nat} {s R : Int32} {i M : Nat} {f : Nat → Int32} (hi : i < 1024) (h0 : 0 < i) (hM : i ≤ M) (hI : own_To D M f) (h : s + Int32.ofNat (own_cnt D 0 i) = R) : (s + f i) + Int32.ofNat (own_cnt D 0 (i - own_lb i)) = R := by
  have h1 := own_lb1 i hi h0
  rw [hI i h0 hM, ← h, own_cnt_split D (Nat.zero_le (i - own_lb i)) (Nat.sub_le i (own_lb i)), own_ofNat_add, Int32.add_assoc, Int32.add_comm (Int32.ofNat (own_cnt D (i - own_lb i) i))]
theorem own_idx {x : Int32} {i N : Nat} (e : x = Int32.ofNat i) (h : i < N) (hN : N < 4096) : x.toNatClampNeg = i := by subst e; exact own_nat (by omega)
/-! copyOf -/
def own_cp (N : Nat) (f : Nat → Int32) (j : Nat) : Int32 := if j < N then f j else 0
theorem own_L0 (N : Nat) : ∀ i, (own_L N (fun _ => 0)).getD i (.int 0) = ([] : List Value).getD i (.int 0) := by
  intro i
  by_cases h : i < N
  · rw [own_L_get h]; rfl
  · simp [own_L, List.getD_eq_getElem?_getD, h]
theorem own_neN {N N2 : Nat} (h : N < N2) (h2 : N2 < 4096) : ¬ Int32.ofNat N2 = Int32.ofNat N := fun q => by
  have e := congrArg Int32.toInt q
  rw [own_toInt h2, own_toInt (by omega)] at e; omega
theorem own_iminN {N N2 : Nat} (h : N < N2) (h2 : N2 < 4096) : own_imin (Int32.ofNat N) (Int32.ofNat N2) = Int32.ofNat N := by
  unfold own_imin; rw [if_neg (fun q => by rw [own_lt h2 (by omega)] at q; omega)]
theorem own_copy {N N2 : Nat} (f : Nat → Int32) (h : N < N2) (h2 : N2 < 4096) :
    (own_L N2 (fun _ => 0)).take ((0 : Int32).toNatClampNeg) ++ (List.range (Int32.ofNat N).toNatClampNeg).map (fun i => (own_L N f).getD ((0 : Int32).toNatClampNeg + i) (.int 0)) ++ (own_L N2 (fun _ => 0)).drop ((0 : Int32).toNatClampNeg + (Int32.ofNat N).toNatClampNeg) = own_L N2 (own_cp N f) := by
  rw [own_nat (show N < 4096 by omega), show (0 : Int32).toNatClampNeg = 0 from rfl]
  apply List.ext_getElem?
  intro j
  simp only [List.take_zero, List.nil_append, Nat.zero_add]
  by_cases h1 : j < N
  · rw [List.getElem?_append_left (by simp; exact h1)]
    have e : (own_L N f).getD j (.int 0) = .int (f j) := own_L_get h1
    simp [h1, own_L, own_cp, show j < N2 by omega]
  · rw [List.getElem?_append_right (by simp; omega)]
    by_cases h3 : j < N2
    · simp [own_L, own_cp, h1, h3, show N + (j - N) = j by omega]
    · simp [own_L, h3, show ¬ N + (j - N) < N2 by omega]
/-! grow -/
def own_cap (N pn : Nat) : Nat := max pn (2 * (N - 1))
def own_next (N pn : Nat) : Nat := if pn < N then N else own_cap N pn + 1
theorem own_next_lt {N pn : Nat} (h : pn < N) : own_next N pn = N := if_pos h
theorem own_next_ge {N pn : Nat} (h : N ≤ pn) : own_next N pn = own_cap N pn + 1 := if_neg (by omega)
theorem own_toInt64 {i : Nat} (h : i < 4096) : (Int64.ofNat i).toInt = i := Int64.toInt_ofNat_of_lt (by omega)
theorem own_i2l {i : Nat} (h : i < 4096) : (Int32.ofNat i).toInt64 = Int64.ofNat i := Int64.toInt_inj.mp (by rw [Int32.toInt_toInt64, own_toInt h, own_toInt64 h])
theorem own_l2i {i : Nat} {xl : Int64} (e : xl = Int64.ofNat i) (h : i < 4096) : xl.toInt32 = Int32.ofNat i := by
  subst e; rw [← own_i2l h]; exact Int32.toInt32_toInt64 _
theorem own_capv {N pn : Nat} (hN : N < 1024) (hp : pn < 1024) : own_imax (Int32.ofNat pn) ((own_minj ((2 : Int64) * ((Int32.ofNat (N - 1)).toInt64)) (2147483638 : Int64)).toInt32) = Int32.ofNat (own_cap N pn) := by
  have e1 : (2 : Int64) * ((Int32.ofNat (N - 1)).toInt64) = Int64.ofNat (2 * (N - 1)) := by
    rw [own_i2l (by omega)]
    apply Int64.toInt_inj.mp
    have c := c_lmul 2 (Int64.ofNat (N - 1)); have r := rng64 (2 * Int64.ofNat (N - 1))
    rw [own_toInt64 (by omega), show (2 : Int64).toInt = 2 from rfl] at c
    rw [own_toInt64 (by omega)]; omega
  have e2 : own_minj (Int64.ofNat (2 * (N - 1))) (2147483638 : Int64) = Int64.ofNat (2 * (N - 1)) := by
    unfold own_minj; rw [if_neg (fun q => by rw [Int64.lt_iff_toInt_lt, own_toInt64 (by omega), show (2147483638 : Int64).toInt = 2147483638 from rfl] at q; omega)]
  rw [e1, e2, own_l2i rfl (by omega)]
  unfold own_imax own_cap
  by_cases q : Int32.ofNat pn < Int32.ofNat (2 * (N - 1))
  · rw [if_pos q]; rw [own_lt (by omega) (by omega)] at q; rw [Nat.max_eq_right (by omega)]
  · rw [if_neg q]; rw [own_lt (by omega) (by omega)] at q; rw [Nat.max_eq_left (by omega)]
theorem own_succ (i : Nat) : Int32.ofNat i + 1 = Int32.ofNat (i + 1) := (own_ofNat_add i 1).symm
theorem own_pred {N : Nat} (h : 1 ≤ N) : Int32.ofNat (N - 1) + 1 = Int32.ofNat N := by rw [own_succ, Nat.sub_add_cancel h]
def own_G (D : List Nat) (N2 i : Nat) (g : Nat → Int32) : Prop := (∀ j, 0 < j → j < i → g j = Int32.ofNat (own_cnt D (j - own_lb j) j)) ∧ ∀ j, i ≤ j → j < N2 → g j = 0
theorem own_G0 {D : List Nat} {N N2 : Nat} {f : Nat → Int32} (h : own_Inv D N f) : own_G D N2 N (own_cp N f) :=
  ⟨fun j h1 h2 => by unfold own_cp; rw [if_pos h2]; exact h j h1 h2, fun j h1 _ => by unfold own_cp; rw [if_neg (by omega)]⟩
theorem own_start {i : Nat} {y : Int32} (e : y = Int32.ofNat i) (h : i < 1024) : (y - (y &&& (-y))) = Int32.ofNat (i - own_lb i) := by
  subst e
  rw [own_lb32 i h]
  by_cases z : i = 0
  · subst z; rfl
  · exact own_sub (own_lb1 i h (by omega)).2
theorem own_GA {D : List Nat} {N N2 i : Nat} {g : Nat → Int32} (hG : own_G D N2 i g) (hi : i < 1024) (h0 : 0 < i) (hD : ∀ d ∈ D, 0 < d ∧ d < N) (hs : ¬ i - own_lb i < N - 1) (hi2 : i < N2) : own_G D N2 (i + 1) g :=
  ⟨fun j h1 h2 => by
    by_cases q : j = i
    · subst q
      rw [hG.2 j (Nat.le_refl _) hi2, own_cnt_out D (fun d hd => by have := hD d hd; omega)]; rfl
    · exact hG.1 j h1 (by omega), fun j h1 h2 => hG.2 j (by omega) h2⟩
theorem own_GB {D : List Nat} {N2 i : Nat} {g : Nat → Int32} {v : Int32} (hG : own_G D N2 i g) (hv : v = Int32.ofNat (own_cnt D (i - own_lb i) i)) : own_G D N2 (i + 1) (fun j => if j = i then v else g j) :=
  ⟨fun j h1 h2 => by
    by_cases q : j = i
    · subst q; simp only [if_true]; exact hv
    · simp only [q, if_false]; exact hG.1 j h1 (by omega), fun j h1 h2 => by simp only [show ¬ j = i by omega, if_false]; exact hG.2 j (by omega) h2⟩
theorem own_Msmall {i N2 : Nat} (h1 : i < N2) (h2 : N2 < 4096) : own_M (Int32.ofNat i) N2 = i := by
  unfold own_M; rw [own_toInt (by omega)]; omega
theorem own_GT {D : List Nat} {N2 i m : Nat} {g : Nat → Int32} (hG : own_G D N2 i g) (h : m < i) (h1 : m < N2) (h2 : N2 < 4096) : own_To D (own_M (Int32.ofNat m) N2) g := by
  rw [own_Msmall h1 h2]; exact fun j h3 h4 => hG.1 j h3 (by omega)
theorem own_val {D : List Nat} {N N2 i : Nat} {cn : Int32} (hc : cn = Int32.ofNat D.length) (hD : ∀ d ∈ D, 0 < d ∧ d < N) (hi : N ≤ i) (h1 : i < N2) (h2 : N2 < 4096) : cn - Int32.ofNat (own_cnt D 0 (own_M (Int32.ofNat (i - own_lb i)) N2)) = Int32.ofNat (own_cnt D (i - own_lb i) i) := by
  rw [own_Msmall (by omega) h2, hc, ← own_cnt_all D (b := i) (fun d hd => ⟨(hD d hd).1, by have := (hD d hd).2; omega⟩), own_cnt_split D (Nat.zero_le (i - own_lb i)) (Nat.sub_le i (own_lb i)), own_sub (by omega)]
  congr 1; omega
theorem own_GI {D : List Nat} {N2 i : Nat} {g : Nat → Int32} (hG : own_G D N2 i g) (h : N2 ≤ i) : own_Inv D N2 g := fun j h1 h2 => hG.1 j h1 (by omega)
/-! add -/
theorem own_l1 {i N : Nat} {xl : Int64} (e : xl = Int64.ofNat i) (h1 : i < 4096) (h2 : N < 4096) : xl < ((Int32.ofNat N).toInt64) ↔ i < N := by
  subst e; rw [own_i2l h2, Int64.lt_iff_toInt_lt, own_toInt64 h1, own_toInt64 h2]; omega
theorem own_ofNat_add64 (a b : Nat) : Int64.ofNat (a + b) = Int64.ofNat a + Int64.ofNat b := by
  apply Int64.toBitVec_inj.mp
  show BitVec.ofNat 64 (a + b) = BitVec.ofNat 64 a + BitVec.ofNat 64 b
  rw [BitVec.ofNat_add]
theorem own_nx {i : Nat} {xl : Int64} (e : xl = Int64.ofNat i) (h : i < 1024) : (xl + (xl &&& (-xl))) = Int64.ofNat (i + own_lb i) := by
  subst e; rw [own_lb64 i h, own_ofNat_add64]
def own_H (N pn i : Nat) (f g : Nat → Int32) : Prop := ∀ j, j < N → g j = f j + (if own_cov pn j ∧ j < i then 1 else 0)
theorem own_H0 (N pn : Nat) (f : Nat → Int32) : own_H N pn pn f f := fun j _ => by
  rw [if_neg (fun q => by have := q.1.2; omega)]; exact (Int32.add_zero _).symm
theorem own_H1 {N pn i : Nat} {f g : Nat → Int32} {v : Int32} (h : own_H N pn i f g) (hp : 0 < pn) (hi : i < 1024) (hc : own_cov pn i) (hv : v = g i + 1) (hiN : i < N) : own_H N pn (i + own_lb i) f (fun j => if j = i then v else g j) := fun j hj => by
  have hl := own_lb1 i hi (by have := hc.2; omega)
  by_cases q : j = i
  · subst q
    simp only [if_true]
    rw [hv, h j hj, if_neg (fun q => by omega), if_pos ⟨hc, by omega⟩, Int32.add_zero]
  · simp only [q, if_false]
    rw [h j hj]
    by_cases c : own_cov pn j ∧ j < i
    · rw [if_pos c, if_pos ⟨c.1, by omega⟩]
    · rw [if_neg c, if_neg (fun c2 => c ⟨c2.1, by
        apply Classical.byContradiction; intro z
        exact own_cov_gap hp hi hc (by omega) c2.2 c2.1⟩)]
theorem own_H2 {D : List Nat} {N pn i : Nat} {f g : Nat → Int32} (hI : own_Inv D N f) (h : own_H N pn i f g) (hi : ¬ i < N) : own_Inv (pn :: D) N g :=
  own_Inv_add hI fun j hj => by rw [h j hj]; by_cases c : own_cov pn j <;> simp [c, show j < i by omega]
theorem own_Dn {D : List Nat} {N pn : Nat} (hD : ∀ d ∈ D, 0 < d ∧ d < N) (hp : 0 < pn) : ∀ d ∈ pn :: D, 0 < d ∧ d < own_next N pn := fun d hd => by
  have h1 : N ≤ own_next N pn ∧ pn < own_next N pn := by unfold own_next own_cap; split <;> omega
  rcases List.mem_cons.mp hd with rfl | hd
  · exact ⟨hp, h1.2⟩
  · exact ⟨(hD d hd).1, by have := (hD d hd).2; omega⟩
theorem own_InvTo {D : List Nat} {N M : Nat} {f : Nat → Int32} (h : own_Inv D N f) (hM : M < N) : own_To D M f := fun j h1 h2 => h j h1 (by omega)
theorem own_m63 (x : Int32) : ∃ k, k < 64 ∧ (x &&& (63 : Int32)) = Int32.ofNat k := by
  have e : (x &&& (63 : Int32)).toInt = x.toInt % 2 ^ 6 := Jvm.Kit.i32_mask x 63 (k := 6) (by decide) (by decide)
  refine ⟨(x.toInt % 2 ^ 6).toNat, by omega, Int32.toInt_inj.mp ?_⟩
  rw [e, own_toInt (by omega)]; omega
def own_B (P1 P2 P3 : Nat) : Prop := 1 ≤ P1 ∧ P1 ≤ 64 ∧ P1 < P2 ∧ P2 ≤ P1 + 64 ∧ P2 < P3 ∧ P3 ≤ P2 + 64
theorem own_ps (a b c : Int32) : ∃ P1 P2 P3 : Nat, own_B P1 P2 P3 ∧ ((1 : Int32) + (a &&& (63 : Int32))) = Int32.ofNat P1 ∧ ((((1 : Int32) + (a &&& (63 : Int32))) + (1 : Int32)) + (b &&& (63 : Int32))) = Int32.ofNat P2 ∧ ((((((1 : Int32) + (a &&& (63 : Int32))) + (1 : Int32)) + (b &&& (63 : Int32))) + (1 : Int32)) + (c &&& (63 : Int32))) = Int32.ofNat P3 := by
  obtain ⟨k1, h1, e1⟩ := own_m63 a
  obtain ⟨k2, h2, e2⟩ := own_m63 b
  obtain ⟨k3, h3, e3⟩ := own_m63 c
  have q1 : (1 : Int32) + Int32.ofNat k1 = Int32.ofNat (1 + k1) := (own_ofNat_add 1 k1).symm
  refine ⟨1 + k1, 1 + k1 + 1 + k2, 1 + k1 + 1 + k2 + 1 + k3, ⟨by omega, by omega, by omega, by omega, by omega, by omega⟩, ?_, ?_, ?_⟩
  · rw [e1, q1]
  · rw [e1, e2, q1, own_succ, ← own_ofNat_add]
  · rw [e1, e2, e3, q1, own_succ, ← own_ofNat_add, own_succ, ← own_ofNat_add]
def own_P (m0 m1 m2 : Nat) : Prop := (0 < m0 ∧ m0 < 1024) ∧ (0 < m1 ∧ m1 < 1024) ∧ (0 < m2 ∧ m2 < 1024) ∧ own_next 1 m0 ≤ 257 ∧ own_next (own_next 1 m0) m1 ≤ 257 ∧ own_next (own_next (own_next 1 m0) m1) m2 ≤ 257
theorem own_pp {P1 P2 P3 : Nat} (h : own_B P1 P2 P3) : own_P P1 P2 P3 ∧ own_P P1 P3 P2 ∧ own_P P2 P1 P3 ∧ own_P P2 P3 P1 ∧ own_P P3 P1 P2 ∧ own_P P3 P2 P1 := by
  unfold own_B at h
  unfold own_P own_next own_cap
  refine ⟨?_, ?_, ?_, ?_, ?_, ?_⟩ <;> refine ⟨⟨by omega, by omega⟩, ⟨by omega, by omega⟩, ⟨by omega, by omega⟩, ?_, ?_, ?_⟩ <;> (repeat' split) <;> omega
theorem own_n12 {n : Int32} (h : n < 1) : n < 2 := by rw [Int32.lt_iff_toInt_lt] at *; have : (1 : Int32).toInt = 1 := rfl; have : (2 : Int32).toInt = 2 := rfl; omega
theorem own_n13 {n : Int32} (h : n < 1) : n < 3 := by rw [Int32.lt_iff_toInt_lt] at *; have : (1 : Int32).toInt = 1 := rfl; have : (3 : Int32).toInt = 3 := rfl; omega
theorem own_n23 {n : Int32} (h : n < 2) : n < 3 := by rw [Int32.lt_iff_toInt_lt] at *; have : (2 : Int32).toInt = 2 := rfl; have : (3 : Int32).toInt = 3 := rfl; omega
theorem own_I0 : own_Inv [] 1 (fun _ => 0) := fun j h1 h2 => by omega
theorem own_D0 {N : Nat} : ∀ d ∈ ([] : List Nat), 0 < d ∧ d < N := fun d hd => nomatch hd
theorem own_nx1 {N pn : Nat} (h : 1 ≤ N) : 1 ≤ own_next N pn := by unfold own_next; split <;> omega
theorem own_leM {d N : Nat} {q : Int32} (hd : 0 < d ∧ d < N) (hN : N < 1024) : (0 < d ∧ d ≤ own_M q N) ↔ ¬ q < Int32.ofNat d := by
  rw [Int32.lt_iff_toInt_lt, own_toInt (by omega)]; unfold own_M; omega
theorem own_cA {d N : Nat} {q : Int32} {D : List Nat} (hd : 0 < d ∧ d < N) (hN : N < 1024) (h : q < Int32.ofNat d) : own_cnt (d :: D) 0 (own_M q N) = own_cnt D 0 (own_M q N) := by
  simp only [own_cnt]; rw [if_neg (fun z => (own_leM hd hN).mp z h), Nat.zero_add]
theorem own_cB {d N : Nat} {q : Int32} {D : List Nat} (hd : 0 < d ∧ d < N) (hN : N < 1024) (h : ¬ q < Int32.ofNat d) : own_cnt (d :: D) 0 (own_M q N) = 1 + own_cnt D 0 (own_M q N) := by
  simp only [own_cnt]; rw [if_pos ((own_leM hd hN).mpr h)]
theorem pd_0 : parseMethodDescriptor "()V" = some ⟨[], none⟩ := by decide +kernel
theorem pd_1 : parseMethodDescriptor "(I)V" = some ⟨[.int], none⟩ := by decide +kernel
theorem pd_2 : parseMethodDescriptor "(JJ)J" = some ⟨[.long, .long], some .long⟩ := by decide +kernel
theorem pd_3 : parseMethodDescriptor "(II)I" = some ⟨[.int, .int], some .int⟩ := by decide +kernel
theorem pd_4 : parseMethodDescriptor "([II)[I" = some ⟨[(.array .int), .int], some (.array .int)⟩ := by decide +kernel
theorem pd_5 : parseMethodDescriptor "(Ljava/lang/Object;ILjava/lang/Object;II)V" = some ⟨[(.object "java/lang/Object"), .int, (.object "java/lang/Object"), .int, .int], none⟩ := by decide +kernel
theorem pd_6 : parseMethodDescriptor "(I)I" = some ⟨[.int], some .int⟩ := by decide +kernel
theorem pd_7 : parseMethodDescriptor "([III)V" = some ⟨[(.array .int), .int, .int], none⟩ := by decide +kernel
theorem d5_0 : decode jdk_29_method_70_code 0 = .ok (.lload_n 0, 1) := by decide +kernel
theorem d5_1 : decode jdk_29_method_70_code 1 = .ok (.lload_n 2, 1) := by decide +kernel
theorem d5_2 : decode jdk_29_method_70_code 2 = .ok (.lcmp, 1) := by decide +kernel
theorem d5_3 : decode jdk_29_method_70_code 3 = .ok (.ifCond .gt 7, 3) := by decide +kernel
theorem d5_6 : decode jdk_29_method_70_code 6 = .ok (.lload_n 0, 1) := by decide +kernel
theorem d5_7 : decode jdk_29_method_70_code 7 = .ok (.goto 4, 3) := by decide +kernel
theorem d5_10 : decode jdk_29_method_70_code 10 = .ok (.lload_n 2, 1) := by decide +kernel
theorem d5_11 : decode jdk_29_method_70_code 11 = .ok (.lreturn, 1) := by decide +kernel
theorem ef_rm5 (m : MethodId) (x1 : Int64) (x2 : Int64) : entryFrame m #[(.long x1), (.long x2)] 4 = mkF m 0 #[.val (.long x1), .second, .val (.long x2), .second] [] := by first | (simp [entryFrame, mkF, argsToLocals, Value.category]; done) | rfl
def Q_rm5 (Z : State) (x1 : Int64) (x2 : Int64) (h0 : Heap) (n0 : Nat) (v : Option Value) (h : Heap) (L : List Loc) : Prop := v = some (.long (own_minj x1 x2)) ∧ Fr n0 L ∧ h = h0
set_option maxRecDepth 65536 in
set_option maxHeartbeats 40000000 in
theorem rm5 (l : Launch) (Z : State) (a0 : Array Value) (hw : ∀ d ∈ tables_1, d.before a0 Z = true) (ws : List Jvm.Cond) (x1 : Int64) (x2 : Int64) (h0 : Heap) (n0 : Nat) (Z0 : n0 ≤ h0.size) :
    MetFree l (⟨"java/lang/Math", "min", "(JJ)J"⟩ : MethodName) (head1 (Jvm.Cond.code (⟨"java/lang/Math", "min", "(JJ)J"⟩ : MethodName) jdk_29_method_70_code 4 (some .long) :: ws) ({ frames := 0, cells := 0, slots := 0, locals := 0 } : Room)) (fun as₉ U => as₉ = #[(.long x1), (.long x2)] ∧ Z.Warmed39 U.vm ∧ U.heap = h0) (fun _ _ _ _ _ => True) (fun _ U o₉ U' => ∃ v L, o₉ = .returned v ∧ Q_rm5 Z x1 x2 h0 n0 v U'.heap L ∧ FrameEnd U o₉ U' L ({ frames := 0, cells := 0, slots := 0, locals := 0 } : Room).cells ({ frames := 0, cells := 0, slots := 0, locals := 0 } : Room).slots) := by
  refine MetFree.of_bodySF (Jvm.Free.JP.mathPlain rfl (by decide +kernel)) hisR ?_
  intro p e s m args below meth c s₁ Bd hml0 hP hK
  obtain ⟨rfl, hZ, hh⟩ := hP
  have hx := Bd.exec
  have hby := Bd.bytes
  have hml : c.maxLocals = 4 := hml0
  have hown : s.vm.findClass "java/lang/Math" = some m.cls := findClass_of_methodNamed Bd.named
  have hnm := (name_of_methodNamed Bd.named Bd.method).1
  have X0 : Stand p l e ({ frames := 0, cells := 0, slots := 0, locals := 0 } : Room) s m #[(.long x1), (.long x2)] below meth c s₁ [] 0 0 := Stand.of_body Bd
  have e0 : s₁.heap = h0 := by rw [← hh, Bd.state]; rfl
  have N0 := Fr.nil n0
  show own_Go p e below (fun s₂ o₉ => s₂.status = .running ∧ Ended s₂ below o₉ ∧ ∃ v L, o₉ = .returned v ∧ Q_rm5 Z x1 x2 h0 n0 v s₂.heap L ∧ FrameEnd s o₉ s₂ L ({ frames := 0, cells := 0, slots := 0, locals := 0 } : Room).cells ({ frames := 0, cells := 0, slots := 0, locals := 0 } : Room).slots) (s₁.setTop (entryFrame m #[(.long x1), (.long x2)] 4))
  rw [ef_rm5 m x1 x2]
  refine own_step (s₁.setTop (mkF m 1 #[.val (.long x1), .second, .val (.long x2), .second] [(.long x1)])) (fun t₀ k₀ => XS.lloadN X0.here hx rfl (hb hby d5_0) rfl k₀) ?_
  refine own_step (s₁.setTop (mkF m 2 #[.val (.long x1), .second, .val (.long x2), .second] [(.long x2), (.long x1)])) (fun t₀ k₀ => XS.lloadN X0.here hx rfl (hb hby d5_1) rfl k₀) ?_
  refine own_step (s₁.setTop (mkF m 3 #[.val (.long x1), .second, .val (.long x2), .second] [(.int (lcmpW x1 x2))])) (fun t₀ k₀ => XS.lcmp X0.here hx rfl (hb hby d5_2) rfl k₀) ?_
  by_cases hc3 : x2 < x1
  · skip
    refine own_step (s₁.setTop (mkF m 10 #[.val (.long x1), .second, .val (.long x2), .second] [])) (fun t₀ k₀ => XS.ifYes X0.here hx rfl (pc0 := 3) (pc' := 10) rfl (hb hby d5_3) rfl (own_lgtT hc3) (by decide) (by decide) k₀) ?_
    refine own_step (s₁.setTop (mkF m 11 #[.val (.long x1), .second, .val (.long x2), .second] [(.long x2)])) (fun t₀ k₀ => XS.lloadN X0.here hx rfl (hb hby d5_10) rfl k₀) ?_
    obtain ⟨fs, hr, hrun, hended, hW, hsame⟩ := X0.leave (v := some (.long x2)) (fun h => by rw [Bd.returns] at h; cases h)
    refine ⟨_, _, ?_, hrun, hended, _, _, rfl, ?_, ⟨_, rfl⟩, hW, hsame.mono (by decide) (by decide)⟩
    · jvm_step X0.here [X0.here.top, hx, (hb hby d5_11), X0.method', Bd.returns, narrow]
      first | (intro acts; rw [hr _ acts rfl rfl rfl]) | rw [hr _ _ rfl rfl rfl]
      exact Steps.refl _
    · show Q_rm5 Z x1 x2 h0 n0 _ s₁.heap _
      rw [e0]
      exact ⟨by simp [own_minj, hc3], N0, rfl⟩
  · skip
    refine own_step (s₁.setTop (mkF m 6 #[.val (.long x1), .second, .val (.long x2), .second] [])) (fun t₀ k₀ => XS.ifNo X0.here hx rfl (hb hby d5_3) rfl (own_lgtF hc3) k₀) ?_
    refine own_step (s₁.setTop (mkF m 7 #[.val (.long x1), .second, .val (.long x2), .second] [(.long x1)])) (fun t₀ k₀ => XS.lloadN X0.here hx rfl (hb hby d5_6) rfl k₀) ?_
    refine own_step (s₁.setTop (mkF m 11 #[.val (.long x1), .second, .val (.long x2), .second] [(.long x1)])) (fun t₀ k₀ => XS.goto X0.here hx rfl (pc0 := 7) (pc' := 11) rfl (hb hby d5_7) (by decide) (by decide) k₀) ?_
    obtain ⟨fs, hr, hrun, hended, hW, hsame⟩ := X0.leave (v := some (.long x1)) (fun h => by rw [Bd.returns] at h; cases h)
    refine ⟨_, _, ?_, hrun, hended, _, _, rfl, ?_, ⟨_, rfl⟩, hW, hsame.mono (by decide) (by decide)⟩
    · jvm_step X0.here [X0.here.top, hx, (hb hby d5_11), X0.method', Bd.returns, narrow]
      first | (intro acts; rw [hr _ acts rfl rfl rfl]) | rw [hr _ _ rfl rfl rfl]
      exact Steps.refl _
    · show Q_rm5 Z x1 x2 h0 n0 _ s₁.heap _
      rw [e0]
      exact ⟨by simp [own_minj, hc3], N0, rfl⟩
theorem d6_0 : decode jdk_29_method_65_code 0 = .ok (.iload_n 0, 1) := by decide +kernel
theorem d6_1 : decode jdk_29_method_65_code 1 = .ok (.iload_n 1, 1) := by decide +kernel
theorem d6_2 : decode jdk_29_method_65_code 2 = .ok (.if_icmp .lt 7, 3) := by decide +kernel
theorem d6_5 : decode jdk_29_method_65_code 5 = .ok (.iload_n 0, 1) := by decide +kernel
theorem d6_6 : decode jdk_29_method_65_code 6 = .ok (.goto 4, 3) := by decide +kernel
theorem d6_9 : decode jdk_29_method_65_code 9 = .ok (.iload_n 1, 1) := by decide +kernel
theorem d6_10 : decode jdk_29_method_65_code 10 = .ok (.ireturn, 1) := by decide +kernel
theorem ef_rm6 (m : MethodId) (x1 : Int32) (x2 : Int32) : entryFrame m #[(.int x1), (.int x2)] 2 = mkF m 0 #[.val (.int x1), .val (.int x2)] [] := by first | (simp [entryFrame, mkF, argsToLocals, Value.category]; done) | rfl
def Q_rm6 (Z : State) (x1 : Int32) (x2 : Int32) (h0 : Heap) (n0 : Nat) (v : Option Value) (h : Heap) (L : List Loc) : Prop := v = some (.int (own_imax x1 x2)) ∧ Fr n0 L ∧ h = h0
set_option maxRecDepth 65536 in
set_option maxHeartbeats 40000000 in
theorem rm6 (l : Launch) (Z : State) (a0 : Array Value) (hw : ∀ d ∈ tables_1, d.before a0 Z = true) (ws : List Jvm.Cond) (x1 : Int32) (x2 : Int32) (h0 : Heap) (n0 : Nat) (Z0 : n0 ≤ h0.size) :
    MetFree l (⟨"java/lang/Math", "max", "(II)I"⟩ : MethodName) (head1 (Jvm.Cond.code (⟨"java/lang/Math", "max", "(II)I"⟩ : MethodName) jdk_29_method_65_code 2 (some .int) :: ws) ({ frames := 0, cells := 0, slots := 0, locals := 0 } : Room)) (fun as₉ U => as₉ = #[(.int x1), (.int x2)] ∧ Z.Warmed39 U.vm ∧ U.heap = h0) (fun _ _ _ _ _ => True) (fun _ U o₉ U' => ∃ v L, o₉ = .returned v ∧ Q_rm6 Z x1 x2 h0 n0 v U'.heap L ∧ FrameEnd U o₉ U' L ({ frames := 0, cells := 0, slots := 0, locals := 0 } : Room).cells ({ frames := 0, cells := 0, slots := 0, locals := 0 } : Room).slots) := by
  refine MetFree.of_bodySF (Jvm.Free.JP.mathPlain rfl (by decide +kernel)) hisR ?_
  intro p e s m args below meth c s₁ Bd hml0 hP hK
  obtain ⟨rfl, hZ, hh⟩ := hP
  have hx := Bd.exec
  have hby := Bd.bytes
  have hml : c.maxLocals = 2 := hml0
  have hown : s.vm.findClass "java/lang/Math" = some m.cls := findClass_of_methodNamed Bd.named
  have hnm := (name_of_methodNamed Bd.named Bd.method).1
  have X0 : Stand p l e ({ frames := 0, cells := 0, slots := 0, locals := 0 } : Room) s m #[(.int x1), (.int x2)] below meth c s₁ [] 0 0 := Stand.of_body Bd
  have e0 : s₁.heap = h0 := by rw [← hh, Bd.state]; rfl
  have N0 := Fr.nil n0
  show own_Go p e below (fun s₂ o₉ => s₂.status = .running ∧ Ended s₂ below o₉ ∧ ∃ v L, o₉ = .returned v ∧ Q_rm6 Z x1 x2 h0 n0 v s₂.heap L ∧ FrameEnd s o₉ s₂ L ({ frames := 0, cells := 0, slots := 0, locals := 0 } : Room).cells ({ frames := 0, cells := 0, slots := 0, locals := 0 } : Room).slots) (s₁.setTop (entryFrame m #[(.int x1), (.int x2)] 2))
  rw [ef_rm6 m x1 x2]
  refine own_step (s₁.setTop (mkF m 1 #[.val (.int x1), .val (.int x2)] [(.int x1)])) (fun t₀ k₀ => XS.iloadN X0.here hx rfl (hb hby d6_0) rfl k₀) ?_
  refine own_step (s₁.setTop (mkF m 2 #[.val (.int x1), .val (.int x2)] [(.int x2), (.int x1)])) (fun t₀ k₀ => XS.iloadN X0.here hx rfl (hb hby d6_1) rfl k₀) ?_
  by_cases hc2 : x1 < x2
  · skip
    refine own_step (s₁.setTop (mkF m 9 #[.val (.int x1), .val (.int x2)] [])) (fun t₀ k₀ => XS.icmpYes X0.here hx rfl (pc0 := 2) (pc' := 9) rfl (hb hby d6_2) rfl (tlt hc2).1 (by decide) (by decide) k₀) ?_
    refine own_step (s₁.setTop (mkF m 10 #[.val (.int x1), .val (.int x2)] [(.int x2)])) (fun t₀ k₀ => XS.iloadN X0.here hx rfl (hb hby d6_9) rfl k₀) ?_
    obtain ⟨fs, hr, hrun, hended, hW, hsame⟩ := X0.leave (v := some (.int x2)) (fun h => by rw [Bd.returns] at h; cases h)
    refine ⟨_, _, ?_, hrun, hended, _, _, rfl, ?_, ⟨_, rfl⟩, hW, hsame.mono (by decide) (by decide)⟩
    · exact retI X0 hx Bd.returns (hb hby d6_10) hr
    · show Q_rm6 Z x1 x2 h0 n0 _ s₁.heap _
      rw [e0]
      exact ⟨by simp [own_imax, hc2], N0, rfl⟩
  · skip
    refine own_step (s₁.setTop (mkF m 5 #[.val (.int x1), .val (.int x2)] [])) (fun t₀ k₀ => XS.icmpNo X0.here hx rfl (hb hby d6_2) rfl (flt hc2).1 k₀) ?_
    refine own_step (s₁.setTop (mkF m 6 #[.val (.int x1), .val (.int x2)] [(.int x1)])) (fun t₀ k₀ => XS.iloadN X0.here hx rfl (hb hby d6_5) rfl k₀) ?_
    refine own_step (s₁.setTop (mkF m 10 #[.val (.int x1), .val (.int x2)] [(.int x1)])) (fun t₀ k₀ => XS.goto X0.here hx rfl (pc0 := 6) (pc' := 10) rfl (hb hby d6_6) (by decide) (by decide) k₀) ?_
    obtain ⟨fs, hr, hrun, hended, hW, hsame⟩ := X0.leave (v := some (.int x1)) (fun h => by rw [Bd.returns] at h; cases h)
    refine ⟨_, _, ?_, hrun, hended, _, _, rfl, ?_, ⟨_, rfl⟩, hW, hsame.mono (by decide) (by decide)⟩
    · exact retI X0 hx Bd.returns (hb hby d6_10) hr
    · show Q_rm6 Z x1 x2 h0 n0 _ s₁.heap _
      rw [e0]
      exact ⟨by simp [own_imax, hc2], N0, rfl⟩
theorem d8_0 : decode jdk_29_method_69_code 0 = .ok (.iload_n 0, 1) := by decide +kernel
theorem d8_1 : decode jdk_29_method_69_code 1 = .ok (.iload_n 1, 1) := by decide +kernel
theorem d8_2 : decode jdk_29_method_69_code 2 = .ok (.if_icmp .gt 7, 3) := by decide +kernel
theorem d8_5 : decode jdk_29_method_69_code 5 = .ok (.iload_n 0, 1) := by decide +kernel
theorem d8_6 : decode jdk_29_method_69_code 6 = .ok (.goto 4, 3) := by decide +kernel
theorem d8_9 : decode jdk_29_method_69_code 9 = .ok (.iload_n 1, 1) := by decide +kernel
theorem d8_10 : decode jdk_29_method_69_code 10 = .ok (.ireturn, 1) := by decide +kernel
theorem ef_rm8 (m : MethodId) (x1 : Int32) (x2 : Int32) : entryFrame m #[(.int x1), (.int x2)] 2 = mkF m 0 #[.val (.int x1), .val (.int x2)] [] := by first | (simp [entryFrame, mkF, argsToLocals, Value.category]; done) | rfl
def Q_rm8 (Z : State) (x1 : Int32) (x2 : Int32) (h0 : Heap) (n0 : Nat) (v : Option Value) (h : Heap) (L : List Loc) : Prop := v = some (.int (own_imin x1 x2)) ∧ Fr n0 L ∧ h = h0
set_option maxRecDepth 65536 in
set_option maxHeartbeats 40000000 in
theorem rm8 (l : Launch) (Z : State) (a0 : Array Value) (hw : ∀ d ∈ tables_1, d.before a0 Z = true) (ws : List Jvm.Cond) (x1 : Int32) (x2 : Int32) (h0 : Heap) (n0 : Nat) (Z0 : n0 ≤ h0.size) :
    MetFree l (⟨"java/lang/Math", "min", "(II)I"⟩ : MethodName) (head1 (Jvm.Cond.code (⟨"java/lang/Math", "min", "(II)I"⟩ : MethodName) jdk_29_method_69_code 2 (some .int) :: ws) ({ frames := 0, cells := 0, slots := 0, locals := 0 } : Room)) (fun as₉ U => as₉ = #[(.int x1), (.int x2)] ∧ Z.Warmed39 U.vm ∧ U.heap = h0) (fun _ _ _ _ _ => True) (fun _ U o₉ U' => ∃ v L, o₉ = .returned v ∧ Q_rm8 Z x1 x2 h0 n0 v U'.heap L ∧ FrameEnd U o₉ U' L ({ frames := 0, cells := 0, slots := 0, locals := 0 } : Room).cells ({ frames := 0, cells := 0, slots := 0, locals := 0 } : Room).slots) := by
  refine MetFree.of_bodySF (Jvm.Free.JP.mathPlain rfl (by decide +kernel)) hisR ?_
  intro p e s m args below meth c s₁ Bd hml0 hP hK
  obtain ⟨rfl, hZ, hh⟩ := hP
  have hx := Bd.exec
  have hby := Bd.bytes
  have hml : c.maxLocals = 2 := hml0
  have hown : s.vm.findClass "java/lang/Math" = some m.cls := findClass_of_methodNamed Bd.named
  have hnm := (name_of_methodNamed Bd.named Bd.method).1
  have X0 : Stand p l e ({ frames := 0, cells := 0, slots := 0, locals := 0 } : Room) s m #[(.int x1), (.int x2)] below meth c s₁ [] 0 0 := Stand.of_body Bd
  have e0 : s₁.heap = h0 := by rw [← hh, Bd.state]; rfl
  have N0 := Fr.nil n0
  show own_Go p e below (fun s₂ o₉ => s₂.status = .running ∧ Ended s₂ below o₉ ∧ ∃ v L, o₉ = .returned v ∧ Q_rm8 Z x1 x2 h0 n0 v s₂.heap L ∧ FrameEnd s o₉ s₂ L ({ frames := 0, cells := 0, slots := 0, locals := 0 } : Room).cells ({ frames := 0, cells := 0, slots := 0, locals := 0 } : Room).slots) (s₁.setTop (entryFrame m #[(.int x1), (.int x2)] 2))
  rw [ef_rm8 m x1 x2]
  refine own_step (s₁.setTop (mkF m 1 #[.val (.int x1), .val (.int x2)] [(.int x1)])) (fun t₀ k₀ => XS.iloadN X0.here hx rfl (hb hby d8_0) rfl k₀) ?_
  refine own_step (s₁.setTop (mkF m 2 #[.val (.int x1), .val (.int x2)] [(.int x2), (.int x1)])) (fun t₀ k₀ => XS.iloadN X0.here hx rfl (hb hby d8_1) rfl k₀) ?_
  by_cases hc2 : x2 < x1
  · skip
    refine own_step (s₁.setTop (mkF m 9 #[.val (.int x1), .val (.int x2)] [])) (fun t₀ k₀ => XS.icmpYes X0.here hx rfl (pc0 := 2) (pc' := 9) rfl (hb hby d8_2) rfl (tlt hc2).2.2.1 (by decide) (by decide) k₀) ?_
    refine own_step (s₁.setTop (mkF m 10 #[.val (.int x1), .val (.int x2)] [(.int x2)])) (fun t₀ k₀ => XS.iloadN X0.here hx rfl (hb hby d8_9) rfl k₀) ?_
    obtain ⟨fs, hr, hrun, hended, hW, hsame⟩ := X0.leave (v := some (.int x2)) (fun h => by rw [Bd.returns] at h; cases h)
    refine ⟨_, _, ?_, hrun, hended, _, _, rfl, ?_, ⟨_, rfl⟩, hW, hsame.mono (by decide) (by decide)⟩
    · exact retI X0 hx Bd.returns (hb hby d8_10) hr
    · show Q_rm8 Z x1 x2 h0 n0 _ s₁.heap _
      rw [e0]
      exact ⟨by simp [own_imin, hc2], N0, rfl⟩
  · skip
    refine own_step (s₁.setTop (mkF m 5 #[.val (.int x1), .val (.int x2)] [])) (fun t₀ k₀ => XS.icmpNo X0.here hx rfl (hb hby d8_2) rfl (flt hc2).2.2.1 k₀) ?_
    refine own_step (s₁.setTop (mkF m 6 #[.val (.int x1), .val (.int x2)] [(.int x1)])) (fun t₀ k₀ => XS.iloadN X0.here hx rfl (hb hby d8_5) rfl k₀) ?_
    refine own_step (s₁.setTop (mkF m 10 #[.val (.int x1), .val (.int x2)] [(.int x1)])) (fun t₀ k₀ => XS.goto X0.here hx rfl (pc0 := 6) (pc' := 10) rfl (hb hby d8_6) (by decide) (by decide) k₀) ?_
    obtain ⟨fs, hr, hrun, hended, hW, hsame⟩ := X0.leave (v := some (.int x1)) (fun h => by rw [Bd.returns] at h; cases h)
    refine ⟨_, _, ?_, hrun, hended, _, _, rfl, ?_, ⟨_, rfl⟩, hW, hsame.mono (by decide) (by decide)⟩
    · exact retI X0 hx Bd.returns (hb hby d8_10) hr
    · show Q_rm8 Z x1 x2 h0 n0 _ s₁.heap _
      rw [e0]
      exact ⟨by simp [own_imin, hc2], N0, rfl⟩
theorem d9_0 : decode prog_7_method_3_code 0 = .ok (.iconst 0, 1) := by decide +kernel
theorem d9_1 : decode prog_7_method_3_code 1 = .ok (.istore_n 2, 1) := by decide +kernel
theorem d9_2 : decode prog_7_method_3_code 2 = .ok (.iload_n 1, 1) := by decide +kernel
theorem d9_3 : decode prog_7_method_3_code 3 = .ok (.aload_n 0, 1) := by decide +kernel
theorem d9_4 : decode prog_7_method_3_code 4 = .ok (.getfield 9, 3) := by decide +kernel
theorem d9_7 : decode prog_7_method_3_code 7 = .ok (.arraylength, 1) := by decide +kernel
theorem d9_8 : decode prog_7_method_3_code 8 = .ok (.iconst 1, 1) := by decide +kernel
theorem d9_9 : decode prog_7_method_3_code 9 = .ok (.isub, 1) := by decide +kernel
theorem d9_10 : decode prog_7_method_3_code 10 = .ok (.invokestatic 23, 3) := by decide +kernel
theorem d9_13 : decode prog_7_method_3_code 13 = .ok (.istore_n 3, 1) := by decide +kernel
theorem d9_14 : decode prog_7_method_3_code 14 = .ok (.iload_n 3, 1) := by decide +kernel
theorem d9_15 : decode prog_7_method_3_code 15 = .ok (.ifCond .le 22, 3) := by decide +kernel
theorem d9_18 : decode prog_7_method_3_code 18 = .ok (.iload_n 2, 1) := by decide +kernel
theorem d9_19 : decode prog_7_method_3_code 19 = .ok (.aload_n 0, 1) := by decide +kernel
theorem d9_20 : decode prog_7_method_3_code 20 = .ok (.getfield 9, 3) := by decide +kernel
theorem d9_23 : decode prog_7_method_3_code 23 = .ok (.iload_n 3, 1) := by decide +kernel
theorem d9_24 : decode prog_7_method_3_code 24 = .ok (.iaload, 1) := by decide +kernel
theorem d9_25 : decode prog_7_method_3_code 25 = .ok (.iadd, 1) := by decide +kernel
theorem d9_26 : decode prog_7_method_3_code 26 = .ok (.istore_n 2, 1) := by decide +kernel
theorem d9_27 : decode prog_7_method_3_code 27 = .ok (.iload_n 3, 1) := by decide +kernel
theorem d9_28 : decode prog_7_method_3_code 28 = .ok (.iload_n 3, 1) := by decide +kernel
theorem d9_29 : decode prog_7_method_3_code 29 = .ok (.iload_n 3, 1) := by decide +kernel
theorem d9_30 : decode prog_7_method_3_code 30 = .ok (.ineg, 1) := by decide +kernel
theorem d9_31 : decode prog_7_method_3_code 31 = .ok (.iand, 1) := by decide +kernel
theorem d9_32 : decode prog_7_method_3_code 32 = .ok (.isub, 1) := by decide +kernel
theorem d9_33 : decode prog_7_method_3_code 33 = .ok (.istore_n 3, 1) := by decide +kernel
theorem d9_34 : decode prog_7_method_3_code 34 = .ok (.goto (-20), 3) := by decide +kernel
theorem d9_37 : decode prog_7_method_3_code 37 = .ok (.iload_n 2, 1) := by decide +kernel
theorem d9_38 : decode prog_7_method_3_code 38 = .ok (.ireturn, 1) := by decide +kernel
theorem pn_9 : plainName "com/example/syncopate/syncopate/DeletedRows" = true := by first | (simp [plainName, overriddenIn]; done) | decide +kernel
theorem ef_rm9 (m : MethodId) (a : Addr) (q : Int32) : entryFrame m #[(.ref a), (.int q)] 4 = mkF m 0 #[.val (.ref a), .val (.int q), .unset, .unset] [] := by first | (simp [entryFrame, mkF, argsToLocals, Value.category]; done) | rfl
def Q_rm9 (Z : State) (a : Addr) (q : Int32) (ct : Addr) (kc : ClassId) (N : Nat) (f : Nat → Int32) (D : List Nat) (h0 : Heap) (n0 : Nat) (v : Option Value) (h : Heap) (L : List Loc) : Prop := v = some (.int (Int32.ofNat (own_cnt D 0 (own_M q N)))) ∧ Fr n0 L ∧ h = h0
set_option maxRecDepth 65536 in
set_option maxHeartbeats 40000000 in
theorem rm9 (l : Launch) (Z : State) (a0 : Array Value) (hw : ∀ d ∈ tables_1, d.before a0 Z = true) (ws : List Jvm.Cond) (a : Addr) (q : Int32) (ct : Addr) (kc : ClassId) (N : Nat) (f : Nat → Int32) (D : List Nat) (h0 : Heap) (n0 : Nat) (Z0 : n0 ≤ h0.size) (Fc : Fld Z h0 a "com/example/syncopate/syncopate/DeletedRows" "counts" "[I" (.ref ct)) (Va : Arv Z h0 ct kc .int (Int32.ofNat N) (own_L N f) (.int (0 : Int32))) (hN1 : 1 ≤ N) (hN2 : N < 1024) (hI : own_To D (own_M q N) f) :
    MetFree l (⟨"com/example/syncopate/syncopate/DeletedRows", "through", "(I)I"⟩ : MethodName) (head1 (Jvm.Cond.code (⟨"com/example/syncopate/syncopate/DeletedRows", "through", "(I)I"⟩ : MethodName) prog_7_method_3_code 4 (some .int) :: ws) ({ frames := 1, cells := 0, slots := 0, locals := 13 } : Room)) (fun as₉ U => as₉ = #[(.ref a), (.int q)] ∧ Z.Warmed39 U.vm ∧ U.heap = h0) (fun _ _ _ _ _ => True) (fun _ U o₉ U' => ∃ v L, o₉ = .returned v ∧ Q_rm9 Z a q ct kc N f D h0 n0 v U'.heap L ∧ FrameEnd U o₉ U' L ({ frames := 1, cells := 0, slots := 0, locals := 13 } : Room).cells ({ frames := 1, cells := 0, slots := 0, locals := 13 } : Room).slots) := by
  refine MetFree.of_bodySF (plainFor_of_name pn_9) hisR ?_
  intro p e s m args below meth c s₁ Bd hml0 hP hK
  obtain ⟨rfl, hZ, hh⟩ := hP
  have hx := Bd.exec
  have hby := Bd.bytes
  have hml : c.maxLocals = 4 := hml0
  have hown : s.vm.findClass "com/example/syncopate/syncopate/DeletedRows" = some m.cls := findClass_of_methodNamed Bd.named
  have hnm := (name_of_methodNamed Bd.named Bd.method).1
  have X0 : Stand p l e ({ frames := 1, cells := 0, slots := 0, locals := 13 } : Room) s m #[(.ref a), (.int q)] below meth c s₁ [] 0 0 := Stand.of_body Bd
  have e0 : s₁.heap = h0 := by rw [← hh, Bd.state]; rfl
  have N0 := Fr.nil n0
  have cut14 : ∀ (kk : Nat) (i : Nat) (sd : Int32) (x : Int32) (Tc14 : State) (lc14 : List Loc) (Nc14 : Fr n0 lc14) (Xc14 : Stand p l e ({ frames := 1, cells := 0, slots := 0, locals := 13 } : Room) s m #[(.ref a), (.int q)] below meth c Tc14 lc14 0 0) (ec14 : Tc14.heap = h0) (hik : i ≤ kk) (hX : own_X i x) (hiN : i < N) (hiM : i ≤ own_M q N) (hs : sd + Int32.ofNat (own_cnt D 0 i) = Int32.ofNat (own_cnt D 0 (own_M q N))), own_Go p e below (fun s₂ o₉ => s₂.status = .running ∧ Ended s₂ below o₉ ∧ ∃ v L, o₉ = .returned v ∧ Q_rm9 Z a q ct kc N f D h0 n0 v s₂.heap L ∧ FrameEnd s o₉ s₂ L ({ frames := 1, cells := 0, slots := 0, locals := 13 } : Room).cells ({ frames := 1, cells := 0, slots := 0, locals := 13 } : Room).slots) (Tc14.setTop (mkF m 14 #[.val (.ref a), .val (.int q), .val (.int sd), .val (.int x)] [])) := by
    intro kk
    induction kk with
    | zero => 
      intro i sd x Tc14 lc14 Nc14 Xc14 ec14 hik hX hiN hiM hs
      refine own_step (Tc14.setTop (mkF m 15 #[.val (.ref a), .val (.int q), .val (.int sd), .val (.int x)] [(.int x)])) (fun t₀ k₀ => XS.iloadN Xc14.here hx rfl (hb hby d9_14) rfl k₀) ?_
      by_cases hc15 : (0 : Int32) < x
      · skip
        exfalso
        exact absurd (own_X0 hX hc15).1 (by omega)
      · skip
        refine own_step (Tc14.setTop (mkF m 37 #[.val (.ref a), .val (.int q), .val (.int sd), .val (.int x)] [])) (fun t₀ k₀ => XS.ifYes Xc14.here hx rfl (pc0 := 15) (pc' := 37) rfl (hb hby d9_15) rfl ((if0 _ _).trans (flt hc15).2.2.2) (by decide) (by decide) k₀) ?_
        refine own_step (Tc14.setTop (mkF m 38 #[.val (.ref a), .val (.int q), .val (.int sd), .val (.int x)] [(.int sd)])) (fun t₀ k₀ => XS.iloadN Xc14.here hx rfl (hb hby d9_37) rfl k₀) ?_
        obtain ⟨fs, hr, hrun, hended, hW, hsame⟩ := Xc14.leave (v := some (.int sd)) (fun h => by rw [Bd.returns] at h; cases h)
        refine ⟨_, _, ?_, hrun, hended, _, _, rfl, ?_, ⟨_, rfl⟩, hW, hsame.mono (by decide) (by decide)⟩
        · exact retI Xc14 hx Bd.returns (hb hby d9_38) hr
        · show Q_rm9 Z a q ct kc N f D h0 n0 _ Tc14.heap _
          rw [ec14]
          exact ⟨congrArg (fun z => some (Value.int z)) (own_thr0 hs (own_X1 (by omega) hX hc15)), Nc14, rfl⟩
    | succ kk ih => 
      intro i sd x Tc14 lc14 Nc14 Xc14 ec14 hik hX hiN hiM hs
      refine own_step (Tc14.setTop (mkF m 15 #[.val (.ref a), .val (.int q), .val (.int sd), .val (.int x)] [(.int x)])) (fun t₀ k₀ => XS.iloadN Xc14.here hx rfl (hb hby d9_14) rfl k₀) ?_
      by_cases hc15 : (0 : Int32) < x
      · skip
        refine own_step (Tc14.setTop (mkF m 18 #[.val (.ref a), .val (.int q), .val (.int sd), .val (.int x)] [])) (fun t₀ k₀ => XS.ifNo Xc14.here hx rfl (hb hby d9_15) rfl ((if0 _ _).trans (tlt hc15).2.2.2) k₀) ?_
        obtain ⟨h0i, exi⟩ := own_X0 hX hc15
        refine own_step (Tc14.setTop (mkF m 19 #[.val (.ref a), .val (.int q), .val (.int sd), .val (.int x)] [(.int sd)])) (fun t₀ k₀ => XS.iloadN Xc14.here hx rfl (hb hby d9_18) rfl k₀) ?_
        refine own_step (Tc14.setTop (mkF m 20 #[.val (.ref a), .val (.int q), .val (.int sd), .val (.int x)] [(.ref a), (.int sd)])) (fun t₀ k₀ => XS.aloadN Xc14.here hx rfl (hb hby d9_19) rfl rfl k₀) ?_
        obtain ⟨T1, X1, e1, st1⟩ := getF Xc14 hx hZ hown (host := "") (Or.inl (hw _ (List.mem_of_getElem? (i := 10) rfl))) Via.refl ec14 Fc (g := (mkF m 20 #[.val (.ref a), .val (.int q), .val (.int sd), .val (.int x)] [(.ref a), (.int sd)])) rfl rfl (hb hby d9_20)
        refine own_step (T1.setTop (mkF m 23 #[.val (.ref a), .val (.int q), .val (.int sd), .val (.int x)] [(.ref ct), (.int sd)])) (fun t₀ k₀ => st1 t₀ k₀) ?_
        refine own_step (T1.setTop (mkF m 24 #[.val (.ref a), .val (.int q), .val (.int sd), .val (.int x)] [(.int x), (.ref ct), (.int sd)])) (fun t₀ k₀ => XS.iloadN X1.here hx rfl (hb hby d9_23) rfl k₀) ?_
        obtain ⟨clo2, Aro2, qo2, So2, Mo2, Ho2, Go2⟩ := id Va
        have hino2 : ¬ (x < 0 ∨ clo2.slots.size ≤ (x).toNatClampNeg) := inb_of So2 (own_in exi hiN (by omega))
        have hato2 : clo2.slots[(x).toNatClampNeg]? = some (.int (f i)) := Has.at Ho2 hino2 (own_at exi hiN (by omega))
        refine own_step (T1.setTop (mkF m 25 #[.val (.ref a), .val (.int q), .val (.int sd), .val (.int x)] [(.int (f i)), (.int sd)])) (fun t₀ k₀ => X1.iaload hx (j := x) (v := (.int (f i))) (by rw [e1]; exact Aro2.1) (State.isArrayOf_alike hZ.alike Aro2.2.1) Aro2.2.2 hino2 hato2 (g := (mkF m 24 #[.val (.ref a), .val (.int q), .val (.int sd), .val (.int x)] [(.int x), (.ref ct), (.int sd)])) rfl rfl (hb hby d9_24) _ k₀) ?_
        refine own_step (T1.setTop (mkF m 26 #[.val (.ref a), .val (.int q), .val (.int sd), .val (.int x)] [(.int (sd + (f i)))])) (fun t₀ k₀ => XS.iadd X1.here hx rfl (hb hby d9_25) rfl k₀) ?_
        refine own_step (T1.setTop (mkF m 27 #[.val (.ref a), .val (.int q), .val (.int (sd + (f i))), .val (.int x)] [])) (fun t₀ k₀ => XS.istoreN X1.here hx rfl (hb hby d9_26) rfl (l' := #[.val (.ref a), .val (.int q), .val (.int (sd + (f i))), .val (.int x)]) rfl k₀) ?_
        refine own_step (T1.setTop (mkF m 28 #[.val (.ref a), .val (.int q), .val (.int (sd + (f i))), .val (.int x)] [(.int x)])) (fun t₀ k₀ => XS.iloadN X1.here hx rfl (hb hby d9_27) rfl k₀) ?_
        refine own_step (T1.setTop (mkF m 29 #[.val (.ref a), .val (.int q), .val (.int (sd + (f i))), .val (.int x)] [(.int x), (.int x)])) (fun t₀ k₀ => XS.iloadN X1.here hx rfl (hb hby d9_28) rfl k₀) ?_
        refine own_step (T1.setTop (mkF m 30 #[.val (.ref a), .val (.int q), .val (.int (sd + (f i))), .val (.int x)] [(.int x), (.int x), (.int x)])) (fun t₀ k₀ => XS.iloadN X1.here hx rfl (hb hby d9_29) rfl k₀) ?_
        refine own_step (T1.setTop (mkF m 31 #[.val (.ref a), .val (.int q), .val (.int (sd + (f i))), .val (.int x)] [(.int (-x)), (.int x), (.int x)])) (fun t₀ k₀ => XS.ineg X1.here hx rfl (hb hby d9_30) rfl k₀) ?_
        refine own_step (T1.setTop (mkF m 32 #[.val (.ref a), .val (.int q), .val (.int (sd + (f i))), .val (.int x)] [(.int (x &&& (-x))), (.int x)])) (fun t₀ k₀ => XS.iand X1.here hx rfl (hb hby d9_31) rfl k₀) ?_
        refine own_step (T1.setTop (mkF m 33 #[.val (.ref a), .val (.int q), .val (.int (sd + (f i))), .val (.int x)] [(.int (x - (x &&& (-x))))])) (fun t₀ k₀ => XS.isub X1.here hx rfl (hb hby d9_32) rfl k₀) ?_
        refine own_step (T1.setTop (mkF m 34 #[.val (.ref a), .val (.int q), .val (.int (sd + (f i))), .val (.int (x - (x &&& (-x))))] [])) (fun t₀ k₀ => XS.istoreN X1.here hx rfl (hb hby d9_33) rfl (l' := #[.val (.ref a), .val (.int q), .val (.int (sd + (f i))), .val (.int (x - (x &&& (-x))))]) rfl k₀) ?_
        refine own_step (T1.setTop (mkF m 14 #[.val (.ref a), .val (.int q), .val (.int (sd + (f i))), .val (.int (x - (x &&& (-x))))] [])) (fun t₀ k₀ => XS.goto X1.here hx rfl (pc0 := 34) (pc' := 14) rfl (hb hby d9_34) (by decide) (by decide) k₀) ?_
        exact ih (i - own_lb i) (sd + (f i)) (x - (x &&& (-x))) _ _ Nc14 X1 e1 (by have := own_lb1 i (by omega) h0i; omega) (own_Xn (by omega) h0i exi) (by omega) (by omega) (own_thr1 (by omega) h0i hiM hI hs)
      · skip
        refine own_step (Tc14.setTop (mkF m 37 #[.val (.ref a), .val (.int q), .val (.int sd), .val (.int x)] [])) (fun t₀ k₀ => XS.ifYes Xc14.here hx rfl (pc0 := 15) (pc' := 37) rfl (hb hby d9_15) rfl ((if0 _ _).trans (flt hc15).2.2.2) (by decide) (by decide) k₀) ?_
        refine own_step (Tc14.setTop (mkF m 38 #[.val (.ref a), .val (.int q), .val (.int sd), .val (.int x)] [(.int sd)])) (fun t₀ k₀ => XS.iloadN Xc14.here hx rfl (hb hby d9_37) rfl k₀) ?_
        obtain ⟨fs, hr, hrun, hended, hW, hsame⟩ := Xc14.leave (v := some (.int sd)) (fun h => by rw [Bd.returns] at h; cases h)
        refine ⟨_, _, ?_, hrun, hended, _, _, rfl, ?_, ⟨_, rfl⟩, hW, hsame.mono (by decide) (by decide)⟩
        · exact retI Xc14 hx Bd.returns (hb hby d9_38) hr
        · show Q_rm9 Z a q ct kc N f D h0 n0 _ Tc14.heap _
          rw [ec14]
          exact ⟨congrArg (fun z => some (Value.int z)) (own_thr0 hs (own_X1 (by omega) hX hc15)), Nc14, rfl⟩
  show own_Go p e below (fun s₂ o₉ => s₂.status = .running ∧ Ended s₂ below o₉ ∧ ∃ v L, o₉ = .returned v ∧ Q_rm9 Z a q ct kc N f D h0 n0 v s₂.heap L ∧ FrameEnd s o₉ s₂ L ({ frames := 1, cells := 0, slots := 0, locals := 13 } : Room).cells ({ frames := 1, cells := 0, slots := 0, locals := 13 } : Room).slots) (s₁.setTop (entryFrame m #[(.ref a), (.int q)] 4))
  rw [ef_rm9 m a q]
  refine own_step (s₁.setTop (mkF m 1 #[.val (.ref a), .val (.int q), .unset, .unset] [(.int (0 : Int32))])) (fun t₀ k₀ => XS.iconst X0.here hx rfl (hb hby d9_0) k₀) ?_
  refine own_step (s₁.setTop (mkF m 2 #[.val (.ref a), .val (.int q), .val (.int (0 : Int32)), .unset] [])) (fun t₀ k₀ => XS.istoreN X0.here hx rfl (hb hby d9_1) rfl (l' := #[.val (.ref a), .val (.int q), .val (.int (0 : Int32)), .unset]) rfl k₀) ?_
  refine own_step (s₁.setTop (mkF m 3 #[.val (.ref a), .val (.int q), .val (.int (0 : Int32)), .unset] [(.int q)])) (fun t₀ k₀ => XS.iloadN X0.here hx rfl (hb hby d9_2) rfl k₀) ?_
  refine own_step (s₁.setTop (mkF m 4 #[.val (.ref a), .val (.int q), .val (.int (0 : Int32)), .unset] [(.ref a), (.int q)])) (fun t₀ k₀ => XS.aloadN X0.here hx rfl (hb hby d9_3) rfl rfl k₀) ?_
  obtain ⟨T3, X3, e3, st3⟩ := getF X0 hx hZ hown (host := "") (Or.inl (hw _ (List.mem_of_getElem? (i := 10) rfl))) Via.refl e0 Fc (g := (mkF m 4 #[.val (.ref a), .val (.int q), .val (.int (0 : Int32)), .unset] [(.ref a), (.int q)])) rfl rfl (hb hby d9_4)
  refine own_step (T3.setTop (mkF m 7 #[.val (.ref a), .val (.int q), .val (.int (0 : Int32)), .unset] [(.ref ct), (.int q)])) (fun t₀ k₀ => st3 t₀ k₀) ?_
  obtain ⟨clo4, Aro4, qo4, So4, Mo4, Ho4, Go4⟩ := id Va
  refine own_step (T3.setTop (mkF m 8 #[.val (.ref a), .val (.int q), .val (.int (0 : Int32)), .unset] [(.int (Int32.ofNat N)), (.int q)])) (fun t₀ k₀ => X3.arraylength hx (by rw [e3]; exact Aro4.1) (State.isArrayOf_alike hZ.alike Aro4.2.1) (g := (mkF m 7 #[.val (.ref a), .val (.int q), .val (.int (0 : Int32)), .unset] [(.ref ct), (.int q)])) rfl rfl (hb hby d9_7) _ (by rw [len_of So4 Mo4]; exact k₀)) ?_
  refine own_step (T3.setTop (mkF m 9 #[.val (.ref a), .val (.int q), .val (.int (0 : Int32)), .unset] [(.int (1 : Int32)), (.int (Int32.ofNat N)), (.int q)])) (fun t₀ k₀ => XS.iconst X3.here hx rfl (hb hby d9_8) k₀) ?_
  refine own_step (T3.setTop (mkF m 10 #[.val (.ref a), .val (.int q), .val (.int (0 : Int32)), .unset] [(.int ((Int32.ofNat N) - (1 : Int32))), (.int q)])) (fun t₀ k₀ => XS.isub X3.here hx rfl (hb hby d9_9) rfl k₀) ?_
  obtain ⟨_, _, ⟨T5, L5, k5, n5⟩, -, X5, ⟨Lc5, hQ5, l5, y5, z5⟩, st5⟩ := Jvm.LawKit.callS X3 hx (y := (⟨"java/lang/Math", "min", "(II)I"⟩ : MethodName)) hown (mvT hZ (hw _ (List.mem_of_getElem? (i := 48) rfl))) (mvT hZ (hw _ (List.mem_of_getElem? (i := 35) rfl))) (mvT hZ (hw _ (List.mem_of_getElem? (i := 25) rfl))) (mvT hZ (hw _ (List.mem_of_getElem? (i := 36) rfl))) (by decide) (backOf (W := 0) (rm8 l Z a0 hw [] q ((Int32.ofNat N) - (1 : Int32)) h0 n0 Z0) hZ (hw _ (List.mem_of_getElem? (i := 36) rfl)) (hw _ (List.mem_of_getElem? (i := 25) rfl)) (by decide) (by decide)) (g := (mkF m 10 #[.val (.ref a), .val (.int q), .val (.int (0 : Int32)), .unset] [(.int ((Int32.ofNat N) - (1 : Int32))), (.int q)])) rfl (by rw [hml]; rfl) (argsL := [(.int q), (.int ((Int32.ofNat N) - (1 : Int32)))]) (rest := []) (lenOf pd_3 rfl) rfl (by show 2 * 0 + _ ≤ _; exact Nat.le_of_eq rfl) (hb hby d9_10) (fun _ _ => ⟨rfl, e3, (by decide : 0 + 0 ≤ _), (by decide : 0 + 0 ≤ _)⟩)
  dsimp only [Pt.U, Pt.locs, Pt.cells, Pt.slots] at X5 l5 y5 z5 st5 hQ5
  subst l5 y5 z5
  obtain ⟨rfl, N5q, e5⟩ := hQ5
  have N5 := Fr.app N0 N5q
  refine own_step (T5.setTop (mkF m 13 #[.val (.ref a), .val (.int q), .val (.int (0 : Int32)), .unset] [(.int (own_imin q ((Int32.ofNat N) - (1 : Int32))))])) (fun t₀ k₀ => st5 t₀ k₀) ?_
  refine own_step (T5.setTop (mkF m 14 #[.val (.ref a), .val (.int q), .val (.int (0 : Int32)), .val (.int (own_imin q ((Int32.ofNat N) - (1 : Int32))))] [])) (fun t₀ k₀ => XS.istoreN X5.here hx rfl (hb hby d9_13) rfl (l' := #[.val (.ref a), .val (.int q), .val (.int (0 : Int32)), .val (.int (own_imin q ((Int32.ofNat N) - (1 : Int32))))]) rfl k₀) ?_
  exact cut14 (own_M q N) (own_M q N) (0 : Int32) (own_imin q ((Int32.ofNat N) - (1 : Int32))) _ _ N5 X5 e5 (Nat.le_refl _) (own_Xs hN1 hN2) (own_M_lt hN1) (Nat.le_refl _) (Int32.zero_add _)
theorem d7_0 : decode jdk_65_method_123_code 0 = .ok (.iload_n 1, 1) := by decide +kernel
theorem d7_1 : decode jdk_65_method_123_code 1 = .ok (.aload_n 0, 1) := by decide +kernel
theorem d7_2 : decode jdk_65_method_123_code 2 = .ok (.arraylength, 1) := by decide +kernel
theorem d7_3 : decode jdk_65_method_123_code 3 = .ok (.if_icmp .ne 11, 3) := by decide +kernel
theorem d7_6 : decode jdk_65_method_123_code 6 = .ok (.aload_n 0, 1) := by decide +kernel
theorem d7_7 : decode jdk_65_method_123_code 7 = .ok (.invokevirtual 316, 3) := by decide +kernel
theorem d7_10 : decode jdk_65_method_123_code 10 = .ok (.checkcast 317, 3) := by decide +kernel
theorem d7_13 : decode jdk_65_method_123_code 13 = .ok (.areturn, 1) := by decide +kernel
theorem d7_14 : decode jdk_65_method_123_code 14 = .ok (.iload_n 1, 1) := by decide +kernel
theorem d7_15 : decode jdk_65_method_123_code 15 = .ok (.newarray .int, 2) := by decide +kernel
theorem d7_17 : decode jdk_65_method_123_code 17 = .ok (.astore_n 2, 1) := by decide +kernel
theorem d7_18 : decode jdk_65_method_123_code 18 = .ok (.aload_n 0, 1) := by decide +kernel
theorem d7_19 : decode jdk_65_method_123_code 19 = .ok (.iconst 0, 1) := by decide +kernel
theorem d7_20 : decode jdk_65_method_123_code 20 = .ok (.aload_n 2, 1) := by decide +kernel
theorem d7_21 : decode jdk_65_method_123_code 21 = .ok (.iconst 0, 1) := by decide +kernel
theorem d7_22 : decode jdk_65_method_123_code 22 = .ok (.aload_n 0, 1) := by decide +kernel
theorem d7_23 : decode jdk_65_method_123_code 23 = .ok (.arraylength, 1) := by decide +kernel
theorem d7_24 : decode jdk_65_method_123_code 24 = .ok (.iload_n 1, 1) := by decide +kernel
theorem d7_25 : decode jdk_65_method_123_code 25 = .ok (.invokestatic 304, 3) := by decide +kernel
theorem d7_28 : decode jdk_65_method_123_code 28 = .ok (.invokestatic 150, 3) := by decide +kernel
theorem d7_31 : decode jdk_65_method_123_code 31 = .ok (.aload_n 2, 1) := by decide +kernel
theorem d7_32 : decode jdk_65_method_123_code 32 = .ok (.areturn, 1) := by decide +kernel
theorem pn_7 : plainName "java/util/Arrays" = true := by first | (simp [plainName, overriddenIn]; done) | decide +kernel
theorem ef_rm7 (m : MethodId) (ct : Addr) : entryFrame m #[(.ref ct), (.int (Int32.ofNat N2))] 3 = mkF m 0 #[.val (.ref ct), .val (.int (Int32.ofNat N2)), .unset] [] := by first | (simp [entryFrame, mkF, argsToLocals, Value.category]; done) | rfl
def Q_rm7 (Z : State) (ct : Addr) (kc : ClassId) (N : Nat) (f : Nat → Int32) (N2 : Nat) (h0 : Heap) (n0 : Nat) (v : Option Value) (h : Heap) (L : List Loc) : Prop := ∃ (nb : Addr) (kd : ClassId), v = some (.ref nb) ∧ Fr n0 L ∧ Keep h0 h [] ∧ n0 ≤ nb ∧ Arv Z h nb kd .int (Int32.ofNat N2) (own_L N2 (own_cp N f)) (.int (0 : Int32))
set_option maxRecDepth 65536 in
set_option maxHeartbeats 40000000 in
theorem rm7 (l : Launch) (Z : State) (a0 : Array Value) (hw : ∀ d ∈ tables_1, d.before a0 Z = true) (ws : List Jvm.Cond) (ct : Addr) (kc : ClassId) (N : Nat) (f : Nat → Int32) (N2 : Nat) (h0 : Heap) (n0 : Nat) (Z0 : n0 ≤ h0.size) (Va : Arv Z h0 ct kc .int (Int32.ofNat N) (own_L N f) (.int (0 : Int32))) (hlt : N < N2) (hN2 : N2 ≤ 257) :
    MetFree l (⟨"java/util/Arrays", "copyOf", "([II)[I"⟩ : MethodName) (head1 (Jvm.Cond.code (⟨"java/util/Arrays", "copyOf", "([II)[I"⟩ : MethodName) jdk_65_method_123_code 3 (some (.array .int)) :: ws) ({ frames := 1, cells := 1, slots := 257, locals := 40 } : Room)) (fun as₉ U => as₉ = #[(.ref ct), (.int (Int32.ofNat N2))] ∧ Z.Warmed39 U.vm ∧ U.heap = h0) (fun _ _ _ _ _ => True) (fun _ U o₉ U' => ∃ v L, o₉ = .returned v ∧ Q_rm7 Z ct kc N f N2 h0 n0 v U'.heap L ∧ FrameEnd U o₉ U' L ({ frames := 1, cells := 1, slots := 257, locals := 40 } : Room).cells ({ frames := 1, cells := 1, slots := 257, locals := 40 } : Room).slots) := by
  refine MetFree.of_bodySF (plainFor_of_name pn_7) hisR ?_
  intro p e s m args below meth c s₁ Bd hml0 hP hK
  obtain ⟨rfl, hZ, hh⟩ := hP
  have hx := Bd.exec
  have hby := Bd.bytes
  have hml : c.maxLocals = 3 := hml0
  have hown : s.vm.findClass "java/util/Arrays" = some m.cls := findClass_of_methodNamed Bd.named
  have hnm := (name_of_methodNamed Bd.named Bd.method).1
  have X0 : Stand p l e ({ frames := 1, cells := 1, slots := 257, locals := 40 } : Room) s m #[(.ref ct), (.int (Int32.ofNat N2))] below meth c s₁ [] 0 0 := Stand.of_body Bd
  have e0 : s₁.heap = h0 := by rw [← hh, Bd.state]; rfl
  have N0 := Fr.nil n0
  show own_Go p e below (fun s₂ o₉ => s₂.status = .running ∧ Ended s₂ below o₉ ∧ ∃ v L, o₉ = .returned v ∧ Q_rm7 Z ct kc N f N2 h0 n0 v s₂.heap L ∧ FrameEnd s o₉ s₂ L ({ frames := 1, cells := 1, slots := 257, locals := 40 } : Room).cells ({ frames := 1, cells := 1, slots := 257, locals := 40 } : Room).slots) (s₁.setTop (entryFrame m #[(.ref ct), (.int (Int32.ofNat N2))] 3))
  rw [ef_rm7 m ct]
  refine own_step (s₁.setTop (mkF m 1 #[.val (.ref ct), .val (.int (Int32.ofNat N2)), .unset] [(.int (Int32.ofNat N2))])) (fun t₀ k₀ => XS.iloadN X0.here hx rfl (hb hby d7_0) rfl k₀) ?_
  refine own_step (s₁.setTop (mkF m 2 #[.val (.ref ct), .val (.int (Int32.ofNat N2)), .unset] [(.ref ct), (.int (Int32.ofNat N2))])) (fun t₀ k₀ => XS.aloadN X0.here hx rfl (hb hby d7_1) rfl rfl k₀) ?_
  obtain ⟨clo6, Aro6, qo6, So6, Mo6, Ho6, Go6⟩ := id Va
  refine own_step (s₁.setTop (mkF m 3 #[.val (.ref ct), .val (.int (Int32.ofNat N2)), .unset] [(.int (Int32.ofNat N)), (.int (Int32.ofNat N2))])) (fun t₀ k₀ => X0.arraylength hx (by rw [e0]; exact Aro6.1) (State.isArrayOf_alike hZ.alike Aro6.2.1) (g := (mkF m 2 #[.val (.ref ct), .val (.int (Int32.ofNat N2)), .unset] [(.ref ct), (.int (Int32.ofNat N2))])) rfl rfl (hb hby d7_2) _ (by rw [len_of So6 Mo6]; exact k₀)) ?_
  have hk7 : ¬ ((Int32.ofNat N2) = (Int32.ofNat N)) := own_neN hlt (by omega)
  refine own_step (s₁.setTop (mkF m 14 #[.val (.ref ct), .val (.int (Int32.ofNat N2)), .unset] [])) (fun t₀ k₀ => XS.icmpYes X0.here hx rfl (pc0 := 3) (pc' := 14) rfl (hb hby d7_3) rfl (feq hk7).2 (by decide) (by decide) k₀) ?_
  refine own_step (s₁.setTop (mkF m 15 #[.val (.ref ct), .val (.int (Int32.ofNat N2)), .unset] [(.int (Int32.ofNat N2))])) (fun t₀ k₀ => XS.iloadN X0.here hx rfl (hb hby d7_14) rfl k₀) ?_
  obtain ⟨T8, h8, k8, X8, e8, E8, A8, st8⟩ := newP X0 hx hZ (hw _ (List.mem_of_getElem? (i := 0) rfl)) e0 (g := (mkF m 15 #[.val (.ref ct), .val (.int (Int32.ofNat N2)), .unset] [(.int (Int32.ofNat N2))])) rfl (hb hby d7_15) rfl (own_nn (by omega)) (cap := 257) (by rw [own_nat (by omega)]; exact hN2) (by decide) (by decide) (by decide)
  obtain ⟨b8, g8⟩ : ∃ z, z = h0.size := ⟨_, rfl⟩
  rw [← g8] at A8 st8
  have lt9 : ct < b8 := Nat.lt_of_lt_of_le Va.lt (Nat.le_of_eq g8.symm)
  have fr_b8 : n0 ≤ b8 := Nat.le_trans Z0 (Nat.le_of_eq g8.symm)
  have sz_b8 : h0.size ≤ b8 := Nat.le_trans (Keep.refl h0 []).1 (Nat.le_of_eq g8.symm)
  have f10 : Arv Z h8 ct kc .int (Int32.ofNat N) (own_L N f) (.int (0 : Int32)) := Va.ext E8
  have V8 : Arv Z h8 b8 k8 .int (Int32.ofNat N2) (own_L N2 (fun _ => 0)) (.int (0 : Int32)) := (Arv.new A8 (own_nn (by omega))).pad (own_L0 N2)
  have z8 : n0 ≤ h8.size := Nat.le_trans Z0 E8.1
  have K8 : Keep h0 h8 [] := (Keep.refl h0 []).ext E8
  refine own_step (T8.setTop (mkF m 17 #[.val (.ref ct), .val (.int (Int32.ofNat N2)), .unset] [(.ref b8)])) (fun t₀ k₀ => st8 t₀ k₀) ?_
  refine own_step (T8.setTop (mkF m 18 #[.val (.ref ct), .val (.int (Int32.ofNat N2)), .val (.ref b8)] [])) (fun t₀ k₀ => XS.astoreN X8.here hx rfl (hb hby d7_17) rfl rfl (l' := #[.val (.ref ct), .val (.int (Int32.ofNat N2)), .val (.ref b8)]) rfl k₀) ?_
  refine own_step (T8.setTop (mkF m 19 #[.val (.ref ct), .val (.int (Int32.ofNat N2)), .val (.ref b8)] [(.ref ct)])) (fun t₀ k₀ => XS.aloadN X8.here hx rfl (hb hby d7_18) rfl rfl k₀) ?_
  refine own_step (T8.setTop (mkF m 20 #[.val (.ref ct), .val (.int (Int32.ofNat N2)), .val (.ref b8)] [(.int (0 : Int32)), (.ref ct)])) (fun t₀ k₀ => XS.iconst X8.here hx rfl (hb hby d7_19) k₀) ?_
  refine own_step (T8.setTop (mkF m 21 #[.val (.ref ct), .val (.int (Int32.ofNat N2)), .val (.ref b8)] [(.ref b8), (.int (0 : Int32)), (.ref ct)])) (fun t₀ k₀ => XS.aloadN X8.here hx rfl (hb hby d7_20) rfl rfl k₀) ?_
  refine own_step (T8.setTop (mkF m 22 #[.val (.ref ct), .val (.int (Int32.ofNat N2)), .val (.ref b8)] [(.int (0 : Int32)), (.ref b8), (.int (0 : Int32)), (.ref ct)])) (fun t₀ k₀ => XS.iconst X8.here hx rfl (hb hby d7_21) k₀) ?_
  refine own_step (T8.setTop (mkF m 23 #[.val (.ref ct), .val (.int (Int32.ofNat N2)), .val (.ref b8)] [(.ref ct), (.int (0 : Int32)), (.ref b8), (.int (0 : Int32)), (.ref ct)])) (fun t₀ k₀ => XS.aloadN X8.here hx rfl (hb hby d7_22) rfl rfl k₀) ?_
  obtain ⟨clo11, Aro11, qo11, So11, Mo11, Ho11, Go11⟩ := id f10
  refine own_step (T8.setTop (mkF m 24 #[.val (.ref ct), .val (.int (Int32.ofNat N2)), .val (.ref b8)] [(.int (Int32.ofNat N)), (.int (0 : Int32)), (.ref b8), (.int (0 : Int32)), (.ref ct)])) (fun t₀ k₀ => X8.arraylength hx (by rw [e8]; exact Aro11.1) (State.isArrayOf_alike hZ.alike Aro11.2.1) (g := (mkF m 23 #[.val (.ref ct), .val (.int (Int32.ofNat N2)), .val (.ref b8)] [(.ref ct), (.int (0 : Int32)), (.ref b8), (.int (0 : Int32)), (.ref ct)])) rfl rfl (hb hby d7_23) _ (by rw [len_of So11 Mo11]; exact k₀)) ?_
  refine own_step (T8.setTop (mkF m 25 #[.val (.ref ct), .val (.int (Int32.ofNat N2)), .val (.ref b8)] [(.int (Int32.ofNat N2)), (.int (Int32.ofNat N)), (.int (0 : Int32)), (.ref b8), (.int (0 : Int32)), (.ref ct)])) (fun t₀ k₀ => XS.iloadN X8.here hx rfl (hb hby d7_24) rfl k₀) ?_
  obtain ⟨_, _, ⟨T12, L12, k12, n12⟩, -, X12, ⟨Lc12, hQ12, l12, y12, z12⟩, st12⟩ := Jvm.LawKit.callS X8 hx (y := (⟨"java/lang/Math", "min", "(II)I"⟩ : MethodName)) hown (mvT hZ (hw _ (List.mem_of_getElem? (i := 34) rfl))) (mvT hZ (hw _ (List.mem_of_getElem? (i := 35) rfl))) (mvT hZ (hw _ (List.mem_of_getElem? (i := 25) rfl))) (mvT hZ (hw _ (List.mem_of_getElem? (i := 36) rfl))) (by decide) (backOf (W := 4) (rm8 l Z a0 hw [] (Int32.ofNat N) (Int32.ofNat N2) h8 n0 z8) hZ (hw _ (List.mem_of_getElem? (i := 36) rfl)) (hw _ (List.mem_of_getElem? (i := 25) rfl)) (by decide) (by decide)) (g := (mkF m 25 #[.val (.ref ct), .val (.int (Int32.ofNat N2)), .val (.ref b8)] [(.int (Int32.ofNat N2)), (.int (Int32.ofNat N)), (.int (0 : Int32)), (.ref b8), (.int (0 : Int32)), (.ref ct)])) rfl (by rw [hml]; rfl) (argsL := [(.int (Int32.ofNat N)), (.int (Int32.ofNat N2))]) (rest := [(.int (0 : Int32)), (.ref b8), (.int (0 : Int32)), (.ref ct)]) (lenOf pd_3 rfl) rfl (by show 2 * 0 + _ ≤ _; exact Nat.le_of_eq rfl) (hb hby d7_25) (fun _ _ => ⟨rfl, e8, (by decide : 1 + 0 ≤ _), (by decide : 257 + 0 ≤ _)⟩)
  dsimp only [Pt.U, Pt.locs, Pt.cells, Pt.slots] at X12 l12 y12 z12 st12 hQ12
  subst l12 y12 z12
  obtain ⟨rfl, N12q, e12⟩ := hQ12
  have N12 := Fr.app N0 N12q
  refine own_step (T12.setTop (mkF m 28 #[.val (.ref ct), .val (.int (Int32.ofNat N2)), .val (.ref b8)] [(.int (own_imin (Int32.ofNat N) (Int32.ofNat N2))), (.int (0 : Int32)), (.ref b8), (.int (0 : Int32)), (.ref ct)])) (fun t₀ k₀ => st12 t₀ k₀) ?_
  rw [own_iminN hlt (by omega)]
  obtain ⟨T13, h13, L13, X13, e13, N13, K13, V13, st13⟩ := cpA X12 hx hZ hown (hw _ (List.mem_of_getElem? (i := 37) rfl)) (hw _ (List.mem_of_getElem? (i := 40) rfl)) (hw _ (List.mem_of_getElem? (i := 38) rfl)) (hw _ (List.mem_of_getElem? (i := 39) rfl)) e12 f10 V8 (Or.inl ⟨rfl, rfl⟩) (by decide) (by decide) (own_nn (by omega)) (by rw [own_nat (by omega)]; exact Nat.le_of_eq (Nat.zero_add _)) (by rw [own_nat (by omega), own_nat (by omega), show (0 : Int32).toNatClampNeg = 0 from rfl]; omega) rfl (by rw [own_nat (by omega), own_L_len, show (0 : Int32).toNatClampNeg = 0 from rfl]; omega) N12 fr_b8 (g := (mkF m 28 #[.val (.ref ct), .val (.int (Int32.ofNat N2)), .val (.ref b8)] [(.int (Int32.ofNat N)), (.int (0 : Int32)), (.ref b8), (.int (0 : Int32)), (.ref ct)])) rfl (by rw [hml]; rfl) rfl (hb hby d7_28) (by decide) (W := 0) (by show 2 * 0 + _ ≤ _; exact Nat.le_of_eq rfl) (by decide)
  rw [own_copy f hlt (by omega)] at V13
  have f14 : Arv Z h13 ct kc .int (Int32.ofNat N) (own_L N f) (.int (0 : Int32)) := f10.keep K13 (ninS (Nat.ne_of_lt lt9) nin0)
  have z13 : n0 ≤ h13.size := Nat.le_trans z8 K13.1
  have Kq13 : Keep h0 h13 [] := K8.trans K13 (allS (Or.inr sz_b8) all0)
  refine own_step (T13.setTop (mkF m 31 #[.val (.ref ct), .val (.int (Int32.ofNat N2)), .val (.ref b8)] [])) (fun t₀ k₀ => st13 t₀ k₀) ?_
  refine own_step (T13.setTop (mkF m 32 #[.val (.ref ct), .val (.int (Int32.ofNat N2)), .val (.ref b8)] [(.ref b8)])) (fun t₀ k₀ => XS.aloadN X13.here hx rfl (hb hby d7_31) rfl rfl k₀) ?_
  obtain ⟨fs, hr, hrun, hended, hW, hsame⟩ := X13.leave (v := some (.ref b8)) (fun h => by rw [Bd.returns] at h; cases h)
  refine ⟨_, _, ?_, hrun, hended, _, _, rfl, ?_, ⟨_, rfl⟩, hW, hsame.mono (by decide) (by decide)⟩
  · jvm_step X13.here [X13.here.top, hx, (hb hby d7_32), X13.method', Bd.returns, Value.isRef, FieldType.isReference]
    first | (intro acts; rw [hr _ acts rfl rfl rfl]) | rw [hr _ _ rfl rfl rfl]
    exact Steps.refl _
  · show Q_rm7 Z ct kc N f N2 h0 n0 _ T13.heap _
    rw [e13]
    exact ⟨b8, k8, rfl, N13, Kq13, fr_b8, V13⟩
theorem d4_0 : decode prog_7_method_5_code 0 = .ok (.aload_n 0, 1) := by decide +kernel
theorem d4_1 : decode prog_7_method_5_code 1 = .ok (.getfield 9, 3) := by decide +kernel
theorem d4_4 : decode prog_7_method_5_code 4 = .ok (.arraylength, 1) := by decide +kernel
theorem d4_5 : decode prog_7_method_5_code 5 = .ok (.iconst 1, 1) := by decide +kernel
theorem d4_6 : decode prog_7_method_5_code 6 = .ok (.isub, 1) := by decide +kernel
theorem d4_7 : decode prog_7_method_5_code 7 = .ok (.istore_n 2, 1) := by decide +kernel
theorem d4_8 : decode prog_7_method_5_code 8 = .ok (.iload_n 1, 1) := by decide +kernel
theorem d4_9 : decode prog_7_method_5_code 9 = .ok (.ldc2_w 33, 3) := by decide +kernel
theorem d4_12 : decode prog_7_method_5_code 12 = .ok (.iload_n 2, 1) := by decide +kernel
theorem d4_13 : decode prog_7_method_5_code 13 = .ok (.i2l, 1) := by decide +kernel
theorem d4_14 : decode prog_7_method_5_code 14 = .ok (.lmul, 1) := by decide +kernel
theorem d4_15 : decode prog_7_method_5_code 15 = .ok (.ldc2_w 35, 3) := by decide +kernel
theorem d4_18 : decode prog_7_method_5_code 18 = .ok (.invokestatic 37, 3) := by decide +kernel
theorem d4_21 : decode prog_7_method_5_code 21 = .ok (.l2i, 1) := by decide +kernel
theorem d4_22 : decode prog_7_method_5_code 22 = .ok (.invokestatic 40, 3) := by decide +kernel
theorem d4_25 : decode prog_7_method_5_code 25 = .ok (.istore_n 3, 1) := by decide +kernel
theorem d4_26 : decode prog_7_method_5_code 26 = .ok (.aload_n 0, 1) := by decide +kernel
theorem d4_27 : decode prog_7_method_5_code 27 = .ok (.aload_n 0, 1) := by decide +kernel
theorem d4_28 : decode prog_7_method_5_code 28 = .ok (.getfield 9, 3) := by decide +kernel
theorem d4_31 : decode prog_7_method_5_code 31 = .ok (.iload_n 3, 1) := by decide +kernel
theorem d4_32 : decode prog_7_method_5_code 32 = .ok (.iconst 1, 1) := by decide +kernel
theorem d4_33 : decode prog_7_method_5_code 33 = .ok (.iadd, 1) := by decide +kernel
theorem d4_34 : decode prog_7_method_5_code 34 = .ok (.invokestatic 43, 3) := by decide +kernel
theorem d4_37 : decode prog_7_method_5_code 37 = .ok (.putfield 9, 3) := by decide +kernel
theorem d4_40 : decode prog_7_method_5_code 40 = .ok (.iload_n 2, 1) := by decide +kernel
theorem d4_41 : decode prog_7_method_5_code 41 = .ok (.iconst 1, 1) := by decide +kernel
theorem d4_42 : decode prog_7_method_5_code 42 = .ok (.iadd, 1) := by decide +kernel
theorem d4_43 : decode prog_7_method_5_code 43 = .ok (.istore 4, 2) := by decide +kernel
theorem d4_45 : decode prog_7_method_5_code 45 = .ok (.iload 4, 2) := by decide +kernel
theorem d4_47 : decode prog_7_method_5_code 47 = .ok (.iload_n 3, 1) := by decide +kernel
theorem d4_48 : decode prog_7_method_5_code 48 = .ok (.if_icmp .gt 44, 3) := by decide +kernel
theorem d4_51 : decode prog_7_method_5_code 51 = .ok (.iload 4, 2) := by decide +kernel
theorem d4_53 : decode prog_7_method_5_code 53 = .ok (.iload 4, 2) := by decide +kernel
theorem d4_55 : decode prog_7_method_5_code 55 = .ok (.iload 4, 2) := by decide +kernel
theorem d4_57 : decode prog_7_method_5_code 57 = .ok (.ineg, 1) := by decide +kernel
theorem d4_58 : decode prog_7_method_5_code 58 = .ok (.iand, 1) := by decide +kernel
theorem d4_59 : decode prog_7_method_5_code 59 = .ok (.isub, 1) := by decide +kernel
theorem d4_60 : decode prog_7_method_5_code 60 = .ok (.istore 5, 2) := by decide +kernel
theorem d4_62 : decode prog_7_method_5_code 62 = .ok (.iload 5, 2) := by decide +kernel
theorem d4_64 : decode prog_7_method_5_code 64 = .ok (.iload_n 2, 1) := by decide +kernel
theorem d4_65 : decode prog_7_method_5_code 65 = .ok (.if_icmp .ge 21, 3) := by decide +kernel
theorem d4_68 : decode prog_7_method_5_code 68 = .ok (.aload_n 0, 1) := by decide +kernel
theorem d4_69 : decode prog_7_method_5_code 69 = .ok (.getfield 9, 3) := by decide +kernel
theorem d4_72 : decode prog_7_method_5_code 72 = .ok (.iload 4, 2) := by decide +kernel
theorem d4_74 : decode prog_7_method_5_code 74 = .ok (.aload_n 0, 1) := by decide +kernel
theorem d4_75 : decode prog_7_method_5_code 75 = .ok (.getfield 19, 3) := by decide +kernel
theorem d4_78 : decode prog_7_method_5_code 78 = .ok (.aload_n 0, 1) := by decide +kernel
theorem d4_79 : decode prog_7_method_5_code 79 = .ok (.iload 5, 2) := by decide +kernel
theorem d4_81 : decode prog_7_method_5_code 81 = .ok (.invokevirtual 49, 3) := by decide +kernel
theorem d4_84 : decode prog_7_method_5_code 84 = .ok (.isub, 1) := by decide +kernel
theorem d4_85 : decode prog_7_method_5_code 85 = .ok (.iastore, 1) := by decide +kernel
theorem d4_86 : decode prog_7_method_5_code 86 = .ok (.iinc 4 1, 3) := by decide +kernel
theorem d4_89 : decode prog_7_method_5_code 89 = .ok (.goto (-44), 3) := by decide +kernel
theorem d4_92 : decode prog_7_method_5_code 92 = .ok (.return_, 1) := by decide +kernel
theorem ef_rm4 (m : MethodId) (a : Addr) : entryFrame m #[(.ref a), (.int (Int32.ofNat pn))] 6 = mkF m 0 #[.val (.ref a), .val (.int (Int32.ofNat pn)), .unset, .unset, .unset, .unset] [] := by first | (simp [entryFrame, mkF, argsToLocals, Value.category]; done) | rfl
def Q_rm4 (Z : State) (a : Addr) (ct : Addr) (kc : ClassId) (N : Nat) (f : Nat → Int32) (D : List Nat) (pn : Nat) (cn : Int32) (h0 : Heap) (n0 : Nat) (v : Option Value) (h : Heap) (L : List Loc) : Prop := ∃ (nb : Addr) (kd : ClassId) (g : Nat → Int32), v = none ∧ Fr n0 L ∧ own_Bel n0 h0 h ∧ n0 ≤ nb ∧ own_Inv D (own_cap N pn + 1) g ∧ Exa Z h a "com/example/syncopate/syncopate/DeletedRows" ∧ Fld Z h a "com/example/syncopate/syncopate/DeletedRows" "counts" "[I" (.ref nb) ∧ Fld Z h a "com/example/syncopate/syncopate/DeletedRows" "count" "I" (.int cn) ∧ Arv Z h nb kd .int (Int32.ofNat (own_cap N pn + 1)) (own_L (own_cap N pn + 1) g) (.int (0 : Int32))
set_option maxRecDepth 65536 in
set_option maxHeartbeats 40000000 in
theorem rm4 (l : Launch) (Z : State) (a0 : Array Value) (hw : ∀ d ∈ tables_1, d.before a0 Z = true) (ws : List Jvm.Cond) (a : Addr) (ct : Addr) (kc : ClassId) (N : Nat) (f : Nat → Int32) (D : List Nat) (pn : Nat) (cn : Int32) (h0 : Heap) (n0 : Nat) (Z0 : n0 ≤ h0.size) (UE : Exa Z h0 a "com/example/syncopate/syncopate/DeletedRows") (Uc : Fld Z h0 a "com/example/syncopate/syncopate/DeletedRows" "counts" "[I" (.ref ct)) (Un : Fld Z h0 a "com/example/syncopate/syncopate/DeletedRows" "count" "I" (.int cn)) (UV : Arv Z h0 ct kc .int (Int32.ofNat N) (own_L N f) (.int (0 : Int32))) (ga : n0 ≤ a) (hN1 : 1 ≤ N) (hp : 0 < pn ∧ pn < 1024) (hNB : own_next N pn ≤ 257) (hI : own_Inv D N f) (hD : ∀ d ∈ D, 0 < d ∧ d < N) (hc : cn = Int32.ofNat D.length) (hle : N ≤ pn) :
    MetFree l (⟨"com/example/syncopate/syncopate/DeletedRows", "grow", "(I)V"⟩ : MethodName) (head1 (Jvm.Cond.code (⟨"com/example/syncopate/syncopate/DeletedRows", "grow", "(I)V"⟩ : MethodName) prog_7_method_5_code 6 none :: ws) ({ frames := 2, cells := 1, slots := 257, locals := 55 } : Room)) (fun as₉ U => as₉ = #[(.ref a), (.int (Int32.ofNat pn))] ∧ Z.Warmed39 U.vm ∧ U.heap = h0) (fun _ _ _ _ _ => True) (fun _ U o₉ U' => ∃ v L, o₉ = .returned v ∧ Q_rm4 Z a ct kc N f D pn cn h0 n0 v U'.heap L ∧ FrameEnd U o₉ U' L ({ frames := 2, cells := 1, slots := 257, locals := 55 } : Room).cells ({ frames := 2, cells := 1, slots := 257, locals := 55 } : Room).slots) := by
  refine MetFree.of_bodySF (plainFor_of_name pn_9) hisR ?_
  intro p e s m args below meth c s₁ Bd hml0 hP hK
  obtain ⟨rfl, hZ, hh⟩ := hP
  have hx := Bd.exec
  have hby := Bd.bytes
  have hml : c.maxLocals = 6 := hml0
  have hown : s.vm.findClass "com/example/syncopate/syncopate/DeletedRows" = some m.cls := findClass_of_methodNamed Bd.named
  have hnm := (name_of_methodNamed Bd.named Bd.method).1
  have X0 : Stand p l e ({ frames := 2, cells := 1, slots := 257, locals := 55 } : Room) s m #[(.ref a), (.int (Int32.ofNat pn))] below meth c s₁ [] 0 0 := Stand.of_body Bd
  have e0 : s₁.heap = h0 := by rw [← hh, Bd.state]; rfl
  have N0 := Fr.nil n0
  have hNB' := hNB
  rw [own_next_ge hle] at hNB'
  have cut45 : ∀ (kk : Nat) (nb : Addr) (kd : ClassId) (g : Nat → Int32) (i : Nat) (y : Int32) (sl : Slot) (hh : Heap) (Zc45 : n0 ≤ hh.size) (Bc45 : own_Bel n0 h0 hh) (Tc45 : State) (lc45 : List Loc) (Nc45 : Fr n0 lc45) (Xc45 : Stand p l e ({ frames := 2, cells := 1, slots := 257, locals := 55 } : Room) s m #[(.ref a), (.int (Int32.ofNat pn))] below meth c Tc45 lc45 1 257) (ec45 : Tc45.heap = hh) (KE : Exa Z hh a "com/example/syncopate/syncopate/DeletedRows") (Kc : Fld Z hh a "com/example/syncopate/syncopate/DeletedRows" "counts" "[I" (.ref nb)) (Kn : Fld Z hh a "com/example/syncopate/syncopate/DeletedRows" "count" "I" (.int cn)) (KV : Arv Z hh nb kd .int (Int32.ofNat (own_cap N pn + 1)) (own_L (own_cap N pn + 1) g) (.int (0 : Int32))) (gnb : n0 ≤ nb) (hsl : One sl) (hik : (own_cap N pn + 1) ≤ i + kk) (hy : y = Int32.ofNat i) (hi1 : N ≤ i) (hi2 : i ≤ (own_cap N pn + 1)) (hG : own_G D (own_cap N pn + 1) i g), own_Go p e below (fun s₂ o₉ => s₂.status = .running ∧ Ended s₂ below o₉ ∧ ∃ v L, o₉ = .returned v ∧ Q_rm4 Z a ct kc N f D pn cn h0 n0 v s₂.heap L ∧ FrameEnd s o₉ s₂ L ({ frames := 2, cells := 1, slots := 257, locals := 55 } : Room).cells ({ frames := 2, cells := 1, slots := 257, locals := 55 } : Room).slots) (Tc45.setTop (mkF m 45 #[.val (.ref a), .val (.int (Int32.ofNat pn)), .val (.int (Int32.ofNat (N - 1))), .val (.int (Int32.ofNat (own_cap N pn))), .val (.int y), sl] [])) := by
    intro kk
    induction kk with
    | zero => 
      intro nb kd g i y sl hh Zc45 Bc45 Tc45 lc45 Nc45 Xc45 ec45 KE Kc Kn KV gnb hsl hik hy hi1 hi2 hG
      refine own_step (Tc45.setTop (mkF m 47 #[.val (.ref a), .val (.int (Int32.ofNat pn)), .val (.int (Int32.ofNat (N - 1))), .val (.int (Int32.ofNat (own_cap N pn))), .val (.int y), sl] [(.int y)])) (fun t₀ k₀ => XS.iload Xc45.here hx rfl (hb hby d4_45) rfl k₀) ?_
      refine own_step (Tc45.setTop (mkF m 48 #[.val (.ref a), .val (.int (Int32.ofNat pn)), .val (.int (Int32.ofNat (N - 1))), .val (.int (Int32.ofNat (own_cap N pn))), .val (.int y), sl] [(.int (Int32.ofNat (own_cap N pn))), (.int y)])) (fun t₀ k₀ => XS.iloadN Xc45.here hx rfl (hb hby d4_47) rfl k₀) ?_
      by_cases hc48 : (Int32.ofNat (own_cap N pn)) < y
      · skip
        refine own_step (Tc45.setTop (mkF m 92 #[.val (.ref a), .val (.int (Int32.ofNat pn)), .val (.int (Int32.ofNat (N - 1))), .val (.int (Int32.ofNat (own_cap N pn))), .val (.int y), sl] [])) (fun t₀ k₀ => XS.icmpYes Xc45.here hx rfl (pc0 := 48) (pc' := 92) rfl (hb hby d4_48) rfl (tlt hc48).2.2.1 (by decide) (by decide) k₀) ?_
        have hlt48 := hc48
        rw [hy] at hlt48
        obtain ⟨fs, hr, hrun, hended, hW, hsame⟩ := Xc45.leave (v := none) (fun _ => rfl)
        refine ⟨_, _, ?_, hrun, hended, _, _, rfl, ?_, ⟨_, rfl⟩, hW, hsame.mono (by decide) (by decide)⟩
        · exact Xc45.returnOut hx Bd.returns (hb hby d4_92) hr
        · show Q_rm4 Z a ct kc N f D pn cn h0 n0 _ Tc45.heap _
          rw [ec45]
          exact ⟨nb, kd, g, rfl, Nc45, Bc45, gnb, own_GI hG (by rw [own_lt (by omega) (by omega)] at hlt48; omega), KE, Kc, Kn, KV⟩
      · skip
        exfalso
        apply hc48
        rw [hy, own_lt (by omega) (by omega)]
        omega
    | succ kk ih => 
      intro nb kd g i y sl hh Zc45 Bc45 Tc45 lc45 Nc45 Xc45 ec45 KE Kc Kn KV gnb hsl hik hy hi1 hi2 hG
      refine own_step (Tc45.setTop (mkF m 47 #[.val (.ref a), .val (.int (Int32.ofNat pn)), .val (.int (Int32.ofNat (N - 1))), .val (.int (Int32.ofNat (own_cap N pn))), .val (.int y), sl] [(.int y)])) (fun t₀ k₀ => XS.iload Xc45.here hx rfl (hb hby d4_45) rfl k₀) ?_
      refine own_step (Tc45.setTop (mkF m 48 #[.val (.ref a), .val (.int (Int32.ofNat pn)), .val (.int (Int32.ofNat (N - 1))), .val (.int (Int32.ofNat (own_cap N pn))), .val (.int y), sl] [(.int (Int32.ofNat (own_cap N pn))), (.int y)])) (fun t₀ k₀ => XS.iloadN Xc45.here hx rfl (hb hby d4_47) rfl k₀) ?_
      by_cases hc48 : (Int32.ofNat (own_cap N pn)) < y
      · skip
        refine own_step (Tc45.setTop (mkF m 92 #[.val (.ref a), .val (.int (Int32.ofNat pn)), .val (.int (Int32.ofNat (N - 1))), .val (.int (Int32.ofNat (own_cap N pn))), .val (.int y), sl] [])) (fun t₀ k₀ => XS.icmpYes Xc45.here hx rfl (pc0 := 48) (pc' := 92) rfl (hb hby d4_48) rfl (tlt hc48).2.2.1 (by decide) (by decide) k₀) ?_
        have hlt48 := hc48
        rw [hy] at hlt48
        obtain ⟨fs, hr, hrun, hended, hW, hsame⟩ := Xc45.leave (v := none) (fun _ => rfl)
        refine ⟨_, _, ?_, hrun, hended, _, _, rfl, ?_, ⟨_, rfl⟩, hW, hsame.mono (by decide) (by decide)⟩
        · exact Xc45.returnOut hx Bd.returns (hb hby d4_92) hr
        · show Q_rm4 Z a ct kc N f D pn cn h0 n0 _ Tc45.heap _
          rw [ec45]
          exact ⟨nb, kd, g, rfl, Nc45, Bc45, gnb, own_GI hG (by rw [own_lt (by omega) (by omega)] at hlt48; omega), KE, Kc, Kn, KV⟩
      · skip
        refine own_step (Tc45.setTop (mkF m 51 #[.val (.ref a), .val (.int (Int32.ofNat pn)), .val (.int (Int32.ofNat (N - 1))), .val (.int (Int32.ofNat (own_cap N pn))), .val (.int y), sl] [])) (fun t₀ k₀ => XS.icmpNo Xc45.here hx rfl (hb hby d4_48) rfl (flt hc48).2.2.1 k₀) ?_
        have hiN2 : i < (own_cap N pn + 1) := by rw [hy, own_lt (by omega) (by omega)] at hc48; omega
        refine own_step (Tc45.setTop (mkF m 53 #[.val (.ref a), .val (.int (Int32.ofNat pn)), .val (.int (Int32.ofNat (N - 1))), .val (.int (Int32.ofNat (own_cap N pn))), .val (.int y), sl] [(.int y)])) (fun t₀ k₀ => XS.iload Xc45.here hx rfl (hb hby d4_51) rfl k₀) ?_
        refine own_step (Tc45.setTop (mkF m 55 #[.val (.ref a), .val (.int (Int32.ofNat pn)), .val (.int (Int32.ofNat (N - 1))), .val (.int (Int32.ofNat (own_cap N pn))), .val (.int y), sl] [(.int y), (.int y)])) (fun t₀ k₀ => XS.iload Xc45.here hx rfl (hb hby d4_53) rfl k₀) ?_
        refine own_step (Tc45.setTop (mkF m 57 #[.val (.ref a), .val (.int (Int32.ofNat pn)), .val (.int (Int32.ofNat (N - 1))), .val (.int (Int32.ofNat (own_cap N pn))), .val (.int y), sl] [(.int y), (.int y), (.int y)])) (fun t₀ k₀ => XS.iload Xc45.here hx rfl (hb hby d4_55) rfl k₀) ?_
        refine own_step (Tc45.setTop (mkF m 58 #[.val (.ref a), .val (.int (Int32.ofNat pn)), .val (.int (Int32.ofNat (N - 1))), .val (.int (Int32.ofNat (own_cap N pn))), .val (.int y), sl] [(.int (-y)), (.int y), (.int y)])) (fun t₀ k₀ => XS.ineg Xc45.here hx rfl (hb hby d4_57) rfl k₀) ?_
        refine own_step (Tc45.setTop (mkF m 59 #[.val (.ref a), .val (.int (Int32.ofNat pn)), .val (.int (Int32.ofNat (N - 1))), .val (.int (Int32.ofNat (own_cap N pn))), .val (.int y), sl] [(.int (y &&& (-y))), (.int y)])) (fun t₀ k₀ => XS.iand Xc45.here hx rfl (hb hby d4_58) rfl k₀) ?_
        refine own_step (Tc45.setTop (mkF m 60 #[.val (.ref a), .val (.int (Int32.ofNat pn)), .val (.int (Int32.ofNat (N - 1))), .val (.int (Int32.ofNat (own_cap N pn))), .val (.int y), sl] [(.int (y - (y &&& (-y))))])) (fun t₀ k₀ => XS.isub Xc45.here hx rfl (hb hby d4_59) rfl k₀) ?_
        rw [own_start hy (by omega)]
        refine own_step (Tc45.setTop (mkF m 62 #[.val (.ref a), .val (.int (Int32.ofNat pn)), .val (.int (Int32.ofNat (N - 1))), .val (.int (Int32.ofNat (own_cap N pn))), .val (.int y), .val (.int (Int32.ofNat (i - own_lb i)))] [])) (fun t₀ k₀ => XS.istoreS Xc45.here hx rfl (hb hby d4_60) rfl rfl hsl k₀) ?_
        refine own_step (Tc45.setTop (mkF m 64 #[.val (.ref a), .val (.int (Int32.ofNat pn)), .val (.int (Int32.ofNat (N - 1))), .val (.int (Int32.ofNat (own_cap N pn))), .val (.int y), .val (.int (Int32.ofNat (i - own_lb i)))] [(.int (Int32.ofNat (i - own_lb i)))])) (fun t₀ k₀ => XS.iload Xc45.here hx rfl (hb hby d4_62) rfl k₀) ?_
        refine own_step (Tc45.setTop (mkF m 65 #[.val (.ref a), .val (.int (Int32.ofNat pn)), .val (.int (Int32.ofNat (N - 1))), .val (.int (Int32.ofNat (own_cap N pn))), .val (.int y), .val (.int (Int32.ofNat (i - own_lb i)))] [(.int (Int32.ofNat (N - 1))), (.int (Int32.ofNat (i - own_lb i)))])) (fun t₀ k₀ => XS.iloadN Xc45.here hx rfl (hb hby d4_64) rfl k₀) ?_
        by_cases hc65 : (Int32.ofNat (i - own_lb i)) < (Int32.ofNat (N - 1))
        · skip
          refine own_step (Tc45.setTop (mkF m 68 #[.val (.ref a), .val (.int (Int32.ofNat pn)), .val (.int (Int32.ofNat (N - 1))), .val (.int (Int32.ofNat (own_cap N pn))), .val (.int y), .val (.int (Int32.ofNat (i - own_lb i)))] [])) (fun t₀ k₀ => XS.icmpNo Xc45.here hx rfl (hb hby d4_65) rfl (tlt hc65).2.1 k₀) ?_
          refine own_step (Tc45.setTop (mkF m 69 #[.val (.ref a), .val (.int (Int32.ofNat pn)), .val (.int (Int32.ofNat (N - 1))), .val (.int (Int32.ofNat (own_cap N pn))), .val (.int y), .val (.int (Int32.ofNat (i - own_lb i)))] [(.ref a)])) (fun t₀ k₀ => XS.aloadN Xc45.here hx rfl (hb hby d4_68) rfl rfl k₀) ?_
          obtain ⟨T16, X16, e16, st16⟩ := getF Xc45 hx hZ hown (host := "") (Or.inl (hw _ (List.mem_of_getElem? (i := 10) rfl))) Via.refl ec45 Kc (g := (mkF m 69 #[.val (.ref a), .val (.int (Int32.ofNat pn)), .val (.int (Int32.ofNat (N - 1))), .val (.int (Int32.ofNat (own_cap N pn))), .val (.int y), .val (.int (Int32.ofNat (i - own_lb i)))] [(.ref a)])) rfl rfl (hb hby d4_69)
          refine own_step (T16.setTop (mkF m 72 #[.val (.ref a), .val (.int (Int32.ofNat pn)), .val (.int (Int32.ofNat (N - 1))), .val (.int (Int32.ofNat (own_cap N pn))), .val (.int y), .val (.int (Int32.ofNat (i - own_lb i)))] [(.ref nb)])) (fun t₀ k₀ => st16 t₀ k₀) ?_
          refine own_step (T16.setTop (mkF m 74 #[.val (.ref a), .val (.int (Int32.ofNat pn)), .val (.int (Int32.ofNat (N - 1))), .val (.int (Int32.ofNat (own_cap N pn))), .val (.int y), .val (.int (Int32.ofNat (i - own_lb i)))] [(.int y), (.ref nb)])) (fun t₀ k₀ => XS.iload X16.here hx rfl (hb hby d4_72) rfl k₀) ?_
          refine own_step (T16.setTop (mkF m 75 #[.val (.ref a), .val (.int (Int32.ofNat pn)), .val (.int (Int32.ofNat (N - 1))), .val (.int (Int32.ofNat (own_cap N pn))), .val (.int y), .val (.int (Int32.ofNat (i - own_lb i)))] [(.ref a), (.int y), (.ref nb)])) (fun t₀ k₀ => XS.aloadN X16.here hx rfl (hb hby d4_74) rfl rfl k₀) ?_
          obtain ⟨T17, X17, e17, st17⟩ := getF X16 hx hZ hown (host := "") (Or.inl (hw _ (List.mem_of_getElem? (i := 41) rfl))) Via.refl e16 Kn (g := (mkF m 75 #[.val (.ref a), .val (.int (Int32.ofNat pn)), .val (.int (Int32.ofNat (N - 1))), .val (.int (Int32.ofNat (own_cap N pn))), .val (.int y), .val (.int (Int32.ofNat (i - own_lb i)))] [(.ref a), (.int y), (.ref nb)])) rfl rfl (hb hby d4_75)
          refine own_step (T17.setTop (mkF m 78 #[.val (.ref a), .val (.int (Int32.ofNat pn)), .val (.int (Int32.ofNat (N - 1))), .val (.int (Int32.ofNat (own_cap N pn))), .val (.int y), .val (.int (Int32.ofNat (i - own_lb i)))] [(.int cn), (.int y), (.ref nb)])) (fun t₀ k₀ => st17 t₀ k₀) ?_
          refine own_step (T17.setTop (mkF m 79 #[.val (.ref a), .val (.int (Int32.ofNat pn)), .val (.int (Int32.ofNat (N - 1))), .val (.int (Int32.ofNat (own_cap N pn))), .val (.int y), .val (.int (Int32.ofNat (i - own_lb i)))] [(.ref a), (.int cn), (.int y), (.ref nb)])) (fun t₀ k₀ => XS.aloadN X17.here hx rfl (hb hby d4_78) rfl rfl k₀) ?_
          refine own_step (T17.setTop (mkF m 81 #[.val (.ref a), .val (.int (Int32.ofNat pn)), .val (.int (Int32.ofNat (N - 1))), .val (.int (Int32.ofNat (own_cap N pn))), .val (.int y), .val (.int (Int32.ofNat (i - own_lb i)))] [(.int (Int32.ofNat (i - own_lb i))), (.ref a), (.int cn), (.int y), (.ref nb)])) (fun t₀ k₀ => XS.iload X17.here hx rfl (hb hby d4_79) rfl k₀) ?_
          obtain ⟨cq18, kq18, q18a, q18b, q18c⟩ := isOf hZ e17 KE
          obtain ⟨_, _, ⟨T18, L18, k18, n18⟩, -, X18, ⟨Lc18, hQ18, l18, y18, z18⟩, st18⟩ := X17.virtualBack hx (y := (⟨"com/example/syncopate/syncopate/DeletedRows", "through", "(I)I"⟩ : MethodName)) (z := (⟨"com/example/syncopate/syncopate/DeletedRows", "through", "(I)I"⟩ : MethodName)) hown (mvT hZ (hw _ (List.mem_of_getElem? (i := 49) rfl))) (mvT hZ (hw _ (List.mem_of_getElem? (i := 44) rfl))) (notFace_of_selects (args := #[]) (mvT hZ (hw _ (List.mem_of_getElem? (i := 46) rfl)))) (mvT hZ (hw _ (List.mem_of_getElem? (i := 46) rfl))) (mvT hZ (hw _ (List.mem_of_getElem? (i := 45) rfl))) (by decide) (backOf (W := 3) (rm9 l Z a0 hw [] a (Int32.ofNat (i - own_lb i)) nb kd (own_cap N pn + 1) g D hh n0 Zc45 Kc KV (by omega) (by omega) (own_GT hG (by have := own_lb1 i (by omega) (by omega); omega) (by omega) (by omega))) hZ (hw _ (List.mem_of_getElem? (i := 47) rfl)) (hw _ (List.mem_of_getElem? (i := 3) rfl)) (by decide) (by decide)) q18a q18c (g := (mkF m 81 #[.val (.ref a), .val (.int (Int32.ofNat pn)), .val (.int (Int32.ofNat (N - 1))), .val (.int (Int32.ofNat (own_cap N pn))), .val (.int y), .val (.int (Int32.ofNat (i - own_lb i)))] [(.int (Int32.ofNat (i - own_lb i))), (.ref a), (.int cn), (.int y), (.ref nb)])) rfl (by rw [hml]; rfl) (Steps.refl _) (argsL := [(.int (Int32.ofNat (i - own_lb i)))]) (rest := [(.int cn), (.int y), (.ref nb)]) (lenOf pd_6 rfl) rfl (by show 2 * 0 + _ ≤ _; exact Nat.le_of_eq rfl) (hb hby d4_81) (fun _ _ => ⟨rfl, e17, (by decide : 1 + 0 ≤ _), (by decide : 257 + 0 ≤ _)⟩)
          dsimp only [Pt.U, Pt.locs, Pt.cells, Pt.slots] at X18 l18 y18 z18 st18 hQ18
          subst l18 y18 z18
          obtain ⟨rfl, N18q, e18⟩ := hQ18
          have N18 := Fr.app Nc45 N18q
          refine own_comes (T18.setTop (mkF m 84 #[.val (.ref a), .val (.int (Int32.ofNat pn)), .val (.int (Int32.ofNat (N - 1))), .val (.int (Int32.ofNat (own_cap N pn))), .val (.int y), .val (.int (Int32.ofNat (i - own_lb i)))] [(.int (Int32.ofNat (own_cnt D 0 (own_M (Int32.ofNat (i - own_lb i)) (own_cap N pn + 1))))), (.int cn), (.int y), (.ref nb)])) st18 ?_
          refine own_step (T18.setTop (mkF m 85 #[.val (.ref a), .val (.int (Int32.ofNat pn)), .val (.int (Int32.ofNat (N - 1))), .val (.int (Int32.ofNat (own_cap N pn))), .val (.int y), .val (.int (Int32.ofNat (i - own_lb i)))] [(.int (cn - (Int32.ofNat (own_cnt D 0 (own_M (Int32.ofNat (i - own_lb i)) (own_cap N pn + 1)))))), (.int y), (.ref nb)])) (fun t₀ k₀ => XS.isub X18.here hx rfl (hb hby d4_84) rfl k₀) ?_
          obtain ⟨clo19, Aro19, qo19, So19, Mo19, Ho19, Go19⟩ := id KV
          have hino19 : ¬ (y < 0 ∨ clo19.slots.size ≤ (y).toNatClampNeg) := inb_of So19 (own_in hy hiN2 (by omega))
          obtain ⟨T20, h20, X20, e20, W20, st20⟩ := stI X18 hx hZ e18 Aro19 (j := y) hino19 (g := (mkF m 85 #[.val (.ref a), .val (.int (Int32.ofNat pn)), .val (.int (Int32.ofNat (N - 1))), .val (.int (Int32.ofNat (own_cap N pn))), .val (.int y), .val (.int (Int32.ofNat (i - own_lb i)))] [(.int (cn - (Int32.ofNat (own_cnt D 0 (own_M (Int32.ofNat (i - own_lb i)) (own_cap N pn + 1)))))), (.int y), (.ref nb)])) rfl rfl (hb hby d4_85)
          have V20 : Arv Z h20 nb kd .int (Int32.ofNat (own_cap N pn + 1)) (own_L (own_cap N pn + 1) (fun j => if j = i then (cn - (Int32.ofNat (own_cnt D 0 (own_M (Int32.ofNat (i - own_lb i)) (own_cap N pn + 1))))) else g j)) (.int (0 : Int32)) := by have q := Arv.set Aro19 qo19 So19 Mo19 Ho19 Go19 rfl W20 i (own_idx hy hiN2 (by omega)) (by rw [own_L_len]; exact hiN2); rw [own_L_set] at q; exact q
          have ne21 : a ≠ nb := (Exa.neArv KE KV (hw _ (List.mem_of_getElem? (i := 2) rfl)))
          have f22 : Exa Z h20 a "com/example/syncopate/syncopate/DeletedRows" := KE.wr W20
          have f23 : Fld Z h20 a "com/example/syncopate/syncopate/DeletedRows" "counts" "[I" (.ref nb) := Kc.other W20 (Or.inl ne21)
          have f24 : Fld Z h20 a "com/example/syncopate/syncopate/DeletedRows" "count" "I" (.int cn) := Kn.other W20 (Or.inl ne21)
          have N20 := Fr.snoc X20 N18 gnb
          have z20 : n0 ≤ h20.size := Nat.le_trans Zc45 (Keep.of_wr W20).1
          have B20 : own_Bel n0 h0 h20 := Bc45.wr W20 gnb
          refine own_step (T20.setTop (mkF m 86 #[.val (.ref a), .val (.int (Int32.ofNat pn)), .val (.int (Int32.ofNat (N - 1))), .val (.int (Int32.ofNat (own_cap N pn))), .val (.int y), .val (.int (Int32.ofNat (i - own_lb i)))] [])) (fun t₀ k₀ => st20 t₀ k₀) ?_
          refine own_step (T20.setTop (mkF m 89 #[.val (.ref a), .val (.int (Int32.ofNat pn)), .val (.int (Int32.ofNat (N - 1))), .val (.int (Int32.ofNat (own_cap N pn))), .val (.int (y + (1 : Int32))), .val (.int (Int32.ofNat (i - own_lb i)))] [])) (fun t₀ k₀ => XS.iinc X20.here hx rfl (hb hby d4_86) rfl (l' := #[.val (.ref a), .val (.int (Int32.ofNat pn)), .val (.int (Int32.ofNat (N - 1))), .val (.int (Int32.ofNat (own_cap N pn))), .val (.int (y + (1 : Int32))), .val (.int (Int32.ofNat (i - own_lb i)))]) rfl k₀) ?_
          refine own_step (T20.setTop (mkF m 45 #[.val (.ref a), .val (.int (Int32.ofNat pn)), .val (.int (Int32.ofNat (N - 1))), .val (.int (Int32.ofNat (own_cap N pn))), .val (.int (y + (1 : Int32))), .val (.int (Int32.ofNat (i - own_lb i)))] [])) (fun t₀ k₀ => XS.goto X20.here hx rfl (pc0 := 89) (pc' := 45) rfl (hb hby d4_89) (by decide) (by decide) k₀) ?_
          exact ih nb kd (fun j => if j = i then (cn - (Int32.ofNat (own_cnt D 0 (own_M (Int32.ofNat (i - own_lb i)) (own_cap N pn + 1))))) else g j) (i + 1) (y + (1 : Int32)) (.val (.int (Int32.ofNat (i - own_lb i)))) _ z20 B20 _ _ N20 X20 e20 f22 f23 f24 V20 gnb (One.val rfl) (by omega) (by rw [hy]; exact own_succ i) (by omega) (by omega) (own_GB hG (own_val hc hD hi1 hiN2 (by omega)))
        · skip
          refine own_step (Tc45.setTop (mkF m 86 #[.val (.ref a), .val (.int (Int32.ofNat pn)), .val (.int (Int32.ofNat (N - 1))), .val (.int (Int32.ofNat (own_cap N pn))), .val (.int y), .val (.int (Int32.ofNat (i - own_lb i)))] [])) (fun t₀ k₀ => XS.icmpYes Xc45.here hx rfl (pc0 := 65) (pc' := 86) rfl (hb hby d4_65) rfl (flt hc65).2.1 (by decide) (by decide) k₀) ?_
          refine own_step (Tc45.setTop (mkF m 89 #[.val (.ref a), .val (.int (Int32.ofNat pn)), .val (.int (Int32.ofNat (N - 1))), .val (.int (Int32.ofNat (own_cap N pn))), .val (.int (y + (1 : Int32))), .val (.int (Int32.ofNat (i - own_lb i)))] [])) (fun t₀ k₀ => XS.iinc Xc45.here hx rfl (hb hby d4_86) rfl (l' := #[.val (.ref a), .val (.int (Int32.ofNat pn)), .val (.int (Int32.ofNat (N - 1))), .val (.int (Int32.ofNat (own_cap N pn))), .val (.int (y + (1 : Int32))), .val (.int (Int32.ofNat (i - own_lb i)))]) rfl k₀) ?_
          refine own_step (Tc45.setTop (mkF m 45 #[.val (.ref a), .val (.int (Int32.ofNat pn)), .val (.int (Int32.ofNat (N - 1))), .val (.int (Int32.ofNat (own_cap N pn))), .val (.int (y + (1 : Int32))), .val (.int (Int32.ofNat (i - own_lb i)))] [])) (fun t₀ k₀ => XS.goto Xc45.here hx rfl (pc0 := 89) (pc' := 45) rfl (hb hby d4_89) (by decide) (by decide) k₀) ?_
          exact ih nb kd g (i + 1) (y + (1 : Int32)) (.val (.int (Int32.ofNat (i - own_lb i)))) _ Zc45 Bc45 _ _ Nc45 Xc45 ec45 KE Kc Kn KV gnb (One.val rfl) (by omega) (by rw [hy]; exact own_succ i) (by omega) (by omega) (own_GA hG (by omega) (by omega) hD (by rw [own_lt (by omega) (by omega)] at hc65; omega) hiN2)
  show own_Go p e below (fun s₂ o₉ => s₂.status = .running ∧ Ended s₂ below o₉ ∧ ∃ v L, o₉ = .returned v ∧ Q_rm4 Z a ct kc N f D pn cn h0 n0 v s₂.heap L ∧ FrameEnd s o₉ s₂ L ({ frames := 2, cells := 1, slots := 257, locals := 55 } : Room).cells ({ frames := 2, cells := 1, slots := 257, locals := 55 } : Room).slots) (s₁.setTop (entryFrame m #[(.ref a), (.int (Int32.ofNat pn))] 6))
  rw [ef_rm4 m a]
  refine own_step (s₁.setTop (mkF m 1 #[.val (.ref a), .val (.int (Int32.ofNat pn)), .unset, .unset, .unset, .unset] [(.ref a)])) (fun t₀ k₀ => XS.aloadN X0.here hx rfl (hb hby d4_0) rfl rfl k₀) ?_
  obtain ⟨T25, X25, e25, st25⟩ := getF X0 hx hZ hown (host := "") (Or.inl (hw _ (List.mem_of_getElem? (i := 10) rfl))) Via.refl e0 Uc (g := (mkF m 1 #[.val (.ref a), .val (.int (Int32.ofNat pn)), .unset, .unset, .unset, .unset] [(.ref a)])) rfl rfl (hb hby d4_1)
  refine own_step (T25.setTop (mkF m 4 #[.val (.ref a), .val (.int (Int32.ofNat pn)), .unset, .unset, .unset, .unset] [(.ref ct)])) (fun t₀ k₀ => st25 t₀ k₀) ?_
  obtain ⟨clo26, Aro26, qo26, So26, Mo26, Ho26, Go26⟩ := id UV
  refine own_step (T25.setTop (mkF m 5 #[.val (.ref a), .val (.int (Int32.ofNat pn)), .unset, .unset, .unset, .unset] [(.int (Int32.ofNat N))])) (fun t₀ k₀ => X25.arraylength hx (by rw [e25]; exact Aro26.1) (State.isArrayOf_alike hZ.alike Aro26.2.1) (g := (mkF m 4 #[.val (.ref a), .val (.int (Int32.ofNat pn)), .unset, .unset, .unset, .unset] [(.ref ct)])) rfl rfl (hb hby d4_4) _ (by rw [len_of So26 Mo26]; exact k₀)) ?_
  refine own_step (T25.setTop (mkF m 6 #[.val (.ref a), .val (.int (Int32.ofNat pn)), .unset, .unset, .unset, .unset] [(.int (1 : Int32)), (.int (Int32.ofNat N))])) (fun t₀ k₀ => XS.iconst X25.here hx rfl (hb hby d4_5) k₀) ?_
  refine own_step (T25.setTop (mkF m 7 #[.val (.ref a), .val (.int (Int32.ofNat pn)), .unset, .unset, .unset, .unset] [(.int ((Int32.ofNat N) - (1 : Int32)))])) (fun t₀ k₀ => XS.isub X25.here hx rfl (hb hby d4_6) rfl k₀) ?_
  rw [own_len1 hN1]
  refine own_step (T25.setTop (mkF m 8 #[.val (.ref a), .val (.int (Int32.ofNat pn)), .val (.int (Int32.ofNat (N - 1))), .unset, .unset, .unset] [])) (fun t₀ k₀ => XS.istoreN X25.here hx rfl (hb hby d4_7) rfl (l' := #[.val (.ref a), .val (.int (Int32.ofNat pn)), .val (.int (Int32.ofNat (N - 1))), .unset, .unset, .unset]) rfl k₀) ?_
  refine own_step (T25.setTop (mkF m 9 #[.val (.ref a), .val (.int (Int32.ofNat pn)), .val (.int (Int32.ofNat (N - 1))), .unset, .unset, .unset] [(.int (Int32.ofNat pn))])) (fun t₀ k₀ => XS.iloadN X25.here hx rfl (hb hby d4_8) rfl k₀) ?_
  refine own_step (T25.setTop (mkF m 12 #[.val (.ref a), .val (.int (Int32.ofNat pn)), .val (.int (Int32.ofNat (N - 1))), .unset, .unset, .unset] [(.long (2 : Int64)), (.int (Int32.ofNat pn))])) (fun t₀ k₀ => X25.ldc2Long hx hown (mvT hZ (hw _ (List.mem_of_getElem? (i := 21) rfl))) (g := (mkF m 9 #[.val (.ref a), .val (.int (Int32.ofNat pn)), .val (.int (Int32.ofNat (N - 1))), .unset, .unset, .unset] [(.int (Int32.ofNat pn))])) rfl (hb hby d4_9) _ k₀) ?_
  refine own_step (T25.setTop (mkF m 13 #[.val (.ref a), .val (.int (Int32.ofNat pn)), .val (.int (Int32.ofNat (N - 1))), .unset, .unset, .unset] [(.int (Int32.ofNat (N - 1))), (.long (2 : Int64)), (.int (Int32.ofNat pn))])) (fun t₀ k₀ => XS.iloadN X25.here hx rfl (hb hby d4_12) rfl k₀) ?_
  refine own_step (T25.setTop (mkF m 14 #[.val (.ref a), .val (.int (Int32.ofNat pn)), .val (.int (Int32.ofNat (N - 1))), .unset, .unset, .unset] [(.long ((Int32.ofNat (N - 1)).toInt64)), (.long (2 : Int64)), (.int (Int32.ofNat pn))])) (fun t₀ k₀ => XS.i2l X25.here hx rfl (hb hby d4_13) rfl k₀) ?_
  refine own_step (T25.setTop (mkF m 15 #[.val (.ref a), .val (.int (Int32.ofNat pn)), .val (.int (Int32.ofNat (N - 1))), .unset, .unset, .unset] [(.long ((2 : Int64) * ((Int32.ofNat (N - 1)).toInt64))), (.int (Int32.ofNat pn))])) (fun t₀ k₀ => XS.lmul X25.here hx rfl (hb hby d4_14) rfl k₀) ?_
  refine own_step (T25.setTop (mkF m 18 #[.val (.ref a), .val (.int (Int32.ofNat pn)), .val (.int (Int32.ofNat (N - 1))), .unset, .unset, .unset] [(.long (2147483638 : Int64)), (.long ((2 : Int64) * ((Int32.ofNat (N - 1)).toInt64))), (.int (Int32.ofNat pn))])) (fun t₀ k₀ => X25.ldc2Long hx hown (mvT hZ (hw _ (List.mem_of_getElem? (i := 22) rfl))) (g := (mkF m 15 #[.val (.ref a), .val (.int (Int32.ofNat pn)), .val (.int (Int32.ofNat (N - 1))), .unset, .unset, .unset] [(.long ((2 : Int64) * ((Int32.ofNat (N - 1)).toInt64))), (.int (Int32.ofNat pn))])) rfl (hb hby d4_15) _ k₀) ?_
  obtain ⟨_, _, ⟨T27, L27, k27, n27⟩, -, X27, ⟨Lc27, hQ27, l27, y27, z27⟩, st27⟩ := Jvm.LawKit.callS X25 hx (y := (⟨"java/lang/Math", "min", "(JJ)J"⟩ : MethodName)) hown (mvT hZ (hw _ (List.mem_of_getElem? (i := 23) rfl))) (mvT hZ (hw _ (List.mem_of_getElem? (i := 24) rfl))) (mvT hZ (hw _ (List.mem_of_getElem? (i := 25) rfl))) (mvT hZ (hw _ (List.mem_of_getElem? (i := 26) rfl))) (by decide) (backOf (W := 1) (rm5 l Z a0 hw [] ((2 : Int64) * ((Int32.ofNat (N - 1)).toInt64)) (2147483638 : Int64) h0 n0 Z0) hZ (hw _ (List.mem_of_getElem? (i := 26) rfl)) (hw _ (List.mem_of_getElem? (i := 25) rfl)) (by decide) (by decide)) (g := (mkF m 18 #[.val (.ref a), .val (.int (Int32.ofNat pn)), .val (.int (Int32.ofNat (N - 1))), .unset, .unset, .unset] [(.long (2147483638 : Int64)), (.long ((2 : Int64) * ((Int32.ofNat (N - 1)).toInt64))), (.int (Int32.ofNat pn))])) rfl (by rw [hml]; rfl) (argsL := [(.long ((2 : Int64) * ((Int32.ofNat (N - 1)).toInt64))), (.long (2147483638 : Int64))]) (rest := [(.int (Int32.ofNat pn))]) (lenOf pd_2 rfl) rfl (by show 2 * 0 + _ ≤ _; exact Nat.le_of_eq rfl) (hb hby d4_18) (fun _ _ => ⟨rfl, e25, (by decide : 0 + 0 ≤ _), (by decide : 0 + 0 ≤ _)⟩)
  dsimp only [Pt.U, Pt.locs, Pt.cells, Pt.slots] at X27 l27 y27 z27 st27 hQ27
  subst l27 y27 z27
  obtain ⟨rfl, N27q, e27⟩ := hQ27
  have N27 := Fr.app N0 N27q
  refine own_step (T27.setTop (mkF m 21 #[.val (.ref a), .val (.int (Int32.ofNat pn)), .val (.int (Int32.ofNat (N - 1))), .unset, .unset, .unset] [(.long (own_minj ((2 : Int64) * ((Int32.ofNat (N - 1)).toInt64)) (2147483638 : Int64))), (.int (Int32.ofNat pn))])) (fun t₀ k₀ => st27 t₀ k₀) ?_
  refine own_step (T27.setTop (mkF m 22 #[.val (.ref a), .val (.int (Int32.ofNat pn)), .val (.int (Int32.ofNat (N - 1))), .unset, .unset, .unset] [(.int ((own_minj ((2 : Int64) * ((Int32.ofNat (N - 1)).toInt64)) (2147483638 : Int64)).toInt32)), (.int (Int32.ofNat pn))])) (fun t₀ k₀ => XS.l2i X27.here hx rfl (hb hby d4_21) rfl k₀) ?_
  obtain ⟨_, _, ⟨T28, L28, k28, n28⟩, -, X28, ⟨Lc28, hQ28, l28, y28, z28⟩, st28⟩ := Jvm.LawKit.callS X27 hx (y := (⟨"java/lang/Math", "max", "(II)I"⟩ : MethodName)) hown (mvT hZ (hw _ (List.mem_of_getElem? (i := 27) rfl))) (mvT hZ (hw _ (List.mem_of_getElem? (i := 28) rfl))) (mvT hZ (hw _ (List.mem_of_getElem? (i := 25) rfl))) (mvT hZ (hw _ (List.mem_of_getElem? (i := 29) rfl))) (by decide) (backOf (W := 0) (rm6 l Z a0 hw [] (Int32.ofNat pn) ((own_minj ((2 : Int64) * ((Int32.ofNat (N - 1)).toInt64)) (2147483638 : Int64)).toInt32) h0 n0 Z0) hZ (hw _ (List.mem_of_getElem? (i := 29) rfl)) (hw _ (List.mem_of_getElem? (i := 25) rfl)) (by decide) (by decide)) (g := (mkF m 22 #[.val (.ref a), .val (.int (Int32.ofNat pn)), .val (.int (Int32.ofNat (N - 1))), .unset, .unset, .unset] [(.int ((own_minj ((2 : Int64) * ((Int32.ofNat (N - 1)).toInt64)) (2147483638 : Int64)).toInt32)), (.int (Int32.ofNat pn))])) rfl (by rw [hml]; rfl) (argsL := [(.int (Int32.ofNat pn)), (.int ((own_minj ((2 : Int64) * ((Int32.ofNat (N - 1)).toInt64)) (2147483638 : Int64)).toInt32))]) (rest := []) (lenOf pd_3 rfl) rfl (by show 2 * 0 + _ ≤ _; exact Nat.le_of_eq rfl) (hb hby d4_22) (fun _ _ => ⟨rfl, e27, (by decide : 0 + 0 ≤ _), (by decide : 0 + 0 ≤ _)⟩)
  dsimp only [Pt.U, Pt.locs, Pt.cells, Pt.slots] at X28 l28 y28 z28 st28 hQ28
  subst l28 y28 z28
  obtain ⟨rfl, N28q, e28⟩ := hQ28
  have N28 := Fr.app N27 N28q
  refine own_step (T28.setTop (mkF m 25 #[.val (.ref a), .val (.int (Int32.ofNat pn)), .val (.int (Int32.ofNat (N - 1))), .unset, .unset, .unset] [(.int (own_imax (Int32.ofNat pn) ((own_minj ((2 : Int64) * ((Int32.ofNat (N - 1)).toInt64)) (2147483638 : Int64)).toInt32)))])) (fun t₀ k₀ => st28 t₀ k₀) ?_
  rw [own_capv (by omega) (by omega)]
  refine own_step (T28.setTop (mkF m 26 #[.val (.ref a), .val (.int (Int32.ofNat pn)), .val (.int (Int32.ofNat (N - 1))), .val (.int (Int32.ofNat (own_cap N pn))), .unset, .unset] [])) (fun t₀ k₀ => XS.istoreN X28.here hx rfl (hb hby d4_25) rfl (l' := #[.val (.ref a), .val (.int (Int32.ofNat pn)), .val (.int (Int32.ofNat (N - 1))), .val (.int (Int32.ofNat (own_cap N pn))), .unset, .unset]) rfl k₀) ?_
  refine own_step (T28.setTop (mkF m 27 #[.val (.ref a), .val (.int (Int32.ofNat pn)), .val (.int (Int32.ofNat (N - 1))), .val (.int (Int32.ofNat (own_cap N pn))), .unset, .unset] [(.ref a)])) (fun t₀ k₀ => XS.aloadN X28.here hx rfl (hb hby d4_26) rfl rfl k₀) ?_
  refine own_step (T28.setTop (mkF m 28 #[.val (.ref a), .val (.int (Int32.ofNat pn)), .val (.int (Int32.ofNat (N - 1))), .val (.int (Int32.ofNat (own_cap N pn))), .unset, .unset] [(.ref a), (.ref a)])) (fun t₀ k₀ => XS.aloadN X28.here hx rfl (hb hby d4_27) rfl rfl k₀) ?_
  obtain ⟨T29, X29, e29, st29⟩ := getF X28 hx hZ hown (host := "") (Or.inl (hw _ (List.mem_of_getElem? (i := 10) rfl))) Via.refl e28 Uc (g := (mkF m 28 #[.val (.ref a), .val (.int (Int32.ofNat pn)), .val (.int (Int32.ofNat (N - 1))), .val (.int (Int32.ofNat (own_cap N pn))), .unset, .unset] [(.ref a), (.ref a)])) rfl rfl (hb hby d4_28)
  refine own_step (T29.setTop (mkF m 31 #[.val (.ref a), .val (.int (Int32.ofNat pn)), .val (.int (Int32.ofNat (N - 1))), .val (.int (Int32.ofNat (own_cap N pn))), .unset, .unset] [(.ref ct), (.ref a)])) (fun t₀ k₀ => st29 t₀ k₀) ?_
  refine own_step (T29.setTop (mkF m 32 #[.val (.ref a), .val (.int (Int32.ofNat pn)), .val (.int (Int32.ofNat (N - 1))), .val (.int (Int32.ofNat (own_cap N pn))), .unset, .unset] [(.int (Int32.ofNat (own_cap N pn))), (.ref ct), (.ref a)])) (fun t₀ k₀ => XS.iloadN X29.here hx rfl (hb hby d4_31) rfl k₀) ?_
  refine own_step (T29.setTop (mkF m 33 #[.val (.ref a), .val (.int (Int32.ofNat pn)), .val (.int (Int32.ofNat (N - 1))), .val (.int (Int32.ofNat (own_cap N pn))), .unset, .unset] [(.int (1 : Int32)), (.int (Int32.ofNat (own_cap N pn))), (.ref ct), (.ref a)])) (fun t₀ k₀ => XS.iconst X29.here hx rfl (hb hby d4_32) k₀) ?_
  refine own_step (T29.setTop (mkF m 34 #[.val (.ref a), .val (.int (Int32.ofNat pn)), .val (.int (Int32.ofNat (N - 1))), .val (.int (Int32.ofNat (own_cap N pn))), .unset, .unset] [(.int ((Int32.ofNat (own_cap N pn)) + (1 : Int32))), (.ref ct), (.ref a)])) (fun t₀ k₀ => XS.iadd X29.here hx rfl (hb hby d4_33) rfl k₀) ?_
  rw [own_succ]
  obtain ⟨_, _, ⟨T30, L30, k30, n30⟩, -, X30, ⟨Lc30, hQ30, l30, y30, z30⟩, st30⟩ := Jvm.LawKit.callS X29 hx (y := (⟨"java/util/Arrays", "copyOf", "([II)[I"⟩ : MethodName)) hown (mvT hZ (hw _ (List.mem_of_getElem? (i := 30) rfl))) (mvT hZ (hw _ (List.mem_of_getElem? (i := 31) rfl))) (mvT hZ (hw _ (List.mem_of_getElem? (i := 32) rfl))) (mvT hZ (hw _ (List.mem_of_getElem? (i := 33) rfl))) (by decide) (backOf (W := 1) (rm7 l Z a0 hw [] ct kc N f (own_cap N pn + 1) h0 n0 Z0 UV (by unfold own_cap; omega) hNB') hZ (hw _ (List.mem_of_getElem? (i := 33) rfl)) (hw _ (List.mem_of_getElem? (i := 32) rfl)) (by decide) (by decide)) (g := (mkF m 34 #[.val (.ref a), .val (.int (Int32.ofNat pn)), .val (.int (Int32.ofNat (N - 1))), .val (.int (Int32.ofNat (own_cap N pn))), .unset, .unset] [(.int (Int32.ofNat (own_cap N pn + 1))), (.ref ct), (.ref a)])) rfl (by rw [hml]; rfl) (argsL := [(.ref ct), (.int (Int32.ofNat (own_cap N pn + 1)))]) (rest := [(.ref a)]) (lenOf pd_4 rfl) rfl (by show 2 * 0 + _ ≤ _; exact Nat.le_of_eq rfl) (hb hby d4_34) (fun _ _ => ⟨rfl, e29, (by decide : 0 + 1 ≤ _), (by decide : 0 + 257 ≤ _)⟩)
  dsimp only [Pt.U, Pt.locs, Pt.cells, Pt.slots] at X30 l30 y30 z30 st30 hQ30
  subst l30 y30 z30
  obtain ⟨nb31, kd32, rfl, N30q, K30, f33, f34⟩ := hQ30
  have N30 := Fr.app N28 N30q
  have f35 : Exa Z T30.heap a "com/example/syncopate/syncopate/DeletedRows" := UE.keep K30
  have f36 : Fld Z T30.heap a "com/example/syncopate/syncopate/DeletedRows" "counts" "[I" (.ref ct) := Uc.keep K30 nin0
  have f37 : Fld Z T30.heap a "com/example/syncopate/syncopate/DeletedRows" "count" "I" (.int cn) := Un.keep K30 nin0
  have f38 : Arv Z T30.heap ct kc .int (Int32.ofNat N) (own_L N f) (.int (0 : Int32)) := UV.keep K30 nin0
  have B30 : own_Bel n0 h0 T30.heap := (own_Bel.refl n0 h0).keep K30 all0
  have z30' : n0 ≤ T30.heap.size := Nat.le_trans Z0 K30.1
  refine own_step (T30.setTop (mkF m 37 #[.val (.ref a), .val (.int (Int32.ofNat pn)), .val (.int (Int32.ofNat (N - 1))), .val (.int (Int32.ofNat (own_cap N pn))), .unset, .unset] [(.ref nb31), (.ref a)])) (fun t₀ k₀ => st30 t₀ k₀) ?_
  obtain ⟨T39, h39, X39, e39, W39, st39⟩ := putF X30 hx hZ hown (host := "") (Or.inl (hw _ (List.mem_of_getElem? (i := 10) rfl))) Via.refl rfl f36 f35 (Or.inl (hw _ (List.mem_of_getElem? (i := 11) rfl))) (hw _ (List.mem_of_getElem? (i := 2) rfl)) (ty := (.array .int)) (by decide) rfl rfl (g := (mkF m 37 #[.val (.ref a), .val (.int (Int32.ofNat pn)), .val (.int (Int32.ofNat (N - 1))), .val (.int (Int32.ofNat (own_cap N pn))), .unset, .unset] [(.ref nb31), (.ref a)])) rfl rfl (hb hby d4_37)
  have f40 : Fld Z h39 a "com/example/syncopate/syncopate/DeletedRows" "counts" "[I" (.ref nb31) := f36.same W39
  have ne41 : ct ≠ a := (Ne.symm (Exa.neArv f35 f38 (hw _ (List.mem_of_getElem? (i := 2) rfl))))
  have ne42 : nb31 ≠ a := (Ne.symm (Exa.neArv f35 f34 (hw _ (List.mem_of_getElem? (i := 2) rfl))))
  have f43 : Exa Z h39 a "com/example/syncopate/syncopate/DeletedRows" := f35.wr W39
  have f44 : Fld Z h39 a "com/example/syncopate/syncopate/DeletedRows" "count" "I" (.int cn) := f37.other W39 (Or.inr (slot_ne (Or.inl (hw _ (List.mem_of_getElem? (i := 42) rfl))) (Or.inl (hw _ (List.mem_of_getElem? (i := 11) rfl))) (by decide) (t := .int) (t' := (.array .int)) (by decide) (by decide)))
  have f45 : Arv Z h39 ct kc .int (Int32.ofNat N) (own_L N f) (.int (0 : Int32)) := f38.other W39 ne41
  have f46 : Arv Z h39 nb31 kd32 .int (Int32.ofNat (own_cap N pn + 1)) (own_L (own_cap N pn + 1) (own_cp N f)) (.int (0 : Int32)) := f34.other W39 ne42
  have N39 := Fr.snoc X39 N30 ga
  have z39 : n0 ≤ h39.size := Nat.le_trans z30' (Keep.of_wr W39).1
  have B39 : own_Bel n0 h0 h39 := B30.wr W39 ga
  refine own_step (T39.setTop (mkF m 40 #[.val (.ref a), .val (.int (Int32.ofNat pn)), .val (.int (Int32.ofNat (N - 1))), .val (.int (Int32.ofNat (own_cap N pn))), .unset, .unset] [])) (fun t₀ k₀ => st39 t₀ k₀) ?_
  refine own_step (T39.setTop (mkF m 41 #[.val (.ref a), .val (.int (Int32.ofNat pn)), .val (.int (Int32.ofNat (N - 1))), .val (.int (Int32.ofNat (own_cap N pn))), .unset, .unset] [(.int (Int32.ofNat (N - 1)))])) (fun t₀ k₀ => XS.iloadN X39.here hx rfl (hb hby d4_40) rfl k₀) ?_
  refine own_step (T39.setTop (mkF m 42 #[.val (.ref a), .val (.int (Int32.ofNat pn)), .val (.int (Int32.ofNat (N - 1))), .val (.int (Int32.ofNat (own_cap N pn))), .unset, .unset] [(.int (1 : Int32)), (.int (Int32.ofNat (N - 1)))])) (fun t₀ k₀ => XS.iconst X39.here hx rfl (hb hby d4_41) k₀) ?_
  refine own_step (T39.setTop (mkF m 43 #[.val (.ref a), .val (.int (Int32.ofNat pn)), .val (.int (Int32.ofNat (N - 1))), .val (.int (Int32.ofNat (own_cap N pn))), .unset, .unset] [(.int ((Int32.ofNat (N - 1)) + (1 : Int32)))])) (fun t₀ k₀ => XS.iadd X39.here hx rfl (hb hby d4_42) rfl k₀) ?_
  rw [own_pred hN1]
  refine own_step (T39.setTop (mkF m 45 #[.val (.ref a), .val (.int (Int32.ofNat pn)), .val (.int (Int32.ofNat (N - 1))), .val (.int (Int32.ofNat (own_cap N pn))), .val (.int (Int32.ofNat N)), .unset] [])) (fun t₀ k₀ => XS.istore X39.here hx rfl (hb hby d4_43) rfl (l' := #[.val (.ref a), .val (.int (Int32.ofNat pn)), .val (.int (Int32.ofNat (N - 1))), .val (.int (Int32.ofNat (own_cap N pn))), .val (.int (Int32.ofNat N)), .unset]) rfl k₀) ?_
  exact cut45 (own_cap N pn + 1) nb31 kd32 (own_cp N f) N (Int32.ofNat N) .unset _ z39 B39 _ _ N39 X39 e39 f43 f40 f44 f46 f33 One.u (by omega) rfl (Nat.le_refl _) (by unfold own_cap; omega) (own_G0 hI)
theorem d3_0 : decode prog_7_method_2_code 0 = .ok (.iload_n 1, 1) := by decide +kernel
theorem d3_1 : decode prog_7_method_2_code 1 = .ok (.aload_n 0, 1) := by decide +kernel
theorem d3_2 : decode prog_7_method_2_code 2 = .ok (.getfield 9, 3) := by decide +kernel
theorem d3_5 : decode prog_7_method_2_code 5 = .ok (.arraylength, 1) := by decide +kernel
theorem d3_6 : decode prog_7_method_2_code 6 = .ok (.if_icmp .lt 8, 3) := by decide +kernel
theorem d3_9 : decode prog_7_method_2_code 9 = .ok (.aload_n 0, 1) := by decide +kernel
theorem d3_10 : decode prog_7_method_2_code 10 = .ok (.iload_n 1, 1) := by decide +kernel
theorem d3_11 : decode prog_7_method_2_code 11 = .ok (.invokevirtual 15, 3) := by decide +kernel
theorem d3_14 : decode prog_7_method_2_code 14 = .ok (.iload_n 1, 1) := by decide +kernel
theorem d3_15 : decode prog_7_method_2_code 15 = .ok (.i2l, 1) := by decide +kernel
theorem d3_16 : decode prog_7_method_2_code 16 = .ok (.lstore_n 2, 1) := by decide +kernel
theorem d3_17 : decode prog_7_method_2_code 17 = .ok (.lload_n 2, 1) := by decide +kernel
theorem d3_18 : decode prog_7_method_2_code 18 = .ok (.aload_n 0, 1) := by decide +kernel
theorem d3_19 : decode prog_7_method_2_code 19 = .ok (.getfield 9, 3) := by decide +kernel
theorem d3_22 : decode prog_7_method_2_code 22 = .ok (.arraylength, 1) := by decide +kernel
theorem d3_23 : decode prog_7_method_2_code 23 = .ok (.i2l, 1) := by decide +kernel
theorem d3_24 : decode prog_7_method_2_code 24 = .ok (.lcmp, 1) := by decide +kernel
theorem d3_25 : decode prog_7_method_2_code 25 = .ok (.ifCond .ge 24, 3) := by decide +kernel
theorem d3_28 : decode prog_7_method_2_code 28 = .ok (.aload_n 0, 1) := by decide +kernel
theorem d3_29 : decode prog_7_method_2_code 29 = .ok (.getfield 9, 3) := by decide +kernel
theorem d3_32 : decode prog_7_method_2_code 32 = .ok (.lload_n 2, 1) := by decide +kernel
theorem d3_33 : decode prog_7_method_2_code 33 = .ok (.l2i, 1) := by decide +kernel
theorem d3_34 : decode prog_7_method_2_code 34 = .ok (.dup2, 1) := by decide +kernel
theorem d3_35 : decode prog_7_method_2_code 35 = .ok (.iaload, 1) := by decide +kernel
theorem d3_36 : decode prog_7_method_2_code 36 = .ok (.iconst 1, 1) := by decide +kernel
theorem d3_37 : decode prog_7_method_2_code 37 = .ok (.iadd, 1) := by decide +kernel
theorem d3_38 : decode prog_7_method_2_code 38 = .ok (.iastore, 1) := by decide +kernel
theorem d3_39 : decode prog_7_method_2_code 39 = .ok (.lload_n 2, 1) := by decide +kernel
theorem d3_40 : decode prog_7_method_2_code 40 = .ok (.lload_n 2, 1) := by decide +kernel
theorem d3_41 : decode prog_7_method_2_code 41 = .ok (.lload_n 2, 1) := by decide +kernel
theorem d3_42 : decode prog_7_method_2_code 42 = .ok (.lneg, 1) := by decide +kernel
theorem d3_43 : decode prog_7_method_2_code 43 = .ok (.land, 1) := by decide +kernel
theorem d3_44 : decode prog_7_method_2_code 44 = .ok (.ladd, 1) := by decide +kernel
theorem d3_45 : decode prog_7_method_2_code 45 = .ok (.lstore_n 2, 1) := by decide +kernel
theorem d3_46 : decode prog_7_method_2_code 46 = .ok (.goto (-29), 3) := by decide +kernel
theorem d3_49 : decode prog_7_method_2_code 49 = .ok (.aload_n 0, 1) := by decide +kernel
theorem d3_50 : decode prog_7_method_2_code 50 = .ok (.dup, 1) := by decide +kernel
theorem d3_51 : decode prog_7_method_2_code 51 = .ok (.getfield 19, 3) := by decide +kernel
theorem d3_54 : decode prog_7_method_2_code 54 = .ok (.iconst 1, 1) := by decide +kernel
theorem d3_55 : decode prog_7_method_2_code 55 = .ok (.iadd, 1) := by decide +kernel
theorem d3_56 : decode prog_7_method_2_code 56 = .ok (.putfield 19, 3) := by decide +kernel
theorem d3_59 : decode prog_7_method_2_code 59 = .ok (.return_, 1) := by decide +kernel
theorem ef_rm3 (m : MethodId) (a : Addr) : entryFrame m #[(.ref a), (.int (Int32.ofNat pn))] 4 = mkF m 0 #[.val (.ref a), .val (.int (Int32.ofNat pn)), .unset, .unset] [] := by first | (simp [entryFrame, mkF, argsToLocals, Value.category]; done) | rfl
def Q_rm3 (Z : State) (a : Addr) (ct : Addr) (kc : ClassId) (N : Nat) (f : Nat → Int32) (D : List Nat) (pn : Nat) (cn : Int32) (h0 : Heap) (n0 : Nat) (v : Option Value) (h : Heap) (L : List Loc) : Prop := ∃ (ct1 : Addr) (k1 : ClassId) (g : Nat → Int32), v = none ∧ Fr n0 L ∧ own_Bel n0 h0 h ∧ n0 ≤ ct1 ∧ own_Inv (pn :: D) (own_next N pn) g ∧ cn + (1 : Int32) = Int32.ofNat (pn :: D).length ∧ Exa Z h a "com/example/syncopate/syncopate/DeletedRows" ∧ Fld Z h a "com/example/syncopate/syncopate/DeletedRows" "counts" "[I" (.ref ct1) ∧ Fld Z h a "com/example/syncopate/syncopate/DeletedRows" "count" "I" (.int (cn + (1 : Int32))) ∧ Arv Z h ct1 k1 .int (Int32.ofNat (own_next N pn)) (own_L (own_next N pn) g) (.int (0 : Int32))
set_option maxRecDepth 65536 in
set_option maxHeartbeats 40000000 in
theorem rm3 (l : Launch) (Z : State) (a0 : Array Value) (hw : ∀ d ∈ tables_1, d.before a0 Z = true) (ws : List Jvm.Cond) (a : Addr) (ct : Addr) (kc : ClassId) (N : Nat) (f : Nat → Int32) (D : List Nat) (pn : Nat) (cn : Int32) (h0 : Heap) (n0 : Nat) (Z0 : n0 ≤ h0.size) (UE : Exa Z h0 a "com/example/syncopate/syncopate/DeletedRows") (Uc : Fld Z h0 a "com/example/syncopate/syncopate/DeletedRows" "counts" "[I" (.ref ct)) (Un : Fld Z h0 a "com/example/syncopate/syncopate/DeletedRows" "count" "I" (.int cn)) (UV : Arv Z h0 ct kc .int (Int32.ofNat N) (own_L N f) (.int (0 : Int32))) (ga : n0 ≤ a) (hN1 : 1 ≤ N) (hp : 0 < pn ∧ pn < 1024) (hNB : own_next N pn ≤ 257) (hI : own_Inv D N f) (hD : ∀ d ∈ D, 0 < d ∧ d < N) (hc : cn = Int32.ofNat D.length) (gct : n0 ≤ ct) :
    MetFree l (⟨"com/example/syncopate/syncopate/DeletedRows", "add", "(I)V"⟩ : MethodName) (head1 (Jvm.Cond.code (⟨"com/example/syncopate/syncopate/DeletedRows", "add", "(I)V"⟩ : MethodName) prog_7_method_2_code 4 none :: ws) ({ frames := 3, cells := 1, slots := 257, locals := 72 } : Room)) (fun as₉ U => as₉ = #[(.ref a), (.int (Int32.ofNat pn))] ∧ Z.Warmed39 U.vm ∧ U.heap = h0) (fun _ _ _ _ _ => True) (fun _ U o₉ U' => ∃ v L, o₉ = .returned v ∧ Q_rm3 Z a ct kc N f D pn cn h0 n0 v U'.heap L ∧ FrameEnd U o₉ U' L ({ frames := 3, cells := 1, slots := 257, locals := 72 } : Room).cells ({ frames := 3, cells := 1, slots := 257, locals := 72 } : Room).slots) := by
  refine MetFree.of_bodySF (plainFor_of_name pn_9) hisR ?_
  intro p e s m args below meth c s₁ Bd hml0 hP hK
  obtain ⟨rfl, hZ, hh⟩ := hP
  have hx := Bd.exec
  have hby := Bd.bytes
  have hml : c.maxLocals = 4 := hml0
  have hown : s.vm.findClass "com/example/syncopate/syncopate/DeletedRows" = some m.cls := findClass_of_methodNamed Bd.named
  have hnm := (name_of_methodNamed Bd.named Bd.method).1
  have X0 : Stand p l e ({ frames := 3, cells := 1, slots := 257, locals := 72 } : Room) s m #[(.ref a), (.int (Int32.ofNat pn))] below meth c s₁ [] 0 0 := Stand.of_body Bd
  have e0 : s₁.heap = h0 := by rw [← hh, Bd.state]; rfl
  have N0 := Fr.nil n0
  have hNN : N ≤ own_next N pn := by unfold own_next own_cap; split <;> omega
  have cut17 : ∀ (kk : Nat) (ct1 : Addr) (k1 : ClassId) (f1 : Nat → Int32) (g : Nat → Int32) (i : Nat) (xl : Int64) (hh : Heap) (Zc17 : n0 ≤ hh.size) (Bc17 : own_Bel n0 h0 hh) (Tc17 : State) (lc17 : List Loc) (Nc17 : Fr n0 lc17) (Xc17 : Stand p l e ({ frames := 3, cells := 1, slots := 257, locals := 72 } : Room) s m #[(.ref a), (.int (Int32.ofNat pn))] below meth c Tc17 lc17 1 257) (ec17 : Tc17.heap = hh) (KE : Exa Z hh a "com/example/syncopate/syncopate/DeletedRows") (Kc : Fld Z hh a "com/example/syncopate/syncopate/DeletedRows" "counts" "[I" (.ref ct1)) (Kn : Fld Z hh a "com/example/syncopate/syncopate/DeletedRows" "count" "I" (.int cn)) (KV : Arv Z hh ct1 k1 .int (Int32.ofNat (own_next N pn)) (own_L (own_next N pn) g) (.int (0 : Int32))) (gct1 : n0 ≤ ct1) (hI1 : own_Inv D (own_next N pn) f1) (hik : (own_next N pn) ≤ i + kk) (hxl : xl = Int64.ofNat i) (hi4 : i < 2048) (hcov : own_cov pn i) (hH : own_H (own_next N pn) pn i f1 g), own_Go p e below (fun s₂ o₉ => s₂.status = .running ∧ Ended s₂ below o₉ ∧ ∃ v L, o₉ = .returned v ∧ Q_rm3 Z a ct kc N f D pn cn h0 n0 v s₂.heap L ∧ FrameEnd s o₉ s₂ L ({ frames := 3, cells := 1, slots := 257, locals := 72 } : Room).cells ({ frames := 3, cells := 1, slots := 257, locals := 72 } : Room).slots) (Tc17.setTop (mkF m 17 #[.val (.ref a), .val (.int (Int32.ofNat pn)), .val (.long xl), .second] [])) := by
    intro kk
    induction kk with
    | zero => 
      intro ct1 k1 f1 g i xl hh Zc17 Bc17 Tc17 lc17 Nc17 Xc17 ec17 KE Kc Kn KV gct1 hI1 hik hxl hi4 hcov hH
      refine own_step (Tc17.setTop (mkF m 18 #[.val (.ref a), .val (.int (Int32.ofNat pn)), .val (.long xl), .second] [(.long xl)])) (fun t₀ k₀ => XS.lloadN Xc17.here hx rfl (hb hby d3_17) rfl k₀) ?_
      refine own_step (Tc17.setTop (mkF m 19 #[.val (.ref a), .val (.int (Int32.ofNat pn)), .val (.long xl), .second] [(.ref a), (.long xl)])) (fun t₀ k₀ => XS.aloadN Xc17.here hx rfl (hb hby d3_18) rfl rfl k₀) ?_
      obtain ⟨T47, X47, e47, st47⟩ := getF Xc17 hx hZ hown (host := "") (Or.inl (hw _ (List.mem_of_getElem? (i := 10) rfl))) Via.refl ec17 Kc (g := (mkF m 19 #[.val (.ref a), .val (.int (Int32.ofNat pn)), .val (.long xl), .second] [(.ref a), (.long xl)])) rfl rfl (hb hby d3_19)
      refine own_step (T47.setTop (mkF m 22 #[.val (.ref a), .val (.int (Int32.ofNat pn)), .val (.long xl), .second] [(.ref ct1), (.long xl)])) (fun t₀ k₀ => st47 t₀ k₀) ?_
      obtain ⟨clo48, Aro48, qo48, So48, Mo48, Ho48, Go48⟩ := id KV
      refine own_step (T47.setTop (mkF m 23 #[.val (.ref a), .val (.int (Int32.ofNat pn)), .val (.long xl), .second] [(.int (Int32.ofNat (own_next N pn))), (.long xl)])) (fun t₀ k₀ => X47.arraylength hx (by rw [e47]; exact Aro48.1) (State.isArrayOf_alike hZ.alike Aro48.2.1) (g := (mkF m 22 #[.val (.ref a), .val (.int (Int32.ofNat pn)), .val (.long xl), .second] [(.ref ct1), (.long xl)])) rfl rfl (hb hby d3_22) _ (by rw [len_of So48 Mo48]; exact k₀)) ?_
      refine own_step (T47.setTop (mkF m 24 #[.val (.ref a), .val (.int (Int32.ofNat pn)), .val (.long xl), .second] [(.long ((Int32.ofNat (own_next N pn)).toInt64)), (.long xl)])) (fun t₀ k₀ => XS.i2l X47.here hx rfl (hb hby d3_23) rfl k₀) ?_
      refine own_step (T47.setTop (mkF m 25 #[.val (.ref a), .val (.int (Int32.ofNat pn)), .val (.long xl), .second] [(.int (lcmpW xl ((Int32.ofNat (own_next N pn)).toInt64)))])) (fun t₀ k₀ => XS.lcmp X47.here hx rfl (hb hby d3_24) rfl k₀) ?_
      by_cases hc25 : xl < ((Int32.ofNat (own_next N pn)).toInt64)
      · skip
        exfalso
        have := (own_l1 hxl (by omega) (by omega)).mp hc25
        omega
      · skip
        refine own_step (T47.setTop (mkF m 49 #[.val (.ref a), .val (.int (Int32.ofNat pn)), .val (.long xl), .second] [])) (fun t₀ k₀ => XS.ifYes X47.here hx rfl (pc0 := 25) (pc' := 49) rfl (hb hby d3_25) rfl (own_lgeT hc25) (by decide) (by decide) k₀) ?_
        refine own_step (T47.setTop (mkF m 50 #[.val (.ref a), .val (.int (Int32.ofNat pn)), .val (.long xl), .second] [(.ref a)])) (fun t₀ k₀ => XS.aloadN X47.here hx rfl (hb hby d3_49) rfl rfl k₀) ?_
        refine own_step (T47.setTop (mkF m 51 #[.val (.ref a), .val (.int (Int32.ofNat pn)), .val (.long xl), .second] [(.ref a), (.ref a)])) (fun t₀ k₀ => XS.dup X47.here hx rfl (hb hby d3_50) rfl rfl k₀) ?_
        obtain ⟨T49, X49, e49, st49⟩ := getF X47 hx hZ hown (host := "") (Or.inl (hw _ (List.mem_of_getElem? (i := 41) rfl))) Via.refl e47 Kn (g := (mkF m 51 #[.val (.ref a), .val (.int (Int32.ofNat pn)), .val (.long xl), .second] [(.ref a), (.ref a)])) rfl rfl (hb hby d3_51)
        refine own_step (T49.setTop (mkF m 54 #[.val (.ref a), .val (.int (Int32.ofNat pn)), .val (.long xl), .second] [(.int cn), (.ref a)])) (fun t₀ k₀ => st49 t₀ k₀) ?_
        refine own_step (T49.setTop (mkF m 55 #[.val (.ref a), .val (.int (Int32.ofNat pn)), .val (.long xl), .second] [(.int (1 : Int32)), (.int cn), (.ref a)])) (fun t₀ k₀ => XS.iconst X49.here hx rfl (hb hby d3_54) k₀) ?_
        refine own_step (T49.setTop (mkF m 56 #[.val (.ref a), .val (.int (Int32.ofNat pn)), .val (.long xl), .second] [(.int (cn + (1 : Int32))), (.ref a)])) (fun t₀ k₀ => XS.iadd X49.here hx rfl (hb hby d3_55) rfl k₀) ?_
        obtain ⟨T50, h50, X50, e50, W50, st50⟩ := putF X49 hx hZ hown (host := "") (Or.inl (hw _ (List.mem_of_getElem? (i := 41) rfl))) Via.refl e49 Kn KE (Or.inl (hw _ (List.mem_of_getElem? (i := 42) rfl))) (hw _ (List.mem_of_getElem? (i := 2) rfl)) (ty := .int) (by decide) rfl rfl (g := (mkF m 56 #[.val (.ref a), .val (.int (Int32.ofNat pn)), .val (.long xl), .second] [(.int (cn + (1 : Int32))), (.ref a)])) rfl rfl (hb hby d3_56)
        have f51 : Fld Z h50 a "com/example/syncopate/syncopate/DeletedRows" "count" "I" (.int (cn + (1 : Int32))) := Kn.same W50
        have ne52 : ct1 ≠ a := (Ne.symm (Exa.neArv KE KV (hw _ (List.mem_of_getElem? (i := 2) rfl))))
        have f53 : Exa Z h50 a "com/example/syncopate/syncopate/DeletedRows" := KE.wr W50
        have f54 : Fld Z h50 a "com/example/syncopate/syncopate/DeletedRows" "counts" "[I" (.ref ct1) := Kc.other W50 (Or.inr (slot_ne (Or.inl (hw _ (List.mem_of_getElem? (i := 11) rfl))) (Or.inl (hw _ (List.mem_of_getElem? (i := 42) rfl))) (by decide) (t := (.array .int)) (t' := .int) (by decide) (by decide)))
        have f55 : Arv Z h50 ct1 k1 .int (Int32.ofNat (own_next N pn)) (own_L (own_next N pn) g) (.int (0 : Int32)) := KV.other W50 ne52
        have N50 := Fr.snoc X50 Nc17 ga
        have z50 : n0 ≤ h50.size := Nat.le_trans Zc17 (Keep.of_wr W50).1
        have B50 : own_Bel n0 h0 h50 := Bc17.wr W50 ga
        refine own_step (T50.setTop (mkF m 59 #[.val (.ref a), .val (.int (Int32.ofNat pn)), .val (.long xl), .second] [])) (fun t₀ k₀ => st50 t₀ k₀) ?_
        obtain ⟨fs, hr, hrun, hended, hW, hsame⟩ := X50.leave (v := none) (fun _ => rfl)
        refine ⟨_, _, ?_, hrun, hended, _, _, rfl, ?_, ⟨_, rfl⟩, hW, hsame.mono (by decide) (by decide)⟩
        · exact X50.returnOut hx Bd.returns (hb hby d3_59) hr
        · show Q_rm3 Z a ct kc N f D pn cn h0 n0 _ T50.heap _
          rw [e50]
          exact ⟨ct1, k1, g, rfl, N50, B50, gct1, own_H2 hI1 hH (fun q => hc25 ((own_l1 hxl (by omega) (by omega)).mpr q)), by rw [hc]; exact own_succ _, f53, f54, f51, f55⟩
    | succ kk ih => 
      intro ct1 k1 f1 g i xl hh Zc17 Bc17 Tc17 lc17 Nc17 Xc17 ec17 KE Kc Kn KV gct1 hI1 hik hxl hi4 hcov hH
      refine own_step (Tc17.setTop (mkF m 18 #[.val (.ref a), .val (.int (Int32.ofNat pn)), .val (.long xl), .second] [(.long xl)])) (fun t₀ k₀ => XS.lloadN Xc17.here hx rfl (hb hby d3_17) rfl k₀) ?_
      refine own_step (Tc17.setTop (mkF m 19 #[.val (.ref a), .val (.int (Int32.ofNat pn)), .val (.long xl), .second] [(.ref a), (.long xl)])) (fun t₀ k₀ => XS.aloadN Xc17.here hx rfl (hb hby d3_18) rfl rfl k₀) ?_
      obtain ⟨T56, X56, e56, st56⟩ := getF Xc17 hx hZ hown (host := "") (Or.inl (hw _ (List.mem_of_getElem? (i := 10) rfl))) Via.refl ec17 Kc (g := (mkF m 19 #[.val (.ref a), .val (.int (Int32.ofNat pn)), .val (.long xl), .second] [(.ref a), (.long xl)])) rfl rfl (hb hby d3_19)
      refine own_step (T56.setTop (mkF m 22 #[.val (.ref a), .val (.int (Int32.ofNat pn)), .val (.long xl), .second] [(.ref ct1), (.long xl)])) (fun t₀ k₀ => st56 t₀ k₀) ?_
      obtain ⟨clo57, Aro57, qo57, So57, Mo57, Ho57, Go57⟩ := id KV
      refine own_step (T56.setTop (mkF m 23 #[.val (.ref a), .val (.int (Int32.ofNat pn)), .val (.long xl), .second] [(.int (Int32.ofNat (own_next N pn))), (.long xl)])) (fun t₀ k₀ => X56.arraylength hx (by rw [e56]; exact Aro57.1) (State.isArrayOf_alike hZ.alike Aro57.2.1) (g := (mkF m 22 #[.val (.ref a), .val (.int (Int32.ofNat pn)), .val (.long xl), .second] [(.ref ct1), (.long xl)])) rfl rfl (hb hby d3_22) _ (by rw [len_of So57 Mo57]; exact k₀)) ?_
      refine own_step (T56.setTop (mkF m 24 #[.val (.ref a), .val (.int (Int32.ofNat pn)), .val (.long xl), .second] [(.long ((Int32.ofNat (own_next N pn)).toInt64)), (.long xl)])) (fun t₀ k₀ => XS.i2l X56.here hx rfl (hb hby d3_23) rfl k₀) ?_
      refine own_step (T56.setTop (mkF m 25 #[.val (.ref a), .val (.int (Int32.ofNat pn)), .val (.long xl), .second] [(.int (lcmpW xl ((Int32.ofNat (own_next N pn)).toInt64)))])) (fun t₀ k₀ => XS.lcmp X56.here hx rfl (hb hby d3_24) rfl k₀) ?_
      by_cases hc25 : xl < ((Int32.ofNat (own_next N pn)).toInt64)
      · skip
        refine own_step (T56.setTop (mkF m 28 #[.val (.ref a), .val (.int (Int32.ofNat pn)), .val (.long xl), .second] [])) (fun t₀ k₀ => XS.ifNo X56.here hx rfl (hb hby d3_25) rfl (own_lgeF hc25) k₀) ?_
        have hiN : i < own_next N pn := (own_l1 hxl (by omega) (by omega)).mp hc25
        have hi0 : 0 < i := by have := hcov.2; omega
        have exl : xl.toInt32 = Int32.ofNat i := own_l2i hxl (by omega)
        refine own_step (T56.setTop (mkF m 29 #[.val (.ref a), .val (.int (Int32.ofNat pn)), .val (.long xl), .second] [(.ref a)])) (fun t₀ k₀ => XS.aloadN X56.here hx rfl (hb hby d3_28) rfl rfl k₀) ?_
        obtain ⟨T58, X58, e58, st58⟩ := getF X56 hx hZ hown (host := "") (Or.inl (hw _ (List.mem_of_getElem? (i := 10) rfl))) Via.refl e56 Kc (g := (mkF m 29 #[.val (.ref a), .val (.int (Int32.ofNat pn)), .val (.long xl), .second] [(.ref a)])) rfl rfl (hb hby d3_29)
        refine own_step (T58.setTop (mkF m 32 #[.val (.ref a), .val (.int (Int32.ofNat pn)), .val (.long xl), .second] [(.ref ct1)])) (fun t₀ k₀ => st58 t₀ k₀) ?_
        refine own_step (T58.setTop (mkF m 33 #[.val (.ref a), .val (.int (Int32.ofNat pn)), .val (.long xl), .second] [(.long xl), (.ref ct1)])) (fun t₀ k₀ => XS.lloadN X58.here hx rfl (hb hby d3_32) rfl k₀) ?_
        refine own_step (T58.setTop (mkF m 34 #[.val (.ref a), .val (.int (Int32.ofNat pn)), .val (.long xl), .second] [(.int (xl.toInt32)), (.ref ct1)])) (fun t₀ k₀ => XS.l2i X58.here hx rfl (hb hby d3_33) rfl k₀) ?_
        refine own_step (T58.setTop (mkF m 35 #[.val (.ref a), .val (.int (Int32.ofNat pn)), .val (.long xl), .second] [(.int (xl.toInt32)), (.ref ct1), (.int (xl.toInt32)), (.ref ct1)])) (fun t₀ k₀ => Jvm.Free.XT.dup2 X58.here hx rfl (hb hby d3_34) rfl rfl rfl k₀) ?_
        obtain ⟨clo59, Aro59, qo59, So59, Mo59, Ho59, Go59⟩ := id KV
        have hino59 : ¬ ((xl.toInt32) < 0 ∨ clo59.slots.size ≤ ((xl.toInt32)).toNatClampNeg) := inb_of So59 (own_in exl hiN (by omega))
        have hato59 : clo59.slots[((xl.toInt32)).toNatClampNeg]? = some (.int (g i)) := Has.at Ho59 hino59 (own_at exl hiN (by omega))
        refine own_step (T58.setTop (mkF m 36 #[.val (.ref a), .val (.int (Int32.ofNat pn)), .val (.long xl), .second] [(.int (g i)), (.int (xl.toInt32)), (.ref ct1)])) (fun t₀ k₀ => X58.iaload hx (j := (xl.toInt32)) (v := (.int (g i))) (by rw [e58]; exact Aro59.1) (State.isArrayOf_alike hZ.alike Aro59.2.1) Aro59.2.2 hino59 hato59 (g := (mkF m 35 #[.val (.ref a), .val (.int (Int32.ofNat pn)), .val (.long xl), .second] [(.int (xl.toInt32)), (.ref ct1), (.int (xl.toInt32)), (.ref ct1)])) rfl rfl (hb hby d3_35) _ k₀) ?_
        refine own_step (T58.setTop (mkF m 37 #[.val (.ref a), .val (.int (Int32.ofNat pn)), .val (.long xl), .second] [(.int (1 : Int32)), (.int (g i)), (.int (xl.toInt32)), (.ref ct1)])) (fun t₀ k₀ => XS.iconst X58.here hx rfl (hb hby d3_36) k₀) ?_
        refine own_step (T58.setTop (mkF m 38 #[.val (.ref a), .val (.int (Int32.ofNat pn)), .val (.long xl), .second] [(.int ((g i) + (1 : Int32))), (.int (xl.toInt32)), (.ref ct1)])) (fun t₀ k₀ => XS.iadd X58.here hx rfl (hb hby d3_37) rfl k₀) ?_
        obtain ⟨clo60, Aro60, qo60, So60, Mo60, Ho60, Go60⟩ := id KV
        have hino60 : ¬ ((xl.toInt32) < 0 ∨ clo60.slots.size ≤ ((xl.toInt32)).toNatClampNeg) := inb_of So60 (own_in exl hiN (by omega))
        obtain ⟨T61, h61, X61, e61, W61, st61⟩ := stI X58 hx hZ e58 Aro60 (j := (xl.toInt32)) hino60 (g := (mkF m 38 #[.val (.ref a), .val (.int (Int32.ofNat pn)), .val (.long xl), .second] [(.int ((g i) + (1 : Int32))), (.int (xl.toInt32)), (.ref ct1)])) rfl rfl (hb hby d3_38)
        have V61 : Arv Z h61 ct1 k1 .int (Int32.ofNat (own_next N pn)) (own_L (own_next N pn) (fun j => if j = i then ((g i) + (1 : Int32)) else g j)) (.int (0 : Int32)) := by have q := Arv.set Aro60 qo60 So60 Mo60 Ho60 Go60 rfl W61 i (own_idx exl hiN (by omega)) (by rw [own_L_len]; exact hiN); rw [own_L_set] at q; exact q
        have ne62 : a ≠ ct1 := (Exa.neArv KE KV (hw _ (List.mem_of_getElem? (i := 2) rfl)))
        have f63 : Exa Z h61 a "com/example/syncopate/syncopate/DeletedRows" := KE.wr W61
        have f64 : Fld Z h61 a "com/example/syncopate/syncopate/DeletedRows" "counts" "[I" (.ref ct1) := Kc.other W61 (Or.inl ne62)
        have f65 : Fld Z h61 a "com/example/syncopate/syncopate/DeletedRows" "count" "I" (.int cn) := Kn.other W61 (Or.inl ne62)
        have N61 := Fr.snoc X61 Nc17 gct1
        have z61 : n0 ≤ h61.size := Nat.le_trans Zc17 (Keep.of_wr W61).1
        have B61 : own_Bel n0 h0 h61 := Bc17.wr W61 gct1
        refine own_step (T61.setTop (mkF m 39 #[.val (.ref a), .val (.int (Int32.ofNat pn)), .val (.long xl), .second] [])) (fun t₀ k₀ => st61 t₀ k₀) ?_
        refine own_step (T61.setTop (mkF m 40 #[.val (.ref a), .val (.int (Int32.ofNat pn)), .val (.long xl), .second] [(.long xl)])) (fun t₀ k₀ => XS.lloadN X61.here hx rfl (hb hby d3_39) rfl k₀) ?_
        refine own_step (T61.setTop (mkF m 41 #[.val (.ref a), .val (.int (Int32.ofNat pn)), .val (.long xl), .second] [(.long xl), (.long xl)])) (fun t₀ k₀ => XS.lloadN X61.here hx rfl (hb hby d3_40) rfl k₀) ?_
        refine own_step (T61.setTop (mkF m 42 #[.val (.ref a), .val (.int (Int32.ofNat pn)), .val (.long xl), .second] [(.long xl), (.long xl), (.long xl)])) (fun t₀ k₀ => XS.lloadN X61.here hx rfl (hb hby d3_41) rfl k₀) ?_
        refine own_step (T61.setTop (mkF m 43 #[.val (.ref a), .val (.int (Int32.ofNat pn)), .val (.long xl), .second] [(.long (-xl)), (.long xl), (.long xl)])) (fun t₀ k₀ => XS.lneg X61.here hx rfl (hb hby d3_42) rfl k₀) ?_
        refine own_step (T61.setTop (mkF m 44 #[.val (.ref a), .val (.int (Int32.ofNat pn)), .val (.long xl), .second] [(.long (xl &&& (-xl))), (.long xl)])) (fun t₀ k₀ => XS.land X61.here hx rfl (hb hby d3_43) rfl k₀) ?_
        refine own_step (T61.setTop (mkF m 45 #[.val (.ref a), .val (.int (Int32.ofNat pn)), .val (.long xl), .second] [(.long (xl + (xl &&& (-xl))))])) (fun t₀ k₀ => XS.ladd X61.here hx rfl (hb hby d3_44) rfl k₀) ?_
        refine own_step (T61.setTop (mkF m 46 #[.val (.ref a), .val (.int (Int32.ofNat pn)), .val (.long (xl + (xl &&& (-xl)))), .second] [])) (fun t₀ k₀ => XS.lstoreN X61.here hx rfl (hb hby d3_45) rfl (l' := #[.val (.ref a), .val (.int (Int32.ofNat pn)), .val (.long (xl + (xl &&& (-xl)))), .second]) rfl k₀) ?_
        refine own_step (T61.setTop (mkF m 17 #[.val (.ref a), .val (.int (Int32.ofNat pn)), .val (.long (xl + (xl &&& (-xl)))), .second] [])) (fun t₀ k₀ => XS.goto X61.here hx rfl (pc0 := 46) (pc' := 17) rfl (hb hby d3_46) (by decide) (by decide) k₀) ?_
        exact ih ct1 k1 f1 (fun j => if j = i then ((g i) + (1 : Int32)) else g j) (i + own_lb i) (xl + (xl &&& (-xl))) _ z61 B61 _ _ N61 X61 e61 f63 f64 f65 V61 gct1 hI1 (by have := own_lb1 i (by omega) hi0; omega) (own_nx hxl (by omega)) (by have := own_lb1 i (by omega) hi0; omega) (own_cov_next hp.1 (by omega) hcov) (own_H1 hH hp.1 (by omega) hcov rfl hiN)
      · skip
        refine own_step (T56.setTop (mkF m 49 #[.val (.ref a), .val (.int (Int32.ofNat pn)), .val (.long xl), .second] [])) (fun t₀ k₀ => XS.ifYes X56.here hx rfl (pc0 := 25) (pc' := 49) rfl (hb hby d3_25) rfl (own_lgeT hc25) (by decide) (by decide) k₀) ?_
        refine own_step (T56.setTop (mkF m 50 #[.val (.ref a), .val (.int (Int32.ofNat pn)), .val (.long xl), .second] [(.ref a)])) (fun t₀ k₀ => XS.aloadN X56.here hx rfl (hb hby d3_49) rfl rfl k₀) ?_
        refine own_step (T56.setTop (mkF m 51 #[.val (.ref a), .val (.int (Int32.ofNat pn)), .val (.long xl), .second] [(.ref a), (.ref a)])) (fun t₀ k₀ => XS.dup X56.here hx rfl (hb hby d3_50) rfl rfl k₀) ?_
        obtain ⟨T66, X66, e66, st66⟩ := getF X56 hx hZ hown (host := "") (Or.inl (hw _ (List.mem_of_getElem? (i := 41) rfl))) Via.refl e56 Kn (g := (mkF m 51 #[.val (.ref a), .val (.int (Int32.ofNat pn)), .val (.long xl), .second] [(.ref a), (.ref a)])) rfl rfl (hb hby d3_51)
        refine own_step (T66.setTop (mkF m 54 #[.val (.ref a), .val (.int (Int32.ofNat pn)), .val (.long xl), .second] [(.int cn), (.ref a)])) (fun t₀ k₀ => st66 t₀ k₀) ?_
        refine own_step (T66.setTop (mkF m 55 #[.val (.ref a), .val (.int (Int32.ofNat pn)), .val (.long xl), .second] [(.int (1 : Int32)), (.int cn), (.ref a)])) (fun t₀ k₀ => XS.iconst X66.here hx rfl (hb hby d3_54) k₀) ?_
        refine own_step (T66.setTop (mkF m 56 #[.val (.ref a), .val (.int (Int32.ofNat pn)), .val (.long xl), .second] [(.int (cn + (1 : Int32))), (.ref a)])) (fun t₀ k₀ => XS.iadd X66.here hx rfl (hb hby d3_55) rfl k₀) ?_
        obtain ⟨T67, h67, X67, e67, W67, st67⟩ := putF X66 hx hZ hown (host := "") (Or.inl (hw _ (List.mem_of_getElem? (i := 41) rfl))) Via.refl e66 Kn KE (Or.inl (hw _ (List.mem_of_getElem? (i := 42) rfl))) (hw _ (List.mem_of_getElem? (i := 2) rfl)) (ty := .int) (by decide) rfl rfl (g := (mkF m 56 #[.val (.ref a), .val (.int (Int32.ofNat pn)), .val (.long xl), .second] [(.int (cn + (1 : Int32))), (.ref a)])) rfl rfl (hb hby d3_56)
        have f68 : Fld Z h67 a "com/example/syncopate/syncopate/DeletedRows" "count" "I" (.int (cn + (1 : Int32))) := Kn.same W67
        have ne69 : ct1 ≠ a := (Ne.symm (Exa.neArv KE KV (hw _ (List.mem_of_getElem? (i := 2) rfl))))
        have f70 : Exa Z h67 a "com/example/syncopate/syncopate/DeletedRows" := KE.wr W67
        have f71 : Fld Z h67 a "com/example/syncopate/syncopate/DeletedRows" "counts" "[I" (.ref ct1) := Kc.other W67 (Or.inr (slot_ne (Or.inl (hw _ (List.mem_of_getElem? (i := 11) rfl))) (Or.inl (hw _ (List.mem_of_getElem? (i := 42) rfl))) (by decide) (t := (.array .int)) (t' := .int) (by decide) (by decide)))
        have f72 : Arv Z h67 ct1 k1 .int (Int32.ofNat (own_next N pn)) (own_L (own_next N pn) g) (.int (0 : Int32)) := KV.other W67 ne69
        have N67 := Fr.snoc X67 Nc17 ga
        have z67 : n0 ≤ h67.size := Nat.le_trans Zc17 (Keep.of_wr W67).1
        have B67 : own_Bel n0 h0 h67 := Bc17.wr W67 ga
        refine own_step (T67.setTop (mkF m 59 #[.val (.ref a), .val (.int (Int32.ofNat pn)), .val (.long xl), .second] [])) (fun t₀ k₀ => st67 t₀ k₀) ?_
        obtain ⟨fs, hr, hrun, hended, hW, hsame⟩ := X67.leave (v := none) (fun _ => rfl)
        refine ⟨_, _, ?_, hrun, hended, _, _, rfl, ?_, ⟨_, rfl⟩, hW, hsame.mono (by decide) (by decide)⟩
        · exact X67.returnOut hx Bd.returns (hb hby d3_59) hr
        · show Q_rm3 Z a ct kc N f D pn cn h0 n0 _ T67.heap _
          rw [e67]
          exact ⟨ct1, k1, g, rfl, N67, B67, gct1, own_H2 hI1 hH (fun q => hc25 ((own_l1 hxl (by omega) (by omega)).mpr q)), by rw [hc]; exact own_succ _, f70, f71, f68, f72⟩
  have cut14 : ∀ (ct1 : Addr) (k1 : ClassId) (f1 : Nat → Int32) (hh : Heap) (Zc14 : n0 ≤ hh.size) (Bc14 : own_Bel n0 h0 hh) (Tc14 : State) (lc14 : List Loc) (Nc14 : Fr n0 lc14) (Xc14 : Stand p l e ({ frames := 3, cells := 1, slots := 257, locals := 72 } : Room) s m #[(.ref a), (.int (Int32.ofNat pn))] below meth c Tc14 lc14 1 257) (ec14 : Tc14.heap = hh) (KE : Exa Z hh a "com/example/syncopate/syncopate/DeletedRows") (Kc : Fld Z hh a "com/example/syncopate/syncopate/DeletedRows" "counts" "[I" (.ref ct1)) (Kn : Fld Z hh a "com/example/syncopate/syncopate/DeletedRows" "count" "I" (.int cn)) (KV : Arv Z hh ct1 k1 .int (Int32.ofNat (own_next N pn)) (own_L (own_next N pn) f1) (.int (0 : Int32))) (gct1 : n0 ≤ ct1) (hI1 : own_Inv D (own_next N pn) f1), own_Go p e below (fun s₂ o₉ => s₂.status = .running ∧ Ended s₂ below o₉ ∧ ∃ v L, o₉ = .returned v ∧ Q_rm3 Z a ct kc N f D pn cn h0 n0 v s₂.heap L ∧ FrameEnd s o₉ s₂ L ({ frames := 3, cells := 1, slots := 257, locals := 72 } : Room).cells ({ frames := 3, cells := 1, slots := 257, locals := 72 } : Room).slots) (Tc14.setTop (mkF m 14 #[.val (.ref a), .val (.int (Int32.ofNat pn)), .unset, .unset] [])) := by
    intro ct1 k1 f1 hh Zc14 Bc14 Tc14 lc14 Nc14 Xc14 ec14 KE Kc Kn KV gct1 hI1
    refine own_step (Tc14.setTop (mkF m 15 #[.val (.ref a), .val (.int (Int32.ofNat pn)), .unset, .unset] [(.int (Int32.ofNat pn))])) (fun t₀ k₀ => XS.iloadN Xc14.here hx rfl (hb hby d3_14) rfl k₀) ?_
    refine own_step (Tc14.setTop (mkF m 16 #[.val (.ref a), .val (.int (Int32.ofNat pn)), .unset, .unset] [(.long ((Int32.ofNat pn).toInt64))])) (fun t₀ k₀ => XS.i2l Xc14.here hx rfl (hb hby d3_15) rfl k₀) ?_
    rw [own_i2l (by omega)]
    refine own_step (Tc14.setTop (mkF m 17 #[.val (.ref a), .val (.int (Int32.ofNat pn)), .val (.long (Int64.ofNat pn)), .second] [])) (fun t₀ k₀ => XS.lstoreN Xc14.here hx rfl (hb hby d3_16) rfl (l' := #[.val (.ref a), .val (.int (Int32.ofNat pn)), .val (.long (Int64.ofNat pn)), .second]) rfl k₀) ?_
    exact cut17 (own_next N pn) ct1 k1 f1 f1 pn (Int64.ofNat pn) _ Zc14 Bc14 _ _ Nc14 Xc14 ec14 KE Kc Kn KV gct1 hI1 (by omega) rfl (by omega) (own_cov_self hp.1 hp.2) (own_H0 _ _ _)
  show own_Go p e below (fun s₂ o₉ => s₂.status = .running ∧ Ended s₂ below o₉ ∧ ∃ v L, o₉ = .returned v ∧ Q_rm3 Z a ct kc N f D pn cn h0 n0 v s₂.heap L ∧ FrameEnd s o₉ s₂ L ({ frames := 3, cells := 1, slots := 257, locals := 72 } : Room).cells ({ frames := 3, cells := 1, slots := 257, locals := 72 } : Room).slots) (s₁.setTop (entryFrame m #[(.ref a), (.int (Int32.ofNat pn))] 4))
  rw [ef_rm3 m a]
  refine own_step (s₁.setTop (mkF m 1 #[.val (.ref a), .val (.int (Int32.ofNat pn)), .unset, .unset] [(.int (Int32.ofNat pn))])) (fun t₀ k₀ => XS.iloadN X0.here hx rfl (hb hby d3_0) rfl k₀) ?_
  refine own_step (s₁.setTop (mkF m 2 #[.val (.ref a), .val (.int (Int32.ofNat pn)), .unset, .unset] [(.ref a), (.int (Int32.ofNat pn))])) (fun t₀ k₀ => XS.aloadN X0.here hx rfl (hb hby d3_1) rfl rfl k₀) ?_
  obtain ⟨T73, X73, e73, st73⟩ := getF X0 hx hZ hown (host := "") (Or.inl (hw _ (List.mem_of_getElem? (i := 10) rfl))) Via.refl e0 Uc (g := (mkF m 2 #[.val (.ref a), .val (.int (Int32.ofNat pn)), .unset, .unset] [(.ref a), (.int (Int32.ofNat pn))])) rfl rfl (hb hby d3_2)
  refine own_step (T73.setTop (mkF m 5 #[.val (.ref a), .val (.int (Int32.ofNat pn)), .unset, .unset] [(.ref ct), (.int (Int32.ofNat pn))])) (fun t₀ k₀ => st73 t₀ k₀) ?_
  obtain ⟨clo74, Aro74, qo74, So74, Mo74, Ho74, Go74⟩ := id UV
  refine own_step (T73.setTop (mkF m 6 #[.val (.ref a), .val (.int (Int32.ofNat pn)), .unset, .unset] [(.int (Int32.ofNat N)), (.int (Int32.ofNat pn))])) (fun t₀ k₀ => X73.arraylength hx (by rw [e73]; exact Aro74.1) (State.isArrayOf_alike hZ.alike Aro74.2.1) (g := (mkF m 5 #[.val (.ref a), .val (.int (Int32.ofNat pn)), .unset, .unset] [(.ref ct), (.int (Int32.ofNat pn))])) rfl rfl (hb hby d3_5) _ (by rw [len_of So74 Mo74]; exact k₀)) ?_
  by_cases hc6 : (Int32.ofNat pn) < (Int32.ofNat N)
  · skip
    refine own_step (T73.setTop (mkF m 14 #[.val (.ref a), .val (.int (Int32.ofNat pn)), .unset, .unset] [])) (fun t₀ k₀ => XS.icmpYes X73.here hx rfl (pc0 := 6) (pc' := 14) rfl (hb hby d3_6) rfl (tlt hc6).1 (by decide) (by decide) k₀) ?_
    have hnx : own_next N pn = N := own_next_lt (by rw [own_lt (by omega) (by omega)] at hc6; exact hc6)
    have Vx75 : Arv Z h0 ct kc .int (Int32.ofNat (own_next N pn)) (own_L (own_next N pn) f) (.int (0 : Int32)) := by rw [hnx]; exact UV
    exact cut14 ct kc f _ Z0 (own_Bel.refl n0 h0) _ _ N0 (own_widen X73 (by decide) (by decide)) e73 UE Uc Un Vx75 gct (by rw [hnx]; exact hI)
  · skip
    refine own_step (T73.setTop (mkF m 9 #[.val (.ref a), .val (.int (Int32.ofNat pn)), .unset, .unset] [])) (fun t₀ k₀ => XS.icmpNo X73.here hx rfl (hb hby d3_6) rfl (flt hc6).1 k₀) ?_
    have hle : N ≤ pn := by rw [own_lt (by omega) (by omega)] at hc6; omega
    refine own_step (T73.setTop (mkF m 10 #[.val (.ref a), .val (.int (Int32.ofNat pn)), .unset, .unset] [(.ref a)])) (fun t₀ k₀ => XS.aloadN X73.here hx rfl (hb hby d3_9) rfl rfl k₀) ?_
    refine own_step (T73.setTop (mkF m 11 #[.val (.ref a), .val (.int (Int32.ofNat pn)), .unset, .unset] [(.int (Int32.ofNat pn)), (.ref a)])) (fun t₀ k₀ => XS.iloadN X73.here hx rfl (hb hby d3_10) rfl k₀) ?_
    obtain ⟨cq76, q76, q76'⟩ := UE.cell
    obtain ⟨_, _, ⟨T76, L76, k76, n76⟩, -, X76, ⟨Lc76, hQ76, l76, y76, z76⟩, st76⟩ := X73.privateBack hx (y := (⟨"com/example/syncopate/syncopate/DeletedRows", "grow", "(I)V"⟩ : MethodName)) hown (mvT hZ (hw _ (List.mem_of_getElem? (i := 17) rfl))) (mvT hZ (hw _ (List.mem_of_getElem? (i := 18) rfl))) (own_sel (y := (⟨"com/example/syncopate/syncopate/DeletedRows", "grow", "(I)V"⟩ : MethodName)) (mvT hZ (hw _ (List.mem_of_getElem? (i := 2) rfl))) (mvP hZ (hw _ (List.mem_of_getElem? (i := 19) rfl))) (mvT hZ (hw _ (List.mem_of_getElem? (i := 18) rfl))) (by decide)) (Cond.privateMethod_at (mvP hZ (hw _ (List.mem_of_getElem? (i := 19) rfl)) (args := #[]))) (mvT hZ (hw _ (List.mem_of_getElem? (i := 20) rfl))) (by decide) (backOf (W := 0) (rm4 l Z a0 hw [] a ct kc N f D pn cn h0 n0 Z0 UE Uc Un UV ga hN1 hp hNB hI hD hc hle) hZ (hw _ (List.mem_of_getElem? (i := 20) rfl)) (hw _ (List.mem_of_getElem? (i := 3) rfl)) (by decide) (by decide)) (g := (mkF m 11 #[.val (.ref a), .val (.int (Int32.ofNat pn)), .unset, .unset] [(.int (Int32.ofNat pn)), (.ref a)])) rfl (by rw [hml]; rfl) (Steps.refl _) (a := a) (by rw [e73]; exact q76) q76' (argsL := [(.int (Int32.ofNat pn))]) (rest := []) (lenOf pd_1 rfl) rfl (by show 2 * 0 + _ ≤ _; exact Nat.le_of_eq rfl) (hb hby d3_11) (fun _ _ => ⟨rfl, e73, (by decide : 0 + 1 ≤ _), (by decide : 0 + 257 ≤ _)⟩)
    dsimp only [Pt.U, Pt.locs, Pt.cells, Pt.slots] at X76 l76 y76 z76 st76 hQ76
    subst l76 y76 z76
    obtain ⟨nb77, kd78, g79, rfl, N76q, K76, f80, f81, f82, f83, f84, f85⟩ := hQ76
    have N76 := Fr.app N0 N76q
    have z76' : n0 ≤ T76.heap.size := Nat.le_trans Z0 K76.1
    have B76 : own_Bel n0 h0 T76.heap := (own_Bel.refl n0 h0).trans K76
    refine own_comes (T76.setTop (mkF m 14 #[.val (.ref a), .val (.int (Int32.ofNat pn)), .unset, .unset] [])) st76 ?_
    have hnx : own_next N pn = own_cap N pn + 1 := own_next_ge hle
    have Vx86 : Arv Z T76.heap nb77 kd78 .int (Int32.ofNat (own_next N pn)) (own_L (own_next N pn) g79) (.int (0 : Int32)) := by rw [hnx]; exact f85
    exact cut14 nb77 kd78 g79 _ z76' B76 _ _ N76 X76 rfl f82 f83 f84 Vx86 f80 (by rw [hnx]; exact f81)
theorem d1_0 : decode prog_7_method_1_code 0 = .ok (.aload_n 0, 1) := by decide +kernel
theorem d1_1 : decode prog_7_method_1_code 1 = .ok (.invokespecial 3, 3) := by decide +kernel
theorem d1_4 : decode prog_7_method_1_code 4 = .ok (.aload_n 0, 1) := by decide +kernel
theorem d1_5 : decode prog_7_method_1_code 5 = .ok (.iconst 1, 1) := by decide +kernel
theorem d1_6 : decode prog_7_method_1_code 6 = .ok (.newarray .int, 2) := by decide +kernel
theorem d1_8 : decode prog_7_method_1_code 8 = .ok (.putfield 9, 3) := by decide +kernel
theorem d1_11 : decode prog_7_method_1_code 11 = .ok (.return_, 1) := by decide +kernel
theorem ef_rm1 (m : MethodId) (a : Addr) : entryFrame m #[(.ref a)] 1 = mkF m 0 #[.val (.ref a)] [] := by first | (simp [entryFrame, mkF, argsToLocals, Value.category]; done) | rfl
def Q_rm1 (Z : State) (a : Addr) (h0 : Heap) (n0 : Nat) (v : Option Value) (h : Heap) (L : List Loc) : Prop := ∃ (ct : Addr) (kc : ClassId), v = none ∧ Fr n0 L ∧ own_Bel n0 h0 h ∧ n0 ≤ ct ∧ Exa Z h a "com/example/syncopate/syncopate/DeletedRows" ∧ Fld Z h a "com/example/syncopate/syncopate/DeletedRows" "counts" "[I" (.ref ct) ∧ Fld Z h a "com/example/syncopate/syncopate/DeletedRows" "count" "I" (.int (0 : Int32)) ∧ Arv Z h ct kc .int (Int32.ofNat 1) (own_L 1 (fun _ => 0)) (.int (0 : Int32))
set_option maxRecDepth 65536 in
set_option maxHeartbeats 40000000 in
theorem rm1 (l : Launch) (Z : State) (a0 : Array Value) (hw : ∀ d ∈ tables_1, d.before a0 Z = true) (ws : List Jvm.Cond) (a : Addr) (h0 : Heap) (n0 : Nat) (Z0 : n0 ≤ h0.size) (Ea : Exa Z h0 a "com/example/syncopate/syncopate/DeletedRows") (Fc : Fld Z h0 a "com/example/syncopate/syncopate/DeletedRows" "counts" "[I" .null) (Fn : Fld Z h0 a "com/example/syncopate/syncopate/DeletedRows" "count" "I" (.int (0 : Int32))) (ga : n0 ≤ a) :
    MetFree l (⟨"com/example/syncopate/syncopate/DeletedRows", "<init>", "()V"⟩ : MethodName) (head1 (Jvm.Cond.code (⟨"com/example/syncopate/syncopate/DeletedRows", "<init>", "()V"⟩ : MethodName) prog_7_method_1_code 1 none :: ws) ({ frames := 1, cells := 1, slots := 1, locals := 12 } : Room)) (fun as₉ U => as₉ = #[(.ref a)] ∧ Z.Warmed39 U.vm ∧ U.heap = h0) (fun _ _ _ _ _ => True) (fun _ U o₉ U' => ∃ v L, o₉ = .returned v ∧ Q_rm1 Z a h0 n0 v U'.heap L ∧ FrameEnd U o₉ U' L ({ frames := 1, cells := 1, slots := 1, locals := 12 } : Room).cells ({ frames := 1, cells := 1, slots := 1, locals := 12 } : Room).slots) := by
  refine MetFree.of_bodySF (plainFor_of_name pn_9) hisR ?_
  intro p e s m args below meth c s₁ Bd hml0 hP hK
  obtain ⟨rfl, hZ, hh⟩ := hP
  have hx := Bd.exec
  have hby := Bd.bytes
  have hml : c.maxLocals = 1 := hml0
  have hown : s.vm.findClass "com/example/syncopate/syncopate/DeletedRows" = some m.cls := findClass_of_methodNamed Bd.named
  have hnm := (name_of_methodNamed Bd.named Bd.method).1
  have X0 : Stand p l e ({ frames := 1, cells := 1, slots := 1, locals := 12 } : Room) s m #[(.ref a)] below meth c s₁ [] 0 0 := Stand.of_body Bd
  have e0 : s₁.heap = h0 := by rw [← hh, Bd.state]; rfl
  have N0 := Fr.nil n0
  show own_Go p e below (fun s₂ o₉ => s₂.status = .running ∧ Ended s₂ below o₉ ∧ ∃ v L, o₉ = .returned v ∧ Q_rm1 Z a h0 n0 v s₂.heap L ∧ FrameEnd s o₉ s₂ L ({ frames := 1, cells := 1, slots := 1, locals := 12 } : Room).cells ({ frames := 1, cells := 1, slots := 1, locals := 12 } : Room).slots) (s₁.setTop (entryFrame m #[(.ref a)] 1))
  rw [ef_rm1 m a]
  refine own_step (s₁.setTop (mkF m 1 #[.val (.ref a)] [(.ref a)])) (fun t₀ k₀ => XS.aloadN X0.here hx rfl (hb hby d1_0) rfl rfl k₀) ?_
  obtain ⟨T87, X87, e87, st87⟩ := initO X0 hx hZ hown (hw _ (List.mem_of_getElem? (i := 7) rfl)) (hw _ (List.mem_of_getElem? (i := 8) rfl)) (hw _ (List.mem_of_getElem? (i := 9) rfl)) e0 (g := (mkF m 1 #[.val (.ref a)] [(.ref a)])) rfl (by rw [hml]; rfl) rfl (hb hby d1_1) (by decide) (W := 0) (by show 2 * 0 + _ ≤ _; exact Nat.le_of_eq rfl) (by decide)
  refine own_step (T87.setTop (mkF m 4 #[.val (.ref a)] [])) (fun t₀ k₀ => st87 t₀ k₀) ?_
  refine own_step (T87.setTop (mkF m 5 #[.val (.ref a)] [(.ref a)])) (fun t₀ k₀ => XS.aloadN X87.here hx rfl (hb hby d1_4) rfl rfl k₀) ?_
  refine own_step (T87.setTop (mkF m 6 #[.val (.ref a)] [(.int (1 : Int32)), (.ref a)])) (fun t₀ k₀ => XS.iconst X87.here hx rfl (hb hby d1_5) k₀) ?_
  obtain ⟨T88, h88, k88, X88, e88, E88, A88, st88⟩ := newP X87 hx hZ (hw _ (List.mem_of_getElem? (i := 0) rfl)) e87 (g := (mkF m 6 #[.val (.ref a)] [(.int (1 : Int32)), (.ref a)])) rfl (hb hby d1_6) rfl (by decide) (cap := 1) (by decide) (by decide) (by decide) (by decide)
  obtain ⟨b88, g88⟩ : ∃ z, z = h0.size := ⟨_, rfl⟩
  rw [← g88] at A88 st88
  have lt89 : a < b88 := Nat.lt_of_lt_of_le Ea.lt (Nat.le_of_eq g88.symm)
  have fr_b88 : n0 ≤ b88 := Nat.le_trans Z0 (Nat.le_of_eq g88.symm)
  have f90 : Exa Z h88 a "com/example/syncopate/syncopate/DeletedRows" := Ea.ext E88
  have f91 : Fld Z h88 a "com/example/syncopate/syncopate/DeletedRows" "counts" "[I" .null := Fc.ext E88
  have f92 : Fld Z h88 a "com/example/syncopate/syncopate/DeletedRows" "count" "I" (.int (0 : Int32)) := Fn.ext E88
  have V88 : Arv Z h88 b88 k88 .int (1 : Int32) [(.int (0 : Int32))] (.int (0 : Int32)) := (Arv.new A88 (by decide)).pad (pad_rep [] (.int (0 : Int32)) 1)
  have z88 : n0 ≤ h88.size := Nat.le_trans Z0 E88.1
  have B88 : own_Bel n0 h0 h88 := (own_Bel.refl n0 h0).ext E88
  refine own_step (T88.setTop (mkF m 8 #[.val (.ref a)] [(.ref b88), (.ref a)])) (fun t₀ k₀ => st88 t₀ k₀) ?_
  obtain ⟨T93, h93, X93, e93, W93, st93⟩ := putF X88 hx hZ hown (host := "") (Or.inl (hw _ (List.mem_of_getElem? (i := 10) rfl))) Via.refl e88 f91 f90 (Or.inl (hw _ (List.mem_of_getElem? (i := 11) rfl))) (hw _ (List.mem_of_getElem? (i := 2) rfl)) (ty := (.array .int)) (by decide) rfl rfl (g := (mkF m 8 #[.val (.ref a)] [(.ref b88), (.ref a)])) rfl rfl (hb hby d1_8)
  have f94 : Fld Z h93 a "com/example/syncopate/syncopate/DeletedRows" "counts" "[I" (.ref b88) := f91.same W93
  have f95 : Exa Z h93 a "com/example/syncopate/syncopate/DeletedRows" := f90.wr W93
  have f96 : Fld Z h93 a "com/example/syncopate/syncopate/DeletedRows" "count" "I" (.int (0 : Int32)) := f92.other W93 (Or.inr (slot_ne (Or.inl (hw _ (List.mem_of_getElem? (i := 42) rfl))) (Or.inl (hw _ (List.mem_of_getElem? (i := 11) rfl))) (by decide) (t := .int) (t' := (.array .int)) (by decide) (by decide)))
  have f97 : Arv Z h93 b88 k88 .int (1 : Int32) [(.int (0 : Int32))] (.int (0 : Int32)) := V88.other W93 (Ne.symm (Nat.ne_of_lt lt89))
  have N93 := Fr.snoc X93 N0 ga
  have z93 : n0 ≤ h93.size := Nat.le_trans z88 (Keep.of_wr W93).1
  have B93 : own_Bel n0 h0 h93 := B88.wr W93 ga
  refine own_step (T93.setTop (mkF m 11 #[.val (.ref a)] [])) (fun t₀ k₀ => st93 t₀ k₀) ?_
  obtain ⟨fs, hr, hrun, hended, hW, hsame⟩ := X93.leave (v := none) (fun _ => rfl)
  refine ⟨_, _, ?_, hrun, hended, _, _, rfl, ?_, ⟨_, rfl⟩, hW, hsame.mono (by decide) (by decide)⟩
  · exact X93.returnOut hx Bd.returns (hb hby d1_11) hr
  · show Q_rm1 Z a h0 n0 _ T93.heap _
    rw [e93]
    exact ⟨b88, k88, rfl, N93, B93, fr_b88, f95, f94, f96, f97⟩
theorem d10_0 : decode method_3_code 0 = .ok (.aload_n 0, 1) := by decide +kernel
theorem d10_1 : decode method_3_code 1 = .ok (.iload_n 1, 1) := by decide +kernel
theorem d10_2 : decode method_3_code 2 = .ok (.iaload, 1) := by decide +kernel
theorem d10_3 : decode method_3_code 3 = .ok (.istore_n 3, 1) := by decide +kernel
theorem d10_4 : decode method_3_code 4 = .ok (.aload_n 0, 1) := by decide +kernel
theorem d10_5 : decode method_3_code 5 = .ok (.iload_n 1, 1) := by decide +kernel
theorem d10_6 : decode method_3_code 6 = .ok (.aload_n 0, 1) := by decide +kernel
theorem d10_7 : decode method_3_code 7 = .ok (.iload_n 2, 1) := by decide +kernel
theorem d10_8 : decode method_3_code 8 = .ok (.iaload, 1) := by decide +kernel
theorem d10_9 : decode method_3_code 9 = .ok (.iastore, 1) := by decide +kernel
theorem d10_10 : decode method_3_code 10 = .ok (.aload_n 0, 1) := by decide +kernel
theorem d10_11 : decode method_3_code 11 = .ok (.iload_n 2, 1) := by decide +kernel
theorem d10_12 : decode method_3_code 12 = .ok (.iload_n 3, 1) := by decide +kernel
theorem d10_13 : decode method_3_code 13 = .ok (.iastore, 1) := by decide +kernel
theorem d10_14 : decode method_3_code 14 = .ok (.return_, 1) := by decide +kernel
theorem pn_10 : plainName "com/example/syncopate/syncopate/DeletedRowsThroughPinLaw" = true := by first | (simp [plainName, overriddenIn]; done) | decide +kernel
theorem ef_rm10_0_1 (m : MethodId) (xs : Addr) : entryFrame m #[(.ref xs), (.int (0 : Int32)), (.int (1 : Int32))] 4 = mkF m 0 #[.val (.ref xs), .val (.int (0 : Int32)), .val (.int (1 : Int32)), .unset] [] := by first | (simp [entryFrame, mkF, argsToLocals, Value.category]; done) | rfl
def Q_rm10_0_1 (Z : State) (xs : Addr) (kx : ClassId) (x0 : Int32) (x1 : Int32) (x2 : Int32) (h0 : Heap) (n0 : Nat) (v : Option Value) (h : Heap) (L : List Loc) : Prop := v = none ∧ Fr n0 L ∧ Keep h0 h [xs] ∧ Arv Z h xs kx .int (3 : Int32) [(.int x1), (.int x0), (.int x2)] (.int (0 : Int32))
set_option maxRecDepth 65536 in
set_option maxHeartbeats 40000000 in
theorem rm10_0_1 (l : Launch) (Z : State) (a0 : Array Value) (hw : ∀ d ∈ tables_1, d.before a0 Z = true) (ws : List Jvm.Cond) (xs : Addr) (kx : ClassId) (x0 : Int32) (x1 : Int32) (x2 : Int32) (h0 : Heap) (n0 : Nat) (Z0 : n0 ≤ h0.size) (Vx : Arv Z h0 xs kx .int (3 : Int32) [(.int x0), (.int x1), (.int x2)] (.int (0 : Int32))) (gx : n0 ≤ xs) :
    MetFree l (⟨"com/example/syncopate/syncopate/DeletedRowsThroughPinLaw", "swap", "([III)V"⟩ : MethodName) (head1 (Jvm.Cond.code (⟨"com/example/syncopate/syncopate/DeletedRowsThroughPinLaw", "swap", "([III)V"⟩ : MethodName) method_3_code 4 none :: ws) ({ frames := 0, cells := 0, slots := 0, locals := 0 } : Room)) (fun as₉ U => as₉ = #[(.ref xs), (.int (0 : Int32)), (.int (1 : Int32))] ∧ Z.Warmed39 U.vm ∧ U.heap = h0) (fun _ _ _ _ _ => True) (fun _ U o₉ U' => ∃ v L, o₉ = .returned v ∧ Q_rm10_0_1 Z xs kx x0 x1 x2 h0 n0 v U'.heap L ∧ FrameEnd U o₉ U' L ({ frames := 0, cells := 0, slots := 0, locals := 0 } : Room).cells ({ frames := 0, cells := 0, slots := 0, locals := 0 } : Room).slots) := by
  refine MetFree.of_bodySF (plainFor_of_name pn_10) hisR ?_
  intro p e s m args below meth c s₁ Bd hml0 hP hK
  obtain ⟨rfl, hZ, hh⟩ := hP
  have hx := Bd.exec
  have hby := Bd.bytes
  have hml : c.maxLocals = 4 := hml0
  have hown : s.vm.findClass "com/example/syncopate/syncopate/DeletedRowsThroughPinLaw" = some m.cls := findClass_of_methodNamed Bd.named
  have hnm := (name_of_methodNamed Bd.named Bd.method).1
  have X0 : Stand p l e ({ frames := 0, cells := 0, slots := 0, locals := 0 } : Room) s m #[(.ref xs), (.int (0 : Int32)), (.int (1 : Int32))] below meth c s₁ [] 0 0 := Stand.of_body Bd
  have e0 : s₁.heap = h0 := by rw [← hh, Bd.state]; rfl
  have N0 := Fr.nil n0
  show own_Go p e below (fun s₂ o₉ => s₂.status = .running ∧ Ended s₂ below o₉ ∧ ∃ v L, o₉ = .returned v ∧ Q_rm10_0_1 Z xs kx x0 x1 x2 h0 n0 v s₂.heap L ∧ FrameEnd s o₉ s₂ L ({ frames := 0, cells := 0, slots := 0, locals := 0 } : Room).cells ({ frames := 0, cells := 0, slots := 0, locals := 0 } : Room).slots) (s₁.setTop (entryFrame m #[(.ref xs), (.int (0 : Int32)), (.int (1 : Int32))] 4))
  rw [ef_rm10_0_1 m xs]
  refine own_step (s₁.setTop (mkF m 1 #[.val (.ref xs), .val (.int (0 : Int32)), .val (.int (1 : Int32)), .unset] [(.ref xs)])) (fun t₀ k₀ => XS.aloadN X0.here hx rfl (hb hby d10_0) rfl rfl k₀) ?_
  refine own_step (s₁.setTop (mkF m 2 #[.val (.ref xs), .val (.int (0 : Int32)), .val (.int (1 : Int32)), .unset] [(.int (0 : Int32)), (.ref xs)])) (fun t₀ k₀ => XS.iloadN X0.here hx rfl (hb hby d10_1) rfl k₀) ?_
  obtain ⟨clo98, Aro98, qo98, So98, Mo98, Ho98, Go98⟩ := id Vx
  have hino98 : ¬ ((0 : Int32) < 0 ∨ clo98.slots.size ≤ ((0 : Int32)).toNatClampNeg) := inb_of So98 ⟨by decide, by decide⟩
  have hato98 : clo98.slots[((0 : Int32)).toNatClampNeg]? = some (.int x0) := Has.at Ho98 hino98 rfl
  refine own_step (s₁.setTop (mkF m 3 #[.val (.ref xs), .val (.int (0 : Int32)), .val (.int (1 : Int32)), .unset] [(.int x0)])) (fun t₀ k₀ => X0.iaload hx (j := (0 : Int32)) (v := (.int x0)) (by rw [e0]; exact Aro98.1) (State.isArrayOf_alike hZ.alike Aro98.2.1) Aro98.2.2 hino98 hato98 (g := (mkF m 2 #[.val (.ref xs), .val (.int (0 : Int32)), .val (.int (1 : Int32)), .unset] [(.int (0 : Int32)), (.ref xs)])) rfl rfl (hb hby d10_2) _ k₀) ?_
  refine own_step (s₁.setTop (mkF m 4 #[.val (.ref xs), .val (.int (0 : Int32)), .val (.int (1 : Int32)), .val (.int x0)] [])) (fun t₀ k₀ => XS.istoreN X0.here hx rfl (hb hby d10_3) rfl (l' := #[.val (.ref xs), .val (.int (0 : Int32)), .val (.int (1 : Int32)), .val (.int x0)]) rfl k₀) ?_
  refine own_step (s₁.setTop (mkF m 5 #[.val (.ref xs), .val (.int (0 : Int32)), .val (.int (1 : Int32)), .val (.int x0)] [(.ref xs)])) (fun t₀ k₀ => XS.aloadN X0.here hx rfl (hb hby d10_4) rfl rfl k₀) ?_
  refine own_step (s₁.setTop (mkF m 6 #[.val (.ref xs), .val (.int (0 : Int32)), .val (.int (1 : Int32)), .val (.int x0)] [(.int (0 : Int32)), (.ref xs)])) (fun t₀ k₀ => XS.iloadN X0.here hx rfl (hb hby d10_5) rfl k₀) ?_
  refine own_step (s₁.setTop (mkF m 7 #[.val (.ref xs), .val (.int (0 : Int32)), .val (.int (1 : Int32)), .val (.int x0)] [(.ref xs), (.int (0 : Int32)), (.ref xs)])) (fun t₀ k₀ => XS.aloadN X0.here hx rfl (hb hby d10_6) rfl rfl k₀) ?_
  refine own_step (s₁.setTop (mkF m 8 #[.val (.ref xs), .val (.int (0 : Int32)), .val (.int (1 : Int32)), .val (.int x0)] [(.int (1 : Int32)), (.ref xs), (.int (0 : Int32)), (.ref xs)])) (fun t₀ k₀ => XS.iloadN X0.here hx rfl (hb hby d10_7) rfl k₀) ?_
  obtain ⟨clo99, Aro99, qo99, So99, Mo99, Ho99, Go99⟩ := id Vx
  have hino99 : ¬ ((1 : Int32) < 0 ∨ clo99.slots.size ≤ ((1 : Int32)).toNatClampNeg) := inb_of So99 ⟨by decide, by decide⟩
  have hato99 : clo99.slots[((1 : Int32)).toNatClampNeg]? = some (.int x1) := Has.at Ho99 hino99 rfl
  refine own_step (s₁.setTop (mkF m 9 #[.val (.ref xs), .val (.int (0 : Int32)), .val (.int (1 : Int32)), .val (.int x0)] [(.int x1), (.int (0 : Int32)), (.ref xs)])) (fun t₀ k₀ => X0.iaload hx (j := (1 : Int32)) (v := (.int x1)) (by rw [e0]; exact Aro99.1) (State.isArrayOf_alike hZ.alike Aro99.2.1) Aro99.2.2 hino99 hato99 (g := (mkF m 8 #[.val (.ref xs), .val (.int (0 : Int32)), .val (.int (1 : Int32)), .val (.int x0)] [(.int (1 : Int32)), (.ref xs), (.int (0 : Int32)), (.ref xs)])) rfl rfl (hb hby d10_8) _ k₀) ?_
  obtain ⟨clo100, Aro100, qo100, So100, Mo100, Ho100, Go100⟩ := id Vx
  have hino100 : ¬ ((0 : Int32) < 0 ∨ clo100.slots.size ≤ ((0 : Int32)).toNatClampNeg) := inb_of So100 ⟨by decide, by decide⟩
  obtain ⟨T101, h101, X101, e101, W101, st101⟩ := stI X0 hx hZ e0 Aro100 (j := (0 : Int32)) hino100 (g := (mkF m 9 #[.val (.ref xs), .val (.int (0 : Int32)), .val (.int (1 : Int32)), .val (.int x0)] [(.int x1), (.int (0 : Int32)), (.ref xs)])) rfl rfl (hb hby d10_9)
  have V101 : Arv Z h101 xs kx .int (3 : Int32) [(.int x1), (.int x1), (.int x2)] (.int (0 : Int32)) := Arv.set Aro100 qo100 So100 Mo100 Ho100 Go100 rfl W101 0 rfl (Nat.le_of_ble_eq_true rfl)
  have N101 := Fr.snoc X101 N0 gx
  have z101 : n0 ≤ h101.size := Nat.le_trans Z0 (Keep.of_wr W101).1
  have K101 : Keep h0 h101 [xs] := (Keep.refl h0 [xs]).wr W101 (Or.inl (List.mem_of_getElem? (i := 0) rfl))
  refine own_step (T101.setTop (mkF m 10 #[.val (.ref xs), .val (.int (0 : Int32)), .val (.int (1 : Int32)), .val (.int x0)] [])) (fun t₀ k₀ => st101 t₀ k₀) ?_
  refine own_step (T101.setTop (mkF m 11 #[.val (.ref xs), .val (.int (0 : Int32)), .val (.int (1 : Int32)), .val (.int x0)] [(.ref xs)])) (fun t₀ k₀ => XS.aloadN X101.here hx rfl (hb hby d10_10) rfl rfl k₀) ?_
  refine own_step (T101.setTop (mkF m 12 #[.val (.ref xs), .val (.int (0 : Int32)), .val (.int (1 : Int32)), .val (.int x0)] [(.int (1 : Int32)), (.ref xs)])) (fun t₀ k₀ => XS.iloadN X101.here hx rfl (hb hby d10_11) rfl k₀) ?_
  refine own_step (T101.setTop (mkF m 13 #[.val (.ref xs), .val (.int (0 : Int32)), .val (.int (1 : Int32)), .val (.int x0)] [(.int x0), (.int (1 : Int32)), (.ref xs)])) (fun t₀ k₀ => XS.iloadN X101.here hx rfl (hb hby d10_12) rfl k₀) ?_
  obtain ⟨clo102, Aro102, qo102, So102, Mo102, Ho102, Go102⟩ := id V101
  have hino102 : ¬ ((1 : Int32) < 0 ∨ clo102.slots.size ≤ ((1 : Int32)).toNatClampNeg) := inb_of So102 ⟨by decide, by decide⟩
  obtain ⟨T103, h103, X103, e103, W103, st103⟩ := stI X101 hx hZ e101 Aro102 (j := (1 : Int32)) hino102 (g := (mkF m 13 #[.val (.ref xs), .val (.int (0 : Int32)), .val (.int (1 : Int32)), .val (.int x0)] [(.int x0), (.int (1 : Int32)), (.ref xs)])) rfl rfl (hb hby d10_13)
  have V103 : Arv Z h103 xs kx .int (3 : Int32) [(.int x1), (.int x0), (.int x2)] (.int (0 : Int32)) := Arv.set Aro102 qo102 So102 Mo102 Ho102 Go102 rfl W103 1 rfl (Nat.le_of_ble_eq_true rfl)
  have N103 := Fr.snoc X103 N101 gx
  have z103 : n0 ≤ h103.size := Nat.le_trans z101 (Keep.of_wr W103).1
  have K103 : Keep h0 h103 [xs] := K101.wr W103 (Or.inl (List.mem_of_getElem? (i := 0) rfl))
  refine own_step (T103.setTop (mkF m 14 #[.val (.ref xs), .val (.int (0 : Int32)), .val (.int (1 : Int32)), .val (.int x0)] [])) (fun t₀ k₀ => st103 t₀ k₀) ?_
  obtain ⟨fs, hr, hrun, hended, hW, hsame⟩ := X103.leave (v := none) (fun _ => rfl)
  refine ⟨_, _, ?_, hrun, hended, _, _, rfl, ?_, ⟨_, rfl⟩, hW, hsame.mono (by decide) (by decide)⟩
  · exact X103.returnOut hx Bd.returns (hb hby d10_14) hr
  · show Q_rm10_0_1 Z xs kx x0 x1 x2 h0 n0 _ T103.heap _
    rw [e103]
    exact ⟨rfl, N103, K103, V103⟩
theorem ef_rm10_1_2 (m : MethodId) (xs : Addr) : entryFrame m #[(.ref xs), (.int (1 : Int32)), (.int (2 : Int32))] 4 = mkF m 0 #[.val (.ref xs), .val (.int (1 : Int32)), .val (.int (2 : Int32)), .unset] [] := by first | (simp [entryFrame, mkF, argsToLocals, Value.category]; done) | rfl
def Q_rm10_1_2 (Z : State) (xs : Addr) (kx : ClassId) (x0 : Int32) (x1 : Int32) (x2 : Int32) (h0 : Heap) (n0 : Nat) (v : Option Value) (h : Heap) (L : List Loc) : Prop := v = none ∧ Fr n0 L ∧ Keep h0 h [xs] ∧ Arv Z h xs kx .int (3 : Int32) [(.int x0), (.int x2), (.int x1)] (.int (0 : Int32))
set_option maxRecDepth 65536 in
set_option maxHeartbeats 40000000 in
theorem rm10_1_2 (l : Launch) (Z : State) (a0 : Array Value) (hw : ∀ d ∈ tables_1, d.before a0 Z = true) (ws : List Jvm.Cond) (xs : Addr) (kx : ClassId) (x0 : Int32) (x1 : Int32) (x2 : Int32) (h0 : Heap) (n0 : Nat) (Z0 : n0 ≤ h0.size) (Vx : Arv Z h0 xs kx .int (3 : Int32) [(.int x0), (.int x1), (.int x2)] (.int (0 : Int32))) (gx : n0 ≤ xs) :
    MetFree l (⟨"com/example/syncopate/syncopate/DeletedRowsThroughPinLaw", "swap", "([III)V"⟩ : MethodName) (head1 (Jvm.Cond.code (⟨"com/example/syncopate/syncopate/DeletedRowsThroughPinLaw", "swap", "([III)V"⟩ : MethodName) method_3_code 4 none :: ws) ({ frames := 0, cells := 0, slots := 0, locals := 0 } : Room)) (fun as₉ U => as₉ = #[(.ref xs), (.int (1 : Int32)), (.int (2 : Int32))] ∧ Z.Warmed39 U.vm ∧ U.heap = h0) (fun _ _ _ _ _ => True) (fun _ U o₉ U' => ∃ v L, o₉ = .returned v ∧ Q_rm10_1_2 Z xs kx x0 x1 x2 h0 n0 v U'.heap L ∧ FrameEnd U o₉ U' L ({ frames := 0, cells := 0, slots := 0, locals := 0 } : Room).cells ({ frames := 0, cells := 0, slots := 0, locals := 0 } : Room).slots) := by
  refine MetFree.of_bodySF (plainFor_of_name pn_10) hisR ?_
  intro p e s m args below meth c s₁ Bd hml0 hP hK
  obtain ⟨rfl, hZ, hh⟩ := hP
  have hx := Bd.exec
  have hby := Bd.bytes
  have hml : c.maxLocals = 4 := hml0
  have hown : s.vm.findClass "com/example/syncopate/syncopate/DeletedRowsThroughPinLaw" = some m.cls := findClass_of_methodNamed Bd.named
  have hnm := (name_of_methodNamed Bd.named Bd.method).1
  have X0 : Stand p l e ({ frames := 0, cells := 0, slots := 0, locals := 0 } : Room) s m #[(.ref xs), (.int (1 : Int32)), (.int (2 : Int32))] below meth c s₁ [] 0 0 := Stand.of_body Bd
  have e0 : s₁.heap = h0 := by rw [← hh, Bd.state]; rfl
  have N0 := Fr.nil n0
  show own_Go p e below (fun s₂ o₉ => s₂.status = .running ∧ Ended s₂ below o₉ ∧ ∃ v L, o₉ = .returned v ∧ Q_rm10_1_2 Z xs kx x0 x1 x2 h0 n0 v s₂.heap L ∧ FrameEnd s o₉ s₂ L ({ frames := 0, cells := 0, slots := 0, locals := 0 } : Room).cells ({ frames := 0, cells := 0, slots := 0, locals := 0 } : Room).slots) (s₁.setTop (entryFrame m #[(.ref xs), (.int (1 : Int32)), (.int (2 : Int32))] 4))
  rw [ef_rm10_1_2 m xs]
  refine own_step (s₁.setTop (mkF m 1 #[.val (.ref xs), .val (.int (1 : Int32)), .val (.int (2 : Int32)), .unset] [(.ref xs)])) (fun t₀ k₀ => XS.aloadN X0.here hx rfl (hb hby d10_0) rfl rfl k₀) ?_
  refine own_step (s₁.setTop (mkF m 2 #[.val (.ref xs), .val (.int (1 : Int32)), .val (.int (2 : Int32)), .unset] [(.int (1 : Int32)), (.ref xs)])) (fun t₀ k₀ => XS.iloadN X0.here hx rfl (hb hby d10_1) rfl k₀) ?_
  obtain ⟨clo104, Aro104, qo104, So104, Mo104, Ho104, Go104⟩ := id Vx
  have hino104 : ¬ ((1 : Int32) < 0 ∨ clo104.slots.size ≤ ((1 : Int32)).toNatClampNeg) := inb_of So104 ⟨by decide, by decide⟩
  have hato104 : clo104.slots[((1 : Int32)).toNatClampNeg]? = some (.int x1) := Has.at Ho104 hino104 rfl
  refine own_step (s₁.setTop (mkF m 3 #[.val (.ref xs), .val (.int (1 : Int32)), .val (.int (2 : Int32)), .unset] [(.int x1)])) (fun t₀ k₀ => X0.iaload hx (j := (1 : Int32)) (v := (.int x1)) (by rw [e0]; exact Aro104.1) (State.isArrayOf_alike hZ.alike Aro104.2.1) Aro104.2.2 hino104 hato104 (g := (mkF m 2 #[.val (.ref xs), .val (.int (1 : Int32)), .val (.int (2 : Int32)), .unset] [(.int (1 : Int32)), (.ref xs)])) rfl rfl (hb hby d10_2) _ k₀) ?_
  refine own_step (s₁.setTop (mkF m 4 #[.val (.ref xs), .val (.int (1 : Int32)), .val (.int (2 : Int32)), .val (.int x1)] [])) (fun t₀ k₀ => XS.istoreN X0.here hx rfl (hb hby d10_3) rfl (l' := #[.val (.ref xs), .val (.int (1 : Int32)), .val (.int (2 : Int32)), .val (.int x1)]) rfl k₀) ?_
  refine own_step (s₁.setTop (mkF m 5 #[.val (.ref xs), .val (.int (1 : Int32)), .val (.int (2 : Int32)), .val (.int x1)] [(.ref xs)])) (fun t₀ k₀ => XS.aloadN X0.here hx rfl (hb hby d10_4) rfl rfl k₀) ?_
  refine own_step (s₁.setTop (mkF m 6 #[.val (.ref xs), .val (.int (1 : Int32)), .val (.int (2 : Int32)), .val (.int x1)] [(.int (1 : Int32)), (.ref xs)])) (fun t₀ k₀ => XS.iloadN X0.here hx rfl (hb hby d10_5) rfl k₀) ?_
  refine own_step (s₁.setTop (mkF m 7 #[.val (.ref xs), .val (.int (1 : Int32)), .val (.int (2 : Int32)), .val (.int x1)] [(.ref xs), (.int (1 : Int32)), (.ref xs)])) (fun t₀ k₀ => XS.aloadN X0.here hx rfl (hb hby d10_6) rfl rfl k₀) ?_
  refine own_step (s₁.setTop (mkF m 8 #[.val (.ref xs), .val (.int (1 : Int32)), .val (.int (2 : Int32)), .val (.int x1)] [(.int (2 : Int32)), (.ref xs), (.int (1 : Int32)), (.ref xs)])) (fun t₀ k₀ => XS.iloadN X0.here hx rfl (hb hby d10_7) rfl k₀) ?_
  obtain ⟨clo105, Aro105, qo105, So105, Mo105, Ho105, Go105⟩ := id Vx
  have hino105 : ¬ ((2 : Int32) < 0 ∨ clo105.slots.size ≤ ((2 : Int32)).toNatClampNeg) := inb_of So105 ⟨by decide, by decide⟩
  have hato105 : clo105.slots[((2 : Int32)).toNatClampNeg]? = some (.int x2) := Has.at Ho105 hino105 rfl
  refine own_step (s₁.setTop (mkF m 9 #[.val (.ref xs), .val (.int (1 : Int32)), .val (.int (2 : Int32)), .val (.int x1)] [(.int x2), (.int (1 : Int32)), (.ref xs)])) (fun t₀ k₀ => X0.iaload hx (j := (2 : Int32)) (v := (.int x2)) (by rw [e0]; exact Aro105.1) (State.isArrayOf_alike hZ.alike Aro105.2.1) Aro105.2.2 hino105 hato105 (g := (mkF m 8 #[.val (.ref xs), .val (.int (1 : Int32)), .val (.int (2 : Int32)), .val (.int x1)] [(.int (2 : Int32)), (.ref xs), (.int (1 : Int32)), (.ref xs)])) rfl rfl (hb hby d10_8) _ k₀) ?_
  obtain ⟨clo106, Aro106, qo106, So106, Mo106, Ho106, Go106⟩ := id Vx
  have hino106 : ¬ ((1 : Int32) < 0 ∨ clo106.slots.size ≤ ((1 : Int32)).toNatClampNeg) := inb_of So106 ⟨by decide, by decide⟩
  obtain ⟨T107, h107, X107, e107, W107, st107⟩ := stI X0 hx hZ e0 Aro106 (j := (1 : Int32)) hino106 (g := (mkF m 9 #[.val (.ref xs), .val (.int (1 : Int32)), .val (.int (2 : Int32)), .val (.int x1)] [(.int x2), (.int (1 : Int32)), (.ref xs)])) rfl rfl (hb hby d10_9)
  have V107 : Arv Z h107 xs kx .int (3 : Int32) [(.int x0), (.int x2), (.int x2)] (.int (0 : Int32)) := Arv.set Aro106 qo106 So106 Mo106 Ho106 Go106 rfl W107 1 rfl (Nat.le_of_ble_eq_true rfl)
  have N107 := Fr.snoc X107 N0 gx
  have z107 : n0 ≤ h107.size := Nat.le_trans Z0 (Keep.of_wr W107).1
  have K107 : Keep h0 h107 [xs] := (Keep.refl h0 [xs]).wr W107 (Or.inl (List.mem_of_getElem? (i := 0) rfl))
  refine own_step (T107.setTop (mkF m 10 #[.val (.ref xs), .val (.int (1 : Int32)), .val (.int (2 : Int32)), .val (.int x1)] [])) (fun t₀ k₀ => st107 t₀ k₀) ?_
  refine own_step (T107.setTop (mkF m 11 #[.val (.ref xs), .val (.int (1 : Int32)), .val (.int (2 : Int32)), .val (.int x1)] [(.ref xs)])) (fun t₀ k₀ => XS.aloadN X107.here hx rfl (hb hby d10_10) rfl rfl k₀) ?_
  refine own_step (T107.setTop (mkF m 12 #[.val (.ref xs), .val (.int (1 : Int32)), .val (.int (2 : Int32)), .val (.int x1)] [(.int (2 : Int32)), (.ref xs)])) (fun t₀ k₀ => XS.iloadN X107.here hx rfl (hb hby d10_11) rfl k₀) ?_
  refine own_step (T107.setTop (mkF m 13 #[.val (.ref xs), .val (.int (1 : Int32)), .val (.int (2 : Int32)), .val (.int x1)] [(.int x1), (.int (2 : Int32)), (.ref xs)])) (fun t₀ k₀ => XS.iloadN X107.here hx rfl (hb hby d10_12) rfl k₀) ?_
  obtain ⟨clo108, Aro108, qo108, So108, Mo108, Ho108, Go108⟩ := id V107
  have hino108 : ¬ ((2 : Int32) < 0 ∨ clo108.slots.size ≤ ((2 : Int32)).toNatClampNeg) := inb_of So108 ⟨by decide, by decide⟩
  obtain ⟨T109, h109, X109, e109, W109, st109⟩ := stI X107 hx hZ e107 Aro108 (j := (2 : Int32)) hino108 (g := (mkF m 13 #[.val (.ref xs), .val (.int (1 : Int32)), .val (.int (2 : Int32)), .val (.int x1)] [(.int x1), (.int (2 : Int32)), (.ref xs)])) rfl rfl (hb hby d10_13)
  have V109 : Arv Z h109 xs kx .int (3 : Int32) [(.int x0), (.int x2), (.int x1)] (.int (0 : Int32)) := Arv.set Aro108 qo108 So108 Mo108 Ho108 Go108 rfl W109 2 rfl (Nat.le_of_ble_eq_true rfl)
  have N109 := Fr.snoc X109 N107 gx
  have z109 : n0 ≤ h109.size := Nat.le_trans z107 (Keep.of_wr W109).1
  have K109 : Keep h0 h109 [xs] := K107.wr W109 (Or.inl (List.mem_of_getElem? (i := 0) rfl))
  refine own_step (T109.setTop (mkF m 14 #[.val (.ref xs), .val (.int (1 : Int32)), .val (.int (2 : Int32)), .val (.int x1)] [])) (fun t₀ k₀ => st109 t₀ k₀) ?_
  obtain ⟨fs, hr, hrun, hended, hW, hsame⟩ := X109.leave (v := none) (fun _ => rfl)
  refine ⟨_, _, ?_, hrun, hended, _, _, rfl, ?_, ⟨_, rfl⟩, hW, hsame.mono (by decide) (by decide)⟩
  · exact X109.returnOut hx Bd.returns (hb hby d10_14) hr
  · show Q_rm10_1_2 Z xs kx x0 x1 x2 h0 n0 _ T109.heap _
    rw [e109]
    exact ⟨rfl, N109, K109, V109⟩
theorem ef_rm0 (m : MethodId) (pa : Int32) (pb : Int32) (pc1 : Int32) (pd0 : Int32) (pe : Int32) (pq : Int32) : entryFrame m #[(.int pa), (.int pb), (.int pc1), (.int pd0), (.int pe), (.int pq)] maxLocals = mkF m 0 #[.val (.int pa), .val (.int pb), .val (.int pc1), .val (.int pd0), .val (.int pe), .val (.int pq), .unset, .unset, .unset, .unset, .unset, .unset, .unset] [] := by first | (simp [entryFrame, mkF, argsToLocals, Value.category, maxLocals]; done) | rfl
def Q_rm0 (Z : State) (pa : Int32) (pb : Int32) (pc1 : Int32) (pd0 : Int32) (pe : Int32) (pq : Int32) (h0 : Heap) (n0 : Nat) (v : Option Value) (h : Heap) (L : List Loc) : Prop := v = some (.int 1) ∧ Fr n0 L
set_option maxRecDepth 65536 in
set_option maxHeartbeats 40000000 in
theorem rm0 (l : Launch) (Z : State) (a0 : Array Value) (hw : ∀ d ∈ tables_1, d.before a0 Z = true) (ws : List Jvm.Cond) (pa : Int32) (pb : Int32) (pc1 : Int32) (pd0 : Int32) (pe : Int32) (pq : Int32) (h0 : Heap) (n0 : Nat) (Z0 : n0 ≤ h0.size) :
    MetFree l x (head1 (Jvm.Cond.code x code maxLocals ret :: ws) room_1) (fun as₉ U => as₉ = #[(.int pa), (.int pb), (.int pc1), (.int pd0), (.int pe), (.int pq)] ∧ Z.Warmed39 U.vm ∧ U.heap = h0) (fun _ _ _ _ _ => True) (fun _ U o₉ U' => ∃ v L, o₉ = .returned v ∧ Q_rm0 Z pa pb pc1 pd0 pe pq h0 n0 v U'.heap L ∧ FrameEnd U o₉ U' L room_1.cells room_1.slots) := by
  refine MetFree.of_bodySF (plainFor_of_name pn_10) hisR ?_
  intro p e s m args below meth c s₁ Bd hml0 hP hK
  obtain ⟨rfl, hZ, hh⟩ := hP
  have hx := Bd.exec
  have hby := Bd.bytes
  have hml : c.maxLocals = 13 := hml0
  have hown : s.vm.findClass "com/example/syncopate/syncopate/DeletedRowsThroughPinLaw" = some m.cls := findClass_of_methodNamed Bd.named
  have hnm := (name_of_methodNamed Bd.named Bd.method).1
  have X0 : Stand p l e room_1 s m #[(.int pa), (.int pb), (.int pc1), (.int pd0), (.int pe), (.int pq)] below meth c s₁ [] 0 0 := Stand.of_body Bd
  have e0 : s₁.heap = h0 := by rw [← hh, Bd.state]; rfl
  have N0 := Fr.nil n0
  have cut92 : ∀ (w1 : Int32) (w2 : Int32) (w3 : Int32) (ps : Addr) (kx : ClassId) (m0 : Nat) (m1 : Nat) (m2 : Nat) (hh : Heap) (Zc92 : n0 ≤ hh.size) (Tc92 : State) (lc92 : List Loc) (Nc92 : Fr n0 lc92) (Xc92 : Stand p l e room_1 s m #[(.int pa), (.int pb), (.int pc1), (.int pd0), (.int pe), (.int pq)] below meth c Tc92 lc92 1 3) (ec92 : Tc92.heap = hh) (Vp : Arv Z hh ps kx .int (3 : Int32) [(.int (Int32.ofNat m0)), (.int (Int32.ofNat m1)), (.int (Int32.ofNat m2))] (.int (0 : Int32))) (hP : own_P m0 m1 m2), own_Go p e below (fun s₂ o₉ => s₂.status = .running ∧ Ended s₂ below o₉ ∧ ∃ v L, o₉ = .returned v ∧ Q_rm0 Z pa pb pc1 pd0 pe pq h0 n0 v s₂.heap L ∧ FrameEnd s o₉ s₂ L room_1.cells room_1.slots) (Tc92.setTop (mkF m 92 #[.val (.int pa), .val (.int pb), .val (.int pc1), .val (.int pd0), .val (.int pe), .val (.int pq), .val (.int w1), .val (.int w2), .val (.int w3), .val (.ref ps), .unset, .unset, .unset] [])) := by
    intro w1 w2 w3 ps kx m0 m1 m2 hh Zc92 Tc92 lc92 Nc92 Xc92 ec92 Vp hP
    obtain ⟨hm0, hm1, hm2, hx0, hx1, hx2⟩ := hP
    refine own_step (Tc92.setTop (mkF m 93 #[.val (.int pa), .val (.int pb), .val (.int pc1), .val (.int pd0), .val (.int pe), .val (.int pq), .val (.int w1), .val (.int w2), .val (.int w3), .val (.ref ps), .unset, .unset, .unset] [(.int pd0)])) (fun t₀ k₀ => XS.iloadN Xc92.here hx rfl (hb hby at_92) rfl k₀) ?_
    refine own_step (Tc92.setTop (mkF m 94 #[.val (.int pa), .val (.int pb), .val (.int pc1), .val (.int pd0), .val (.int pe), .val (.int pq), .val (.int w1), .val (.int w2), .val (.int w3), .val (.ref ps), .unset, .unset, .unset] [(.int (3 : Int32)), (.int pd0)])) (fun t₀ k₀ => XS.iconst Xc92.here hx rfl (hb hby at_93) k₀) ?_
    refine own_step (Tc92.setTop (mkF m 95 #[.val (.int pa), .val (.int pb), .val (.int pc1), .val (.int pd0), .val (.int pe), .val (.int pq), .val (.int w1), .val (.int w2), .val (.int w3), .val (.ref ps), .unset, .unset, .unset] [(.int (pd0 &&& (3 : Int32)))])) (fun t₀ k₀ => XS.iand Xc92.here hx rfl (hb hby at_94) rfl k₀) ?_
    refine own_step (Tc92.setTop (mkF m 97 #[.val (.int pa), .val (.int pb), .val (.int pc1), .val (.int pd0), .val (.int pe), .val (.int pq), .val (.int w1), .val (.int w2), .val (.int w3), .val (.ref ps), .val (.int (pd0 &&& (3 : Int32))), .unset, .unset] [])) (fun t₀ k₀ => XS.istore Xc92.here hx rfl (hb hby at_95) rfl (l' := #[.val (.int pa), .val (.int pb), .val (.int pc1), .val (.int pd0), .val (.int pe), .val (.int pq), .val (.int w1), .val (.int w2), .val (.int w3), .val (.ref ps), .val (.int (pd0 &&& (3 : Int32))), .unset, .unset]) rfl k₀) ?_
    obtain ⟨T110, h110, X110, e110, E110, A110, D110, -, st110⟩ := newO Xc92 hx hZ hown (hw _ (List.mem_of_getElem? (i := 1) rfl)) (hw _ (List.mem_of_getElem? (i := 2) rfl)) (hw _ (List.mem_of_getElem? (i := 3) rfl)) ec92 (g := (mkF m 97 #[.val (.int pa), .val (.int pb), .val (.int pc1), .val (.int pd0), .val (.int pe), .val (.int pq), .val (.int w1), .val (.int w2), .val (.int w3), .val (.ref ps), .val (.int (pd0 &&& (3 : Int32))), .unset, .unset] [])) rfl (hb hby at_97) (by decide) (by decide)
    obtain ⟨b110, g110⟩ : ∃ z, z = hh.size := ⟨_, rfl⟩
    rw [← g110] at A110 D110 st110
    have lt111 : ps < b110 := Nat.lt_of_lt_of_le Vp.lt (Nat.le_of_eq g110.symm)
    have fr_b110 : n0 ≤ b110 := Nat.le_trans Zc92 (Nat.le_of_eq g110.symm)
    have f112 : Arv Z h110 ps kx .int (3 : Int32) [(.int (Int32.ofNat m0)), (.int (Int32.ofNat m1)), (.int (Int32.ofNat m2))] (.int (0 : Int32)) := Vp.ext E110
    have f113 : Fld Z h110 b110 "com/example/syncopate/syncopate/DeletedRows" "counts" "[I" .null := D110 (Or.inl (hw _ (List.mem_of_getElem? (i := 11) rfl))) (ty := (.array .int)) (by decide)
    have f114 : Fld Z h110 b110 "com/example/syncopate/syncopate/DeletedRows" "count" "I" (.int (0 : Int32)) := D110 (Or.inl (hw _ (List.mem_of_getElem? (i := 42) rfl))) (ty := .int) (by decide)
    have z110 : n0 ≤ h110.size := Nat.le_trans Zc92 E110.1
    refine own_step (T110.setTop (mkF m 100 #[.val (.int pa), .val (.int pb), .val (.int pc1), .val (.int pd0), .val (.int pe), .val (.int pq), .val (.int w1), .val (.int w2), .val (.int w3), .val (.ref ps), .val (.int (pd0 &&& (3 : Int32))), .unset, .unset] [(.ref b110)])) (fun t₀ k₀ => st110 t₀ k₀) ?_
    refine own_step (T110.setTop (mkF m 101 #[.val (.int pa), .val (.int pb), .val (.int pc1), .val (.int pd0), .val (.int pe), .val (.int pq), .val (.int w1), .val (.int w2), .val (.int w3), .val (.ref ps), .val (.int (pd0 &&& (3 : Int32))), .unset, .unset] [(.ref b110), (.ref b110)])) (fun t₀ k₀ => XS.dup X110.here hx rfl (hb hby at_100) rfl rfl k₀) ?_
    obtain ⟨_, _, ⟨T115, L115, k115, n115⟩, -, X115, ⟨Lc115, hQ115, l115, y115, z115⟩, st115⟩ := X110.specialBack hx (y := (⟨"com/example/syncopate/syncopate/DeletedRows", "<init>", "()V"⟩ : MethodName)) rfl hown (mvT hZ (hw _ (List.mem_of_getElem? (i := 4) rfl))) (mvT hZ (hw _ (List.mem_of_getElem? (i := 5) rfl))) (mvT hZ (hw _ (List.mem_of_getElem? (i := 6) rfl))) (by decide) (backOf (W := 1) (rm1 l Z a0 hw [] b110 h110 b110 (Nat.le_of_lt A110.lt) A110 f113 f114 (Nat.le_refl b110)) hZ (hw _ (List.mem_of_getElem? (i := 6) rfl)) (hw _ (List.mem_of_getElem? (i := 3) rfl)) (by decide) (by decide)) (g := (mkF m 101 #[.val (.int pa), .val (.int pb), .val (.int pc1), .val (.int pd0), .val (.int pe), .val (.int pq), .val (.int w1), .val (.int w2), .val (.int w3), .val (.ref ps), .val (.int (pd0 &&& (3 : Int32))), .unset, .unset] [(.ref b110), (.ref b110)])) rfl (by rw [hml]; rfl) (Steps.refl _) (a := b110) (argsL := []) (rest := [(.ref b110)]) (lenOf pd_0 rfl) rfl (by show 2 * 0 + _ ≤ _; exact Nat.le_of_eq rfl) (hb hby at_101) (fun _ _ => ⟨rfl, e110, (by decide : 2 + 1 ≤ _), (by decide : 5 + 1 ≤ _)⟩)
    dsimp only [Pt.U, Pt.locs, Pt.cells, Pt.slots] at X115 l115 y115 z115 st115 hQ115
    subst l115 y115 z115
    obtain ⟨ct116, kc117, rfl, N115q, K115, f118, f119, f120, f121, f122⟩ := hQ115
    have N115 := Fr.app Nc92 (own_Frm fr_b110 N115q)
    have f123 : Arv Z T115.heap ps kx .int (3 : Int32) [(.int (Int32.ofNat m0)), (.int (Int32.ofNat m1)), (.int (Int32.ofNat m2))] (.int (0 : Int32)) := own_bel_arv f112 K115 lt111
    have z115' : n0 ≤ T115.heap.size := Nat.le_trans z110 K115.1
    refine own_comes (T115.setTop (mkF m 104 #[.val (.int pa), .val (.int pb), .val (.int pc1), .val (.int pd0), .val (.int pe), .val (.int pq), .val (.int w1), .val (.int w2), .val (.int w3), .val (.ref ps), .val (.int (pd0 &&& (3 : Int32))), .unset, .unset] [(.ref b110)])) st115 ?_
    refine own_step (T115.setTop (mkF m 106 #[.val (.int pa), .val (.int pb), .val (.int pc1), .val (.int pd0), .val (.int pe), .val (.int pq), .val (.int w1), .val (.int w2), .val (.int w3), .val (.ref ps), .val (.int (pd0 &&& (3 : Int32))), .val (.ref b110), .unset] [])) (fun t₀ k₀ => XS.astore X115.here hx rfl (hb hby at_104) rfl rfl (l' := #[.val (.int pa), .val (.int pb), .val (.int pc1), .val (.int pd0), .val (.int pe), .val (.int pq), .val (.int w1), .val (.int w2), .val (.int w3), .val (.ref ps), .val (.int (pd0 &&& (3 : Int32))), .val (.ref b110), .unset]) rfl k₀) ?_
    refine own_step (T115.setTop (mkF m 108 #[.val (.int pa), .val (.int pb), .val (.int pc1), .val (.int pd0), .val (.int pe), .val (.int pq), .val (.int w1), .val (.int w2), .val (.int w3), .val (.ref ps), .val (.int (pd0 &&& (3 : Int32))), .val (.ref b110), .unset] [(.int (pd0 &&& (3 : Int32)))])) (fun t₀ k₀ => XS.iload X115.here hx rfl (hb hby at_106) rfl k₀) ?_
    refine own_step (T115.setTop (mkF m 109 #[.val (.int pa), .val (.int pb), .val (.int pc1), .val (.int pd0), .val (.int pe), .val (.int pq), .val (.int w1), .val (.int w2), .val (.int w3), .val (.ref ps), .val (.int (pd0 &&& (3 : Int32))), .val (.ref b110), .unset] [(.int (1 : Int32)), (.int (pd0 &&& (3 : Int32)))])) (fun t₀ k₀ => XS.iconst X115.here hx rfl (hb hby at_108) k₀) ?_
    by_cases hc109 : (pd0 &&& (3 : Int32)) < (1 : Int32)
    · skip
      refine own_step (T115.setTop (mkF m 121 #[.val (.int pa), .val (.int pb), .val (.int pc1), .val (.int pd0), .val (.int pe), .val (.int pq), .val (.int w1), .val (.int w2), .val (.int w3), .val (.ref ps), .val (.int (pd0 &&& (3 : Int32))), .val (.ref b110), .unset] [])) (fun t₀ k₀ => XS.icmpYes X115.here hx rfl (pc0 := 109) (pc' := 121) rfl (hb hby at_109) rfl (tlt hc109).1 (by decide) (by decide) k₀) ?_
      refine own_step (T115.setTop (mkF m 123 #[.val (.int pa), .val (.int pb), .val (.int pc1), .val (.int pd0), .val (.int pe), .val (.int pq), .val (.int w1), .val (.int w2), .val (.int w3), .val (.ref ps), .val (.int (pd0 &&& (3 : Int32))), .val (.ref b110), .unset] [(.int (pd0 &&& (3 : Int32)))])) (fun t₀ k₀ => XS.iload X115.here hx rfl (hb hby at_121) rfl k₀) ?_
      refine own_step (T115.setTop (mkF m 124 #[.val (.int pa), .val (.int pb), .val (.int pc1), .val (.int pd0), .val (.int pe), .val (.int pq), .val (.int w1), .val (.int w2), .val (.int w3), .val (.ref ps), .val (.int (pd0 &&& (3 : Int32))), .val (.ref b110), .unset] [(.int (2 : Int32)), (.int (pd0 &&& (3 : Int32)))])) (fun t₀ k₀ => XS.iconst X115.here hx rfl (hb hby at_123) k₀) ?_
      have hk124 : (pd0 &&& (3 : Int32)) < (2 : Int32) := own_n12 hc109
      refine own_step (T115.setTop (mkF m 136 #[.val (.int pa), .val (.int pb), .val (.int pc1), .val (.int pd0), .val (.int pe), .val (.int pq), .val (.int w1), .val (.int w2), .val (.int w3), .val (.ref ps), .val (.int (pd0 &&& (3 : Int32))), .val (.ref b110), .unset] [])) (fun t₀ k₀ => XS.icmpYes X115.here hx rfl (pc0 := 124) (pc' := 136) rfl (hb hby at_124) rfl (tlt hk124).1 (by decide) (by decide) k₀) ?_
      refine own_step (T115.setTop (mkF m 138 #[.val (.int pa), .val (.int pb), .val (.int pc1), .val (.int pd0), .val (.int pe), .val (.int pq), .val (.int w1), .val (.int w2), .val (.int w3), .val (.ref ps), .val (.int (pd0 &&& (3 : Int32))), .val (.ref b110), .unset] [(.int (pd0 &&& (3 : Int32)))])) (fun t₀ k₀ => XS.iload X115.here hx rfl (hb hby at_136) rfl k₀) ?_
      refine own_step (T115.setTop (mkF m 139 #[.val (.int pa), .val (.int pb), .val (.int pc1), .val (.int pd0), .val (.int pe), .val (.int pq), .val (.int w1), .val (.int w2), .val (.int w3), .val (.ref ps), .val (.int (pd0 &&& (3 : Int32))), .val (.ref b110), .unset] [(.int (3 : Int32)), (.int (pd0 &&& (3 : Int32)))])) (fun t₀ k₀ => XS.iconst X115.here hx rfl (hb hby at_138) k₀) ?_
      have hk125 : (pd0 &&& (3 : Int32)) < (3 : Int32) := own_n13 hc109
      refine own_step (T115.setTop (mkF m 151 #[.val (.int pa), .val (.int pb), .val (.int pc1), .val (.int pd0), .val (.int pe), .val (.int pq), .val (.int w1), .val (.int w2), .val (.int w3), .val (.ref ps), .val (.int (pd0 &&& (3 : Int32))), .val (.ref b110), .unset] [])) (fun t₀ k₀ => XS.icmpYes X115.here hx rfl (pc0 := 139) (pc' := 151) rfl (hb hby at_139) rfl (tlt hk125).1 (by decide) (by decide) k₀) ?_
      refine own_step (T115.setTop (mkF m 152 #[.val (.int pa), .val (.int pb), .val (.int pc1), .val (.int pd0), .val (.int pe), .val (.int pq), .val (.int w1), .val (.int w2), .val (.int w3), .val (.ref ps), .val (.int (pd0 &&& (3 : Int32))), .val (.ref b110), .unset] [(.int (0 : Int32))])) (fun t₀ k₀ => XS.iconst X115.here hx rfl (hb hby at_151) k₀) ?_
      refine own_step (T115.setTop (mkF m 154 #[.val (.int pa), .val (.int pb), .val (.int pc1), .val (.int pd0), .val (.int pe), .val (.int pq), .val (.int w1), .val (.int w2), .val (.int w3), .val (.ref ps), .val (.int (pd0 &&& (3 : Int32))), .val (.ref b110), .val (.int (0 : Int32))] [])) (fun t₀ k₀ => XS.istore X115.here hx rfl (hb hby at_152) rfl (l' := #[.val (.int pa), .val (.int pb), .val (.int pc1), .val (.int pd0), .val (.int pe), .val (.int pq), .val (.int w1), .val (.int w2), .val (.int w3), .val (.ref ps), .val (.int (pd0 &&& (3 : Int32))), .val (.ref b110), .val (.int (0 : Int32))]) rfl k₀) ?_
      refine own_step (T115.setTop (mkF m 156 #[.val (.int pa), .val (.int pb), .val (.int pc1), .val (.int pd0), .val (.int pe), .val (.int pq), .val (.int w1), .val (.int w2), .val (.int w3), .val (.ref ps), .val (.int (pd0 &&& (3 : Int32))), .val (.ref b110), .val (.int (0 : Int32))] [(.int (pd0 &&& (3 : Int32)))])) (fun t₀ k₀ => XS.iload X115.here hx rfl (hb hby at_154) rfl k₀) ?_
      refine own_step (T115.setTop (mkF m 157 #[.val (.int pa), .val (.int pb), .val (.int pc1), .val (.int pd0), .val (.int pe), .val (.int pq), .val (.int w1), .val (.int w2), .val (.int w3), .val (.ref ps), .val (.int (pd0 &&& (3 : Int32))), .val (.ref b110), .val (.int (0 : Int32))] [(.int (1 : Int32)), (.int (pd0 &&& (3 : Int32)))])) (fun t₀ k₀ => XS.iconst X115.here hx rfl (hb hby at_156) k₀) ?_
      have hk126 : (pd0 &&& (3 : Int32)) < (1 : Int32) := hc109
      refine own_step (T115.setTop (mkF m 172 #[.val (.int pa), .val (.int pb), .val (.int pc1), .val (.int pd0), .val (.int pe), .val (.int pq), .val (.int w1), .val (.int w2), .val (.int w3), .val (.ref ps), .val (.int (pd0 &&& (3 : Int32))), .val (.ref b110), .val (.int (0 : Int32))] [])) (fun t₀ k₀ => XS.icmpYes X115.here hx rfl (pc0 := 157) (pc' := 172) rfl (hb hby at_157) rfl (tlt hk126).1 (by decide) (by decide) k₀) ?_
      refine own_step (T115.setTop (mkF m 174 #[.val (.int pa), .val (.int pb), .val (.int pc1), .val (.int pd0), .val (.int pe), .val (.int pq), .val (.int w1), .val (.int w2), .val (.int w3), .val (.ref ps), .val (.int (pd0 &&& (3 : Int32))), .val (.ref b110), .val (.int (0 : Int32))] [(.int (pd0 &&& (3 : Int32)))])) (fun t₀ k₀ => XS.iload X115.here hx rfl (hb hby at_172) rfl k₀) ?_
      refine own_step (T115.setTop (mkF m 175 #[.val (.int pa), .val (.int pb), .val (.int pc1), .val (.int pd0), .val (.int pe), .val (.int pq), .val (.int w1), .val (.int w2), .val (.int w3), .val (.ref ps), .val (.int (pd0 &&& (3 : Int32))), .val (.ref b110), .val (.int (0 : Int32))] [(.int (2 : Int32)), (.int (pd0 &&& (3 : Int32)))])) (fun t₀ k₀ => XS.iconst X115.here hx rfl (hb hby at_174) k₀) ?_
      have hk127 : (pd0 &&& (3 : Int32)) < (2 : Int32) := own_n12 hc109
      refine own_step (T115.setTop (mkF m 190 #[.val (.int pa), .val (.int pb), .val (.int pc1), .val (.int pd0), .val (.int pe), .val (.int pq), .val (.int w1), .val (.int w2), .val (.int w3), .val (.ref ps), .val (.int (pd0 &&& (3 : Int32))), .val (.ref b110), .val (.int (0 : Int32))] [])) (fun t₀ k₀ => XS.icmpYes X115.here hx rfl (pc0 := 175) (pc' := 190) rfl (hb hby at_175) rfl (tlt hk127).1 (by decide) (by decide) k₀) ?_
      refine own_step (T115.setTop (mkF m 192 #[.val (.int pa), .val (.int pb), .val (.int pc1), .val (.int pd0), .val (.int pe), .val (.int pq), .val (.int w1), .val (.int w2), .val (.int w3), .val (.ref ps), .val (.int (pd0 &&& (3 : Int32))), .val (.ref b110), .val (.int (0 : Int32))] [(.int (pd0 &&& (3 : Int32)))])) (fun t₀ k₀ => XS.iload X115.here hx rfl (hb hby at_190) rfl k₀) ?_
      refine own_step (T115.setTop (mkF m 193 #[.val (.int pa), .val (.int pb), .val (.int pc1), .val (.int pd0), .val (.int pe), .val (.int pq), .val (.int w1), .val (.int w2), .val (.int w3), .val (.ref ps), .val (.int (pd0 &&& (3 : Int32))), .val (.ref b110), .val (.int (0 : Int32))] [(.int (3 : Int32)), (.int (pd0 &&& (3 : Int32)))])) (fun t₀ k₀ => XS.iconst X115.here hx rfl (hb hby at_192) k₀) ?_
      have hk128 : (pd0 &&& (3 : Int32)) < (3 : Int32) := own_n13 hc109
      refine own_step (T115.setTop (mkF m 208 #[.val (.int pa), .val (.int pb), .val (.int pc1), .val (.int pd0), .val (.int pe), .val (.int pq), .val (.int w1), .val (.int w2), .val (.int w3), .val (.ref ps), .val (.int (pd0 &&& (3 : Int32))), .val (.ref b110), .val (.int (0 : Int32))] [])) (fun t₀ k₀ => XS.icmpYes X115.here hx rfl (pc0 := 193) (pc' := 208) rfl (hb hby at_193) rfl (tlt hk128).1 (by decide) (by decide) k₀) ?_
      refine own_step (T115.setTop (mkF m 210 #[.val (.int pa), .val (.int pb), .val (.int pc1), .val (.int pd0), .val (.int pe), .val (.int pq), .val (.int w1), .val (.int w2), .val (.int w3), .val (.ref ps), .val (.int (pd0 &&& (3 : Int32))), .val (.ref b110), .val (.int (0 : Int32))] [(.ref b110)])) (fun t₀ k₀ => XS.aload X115.here hx rfl (hb hby at_208) rfl rfl k₀) ?_
      refine own_step (T115.setTop (mkF m 212 #[.val (.int pa), .val (.int pb), .val (.int pc1), .val (.int pd0), .val (.int pe), .val (.int pq), .val (.int w1), .val (.int w2), .val (.int w3), .val (.ref ps), .val (.int (pd0 &&& (3 : Int32))), .val (.ref b110), .val (.int (0 : Int32))] [(.int pq), (.ref b110)])) (fun t₀ k₀ => XS.iload X115.here hx rfl (hb hby at_210) rfl k₀) ?_
      obtain ⟨cq129, kq129, q129a, q129b, q129c⟩ := isOf hZ rfl f119
      obtain ⟨_, _, ⟨T129, L129, k129, n129⟩, -, X129, ⟨Lc129, hQ129, l129, y129, z129⟩, st129⟩ := X115.virtualBack hx (y := (⟨"com/example/syncopate/syncopate/DeletedRows", "through", "(I)I"⟩ : MethodName)) (z := (⟨"com/example/syncopate/syncopate/DeletedRows", "through", "(I)I"⟩ : MethodName)) hown (mvT hZ (hw _ (List.mem_of_getElem? (i := 43) rfl))) (mvT hZ (hw _ (List.mem_of_getElem? (i := 44) rfl))) (notFace_of_selects (args := #[]) (mvT hZ (hw _ (List.mem_of_getElem? (i := 46) rfl)))) (mvT hZ (hw _ (List.mem_of_getElem? (i := 46) rfl))) (mvT hZ (hw _ (List.mem_of_getElem? (i := 45) rfl))) (by decide) (backOf (W := 0) (rm9 l Z a0 hw [] b110 pq ct116 kc117 1 (fun _ => 0) ([]) T115.heap n0 z115' f120 f122 (Nat.le_refl 1) (by decide) (own_InvTo own_I0 (own_M_lt (Nat.le_refl 1)))) hZ (hw _ (List.mem_of_getElem? (i := 47) rfl)) (hw _ (List.mem_of_getElem? (i := 3) rfl)) (by decide) (by decide)) q129a q129c (g := (mkF m 212 #[.val (.int pa), .val (.int pb), .val (.int pc1), .val (.int pd0), .val (.int pe), .val (.int pq), .val (.int w1), .val (.int w2), .val (.int w3), .val (.ref ps), .val (.int (pd0 &&& (3 : Int32))), .val (.ref b110), .val (.int (0 : Int32))] [(.int pq), (.ref b110)])) rfl (by rw [hml]; rfl) (Steps.refl _) (argsL := [(.int pq)]) (rest := []) (lenOf pd_6 rfl) rfl (by show 2 * 0 + _ ≤ _; exact Nat.le_of_eq rfl) (hb hby at_212) (fun _ _ => ⟨rfl, rfl, (by decide : 3 + 0 ≤ _), (by decide : 6 + 0 ≤ _)⟩)
      dsimp only [Pt.U, Pt.locs, Pt.cells, Pt.slots] at X129 l129 y129 z129 st129 hQ129
      subst l129 y129 z129
      obtain ⟨rfl, N129q, e129⟩ := hQ129
      have N129 := Fr.app N115 N129q
      refine own_comes (T129.setTop (mkF m 215 #[.val (.int pa), .val (.int pb), .val (.int pc1), .val (.int pd0), .val (.int pe), .val (.int pq), .val (.int w1), .val (.int w2), .val (.int w3), .val (.ref ps), .val (.int (pd0 &&& (3 : Int32))), .val (.ref b110), .val (.int (0 : Int32))] [(.int (Int32.ofNat (own_cnt [] 0 (own_M pq 1))))])) st129 ?_
      refine own_step (T129.setTop (mkF m 217 #[.val (.int pa), .val (.int pb), .val (.int pc1), .val (.int pd0), .val (.int pe), .val (.int pq), .val (.int w1), .val (.int w2), .val (.int w3), .val (.ref ps), .val (.int (pd0 &&& (3 : Int32))), .val (.ref b110), .val (.int (0 : Int32))] [(.int (0 : Int32)), (.int (Int32.ofNat (own_cnt [] 0 (own_M pq 1))))])) (fun t₀ k₀ => XS.iload X129.here hx rfl (hb hby at_215) rfl k₀) ?_
      have hk130 : (Int32.ofNat (own_cnt [] 0 (own_M pq 1))) = (0 : Int32) := by rfl
      refine own_step (T129.setTop (mkF m 220 #[.val (.int pa), .val (.int pb), .val (.int pc1), .val (.int pd0), .val (.int pe), .val (.int pq), .val (.int w1), .val (.int w2), .val (.int w3), .val (.ref ps), .val (.int (pd0 &&& (3 : Int32))), .val (.ref b110), .val (.int (0 : Int32))] [])) (fun t₀ k₀ => XS.icmpNo X129.here hx rfl (hb hby at_217) rfl (teq hk130).2 k₀) ?_
      refine own_step (T129.setTop (mkF m 221 #[.val (.int pa), .val (.int pb), .val (.int pc1), .val (.int pd0), .val (.int pe), .val (.int pq), .val (.int w1), .val (.int w2), .val (.int w3), .val (.ref ps), .val (.int (pd0 &&& (3 : Int32))), .val (.ref b110), .val (.int (0 : Int32))] [(.int (1 : Int32))])) (fun t₀ k₀ => XS.iconst X129.here hx rfl (hb hby at_220) k₀) ?_
      refine own_step (T129.setTop (mkF m 225 #[.val (.int pa), .val (.int pb), .val (.int pc1), .val (.int pd0), .val (.int pe), .val (.int pq), .val (.int w1), .val (.int w2), .val (.int w3), .val (.ref ps), .val (.int (pd0 &&& (3 : Int32))), .val (.ref b110), .val (.int (0 : Int32))] [(.int (1 : Int32))])) (fun t₀ k₀ => XS.goto X129.here hx rfl (pc0 := 221) (pc' := 225) rfl (hb hby at_221) (by decide) (by decide) k₀) ?_
      obtain ⟨fs, hr, hrun, hended, hW, hsame⟩ := X129.leave (v := some (.int (1 : Int32))) (fun h => by rw [Bd.returns] at h; cases h)
      refine ⟨_, _, ?_, hrun, hended, _, _, rfl, ?_, ⟨_, rfl⟩, hW, hsame.mono (by decide) (by decide)⟩
      · exact retN X129 hx (t := .boolean) Bd.returns (by simp) (hb hby at_225) hr
      · show Q_rm0 Z pa pb pc1 pd0 pe pq h0 n0 _ T129.heap _
        rw [e129]
        exact ⟨rfl, N129⟩
    · skip
      refine own_step (T115.setTop (mkF m 112 #[.val (.int pa), .val (.int pb), .val (.int pc1), .val (.int pd0), .val (.int pe), .val (.int pq), .val (.int w1), .val (.int w2), .val (.int w3), .val (.ref ps), .val (.int (pd0 &&& (3 : Int32))), .val (.ref b110), .unset] [])) (fun t₀ k₀ => XS.icmpNo X115.here hx rfl (hb hby at_109) rfl (flt hc109).1 k₀) ?_
      refine own_step (T115.setTop (mkF m 114 #[.val (.int pa), .val (.int pb), .val (.int pc1), .val (.int pd0), .val (.int pe), .val (.int pq), .val (.int w1), .val (.int w2), .val (.int w3), .val (.ref ps), .val (.int (pd0 &&& (3 : Int32))), .val (.ref b110), .unset] [(.ref b110)])) (fun t₀ k₀ => XS.aload X115.here hx rfl (hb hby at_112) rfl rfl k₀) ?_
      refine own_step (T115.setTop (mkF m 116 #[.val (.int pa), .val (.int pb), .val (.int pc1), .val (.int pd0), .val (.int pe), .val (.int pq), .val (.int w1), .val (.int w2), .val (.int w3), .val (.ref ps), .val (.int (pd0 &&& (3 : Int32))), .val (.ref b110), .unset] [(.ref ps), (.ref b110)])) (fun t₀ k₀ => XS.aload X115.here hx rfl (hb hby at_114) rfl rfl k₀) ?_
      refine own_step (T115.setTop (mkF m 117 #[.val (.int pa), .val (.int pb), .val (.int pc1), .val (.int pd0), .val (.int pe), .val (.int pq), .val (.int w1), .val (.int w2), .val (.int w3), .val (.ref ps), .val (.int (pd0 &&& (3 : Int32))), .val (.ref b110), .unset] [(.int (0 : Int32)), (.ref ps), (.ref b110)])) (fun t₀ k₀ => XS.iconst X115.here hx rfl (hb hby at_116) k₀) ?_
      obtain ⟨clo131, Aro131, qo131, So131, Mo131, Ho131, Go131⟩ := id f123
      have hino131 : ¬ ((0 : Int32) < 0 ∨ clo131.slots.size ≤ ((0 : Int32)).toNatClampNeg) := inb_of So131 ⟨by decide, by decide⟩
      have hato131 : clo131.slots[((0 : Int32)).toNatClampNeg]? = some (.int (Int32.ofNat m0)) := Has.at Ho131 hino131 rfl
      refine own_step (T115.setTop (mkF m 118 #[.val (.int pa), .val (.int pb), .val (.int pc1), .val (.int pd0), .val (.int pe), .val (.int pq), .val (.int w1), .val (.int w2), .val (.int w3), .val (.ref ps), .val (.int (pd0 &&& (3 : Int32))), .val (.ref b110), .unset] [(.int (Int32.ofNat m0)), (.ref b110)])) (fun t₀ k₀ => X115.iaload hx (j := (0 : Int32)) (v := (.int (Int32.ofNat m0))) Aro131.1 (State.isArrayOf_alike hZ.alike Aro131.2.1) Aro131.2.2 hino131 hato131 (g := (mkF m 117 #[.val (.int pa), .val (.int pb), .val (.int pc1), .val (.int pd0), .val (.int pe), .val (.int pq), .val (.int w1), .val (.int w2), .val (.int w3), .val (.ref ps), .val (.int (pd0 &&& (3 : Int32))), .val (.ref b110), .unset] [(.int (0 : Int32)), (.ref ps), (.ref b110)])) rfl rfl (hb hby at_117) _ k₀) ?_
      obtain ⟨cq132, kq132, q132a, q132b, q132c⟩ := isOf hZ rfl f119
      obtain ⟨_, _, ⟨T132, L132, k132, n132⟩, -, X132, ⟨Lc132, hQ132, l132, y132, z132⟩, st132⟩ := X115.virtualBack hx (y := (⟨"com/example/syncopate/syncopate/DeletedRows", "add", "(I)V"⟩ : MethodName)) (z := (⟨"com/example/syncopate/syncopate/DeletedRows", "add", "(I)V"⟩ : MethodName)) hown (mvT hZ (hw _ (List.mem_of_getElem? (i := 12) rfl))) (mvT hZ (hw _ (List.mem_of_getElem? (i := 13) rfl))) (notFace_of_selects (args := #[]) (mvT hZ (hw _ (List.mem_of_getElem? (i := 15) rfl)))) (mvT hZ (hw _ (List.mem_of_getElem? (i := 15) rfl))) (mvT hZ (hw _ (List.mem_of_getElem? (i := 14) rfl))) (by decide) (backOf (W := 0) (rm3 l Z a0 hw [] b110 ct116 kc117 1 (fun _ => 0) ([]) m0 (0 : Int32) T115.heap b110 (Nat.le_of_lt f119.lt) f119 f120 f121 f122 (Nat.le_refl b110) (Nat.le_refl 1) hm0 hx0 own_I0 own_D0 rfl f118) hZ (hw _ (List.mem_of_getElem? (i := 16) rfl)) (hw _ (List.mem_of_getElem? (i := 3) rfl)) (by decide) (by decide)) q132a q132c (g := (mkF m 118 #[.val (.int pa), .val (.int pb), .val (.int pc1), .val (.int pd0), .val (.int pe), .val (.int pq), .val (.int w1), .val (.int w2), .val (.int w3), .val (.ref ps), .val (.int (pd0 &&& (3 : Int32))), .val (.ref b110), .unset] [(.int (Int32.ofNat m0)), (.ref b110)])) rfl (by rw [hml]; rfl) (Steps.refl _) (argsL := [(.int (Int32.ofNat m0))]) (rest := []) (lenOf pd_1 rfl) rfl (by show 2 * 0 + _ ≤ _; exact Nat.le_of_eq rfl) (hb hby at_118) (fun _ _ => ⟨rfl, rfl, (by decide : 3 + 1 ≤ _), (by decide : 6 + 257 ≤ _)⟩)
      dsimp only [Pt.U, Pt.locs, Pt.cells, Pt.slots] at X132 l132 y132 z132 st132 hQ132
      subst l132 y132 z132
      obtain ⟨ct1133, k1134, g135, rfl, N132q, K132, f136, f137, f138, f139, f140, f141, f142⟩ := hQ132
      have N132 := Fr.app N115 (own_Frm fr_b110 N132q)
      have f143 : Arv Z T132.heap ps kx .int (3 : Int32) [(.int (Int32.ofNat m0)), (.int (Int32.ofNat m1)), (.int (Int32.ofNat m2))] (.int (0 : Int32)) := own_bel_arv f123 K132 lt111
      have z132' : n0 ≤ T132.heap.size := Nat.le_trans z115' K132.1
      refine own_comes (T132.setTop (mkF m 121 #[.val (.int pa), .val (.int pb), .val (.int pc1), .val (.int pd0), .val (.int pe), .val (.int pq), .val (.int w1), .val (.int w2), .val (.int w3), .val (.ref ps), .val (.int (pd0 &&& (3 : Int32))), .val (.ref b110), .unset] [])) st132 ?_
      have hD144 : ∀ d ∈ (m0 :: []), 0 < d ∧ d < (own_next 1 m0) := own_Dn own_D0 hm0.1
      refine own_step (T132.setTop (mkF m 123 #[.val (.int pa), .val (.int pb), .val (.int pc1), .val (.int pd0), .val (.int pe), .val (.int pq), .val (.int w1), .val (.int w2), .val (.int w3), .val (.ref ps), .val (.int (pd0 &&& (3 : Int32))), .val (.ref b110), .unset] [(.int (pd0 &&& (3 : Int32)))])) (fun t₀ k₀ => XS.iload X132.here hx rfl (hb hby at_121) rfl k₀) ?_
      refine own_step (T132.setTop (mkF m 124 #[.val (.int pa), .val (.int pb), .val (.int pc1), .val (.int pd0), .val (.int pe), .val (.int pq), .val (.int w1), .val (.int w2), .val (.int w3), .val (.ref ps), .val (.int (pd0 &&& (3 : Int32))), .val (.ref b110), .unset] [(.int (2 : Int32)), (.int (pd0 &&& (3 : Int32)))])) (fun t₀ k₀ => XS.iconst X132.here hx rfl (hb hby at_123) k₀) ?_
      by_cases hc124 : (pd0 &&& (3 : Int32)) < (2 : Int32)
      · skip
        refine own_step (T132.setTop (mkF m 136 #[.val (.int pa), .val (.int pb), .val (.int pc1), .val (.int pd0), .val (.int pe), .val (.int pq), .val (.int w1), .val (.int w2), .val (.int w3), .val (.ref ps), .val (.int (pd0 &&& (3 : Int32))), .val (.ref b110), .unset] [])) (fun t₀ k₀ => XS.icmpYes X132.here hx rfl (pc0 := 124) (pc' := 136) rfl (hb hby at_124) rfl (tlt hc124).1 (by decide) (by decide) k₀) ?_
        refine own_step (T132.setTop (mkF m 138 #[.val (.int pa), .val (.int pb), .val (.int pc1), .val (.int pd0), .val (.int pe), .val (.int pq), .val (.int w1), .val (.int w2), .val (.int w3), .val (.ref ps), .val (.int (pd0 &&& (3 : Int32))), .val (.ref b110), .unset] [(.int (pd0 &&& (3 : Int32)))])) (fun t₀ k₀ => XS.iload X132.here hx rfl (hb hby at_136) rfl k₀) ?_
        refine own_step (T132.setTop (mkF m 139 #[.val (.int pa), .val (.int pb), .val (.int pc1), .val (.int pd0), .val (.int pe), .val (.int pq), .val (.int w1), .val (.int w2), .val (.int w3), .val (.ref ps), .val (.int (pd0 &&& (3 : Int32))), .val (.ref b110), .unset] [(.int (3 : Int32)), (.int (pd0 &&& (3 : Int32)))])) (fun t₀ k₀ => XS.iconst X132.here hx rfl (hb hby at_138) k₀) ?_
        have hk145 : (pd0 &&& (3 : Int32)) < (3 : Int32) := own_n23 hc124
        refine own_step (T132.setTop (mkF m 151 #[.val (.int pa), .val (.int pb), .val (.int pc1), .val (.int pd0), .val (.int pe), .val (.int pq), .val (.int w1), .val (.int w2), .val (.int w3), .val (.ref ps), .val (.int (pd0 &&& (3 : Int32))), .val (.ref b110), .unset] [])) (fun t₀ k₀ => XS.icmpYes X132.here hx rfl (pc0 := 139) (pc' := 151) rfl (hb hby at_139) rfl (tlt hk145).1 (by decide) (by decide) k₀) ?_
        refine own_step (T132.setTop (mkF m 152 #[.val (.int pa), .val (.int pb), .val (.int pc1), .val (.int pd0), .val (.int pe), .val (.int pq), .val (.int w1), .val (.int w2), .val (.int w3), .val (.ref ps), .val (.int (pd0 &&& (3 : Int32))), .val (.ref b110), .unset] [(.int (0 : Int32))])) (fun t₀ k₀ => XS.iconst X132.here hx rfl (hb hby at_151) k₀) ?_
        refine own_step (T132.setTop (mkF m 154 #[.val (.int pa), .val (.int pb), .val (.int pc1), .val (.int pd0), .val (.int pe), .val (.int pq), .val (.int w1), .val (.int w2), .val (.int w3), .val (.ref ps), .val (.int (pd0 &&& (3 : Int32))), .val (.ref b110), .val (.int (0 : Int32))] [])) (fun t₀ k₀ => XS.istore X132.here hx rfl (hb hby at_152) rfl (l' := #[.val (.int pa), .val (.int pb), .val (.int pc1), .val (.int pd0), .val (.int pe), .val (.int pq), .val (.int w1), .val (.int w2), .val (.int w3), .val (.ref ps), .val (.int (pd0 &&& (3 : Int32))), .val (.ref b110), .val (.int (0 : Int32))]) rfl k₀) ?_
        refine own_step (T132.setTop (mkF m 156 #[.val (.int pa), .val (.int pb), .val (.int pc1), .val (.int pd0), .val (.int pe), .val (.int pq), .val (.int w1), .val (.int w2), .val (.int w3), .val (.ref ps), .val (.int (pd0 &&& (3 : Int32))), .val (.ref b110), .val (.int (0 : Int32))] [(.int (pd0 &&& (3 : Int32)))])) (fun t₀ k₀ => XS.iload X132.here hx rfl (hb hby at_154) rfl k₀) ?_
        refine own_step (T132.setTop (mkF m 157 #[.val (.int pa), .val (.int pb), .val (.int pc1), .val (.int pd0), .val (.int pe), .val (.int pq), .val (.int w1), .val (.int w2), .val (.int w3), .val (.ref ps), .val (.int (pd0 &&& (3 : Int32))), .val (.ref b110), .val (.int (0 : Int32))] [(.int (1 : Int32)), (.int (pd0 &&& (3 : Int32)))])) (fun t₀ k₀ => XS.iconst X132.here hx rfl (hb hby at_156) k₀) ?_
        have hk146 : ¬ ((pd0 &&& (3 : Int32)) < (1 : Int32)) := hc109
        refine own_step (T132.setTop (mkF m 160 #[.val (.int pa), .val (.int pb), .val (.int pc1), .val (.int pd0), .val (.int pe), .val (.int pq), .val (.int w1), .val (.int w2), .val (.int w3), .val (.ref ps), .val (.int (pd0 &&& (3 : Int32))), .val (.ref b110), .val (.int (0 : Int32))] [])) (fun t₀ k₀ => XS.icmpNo X132.here hx rfl (hb hby at_157) rfl (flt hk146).1 k₀) ?_
        refine own_step (T132.setTop (mkF m 162 #[.val (.int pa), .val (.int pb), .val (.int pc1), .val (.int pd0), .val (.int pe), .val (.int pq), .val (.int w1), .val (.int w2), .val (.int w3), .val (.ref ps), .val (.int (pd0 &&& (3 : Int32))), .val (.ref b110), .val (.int (0 : Int32))] [(.ref ps)])) (fun t₀ k₀ => XS.aload X132.here hx rfl (hb hby at_160) rfl rfl k₀) ?_
        refine own_step (T132.setTop (mkF m 163 #[.val (.int pa), .val (.int pb), .val (.int pc1), .val (.int pd0), .val (.int pe), .val (.int pq), .val (.int w1), .val (.int w2), .val (.int w3), .val (.ref ps), .val (.int (pd0 &&& (3 : Int32))), .val (.ref b110), .val (.int (0 : Int32))] [(.int (0 : Int32)), (.ref ps)])) (fun t₀ k₀ => XS.iconst X132.here hx rfl (hb hby at_162) k₀) ?_
        obtain ⟨clo147, Aro147, qo147, So147, Mo147, Ho147, Go147⟩ := id f143
        have hino147 : ¬ ((0 : Int32) < 0 ∨ clo147.slots.size ≤ ((0 : Int32)).toNatClampNeg) := inb_of So147 ⟨by decide, by decide⟩
        have hato147 : clo147.slots[((0 : Int32)).toNatClampNeg]? = some (.int (Int32.ofNat m0)) := Has.at Ho147 hino147 rfl
        refine own_step (T132.setTop (mkF m 164 #[.val (.int pa), .val (.int pb), .val (.int pc1), .val (.int pd0), .val (.int pe), .val (.int pq), .val (.int w1), .val (.int w2), .val (.int w3), .val (.ref ps), .val (.int (pd0 &&& (3 : Int32))), .val (.ref b110), .val (.int (0 : Int32))] [(.int (Int32.ofNat m0))])) (fun t₀ k₀ => X132.iaload hx (j := (0 : Int32)) (v := (.int (Int32.ofNat m0))) Aro147.1 (State.isArrayOf_alike hZ.alike Aro147.2.1) Aro147.2.2 hino147 hato147 (g := (mkF m 163 #[.val (.int pa), .val (.int pb), .val (.int pc1), .val (.int pd0), .val (.int pe), .val (.int pq), .val (.int w1), .val (.int w2), .val (.int w3), .val (.ref ps), .val (.int (pd0 &&& (3 : Int32))), .val (.ref b110), .val (.int (0 : Int32))] [(.int (0 : Int32)), (.ref ps)])) rfl rfl (hb hby at_163) _ k₀) ?_
        refine own_step (T132.setTop (mkF m 166 #[.val (.int pa), .val (.int pb), .val (.int pc1), .val (.int pd0), .val (.int pe), .val (.int pq), .val (.int w1), .val (.int w2), .val (.int w3), .val (.ref ps), .val (.int (pd0 &&& (3 : Int32))), .val (.ref b110), .val (.int (0 : Int32))] [(.int pq), (.int (Int32.ofNat m0))])) (fun t₀ k₀ => XS.iload X132.here hx rfl (hb hby at_164) rfl k₀) ?_
        by_cases hc166 : pq < (Int32.ofNat m0)
        · skip
          refine own_step (T132.setTop (mkF m 172 #[.val (.int pa), .val (.int pb), .val (.int pc1), .val (.int pd0), .val (.int pe), .val (.int pq), .val (.int w1), .val (.int w2), .val (.int w3), .val (.ref ps), .val (.int (pd0 &&& (3 : Int32))), .val (.ref b110), .val (.int (0 : Int32))] [])) (fun t₀ k₀ => XS.icmpYes X132.here hx rfl (pc0 := 166) (pc' := 172) rfl (hb hby at_166) rfl (tlt hc166).2.2.1 (by decide) (by decide) k₀) ?_
          refine own_step (T132.setTop (mkF m 174 #[.val (.int pa), .val (.int pb), .val (.int pc1), .val (.int pd0), .val (.int pe), .val (.int pq), .val (.int w1), .val (.int w2), .val (.int w3), .val (.ref ps), .val (.int (pd0 &&& (3 : Int32))), .val (.ref b110), .val (.int (0 : Int32))] [(.int (pd0 &&& (3 : Int32)))])) (fun t₀ k₀ => XS.iload X132.here hx rfl (hb hby at_172) rfl k₀) ?_
          refine own_step (T132.setTop (mkF m 175 #[.val (.int pa), .val (.int pb), .val (.int pc1), .val (.int pd0), .val (.int pe), .val (.int pq), .val (.int w1), .val (.int w2), .val (.int w3), .val (.ref ps), .val (.int (pd0 &&& (3 : Int32))), .val (.ref b110), .val (.int (0 : Int32))] [(.int (2 : Int32)), (.int (pd0 &&& (3 : Int32)))])) (fun t₀ k₀ => XS.iconst X132.here hx rfl (hb hby at_174) k₀) ?_
          have hk148 : (pd0 &&& (3 : Int32)) < (2 : Int32) := hc124
          refine own_step (T132.setTop (mkF m 190 #[.val (.int pa), .val (.int pb), .val (.int pc1), .val (.int pd0), .val (.int pe), .val (.int pq), .val (.int w1), .val (.int w2), .val (.int w3), .val (.ref ps), .val (.int (pd0 &&& (3 : Int32))), .val (.ref b110), .val (.int (0 : Int32))] [])) (fun t₀ k₀ => XS.icmpYes X132.here hx rfl (pc0 := 175) (pc' := 190) rfl (hb hby at_175) rfl (tlt hk148).1 (by decide) (by decide) k₀) ?_
          refine own_step (T132.setTop (mkF m 192 #[.val (.int pa), .val (.int pb), .val (.int pc1), .val (.int pd0), .val (.int pe), .val (.int pq), .val (.int w1), .val (.int w2), .val (.int w3), .val (.ref ps), .val (.int (pd0 &&& (3 : Int32))), .val (.ref b110), .val (.int (0 : Int32))] [(.int (pd0 &&& (3 : Int32)))])) (fun t₀ k₀ => XS.iload X132.here hx rfl (hb hby at_190) rfl k₀) ?_
          refine own_step (T132.setTop (mkF m 193 #[.val (.int pa), .val (.int pb), .val (.int pc1), .val (.int pd0), .val (.int pe), .val (.int pq), .val (.int w1), .val (.int w2), .val (.int w3), .val (.ref ps), .val (.int (pd0 &&& (3 : Int32))), .val (.ref b110), .val (.int (0 : Int32))] [(.int (3 : Int32)), (.int (pd0 &&& (3 : Int32)))])) (fun t₀ k₀ => XS.iconst X132.here hx rfl (hb hby at_192) k₀) ?_
          have hk149 : (pd0 &&& (3 : Int32)) < (3 : Int32) := own_n23 hc124
          refine own_step (T132.setTop (mkF m 208 #[.val (.int pa), .val (.int pb), .val (.int pc1), .val (.int pd0), .val (.int pe), .val (.int pq), .val (.int w1), .val (.int w2), .val (.int w3), .val (.ref ps), .val (.int (pd0 &&& (3 : Int32))), .val (.ref b110), .val (.int (0 : Int32))] [])) (fun t₀ k₀ => XS.icmpYes X132.here hx rfl (pc0 := 193) (pc' := 208) rfl (hb hby at_193) rfl (tlt hk149).1 (by decide) (by decide) k₀) ?_
          refine own_step (T132.setTop (mkF m 210 #[.val (.int pa), .val (.int pb), .val (.int pc1), .val (.int pd0), .val (.int pe), .val (.int pq), .val (.int w1), .val (.int w2), .val (.int w3), .val (.ref ps), .val (.int (pd0 &&& (3 : Int32))), .val (.ref b110), .val (.int (0 : Int32))] [(.ref b110)])) (fun t₀ k₀ => XS.aload X132.here hx rfl (hb hby at_208) rfl rfl k₀) ?_
          refine own_step (T132.setTop (mkF m 212 #[.val (.int pa), .val (.int pb), .val (.int pc1), .val (.int pd0), .val (.int pe), .val (.int pq), .val (.int w1), .val (.int w2), .val (.int w3), .val (.ref ps), .val (.int (pd0 &&& (3 : Int32))), .val (.ref b110), .val (.int (0 : Int32))] [(.int pq), (.ref b110)])) (fun t₀ k₀ => XS.iload X132.here hx rfl (hb hby at_210) rfl k₀) ?_
          obtain ⟨cq150, kq150, q150a, q150b, q150c⟩ := isOf hZ rfl f139
          obtain ⟨_, _, ⟨T150, L150, k150, n150⟩, -, X150, ⟨Lc150, hQ150, l150, y150, z150⟩, st150⟩ := X132.virtualBack hx (y := (⟨"com/example/syncopate/syncopate/DeletedRows", "through", "(I)I"⟩ : MethodName)) (z := (⟨"com/example/syncopate/syncopate/DeletedRows", "through", "(I)I"⟩ : MethodName)) hown (mvT hZ (hw _ (List.mem_of_getElem? (i := 43) rfl))) (mvT hZ (hw _ (List.mem_of_getElem? (i := 44) rfl))) (notFace_of_selects (args := #[]) (mvT hZ (hw _ (List.mem_of_getElem? (i := 46) rfl)))) (mvT hZ (hw _ (List.mem_of_getElem? (i := 46) rfl))) (mvT hZ (hw _ (List.mem_of_getElem? (i := 45) rfl))) (by decide) (backOf (W := 0) (rm9 l Z a0 hw [] b110 pq ct1133 k1134 (own_next 1 m0) g135 (m0 :: []) T132.heap n0 z132' f140 f142 (own_nx1 (Nat.le_refl 1)) (by omega) (own_InvTo f137 (own_M_lt (own_nx1 (Nat.le_refl 1))))) hZ (hw _ (List.mem_of_getElem? (i := 47) rfl)) (hw _ (List.mem_of_getElem? (i := 3) rfl)) (by decide) (by decide)) q150a q150c (g := (mkF m 212 #[.val (.int pa), .val (.int pb), .val (.int pc1), .val (.int pd0), .val (.int pe), .val (.int pq), .val (.int w1), .val (.int w2), .val (.int w3), .val (.ref ps), .val (.int (pd0 &&& (3 : Int32))), .val (.ref b110), .val (.int (0 : Int32))] [(.int pq), (.ref b110)])) rfl (by rw [hml]; rfl) (Steps.refl _) (argsL := [(.int pq)]) (rest := []) (lenOf pd_6 rfl) rfl (by show 2 * 0 + _ ≤ _; exact Nat.le_of_eq rfl) (hb hby at_212) (fun _ _ => ⟨rfl, rfl, (by decide : 4 + 0 ≤ _), (by decide : 263 + 0 ≤ _)⟩)
          dsimp only [Pt.U, Pt.locs, Pt.cells, Pt.slots] at X150 l150 y150 z150 st150 hQ150
          subst l150 y150 z150
          obtain ⟨rfl, N150q, e150⟩ := hQ150
          have N150 := Fr.app N132 N150q
          refine own_comes (T150.setTop (mkF m 215 #[.val (.int pa), .val (.int pb), .val (.int pc1), .val (.int pd0), .val (.int pe), .val (.int pq), .val (.int w1), .val (.int w2), .val (.int w3), .val (.ref ps), .val (.int (pd0 &&& (3 : Int32))), .val (.ref b110), .val (.int (0 : Int32))] [(.int (Int32.ofNat (own_cnt (m0 :: []) 0 (own_M pq (own_next 1 m0)))))])) st150 ?_
          refine own_step (T150.setTop (mkF m 217 #[.val (.int pa), .val (.int pb), .val (.int pc1), .val (.int pd0), .val (.int pe), .val (.int pq), .val (.int w1), .val (.int w2), .val (.int w3), .val (.ref ps), .val (.int (pd0 &&& (3 : Int32))), .val (.ref b110), .val (.int (0 : Int32))] [(.int (0 : Int32)), (.int (Int32.ofNat (own_cnt (m0 :: []) 0 (own_M pq (own_next 1 m0)))))])) (fun t₀ k₀ => XS.iload X150.here hx rfl (hb hby at_215) rfl k₀) ?_
          have hk151 : (Int32.ofNat (own_cnt (m0 :: []) 0 (own_M pq (own_next 1 m0)))) = (0 : Int32) := by rw [own_cA (hD144 _ (by simp)) (by omega) hc166]; rfl
          refine own_step (T150.setTop (mkF m 220 #[.val (.int pa), .val (.int pb), .val (.int pc1), .val (.int pd0), .val (.int pe), .val (.int pq), .val (.int w1), .val (.int w2), .val (.int w3), .val (.ref ps), .val (.int (pd0 &&& (3 : Int32))), .val (.ref b110), .val (.int (0 : Int32))] [])) (fun t₀ k₀ => XS.icmpNo X150.here hx rfl (hb hby at_217) rfl (teq hk151).2 k₀) ?_
          refine own_step (T150.setTop (mkF m 221 #[.val (.int pa), .val (.int pb), .val (.int pc1), .val (.int pd0), .val (.int pe), .val (.int pq), .val (.int w1), .val (.int w2), .val (.int w3), .val (.ref ps), .val (.int (pd0 &&& (3 : Int32))), .val (.ref b110), .val (.int (0 : Int32))] [(.int (1 : Int32))])) (fun t₀ k₀ => XS.iconst X150.here hx rfl (hb hby at_220) k₀) ?_
          refine own_step (T150.setTop (mkF m 225 #[.val (.int pa), .val (.int pb), .val (.int pc1), .val (.int pd0), .val (.int pe), .val (.int pq), .val (.int w1), .val (.int w2), .val (.int w3), .val (.ref ps), .val (.int (pd0 &&& (3 : Int32))), .val (.ref b110), .val (.int (0 : Int32))] [(.int (1 : Int32))])) (fun t₀ k₀ => XS.goto X150.here hx rfl (pc0 := 221) (pc' := 225) rfl (hb hby at_221) (by decide) (by decide) k₀) ?_
          obtain ⟨fs, hr, hrun, hended, hW, hsame⟩ := X150.leave (v := some (.int (1 : Int32))) (fun h => by rw [Bd.returns] at h; cases h)
          refine ⟨_, _, ?_, hrun, hended, _, _, rfl, ?_, ⟨_, rfl⟩, hW, hsame.mono (by decide) (by decide)⟩
          · exact retN X150 hx (t := .boolean) Bd.returns (by simp) (hb hby at_225) hr
          · show Q_rm0 Z pa pb pc1 pd0 pe pq h0 n0 _ T150.heap _
            rw [e150]
            exact ⟨rfl, N150⟩
        · skip
          refine own_step (T132.setTop (mkF m 169 #[.val (.int pa), .val (.int pb), .val (.int pc1), .val (.int pd0), .val (.int pe), .val (.int pq), .val (.int w1), .val (.int w2), .val (.int w3), .val (.ref ps), .val (.int (pd0 &&& (3 : Int32))), .val (.ref b110), .val (.int (0 : Int32))] [])) (fun t₀ k₀ => XS.icmpNo X132.here hx rfl (hb hby at_166) rfl (flt hc166).2.2.1 k₀) ?_
          refine own_step (T132.setTop (mkF m 172 #[.val (.int pa), .val (.int pb), .val (.int pc1), .val (.int pd0), .val (.int pe), .val (.int pq), .val (.int w1), .val (.int w2), .val (.int w3), .val (.ref ps), .val (.int (pd0 &&& (3 : Int32))), .val (.ref b110), .val (.int (1 : Int32))] [])) (fun t₀ k₀ => XS.iinc X132.here hx rfl (hb hby at_169) rfl (l' := #[.val (.int pa), .val (.int pb), .val (.int pc1), .val (.int pd0), .val (.int pe), .val (.int pq), .val (.int w1), .val (.int w2), .val (.int w3), .val (.ref ps), .val (.int (pd0 &&& (3 : Int32))), .val (.ref b110), .val (.int (1 : Int32))]) rfl k₀) ?_
          refine own_step (T132.setTop (mkF m 174 #[.val (.int pa), .val (.int pb), .val (.int pc1), .val (.int pd0), .val (.int pe), .val (.int pq), .val (.int w1), .val (.int w2), .val (.int w3), .val (.ref ps), .val (.int (pd0 &&& (3 : Int32))), .val (.ref b110), .val (.int (1 : Int32))] [(.int (pd0 &&& (3 : Int32)))])) (fun t₀ k₀ => XS.iload X132.here hx rfl (hb hby at_172) rfl k₀) ?_
          refine own_step (T132.setTop (mkF m 175 #[.val (.int pa), .val (.int pb), .val (.int pc1), .val (.int pd0), .val (.int pe), .val (.int pq), .val (.int w1), .val (.int w2), .val (.int w3), .val (.ref ps), .val (.int (pd0 &&& (3 : Int32))), .val (.ref b110), .val (.int (1 : Int32))] [(.int (2 : Int32)), (.int (pd0 &&& (3 : Int32)))])) (fun t₀ k₀ => XS.iconst X132.here hx rfl (hb hby at_174) k₀) ?_
          have hk152 : (pd0 &&& (3 : Int32)) < (2 : Int32) := hc124
          refine own_step (T132.setTop (mkF m 190 #[.val (.int pa), .val (.int pb), .val (.int pc1), .val (.int pd0), .val (.int pe), .val (.int pq), .val (.int w1), .val (.int w2), .val (.int w3), .val (.ref ps), .val (.int (pd0 &&& (3 : Int32))), .val (.ref b110), .val (.int (1 : Int32))] [])) (fun t₀ k₀ => XS.icmpYes X132.here hx rfl (pc0 := 175) (pc' := 190) rfl (hb hby at_175) rfl (tlt hk152).1 (by decide) (by decide) k₀) ?_
          refine own_step (T132.setTop (mkF m 192 #[.val (.int pa), .val (.int pb), .val (.int pc1), .val (.int pd0), .val (.int pe), .val (.int pq), .val (.int w1), .val (.int w2), .val (.int w3), .val (.ref ps), .val (.int (pd0 &&& (3 : Int32))), .val (.ref b110), .val (.int (1 : Int32))] [(.int (pd0 &&& (3 : Int32)))])) (fun t₀ k₀ => XS.iload X132.here hx rfl (hb hby at_190) rfl k₀) ?_
          refine own_step (T132.setTop (mkF m 193 #[.val (.int pa), .val (.int pb), .val (.int pc1), .val (.int pd0), .val (.int pe), .val (.int pq), .val (.int w1), .val (.int w2), .val (.int w3), .val (.ref ps), .val (.int (pd0 &&& (3 : Int32))), .val (.ref b110), .val (.int (1 : Int32))] [(.int (3 : Int32)), (.int (pd0 &&& (3 : Int32)))])) (fun t₀ k₀ => XS.iconst X132.here hx rfl (hb hby at_192) k₀) ?_
          have hk153 : (pd0 &&& (3 : Int32)) < (3 : Int32) := own_n23 hc124
          refine own_step (T132.setTop (mkF m 208 #[.val (.int pa), .val (.int pb), .val (.int pc1), .val (.int pd0), .val (.int pe), .val (.int pq), .val (.int w1), .val (.int w2), .val (.int w3), .val (.ref ps), .val (.int (pd0 &&& (3 : Int32))), .val (.ref b110), .val (.int (1 : Int32))] [])) (fun t₀ k₀ => XS.icmpYes X132.here hx rfl (pc0 := 193) (pc' := 208) rfl (hb hby at_193) rfl (tlt hk153).1 (by decide) (by decide) k₀) ?_
          refine own_step (T132.setTop (mkF m 210 #[.val (.int pa), .val (.int pb), .val (.int pc1), .val (.int pd0), .val (.int pe), .val (.int pq), .val (.int w1), .val (.int w2), .val (.int w3), .val (.ref ps), .val (.int (pd0 &&& (3 : Int32))), .val (.ref b110), .val (.int (1 : Int32))] [(.ref b110)])) (fun t₀ k₀ => XS.aload X132.here hx rfl (hb hby at_208) rfl rfl k₀) ?_
          refine own_step (T132.setTop (mkF m 212 #[.val (.int pa), .val (.int pb), .val (.int pc1), .val (.int pd0), .val (.int pe), .val (.int pq), .val (.int w1), .val (.int w2), .val (.int w3), .val (.ref ps), .val (.int (pd0 &&& (3 : Int32))), .val (.ref b110), .val (.int (1 : Int32))] [(.int pq), (.ref b110)])) (fun t₀ k₀ => XS.iload X132.here hx rfl (hb hby at_210) rfl k₀) ?_
          obtain ⟨cq154, kq154, q154a, q154b, q154c⟩ := isOf hZ rfl f139
          obtain ⟨_, _, ⟨T154, L154, k154, n154⟩, -, X154, ⟨Lc154, hQ154, l154, y154, z154⟩, st154⟩ := X132.virtualBack hx (y := (⟨"com/example/syncopate/syncopate/DeletedRows", "through", "(I)I"⟩ : MethodName)) (z := (⟨"com/example/syncopate/syncopate/DeletedRows", "through", "(I)I"⟩ : MethodName)) hown (mvT hZ (hw _ (List.mem_of_getElem? (i := 43) rfl))) (mvT hZ (hw _ (List.mem_of_getElem? (i := 44) rfl))) (notFace_of_selects (args := #[]) (mvT hZ (hw _ (List.mem_of_getElem? (i := 46) rfl)))) (mvT hZ (hw _ (List.mem_of_getElem? (i := 46) rfl))) (mvT hZ (hw _ (List.mem_of_getElem? (i := 45) rfl))) (by decide) (backOf (W := 0) (rm9 l Z a0 hw [] b110 pq ct1133 k1134 (own_next 1 m0) g135 (m0 :: []) T132.heap n0 z132' f140 f142 (own_nx1 (Nat.le_refl 1)) (by omega) (own_InvTo f137 (own_M_lt (own_nx1 (Nat.le_refl 1))))) hZ (hw _ (List.mem_of_getElem? (i := 47) rfl)) (hw _ (List.mem_of_getElem? (i := 3) rfl)) (by decide) (by decide)) q154a q154c (g := (mkF m 212 #[.val (.int pa), .val (.int pb), .val (.int pc1), .val (.int pd0), .val (.int pe), .val (.int pq), .val (.int w1), .val (.int w2), .val (.int w3), .val (.ref ps), .val (.int (pd0 &&& (3 : Int32))), .val (.ref b110), .val (.int (1 : Int32))] [(.int pq), (.ref b110)])) rfl (by rw [hml]; rfl) (Steps.refl _) (argsL := [(.int pq)]) (rest := []) (lenOf pd_6 rfl) rfl (by show 2 * 0 + _ ≤ _; exact Nat.le_of_eq rfl) (hb hby at_212) (fun _ _ => ⟨rfl, rfl, (by decide : 4 + 0 ≤ _), (by decide : 263 + 0 ≤ _)⟩)
          dsimp only [Pt.U, Pt.locs, Pt.cells, Pt.slots] at X154 l154 y154 z154 st154 hQ154
          subst l154 y154 z154
          obtain ⟨rfl, N154q, e154⟩ := hQ154
          have N154 := Fr.app N132 N154q
          refine own_comes (T154.setTop (mkF m 215 #[.val (.int pa), .val (.int pb), .val (.int pc1), .val (.int pd0), .val (.int pe), .val (.int pq), .val (.int w1), .val (.int w2), .val (.int w3), .val (.ref ps), .val (.int (pd0 &&& (3 : Int32))), .val (.ref b110), .val (.int (1 : Int32))] [(.int (Int32.ofNat (own_cnt (m0 :: []) 0 (own_M pq (own_next 1 m0)))))])) st154 ?_
          refine own_step (T154.setTop (mkF m 217 #[.val (.int pa), .val (.int pb), .val (.int pc1), .val (.int pd0), .val (.int pe), .val (.int pq), .val (.int w1), .val (.int w2), .val (.int w3), .val (.ref ps), .val (.int (pd0 &&& (3 : Int32))), .val (.ref b110), .val (.int (1 : Int32))] [(.int (1 : Int32)), (.int (Int32.ofNat (own_cnt (m0 :: []) 0 (own_M pq (own_next 1 m0)))))])) (fun t₀ k₀ => XS.iload X154.here hx rfl (hb hby at_215) rfl k₀) ?_
          have hk155 : (Int32.ofNat (own_cnt (m0 :: []) 0 (own_M pq (own_next 1 m0)))) = (1 : Int32) := by rw [own_cB (hD144 _ (by simp)) (by omega) hc166]; rfl
          refine own_step (T154.setTop (mkF m 220 #[.val (.int pa), .val (.int pb), .val (.int pc1), .val (.int pd0), .val (.int pe), .val (.int pq), .val (.int w1), .val (.int w2), .val (.int w3), .val (.ref ps), .val (.int (pd0 &&& (3 : Int32))), .val (.ref b110), .val (.int (1 : Int32))] [])) (fun t₀ k₀ => XS.icmpNo X154.here hx rfl (hb hby at_217) rfl (teq hk155).2 k₀) ?_
          refine own_step (T154.setTop (mkF m 221 #[.val (.int pa), .val (.int pb), .val (.int pc1), .val (.int pd0), .val (.int pe), .val (.int pq), .val (.int w1), .val (.int w2), .val (.int w3), .val (.ref ps), .val (.int (pd0 &&& (3 : Int32))), .val (.ref b110), .val (.int (1 : Int32))] [(.int (1 : Int32))])) (fun t₀ k₀ => XS.iconst X154.here hx rfl (hb hby at_220) k₀) ?_
          refine own_step (T154.setTop (mkF m 225 #[.val (.int pa), .val (.int pb), .val (.int pc1), .val (.int pd0), .val (.int pe), .val (.int pq), .val (.int w1), .val (.int w2), .val (.int w3), .val (.ref ps), .val (.int (pd0 &&& (3 : Int32))), .val (.ref b110), .val (.int (1 : Int32))] [(.int (1 : Int32))])) (fun t₀ k₀ => XS.goto X154.here hx rfl (pc0 := 221) (pc' := 225) rfl (hb hby at_221) (by decide) (by decide) k₀) ?_
          obtain ⟨fs, hr, hrun, hended, hW, hsame⟩ := X154.leave (v := some (.int (1 : Int32))) (fun h => by rw [Bd.returns] at h; cases h)
          refine ⟨_, _, ?_, hrun, hended, _, _, rfl, ?_, ⟨_, rfl⟩, hW, hsame.mono (by decide) (by decide)⟩
          · exact retN X154 hx (t := .boolean) Bd.returns (by simp) (hb hby at_225) hr
          · show Q_rm0 Z pa pb pc1 pd0 pe pq h0 n0 _ T154.heap _
            rw [e154]
            exact ⟨rfl, N154⟩
      · skip
        refine own_step (T132.setTop (mkF m 127 #[.val (.int pa), .val (.int pb), .val (.int pc1), .val (.int pd0), .val (.int pe), .val (.int pq), .val (.int w1), .val (.int w2), .val (.int w3), .val (.ref ps), .val (.int (pd0 &&& (3 : Int32))), .val (.ref b110), .unset] [])) (fun t₀ k₀ => XS.icmpNo X132.here hx rfl (hb hby at_124) rfl (flt hc124).1 k₀) ?_
        refine own_step (T132.setTop (mkF m 129 #[.val (.int pa), .val (.int pb), .val (.int pc1), .val (.int pd0), .val (.int pe), .val (.int pq), .val (.int w1), .val (.int w2), .val (.int w3), .val (.ref ps), .val (.int (pd0 &&& (3 : Int32))), .val (.ref b110), .unset] [(.ref b110)])) (fun t₀ k₀ => XS.aload X132.here hx rfl (hb hby at_127) rfl rfl k₀) ?_
        refine own_step (T132.setTop (mkF m 131 #[.val (.int pa), .val (.int pb), .val (.int pc1), .val (.int pd0), .val (.int pe), .val (.int pq), .val (.int w1), .val (.int w2), .val (.int w3), .val (.ref ps), .val (.int (pd0 &&& (3 : Int32))), .val (.ref b110), .unset] [(.ref ps), (.ref b110)])) (fun t₀ k₀ => XS.aload X132.here hx rfl (hb hby at_129) rfl rfl k₀) ?_
        refine own_step (T132.setTop (mkF m 132 #[.val (.int pa), .val (.int pb), .val (.int pc1), .val (.int pd0), .val (.int pe), .val (.int pq), .val (.int w1), .val (.int w2), .val (.int w3), .val (.ref ps), .val (.int (pd0 &&& (3 : Int32))), .val (.ref b110), .unset] [(.int (1 : Int32)), (.ref ps), (.ref b110)])) (fun t₀ k₀ => XS.iconst X132.here hx rfl (hb hby at_131) k₀) ?_
        obtain ⟨clo156, Aro156, qo156, So156, Mo156, Ho156, Go156⟩ := id f143
        have hino156 : ¬ ((1 : Int32) < 0 ∨ clo156.slots.size ≤ ((1 : Int32)).toNatClampNeg) := inb_of So156 ⟨by decide, by decide⟩
        have hato156 : clo156.slots[((1 : Int32)).toNatClampNeg]? = some (.int (Int32.ofNat m1)) := Has.at Ho156 hino156 rfl
        refine own_step (T132.setTop (mkF m 133 #[.val (.int pa), .val (.int pb), .val (.int pc1), .val (.int pd0), .val (.int pe), .val (.int pq), .val (.int w1), .val (.int w2), .val (.int w3), .val (.ref ps), .val (.int (pd0 &&& (3 : Int32))), .val (.ref b110), .unset] [(.int (Int32.ofNat m1)), (.ref b110)])) (fun t₀ k₀ => X132.iaload hx (j := (1 : Int32)) (v := (.int (Int32.ofNat m1))) Aro156.1 (State.isArrayOf_alike hZ.alike Aro156.2.1) Aro156.2.2 hino156 hato156 (g := (mkF m 132 #[.val (.int pa), .val (.int pb), .val (.int pc1), .val (.int pd0), .val (.int pe), .val (.int pq), .val (.int w1), .val (.int w2), .val (.int w3), .val (.ref ps), .val (.int (pd0 &&& (3 : Int32))), .val (.ref b110), .unset] [(.int (1 : Int32)), (.ref ps), (.ref b110)])) rfl rfl (hb hby at_132) _ k₀) ?_
        obtain ⟨cq157, kq157, q157a, q157b, q157c⟩ := isOf hZ rfl f139
        obtain ⟨_, _, ⟨T157, L157, k157, n157⟩, -, X157, ⟨Lc157, hQ157, l157, y157, z157⟩, st157⟩ := X132.virtualBack hx (y := (⟨"com/example/syncopate/syncopate/DeletedRows", "add", "(I)V"⟩ : MethodName)) (z := (⟨"com/example/syncopate/syncopate/DeletedRows", "add", "(I)V"⟩ : MethodName)) hown (mvT hZ (hw _ (List.mem_of_getElem? (i := 12) rfl))) (mvT hZ (hw _ (List.mem_of_getElem? (i := 13) rfl))) (notFace_of_selects (args := #[]) (mvT hZ (hw _ (List.mem_of_getElem? (i := 15) rfl)))) (mvT hZ (hw _ (List.mem_of_getElem? (i := 15) rfl))) (mvT hZ (hw _ (List.mem_of_getElem? (i := 14) rfl))) (by decide) (backOf (W := 0) (rm3 l Z a0 hw [] b110 ct1133 k1134 (own_next 1 m0) g135 (m0 :: []) m1 ((0 : Int32) + (1 : Int32)) T132.heap b110 (Nat.le_of_lt f139.lt) f139 f140 f141 f142 (Nat.le_refl b110) (own_nx1 (Nat.le_refl 1)) hm1 hx1 f137 hD144 f138 f136) hZ (hw _ (List.mem_of_getElem? (i := 16) rfl)) (hw _ (List.mem_of_getElem? (i := 3) rfl)) (by decide) (by decide)) q157a q157c (g := (mkF m 133 #[.val (.int pa), .val (.int pb), .val (.int pc1), .val (.int pd0), .val (.int pe), .val (.int pq), .val (.int w1), .val (.int w2), .val (.int w3), .val (.ref ps), .val (.int (pd0 &&& (3 : Int32))), .val (.ref b110), .unset] [(.int (Int32.ofNat m1)), (.ref b110)])) rfl (by rw [hml]; rfl) (Steps.refl _) (argsL := [(.int (Int32.ofNat m1))]) (rest := []) (lenOf pd_1 rfl) rfl (by show 2 * 0 + _ ≤ _; exact Nat.le_of_eq rfl) (hb hby at_133) (fun _ _ => ⟨rfl, rfl, (by decide : 4 + 1 ≤ _), (by decide : 263 + 257 ≤ _)⟩)
        dsimp only [Pt.U, Pt.locs, Pt.cells, Pt.slots] at X157 l157 y157 z157 st157 hQ157
        subst l157 y157 z157
        obtain ⟨ct1158, k1159, g160, rfl, N157q, K157, f161, f162, f163, f164, f165, f166, f167⟩ := hQ157
        have N157 := Fr.app N132 (own_Frm fr_b110 N157q)
        have f168 : Arv Z T157.heap ps kx .int (3 : Int32) [(.int (Int32.ofNat m0)), (.int (Int32.ofNat m1)), (.int (Int32.ofNat m2))] (.int (0 : Int32)) := own_bel_arv f143 K157 lt111
        have z157' : n0 ≤ T157.heap.size := Nat.le_trans z132' K157.1
        refine own_comes (T157.setTop (mkF m 136 #[.val (.int pa), .val (.int pb), .val (.int pc1), .val (.int pd0), .val (.int pe), .val (.int pq), .val (.int w1), .val (.int w2), .val (.int w3), .val (.ref ps), .val (.int (pd0 &&& (3 : Int32))), .val (.ref b110), .unset] [])) st157 ?_
        have hD169 : ∀ d ∈ (m1 :: (m0 :: [])), 0 < d ∧ d < (own_next (own_next 1 m0) m1) := own_Dn hD144 hm1.1
        refine own_step (T157.setTop (mkF m 138 #[.val (.int pa), .val (.int pb), .val (.int pc1), .val (.int pd0), .val (.int pe), .val (.int pq), .val (.int w1), .val (.int w2), .val (.int w3), .val (.ref ps), .val (.int (pd0 &&& (3 : Int32))), .val (.ref b110), .unset] [(.int (pd0 &&& (3 : Int32)))])) (fun t₀ k₀ => XS.iload X157.here hx rfl (hb hby at_136) rfl k₀) ?_
        refine own_step (T157.setTop (mkF m 139 #[.val (.int pa), .val (.int pb), .val (.int pc1), .val (.int pd0), .val (.int pe), .val (.int pq), .val (.int w1), .val (.int w2), .val (.int w3), .val (.ref ps), .val (.int (pd0 &&& (3 : Int32))), .val (.ref b110), .unset] [(.int (3 : Int32)), (.int (pd0 &&& (3 : Int32)))])) (fun t₀ k₀ => XS.iconst X157.here hx rfl (hb hby at_138) k₀) ?_
        by_cases hc139 : (pd0 &&& (3 : Int32)) < (3 : Int32)
        · skip
          refine own_step (T157.setTop (mkF m 151 #[.val (.int pa), .val (.int pb), .val (.int pc1), .val (.int pd0), .val (.int pe), .val (.int pq), .val (.int w1), .val (.int w2), .val (.int w3), .val (.ref ps), .val (.int (pd0 &&& (3 : Int32))), .val (.ref b110), .unset] [])) (fun t₀ k₀ => XS.icmpYes X157.here hx rfl (pc0 := 139) (pc' := 151) rfl (hb hby at_139) rfl (tlt hc139).1 (by decide) (by decide) k₀) ?_
          refine own_step (T157.setTop (mkF m 152 #[.val (.int pa), .val (.int pb), .val (.int pc1), .val (.int pd0), .val (.int pe), .val (.int pq), .val (.int w1), .val (.int w2), .val (.int w3), .val (.ref ps), .val (.int (pd0 &&& (3 : Int32))), .val (.ref b110), .unset] [(.int (0 : Int32))])) (fun t₀ k₀ => XS.iconst X157.here hx rfl (hb hby at_151) k₀) ?_
          refine own_step (T157.setTop (mkF m 154 #[.val (.int pa), .val (.int pb), .val (.int pc1), .val (.int pd0), .val (.int pe), .val (.int pq), .val (.int w1), .val (.int w2), .val (.int w3), .val (.ref ps), .val (.int (pd0 &&& (3 : Int32))), .val (.ref b110), .val (.int (0 : Int32))] [])) (fun t₀ k₀ => XS.istore X157.here hx rfl (hb hby at_152) rfl (l' := #[.val (.int pa), .val (.int pb), .val (.int pc1), .val (.int pd0), .val (.int pe), .val (.int pq), .val (.int w1), .val (.int w2), .val (.int w3), .val (.ref ps), .val (.int (pd0 &&& (3 : Int32))), .val (.ref b110), .val (.int (0 : Int32))]) rfl k₀) ?_
          refine own_step (T157.setTop (mkF m 156 #[.val (.int pa), .val (.int pb), .val (.int pc1), .val (.int pd0), .val (.int pe), .val (.int pq), .val (.int w1), .val (.int w2), .val (.int w3), .val (.ref ps), .val (.int (pd0 &&& (3 : Int32))), .val (.ref b110), .val (.int (0 : Int32))] [(.int (pd0 &&& (3 : Int32)))])) (fun t₀ k₀ => XS.iload X157.here hx rfl (hb hby at_154) rfl k₀) ?_
          refine own_step (T157.setTop (mkF m 157 #[.val (.int pa), .val (.int pb), .val (.int pc1), .val (.int pd0), .val (.int pe), .val (.int pq), .val (.int w1), .val (.int w2), .val (.int w3), .val (.ref ps), .val (.int (pd0 &&& (3 : Int32))), .val (.ref b110), .val (.int (0 : Int32))] [(.int (1 : Int32)), (.int (pd0 &&& (3 : Int32)))])) (fun t₀ k₀ => XS.iconst X157.here hx rfl (hb hby at_156) k₀) ?_
          have hk170 : ¬ ((pd0 &&& (3 : Int32)) < (1 : Int32)) := hc109
          refine own_step (T157.setTop (mkF m 160 #[.val (.int pa), .val (.int pb), .val (.int pc1), .val (.int pd0), .val (.int pe), .val (.int pq), .val (.int w1), .val (.int w2), .val (.int w3), .val (.ref ps), .val (.int (pd0 &&& (3 : Int32))), .val (.ref b110), .val (.int (0 : Int32))] [])) (fun t₀ k₀ => XS.icmpNo X157.here hx rfl (hb hby at_157) rfl (flt hk170).1 k₀) ?_
          refine own_step (T157.setTop (mkF m 162 #[.val (.int pa), .val (.int pb), .val (.int pc1), .val (.int pd0), .val (.int pe), .val (.int pq), .val (.int w1), .val (.int w2), .val (.int w3), .val (.ref ps), .val (.int (pd0 &&& (3 : Int32))), .val (.ref b110), .val (.int (0 : Int32))] [(.ref ps)])) (fun t₀ k₀ => XS.aload X157.here hx rfl (hb hby at_160) rfl rfl k₀) ?_
          refine own_step (T157.setTop (mkF m 163 #[.val (.int pa), .val (.int pb), .val (.int pc1), .val (.int pd0), .val (.int pe), .val (.int pq), .val (.int w1), .val (.int w2), .val (.int w3), .val (.ref ps), .val (.int (pd0 &&& (3 : Int32))), .val (.ref b110), .val (.int (0 : Int32))] [(.int (0 : Int32)), (.ref ps)])) (fun t₀ k₀ => XS.iconst X157.here hx rfl (hb hby at_162) k₀) ?_
          obtain ⟨clo171, Aro171, qo171, So171, Mo171, Ho171, Go171⟩ := id f168
          have hino171 : ¬ ((0 : Int32) < 0 ∨ clo171.slots.size ≤ ((0 : Int32)).toNatClampNeg) := inb_of So171 ⟨by decide, by decide⟩
          have hato171 : clo171.slots[((0 : Int32)).toNatClampNeg]? = some (.int (Int32.ofNat m0)) := Has.at Ho171 hino171 rfl
          refine own_step (T157.setTop (mkF m 164 #[.val (.int pa), .val (.int pb), .val (.int pc1), .val (.int pd0), .val (.int pe), .val (.int pq), .val (.int w1), .val (.int w2), .val (.int w3), .val (.ref ps), .val (.int (pd0 &&& (3 : Int32))), .val (.ref b110), .val (.int (0 : Int32))] [(.int (Int32.ofNat m0))])) (fun t₀ k₀ => X157.iaload hx (j := (0 : Int32)) (v := (.int (Int32.ofNat m0))) Aro171.1 (State.isArrayOf_alike hZ.alike Aro171.2.1) Aro171.2.2 hino171 hato171 (g := (mkF m 163 #[.val (.int pa), .val (.int pb), .val (.int pc1), .val (.int pd0), .val (.int pe), .val (.int pq), .val (.int w1), .val (.int w2), .val (.int w3), .val (.ref ps), .val (.int (pd0 &&& (3 : Int32))), .val (.ref b110), .val (.int (0 : Int32))] [(.int (0 : Int32)), (.ref ps)])) rfl rfl (hb hby at_163) _ k₀) ?_
          refine own_step (T157.setTop (mkF m 166 #[.val (.int pa), .val (.int pb), .val (.int pc1), .val (.int pd0), .val (.int pe), .val (.int pq), .val (.int w1), .val (.int w2), .val (.int w3), .val (.ref ps), .val (.int (pd0 &&& (3 : Int32))), .val (.ref b110), .val (.int (0 : Int32))] [(.int pq), (.int (Int32.ofNat m0))])) (fun t₀ k₀ => XS.iload X157.here hx rfl (hb hby at_164) rfl k₀) ?_
          by_cases hc166 : pq < (Int32.ofNat m0)
          · skip
            refine own_step (T157.setTop (mkF m 172 #[.val (.int pa), .val (.int pb), .val (.int pc1), .val (.int pd0), .val (.int pe), .val (.int pq), .val (.int w1), .val (.int w2), .val (.int w3), .val (.ref ps), .val (.int (pd0 &&& (3 : Int32))), .val (.ref b110), .val (.int (0 : Int32))] [])) (fun t₀ k₀ => XS.icmpYes X157.here hx rfl (pc0 := 166) (pc' := 172) rfl (hb hby at_166) rfl (tlt hc166).2.2.1 (by decide) (by decide) k₀) ?_
            refine own_step (T157.setTop (mkF m 174 #[.val (.int pa), .val (.int pb), .val (.int pc1), .val (.int pd0), .val (.int pe), .val (.int pq), .val (.int w1), .val (.int w2), .val (.int w3), .val (.ref ps), .val (.int (pd0 &&& (3 : Int32))), .val (.ref b110), .val (.int (0 : Int32))] [(.int (pd0 &&& (3 : Int32)))])) (fun t₀ k₀ => XS.iload X157.here hx rfl (hb hby at_172) rfl k₀) ?_
            refine own_step (T157.setTop (mkF m 175 #[.val (.int pa), .val (.int pb), .val (.int pc1), .val (.int pd0), .val (.int pe), .val (.int pq), .val (.int w1), .val (.int w2), .val (.int w3), .val (.ref ps), .val (.int (pd0 &&& (3 : Int32))), .val (.ref b110), .val (.int (0 : Int32))] [(.int (2 : Int32)), (.int (pd0 &&& (3 : Int32)))])) (fun t₀ k₀ => XS.iconst X157.here hx rfl (hb hby at_174) k₀) ?_
            have hk172 : ¬ ((pd0 &&& (3 : Int32)) < (2 : Int32)) := hc124
            refine own_step (T157.setTop (mkF m 178 #[.val (.int pa), .val (.int pb), .val (.int pc1), .val (.int pd0), .val (.int pe), .val (.int pq), .val (.int w1), .val (.int w2), .val (.int w3), .val (.ref ps), .val (.int (pd0 &&& (3 : Int32))), .val (.ref b110), .val (.int (0 : Int32))] [])) (fun t₀ k₀ => XS.icmpNo X157.here hx rfl (hb hby at_175) rfl (flt hk172).1 k₀) ?_
            refine own_step (T157.setTop (mkF m 180 #[.val (.int pa), .val (.int pb), .val (.int pc1), .val (.int pd0), .val (.int pe), .val (.int pq), .val (.int w1), .val (.int w2), .val (.int w3), .val (.ref ps), .val (.int (pd0 &&& (3 : Int32))), .val (.ref b110), .val (.int (0 : Int32))] [(.ref ps)])) (fun t₀ k₀ => XS.aload X157.here hx rfl (hb hby at_178) rfl rfl k₀) ?_
            refine own_step (T157.setTop (mkF m 181 #[.val (.int pa), .val (.int pb), .val (.int pc1), .val (.int pd0), .val (.int pe), .val (.int pq), .val (.int w1), .val (.int w2), .val (.int w3), .val (.ref ps), .val (.int (pd0 &&& (3 : Int32))), .val (.ref b110), .val (.int (0 : Int32))] [(.int (1 : Int32)), (.ref ps)])) (fun t₀ k₀ => XS.iconst X157.here hx rfl (hb hby at_180) k₀) ?_
            obtain ⟨clo173, Aro173, qo173, So173, Mo173, Ho173, Go173⟩ := id f168
            have hino173 : ¬ ((1 : Int32) < 0 ∨ clo173.slots.size ≤ ((1 : Int32)).toNatClampNeg) := inb_of So173 ⟨by decide, by decide⟩
            have hato173 : clo173.slots[((1 : Int32)).toNatClampNeg]? = some (.int (Int32.ofNat m1)) := Has.at Ho173 hino173 rfl
            refine own_step (T157.setTop (mkF m 182 #[.val (.int pa), .val (.int pb), .val (.int pc1), .val (.int pd0), .val (.int pe), .val (.int pq), .val (.int w1), .val (.int w2), .val (.int w3), .val (.ref ps), .val (.int (pd0 &&& (3 : Int32))), .val (.ref b110), .val (.int (0 : Int32))] [(.int (Int32.ofNat m1))])) (fun t₀ k₀ => X157.iaload hx (j := (1 : Int32)) (v := (.int (Int32.ofNat m1))) Aro173.1 (State.isArrayOf_alike hZ.alike Aro173.2.1) Aro173.2.2 hino173 hato173 (g := (mkF m 181 #[.val (.int pa), .val (.int pb), .val (.int pc1), .val (.int pd0), .val (.int pe), .val (.int pq), .val (.int w1), .val (.int w2), .val (.int w3), .val (.ref ps), .val (.int (pd0 &&& (3 : Int32))), .val (.ref b110), .val (.int (0 : Int32))] [(.int (1 : Int32)), (.ref ps)])) rfl rfl (hb hby at_181) _ k₀) ?_
            refine own_step (T157.setTop (mkF m 184 #[.val (.int pa), .val (.int pb), .val (.int pc1), .val (.int pd0), .val (.int pe), .val (.int pq), .val (.int w1), .val (.int w2), .val (.int w3), .val (.ref ps), .val (.int (pd0 &&& (3 : Int32))), .val (.ref b110), .val (.int (0 : Int32))] [(.int pq), (.int (Int32.ofNat m1))])) (fun t₀ k₀ => XS.iload X157.here hx rfl (hb hby at_182) rfl k₀) ?_
            by_cases hc184 : pq < (Int32.ofNat m1)
            · skip
              refine own_step (T157.setTop (mkF m 190 #[.val (.int pa), .val (.int pb), .val (.int pc1), .val (.int pd0), .val (.int pe), .val (.int pq), .val (.int w1), .val (.int w2), .val (.int w3), .val (.ref ps), .val (.int (pd0 &&& (3 : Int32))), .val (.ref b110), .val (.int (0 : Int32))] [])) (fun t₀ k₀ => XS.icmpYes X157.here hx rfl (pc0 := 184) (pc' := 190) rfl (hb hby at_184) rfl (tlt hc184).2.2.1 (by decide) (by decide) k₀) ?_
              refine own_step (T157.setTop (mkF m 192 #[.val (.int pa), .val (.int pb), .val (.int pc1), .val (.int pd0), .val (.int pe), .val (.int pq), .val (.int w1), .val (.int w2), .val (.int w3), .val (.ref ps), .val (.int (pd0 &&& (3 : Int32))), .val (.ref b110), .val (.int (0 : Int32))] [(.int (pd0 &&& (3 : Int32)))])) (fun t₀ k₀ => XS.iload X157.here hx rfl (hb hby at_190) rfl k₀) ?_
              refine own_step (T157.setTop (mkF m 193 #[.val (.int pa), .val (.int pb), .val (.int pc1), .val (.int pd0), .val (.int pe), .val (.int pq), .val (.int w1), .val (.int w2), .val (.int w3), .val (.ref ps), .val (.int (pd0 &&& (3 : Int32))), .val (.ref b110), .val (.int (0 : Int32))] [(.int (3 : Int32)), (.int (pd0 &&& (3 : Int32)))])) (fun t₀ k₀ => XS.iconst X157.here hx rfl (hb hby at_192) k₀) ?_
              have hk174 : (pd0 &&& (3 : Int32)) < (3 : Int32) := hc139
              refine own_step (T157.setTop (mkF m 208 #[.val (.int pa), .val (.int pb), .val (.int pc1), .val (.int pd0), .val (.int pe), .val (.int pq), .val (.int w1), .val (.int w2), .val (.int w3), .val (.ref ps), .val (.int (pd0 &&& (3 : Int32))), .val (.ref b110), .val (.int (0 : Int32))] [])) (fun t₀ k₀ => XS.icmpYes X157.here hx rfl (pc0 := 193) (pc' := 208) rfl (hb hby at_193) rfl (tlt hk174).1 (by decide) (by decide) k₀) ?_
              refine own_step (T157.setTop (mkF m 210 #[.val (.int pa), .val (.int pb), .val (.int pc1), .val (.int pd0), .val (.int pe), .val (.int pq), .val (.int w1), .val (.int w2), .val (.int w3), .val (.ref ps), .val (.int (pd0 &&& (3 : Int32))), .val (.ref b110), .val (.int (0 : Int32))] [(.ref b110)])) (fun t₀ k₀ => XS.aload X157.here hx rfl (hb hby at_208) rfl rfl k₀) ?_
              refine own_step (T157.setTop (mkF m 212 #[.val (.int pa), .val (.int pb), .val (.int pc1), .val (.int pd0), .val (.int pe), .val (.int pq), .val (.int w1), .val (.int w2), .val (.int w3), .val (.ref ps), .val (.int (pd0 &&& (3 : Int32))), .val (.ref b110), .val (.int (0 : Int32))] [(.int pq), (.ref b110)])) (fun t₀ k₀ => XS.iload X157.here hx rfl (hb hby at_210) rfl k₀) ?_
              obtain ⟨cq175, kq175, q175a, q175b, q175c⟩ := isOf hZ rfl f164
              obtain ⟨_, _, ⟨T175, L175, k175, n175⟩, -, X175, ⟨Lc175, hQ175, l175, y175, z175⟩, st175⟩ := X157.virtualBack hx (y := (⟨"com/example/syncopate/syncopate/DeletedRows", "through", "(I)I"⟩ : MethodName)) (z := (⟨"com/example/syncopate/syncopate/DeletedRows", "through", "(I)I"⟩ : MethodName)) hown (mvT hZ (hw _ (List.mem_of_getElem? (i := 43) rfl))) (mvT hZ (hw _ (List.mem_of_getElem? (i := 44) rfl))) (notFace_of_selects (args := #[]) (mvT hZ (hw _ (List.mem_of_getElem? (i := 46) rfl)))) (mvT hZ (hw _ (List.mem_of_getElem? (i := 46) rfl))) (mvT hZ (hw _ (List.mem_of_getElem? (i := 45) rfl))) (by decide) (backOf (W := 0) (rm9 l Z a0 hw [] b110 pq ct1158 k1159 (own_next (own_next 1 m0) m1) g160 (m1 :: (m0 :: [])) T157.heap n0 z157' f165 f167 (own_nx1 (own_nx1 (Nat.le_refl 1))) (by omega) (own_InvTo f162 (own_M_lt (own_nx1 (own_nx1 (Nat.le_refl 1)))))) hZ (hw _ (List.mem_of_getElem? (i := 47) rfl)) (hw _ (List.mem_of_getElem? (i := 3) rfl)) (by decide) (by decide)) q175a q175c (g := (mkF m 212 #[.val (.int pa), .val (.int pb), .val (.int pc1), .val (.int pd0), .val (.int pe), .val (.int pq), .val (.int w1), .val (.int w2), .val (.int w3), .val (.ref ps), .val (.int (pd0 &&& (3 : Int32))), .val (.ref b110), .val (.int (0 : Int32))] [(.int pq), (.ref b110)])) rfl (by rw [hml]; rfl) (Steps.refl _) (argsL := [(.int pq)]) (rest := []) (lenOf pd_6 rfl) rfl (by show 2 * 0 + _ ≤ _; exact Nat.le_of_eq rfl) (hb hby at_212) (fun _ _ => ⟨rfl, rfl, (by decide : 5 + 0 ≤ _), (by decide : 520 + 0 ≤ _)⟩)
              dsimp only [Pt.U, Pt.locs, Pt.cells, Pt.slots] at X175 l175 y175 z175 st175 hQ175
              subst l175 y175 z175
              obtain ⟨rfl, N175q, e175⟩ := hQ175
              have N175 := Fr.app N157 N175q
              refine own_comes (T175.setTop (mkF m 215 #[.val (.int pa), .val (.int pb), .val (.int pc1), .val (.int pd0), .val (.int pe), .val (.int pq), .val (.int w1), .val (.int w2), .val (.int w3), .val (.ref ps), .val (.int (pd0 &&& (3 : Int32))), .val (.ref b110), .val (.int (0 : Int32))] [(.int (Int32.ofNat (own_cnt (m1 :: (m0 :: [])) 0 (own_M pq (own_next (own_next 1 m0) m1)))))])) st175 ?_
              refine own_step (T175.setTop (mkF m 217 #[.val (.int pa), .val (.int pb), .val (.int pc1), .val (.int pd0), .val (.int pe), .val (.int pq), .val (.int w1), .val (.int w2), .val (.int w3), .val (.ref ps), .val (.int (pd0 &&& (3 : Int32))), .val (.ref b110), .val (.int (0 : Int32))] [(.int (0 : Int32)), (.int (Int32.ofNat (own_cnt (m1 :: (m0 :: [])) 0 (own_M pq (own_next (own_next 1 m0) m1)))))])) (fun t₀ k₀ => XS.iload X175.here hx rfl (hb hby at_215) rfl k₀) ?_
              have hk176 : (Int32.ofNat (own_cnt (m1 :: (m0 :: [])) 0 (own_M pq (own_next (own_next 1 m0) m1)))) = (0 : Int32) := by rw [own_cA (hD169 _ (by simp)) (by omega) hc184, own_cA (hD169 _ (by simp)) (by omega) hc166]; rfl
              refine own_step (T175.setTop (mkF m 220 #[.val (.int pa), .val (.int pb), .val (.int pc1), .val (.int pd0), .val (.int pe), .val (.int pq), .val (.int w1), .val (.int w2), .val (.int w3), .val (.ref ps), .val (.int (pd0 &&& (3 : Int32))), .val (.ref b110), .val (.int (0 : Int32))] [])) (fun t₀ k₀ => XS.icmpNo X175.here hx rfl (hb hby at_217) rfl (teq hk176).2 k₀) ?_
              refine own_step (T175.setTop (mkF m 221 #[.val (.int pa), .val (.int pb), .val (.int pc1), .val (.int pd0), .val (.int pe), .val (.int pq), .val (.int w1), .val (.int w2), .val (.int w3), .val (.ref ps), .val (.int (pd0 &&& (3 : Int32))), .val (.ref b110), .val (.int (0 : Int32))] [(.int (1 : Int32))])) (fun t₀ k₀ => XS.iconst X175.here hx rfl (hb hby at_220) k₀) ?_
              refine own_step (T175.setTop (mkF m 225 #[.val (.int pa), .val (.int pb), .val (.int pc1), .val (.int pd0), .val (.int pe), .val (.int pq), .val (.int w1), .val (.int w2), .val (.int w3), .val (.ref ps), .val (.int (pd0 &&& (3 : Int32))), .val (.ref b110), .val (.int (0 : Int32))] [(.int (1 : Int32))])) (fun t₀ k₀ => XS.goto X175.here hx rfl (pc0 := 221) (pc' := 225) rfl (hb hby at_221) (by decide) (by decide) k₀) ?_
              obtain ⟨fs, hr, hrun, hended, hW, hsame⟩ := X175.leave (v := some (.int (1 : Int32))) (fun h => by rw [Bd.returns] at h; cases h)
              refine ⟨_, _, ?_, hrun, hended, _, _, rfl, ?_, ⟨_, rfl⟩, hW, hsame.mono (by decide) (by decide)⟩
              · exact retN X175 hx (t := .boolean) Bd.returns (by simp) (hb hby at_225) hr
              · show Q_rm0 Z pa pb pc1 pd0 pe pq h0 n0 _ T175.heap _
                rw [e175]
                exact ⟨rfl, N175⟩
            · skip
              refine own_step (T157.setTop (mkF m 187 #[.val (.int pa), .val (.int pb), .val (.int pc1), .val (.int pd0), .val (.int pe), .val (.int pq), .val (.int w1), .val (.int w2), .val (.int w3), .val (.ref ps), .val (.int (pd0 &&& (3 : Int32))), .val (.ref b110), .val (.int (0 : Int32))] [])) (fun t₀ k₀ => XS.icmpNo X157.here hx rfl (hb hby at_184) rfl (flt hc184).2.2.1 k₀) ?_
              refine own_step (T157.setTop (mkF m 190 #[.val (.int pa), .val (.int pb), .val (.int pc1), .val (.int pd0), .val (.int pe), .val (.int pq), .val (.int w1), .val (.int w2), .val (.int w3), .val (.ref ps), .val (.int (pd0 &&& (3 : Int32))), .val (.ref b110), .val (.int (1 : Int32))] [])) (fun t₀ k₀ => XS.iinc X157.here hx rfl (hb hby at_187) rfl (l' := #[.val (.int pa), .val (.int pb), .val (.int pc1), .val (.int pd0), .val (.int pe), .val (.int pq), .val (.int w1), .val (.int w2), .val (.int w3), .val (.ref ps), .val (.int (pd0 &&& (3 : Int32))), .val (.ref b110), .val (.int (1 : Int32))]) rfl k₀) ?_
              refine own_step (T157.setTop (mkF m 192 #[.val (.int pa), .val (.int pb), .val (.int pc1), .val (.int pd0), .val (.int pe), .val (.int pq), .val (.int w1), .val (.int w2), .val (.int w3), .val (.ref ps), .val (.int (pd0 &&& (3 : Int32))), .val (.ref b110), .val (.int (1 : Int32))] [(.int (pd0 &&& (3 : Int32)))])) (fun t₀ k₀ => XS.iload X157.here hx rfl (hb hby at_190) rfl k₀) ?_
              refine own_step (T157.setTop (mkF m 193 #[.val (.int pa), .val (.int pb), .val (.int pc1), .val (.int pd0), .val (.int pe), .val (.int pq), .val (.int w1), .val (.int w2), .val (.int w3), .val (.ref ps), .val (.int (pd0 &&& (3 : Int32))), .val (.ref b110), .val (.int (1 : Int32))] [(.int (3 : Int32)), (.int (pd0 &&& (3 : Int32)))])) (fun t₀ k₀ => XS.iconst X157.here hx rfl (hb hby at_192) k₀) ?_
              have hk177 : (pd0 &&& (3 : Int32)) < (3 : Int32) := hc139
              refine own_step (T157.setTop (mkF m 208 #[.val (.int pa), .val (.int pb), .val (.int pc1), .val (.int pd0), .val (.int pe), .val (.int pq), .val (.int w1), .val (.int w2), .val (.int w3), .val (.ref ps), .val (.int (pd0 &&& (3 : Int32))), .val (.ref b110), .val (.int (1 : Int32))] [])) (fun t₀ k₀ => XS.icmpYes X157.here hx rfl (pc0 := 193) (pc' := 208) rfl (hb hby at_193) rfl (tlt hk177).1 (by decide) (by decide) k₀) ?_
              refine own_step (T157.setTop (mkF m 210 #[.val (.int pa), .val (.int pb), .val (.int pc1), .val (.int pd0), .val (.int pe), .val (.int pq), .val (.int w1), .val (.int w2), .val (.int w3), .val (.ref ps), .val (.int (pd0 &&& (3 : Int32))), .val (.ref b110), .val (.int (1 : Int32))] [(.ref b110)])) (fun t₀ k₀ => XS.aload X157.here hx rfl (hb hby at_208) rfl rfl k₀) ?_
              refine own_step (T157.setTop (mkF m 212 #[.val (.int pa), .val (.int pb), .val (.int pc1), .val (.int pd0), .val (.int pe), .val (.int pq), .val (.int w1), .val (.int w2), .val (.int w3), .val (.ref ps), .val (.int (pd0 &&& (3 : Int32))), .val (.ref b110), .val (.int (1 : Int32))] [(.int pq), (.ref b110)])) (fun t₀ k₀ => XS.iload X157.here hx rfl (hb hby at_210) rfl k₀) ?_
              obtain ⟨cq178, kq178, q178a, q178b, q178c⟩ := isOf hZ rfl f164
              obtain ⟨_, _, ⟨T178, L178, k178, n178⟩, -, X178, ⟨Lc178, hQ178, l178, y178, z178⟩, st178⟩ := X157.virtualBack hx (y := (⟨"com/example/syncopate/syncopate/DeletedRows", "through", "(I)I"⟩ : MethodName)) (z := (⟨"com/example/syncopate/syncopate/DeletedRows", "through", "(I)I"⟩ : MethodName)) hown (mvT hZ (hw _ (List.mem_of_getElem? (i := 43) rfl))) (mvT hZ (hw _ (List.mem_of_getElem? (i := 44) rfl))) (notFace_of_selects (args := #[]) (mvT hZ (hw _ (List.mem_of_getElem? (i := 46) rfl)))) (mvT hZ (hw _ (List.mem_of_getElem? (i := 46) rfl))) (mvT hZ (hw _ (List.mem_of_getElem? (i := 45) rfl))) (by decide) (backOf (W := 0) (rm9 l Z a0 hw [] b110 pq ct1158 k1159 (own_next (own_next 1 m0) m1) g160 (m1 :: (m0 :: [])) T157.heap n0 z157' f165 f167 (own_nx1 (own_nx1 (Nat.le_refl 1))) (by omega) (own_InvTo f162 (own_M_lt (own_nx1 (own_nx1 (Nat.le_refl 1)))))) hZ (hw _ (List.mem_of_getElem? (i := 47) rfl)) (hw _ (List.mem_of_getElem? (i := 3) rfl)) (by decide) (by decide)) q178a q178c (g := (mkF m 212 #[.val (.int pa), .val (.int pb), .val (.int pc1), .val (.int pd0), .val (.int pe), .val (.int pq), .val (.int w1), .val (.int w2), .val (.int w3), .val (.ref ps), .val (.int (pd0 &&& (3 : Int32))), .val (.ref b110), .val (.int (1 : Int32))] [(.int pq), (.ref b110)])) rfl (by rw [hml]; rfl) (Steps.refl _) (argsL := [(.int pq)]) (rest := []) (lenOf pd_6 rfl) rfl (by show 2 * 0 + _ ≤ _; exact Nat.le_of_eq rfl) (hb hby at_212) (fun _ _ => ⟨rfl, rfl, (by decide : 5 + 0 ≤ _), (by decide : 520 + 0 ≤ _)⟩)
              dsimp only [Pt.U, Pt.locs, Pt.cells, Pt.slots] at X178 l178 y178 z178 st178 hQ178
              subst l178 y178 z178
              obtain ⟨rfl, N178q, e178⟩ := hQ178
              have N178 := Fr.app N157 N178q
              refine own_comes (T178.setTop (mkF m 215 #[.val (.int pa), .val (.int pb), .val (.int pc1), .val (.int pd0), .val (.int pe), .val (.int pq), .val (.int w1), .val (.int w2), .val (.int w3), .val (.ref ps), .val (.int (pd0 &&& (3 : Int32))), .val (.ref b110), .val (.int (1 : Int32))] [(.int (Int32.ofNat (own_cnt (m1 :: (m0 :: [])) 0 (own_M pq (own_next (own_next 1 m0) m1)))))])) st178 ?_
              refine own_step (T178.setTop (mkF m 217 #[.val (.int pa), .val (.int pb), .val (.int pc1), .val (.int pd0), .val (.int pe), .val (.int pq), .val (.int w1), .val (.int w2), .val (.int w3), .val (.ref ps), .val (.int (pd0 &&& (3 : Int32))), .val (.ref b110), .val (.int (1 : Int32))] [(.int (1 : Int32)), (.int (Int32.ofNat (own_cnt (m1 :: (m0 :: [])) 0 (own_M pq (own_next (own_next 1 m0) m1)))))])) (fun t₀ k₀ => XS.iload X178.here hx rfl (hb hby at_215) rfl k₀) ?_
              have hk179 : (Int32.ofNat (own_cnt (m1 :: (m0 :: [])) 0 (own_M pq (own_next (own_next 1 m0) m1)))) = (1 : Int32) := by rw [own_cB (hD169 _ (by simp)) (by omega) hc184, own_cA (hD169 _ (by simp)) (by omega) hc166]; rfl
              refine own_step (T178.setTop (mkF m 220 #[.val (.int pa), .val (.int pb), .val (.int pc1), .val (.int pd0), .val (.int pe), .val (.int pq), .val (.int w1), .val (.int w2), .val (.int w3), .val (.ref ps), .val (.int (pd0 &&& (3 : Int32))), .val (.ref b110), .val (.int (1 : Int32))] [])) (fun t₀ k₀ => XS.icmpNo X178.here hx rfl (hb hby at_217) rfl (teq hk179).2 k₀) ?_
              refine own_step (T178.setTop (mkF m 221 #[.val (.int pa), .val (.int pb), .val (.int pc1), .val (.int pd0), .val (.int pe), .val (.int pq), .val (.int w1), .val (.int w2), .val (.int w3), .val (.ref ps), .val (.int (pd0 &&& (3 : Int32))), .val (.ref b110), .val (.int (1 : Int32))] [(.int (1 : Int32))])) (fun t₀ k₀ => XS.iconst X178.here hx rfl (hb hby at_220) k₀) ?_
              refine own_step (T178.setTop (mkF m 225 #[.val (.int pa), .val (.int pb), .val (.int pc1), .val (.int pd0), .val (.int pe), .val (.int pq), .val (.int w1), .val (.int w2), .val (.int w3), .val (.ref ps), .val (.int (pd0 &&& (3 : Int32))), .val (.ref b110), .val (.int (1 : Int32))] [(.int (1 : Int32))])) (fun t₀ k₀ => XS.goto X178.here hx rfl (pc0 := 221) (pc' := 225) rfl (hb hby at_221) (by decide) (by decide) k₀) ?_
              obtain ⟨fs, hr, hrun, hended, hW, hsame⟩ := X178.leave (v := some (.int (1 : Int32))) (fun h => by rw [Bd.returns] at h; cases h)
              refine ⟨_, _, ?_, hrun, hended, _, _, rfl, ?_, ⟨_, rfl⟩, hW, hsame.mono (by decide) (by decide)⟩
              · exact retN X178 hx (t := .boolean) Bd.returns (by simp) (hb hby at_225) hr
              · show Q_rm0 Z pa pb pc1 pd0 pe pq h0 n0 _ T178.heap _
                rw [e178]
                exact ⟨rfl, N178⟩
          · skip
            refine own_step (T157.setTop (mkF m 169 #[.val (.int pa), .val (.int pb), .val (.int pc1), .val (.int pd0), .val (.int pe), .val (.int pq), .val (.int w1), .val (.int w2), .val (.int w3), .val (.ref ps), .val (.int (pd0 &&& (3 : Int32))), .val (.ref b110), .val (.int (0 : Int32))] [])) (fun t₀ k₀ => XS.icmpNo X157.here hx rfl (hb hby at_166) rfl (flt hc166).2.2.1 k₀) ?_
            refine own_step (T157.setTop (mkF m 172 #[.val (.int pa), .val (.int pb), .val (.int pc1), .val (.int pd0), .val (.int pe), .val (.int pq), .val (.int w1), .val (.int w2), .val (.int w3), .val (.ref ps), .val (.int (pd0 &&& (3 : Int32))), .val (.ref b110), .val (.int (1 : Int32))] [])) (fun t₀ k₀ => XS.iinc X157.here hx rfl (hb hby at_169) rfl (l' := #[.val (.int pa), .val (.int pb), .val (.int pc1), .val (.int pd0), .val (.int pe), .val (.int pq), .val (.int w1), .val (.int w2), .val (.int w3), .val (.ref ps), .val (.int (pd0 &&& (3 : Int32))), .val (.ref b110), .val (.int (1 : Int32))]) rfl k₀) ?_
            refine own_step (T157.setTop (mkF m 174 #[.val (.int pa), .val (.int pb), .val (.int pc1), .val (.int pd0), .val (.int pe), .val (.int pq), .val (.int w1), .val (.int w2), .val (.int w3), .val (.ref ps), .val (.int (pd0 &&& (3 : Int32))), .val (.ref b110), .val (.int (1 : Int32))] [(.int (pd0 &&& (3 : Int32)))])) (fun t₀ k₀ => XS.iload X157.here hx rfl (hb hby at_172) rfl k₀) ?_
            refine own_step (T157.setTop (mkF m 175 #[.val (.int pa), .val (.int pb), .val (.int pc1), .val (.int pd0), .val (.int pe), .val (.int pq), .val (.int w1), .val (.int w2), .val (.int w3), .val (.ref ps), .val (.int (pd0 &&& (3 : Int32))), .val (.ref b110), .val (.int (1 : Int32))] [(.int (2 : Int32)), (.int (pd0 &&& (3 : Int32)))])) (fun t₀ k₀ => XS.iconst X157.here hx rfl (hb hby at_174) k₀) ?_
            have hk180 : ¬ ((pd0 &&& (3 : Int32)) < (2 : Int32)) := hc124
            refine own_step (T157.setTop (mkF m 178 #[.val (.int pa), .val (.int pb), .val (.int pc1), .val (.int pd0), .val (.int pe), .val (.int pq), .val (.int w1), .val (.int w2), .val (.int w3), .val (.ref ps), .val (.int (pd0 &&& (3 : Int32))), .val (.ref b110), .val (.int (1 : Int32))] [])) (fun t₀ k₀ => XS.icmpNo X157.here hx rfl (hb hby at_175) rfl (flt hk180).1 k₀) ?_
            refine own_step (T157.setTop (mkF m 180 #[.val (.int pa), .val (.int pb), .val (.int pc1), .val (.int pd0), .val (.int pe), .val (.int pq), .val (.int w1), .val (.int w2), .val (.int w3), .val (.ref ps), .val (.int (pd0 &&& (3 : Int32))), .val (.ref b110), .val (.int (1 : Int32))] [(.ref ps)])) (fun t₀ k₀ => XS.aload X157.here hx rfl (hb hby at_178) rfl rfl k₀) ?_
            refine own_step (T157.setTop (mkF m 181 #[.val (.int pa), .val (.int pb), .val (.int pc1), .val (.int pd0), .val (.int pe), .val (.int pq), .val (.int w1), .val (.int w2), .val (.int w3), .val (.ref ps), .val (.int (pd0 &&& (3 : Int32))), .val (.ref b110), .val (.int (1 : Int32))] [(.int (1 : Int32)), (.ref ps)])) (fun t₀ k₀ => XS.iconst X157.here hx rfl (hb hby at_180) k₀) ?_
            obtain ⟨clo181, Aro181, qo181, So181, Mo181, Ho181, Go181⟩ := id f168
            have hino181 : ¬ ((1 : Int32) < 0 ∨ clo181.slots.size ≤ ((1 : Int32)).toNatClampNeg) := inb_of So181 ⟨by decide, by decide⟩
            have hato181 : clo181.slots[((1 : Int32)).toNatClampNeg]? = some (.int (Int32.ofNat m1)) := Has.at Ho181 hino181 rfl
            refine own_step (T157.setTop (mkF m 182 #[.val (.int pa), .val (.int pb), .val (.int pc1), .val (.int pd0), .val (.int pe), .val (.int pq), .val (.int w1), .val (.int w2), .val (.int w3), .val (.ref ps), .val (.int (pd0 &&& (3 : Int32))), .val (.ref b110), .val (.int (1 : Int32))] [(.int (Int32.ofNat m1))])) (fun t₀ k₀ => X157.iaload hx (j := (1 : Int32)) (v := (.int (Int32.ofNat m1))) Aro181.1 (State.isArrayOf_alike hZ.alike Aro181.2.1) Aro181.2.2 hino181 hato181 (g := (mkF m 181 #[.val (.int pa), .val (.int pb), .val (.int pc1), .val (.int pd0), .val (.int pe), .val (.int pq), .val (.int w1), .val (.int w2), .val (.int w3), .val (.ref ps), .val (.int (pd0 &&& (3 : Int32))), .val (.ref b110), .val (.int (1 : Int32))] [(.int (1 : Int32)), (.ref ps)])) rfl rfl (hb hby at_181) _ k₀) ?_
            refine own_step (T157.setTop (mkF m 184 #[.val (.int pa), .val (.int pb), .val (.int pc1), .val (.int pd0), .val (.int pe), .val (.int pq), .val (.int w1), .val (.int w2), .val (.int w3), .val (.ref ps), .val (.int (pd0 &&& (3 : Int32))), .val (.ref b110), .val (.int (1 : Int32))] [(.int pq), (.int (Int32.ofNat m1))])) (fun t₀ k₀ => XS.iload X157.here hx rfl (hb hby at_182) rfl k₀) ?_
            by_cases hc184 : pq < (Int32.ofNat m1)
            · skip
              refine own_step (T157.setTop (mkF m 190 #[.val (.int pa), .val (.int pb), .val (.int pc1), .val (.int pd0), .val (.int pe), .val (.int pq), .val (.int w1), .val (.int w2), .val (.int w3), .val (.ref ps), .val (.int (pd0 &&& (3 : Int32))), .val (.ref b110), .val (.int (1 : Int32))] [])) (fun t₀ k₀ => XS.icmpYes X157.here hx rfl (pc0 := 184) (pc' := 190) rfl (hb hby at_184) rfl (tlt hc184).2.2.1 (by decide) (by decide) k₀) ?_
              refine own_step (T157.setTop (mkF m 192 #[.val (.int pa), .val (.int pb), .val (.int pc1), .val (.int pd0), .val (.int pe), .val (.int pq), .val (.int w1), .val (.int w2), .val (.int w3), .val (.ref ps), .val (.int (pd0 &&& (3 : Int32))), .val (.ref b110), .val (.int (1 : Int32))] [(.int (pd0 &&& (3 : Int32)))])) (fun t₀ k₀ => XS.iload X157.here hx rfl (hb hby at_190) rfl k₀) ?_
              refine own_step (T157.setTop (mkF m 193 #[.val (.int pa), .val (.int pb), .val (.int pc1), .val (.int pd0), .val (.int pe), .val (.int pq), .val (.int w1), .val (.int w2), .val (.int w3), .val (.ref ps), .val (.int (pd0 &&& (3 : Int32))), .val (.ref b110), .val (.int (1 : Int32))] [(.int (3 : Int32)), (.int (pd0 &&& (3 : Int32)))])) (fun t₀ k₀ => XS.iconst X157.here hx rfl (hb hby at_192) k₀) ?_
              have hk182 : (pd0 &&& (3 : Int32)) < (3 : Int32) := hc139
              refine own_step (T157.setTop (mkF m 208 #[.val (.int pa), .val (.int pb), .val (.int pc1), .val (.int pd0), .val (.int pe), .val (.int pq), .val (.int w1), .val (.int w2), .val (.int w3), .val (.ref ps), .val (.int (pd0 &&& (3 : Int32))), .val (.ref b110), .val (.int (1 : Int32))] [])) (fun t₀ k₀ => XS.icmpYes X157.here hx rfl (pc0 := 193) (pc' := 208) rfl (hb hby at_193) rfl (tlt hk182).1 (by decide) (by decide) k₀) ?_
              refine own_step (T157.setTop (mkF m 210 #[.val (.int pa), .val (.int pb), .val (.int pc1), .val (.int pd0), .val (.int pe), .val (.int pq), .val (.int w1), .val (.int w2), .val (.int w3), .val (.ref ps), .val (.int (pd0 &&& (3 : Int32))), .val (.ref b110), .val (.int (1 : Int32))] [(.ref b110)])) (fun t₀ k₀ => XS.aload X157.here hx rfl (hb hby at_208) rfl rfl k₀) ?_
              refine own_step (T157.setTop (mkF m 212 #[.val (.int pa), .val (.int pb), .val (.int pc1), .val (.int pd0), .val (.int pe), .val (.int pq), .val (.int w1), .val (.int w2), .val (.int w3), .val (.ref ps), .val (.int (pd0 &&& (3 : Int32))), .val (.ref b110), .val (.int (1 : Int32))] [(.int pq), (.ref b110)])) (fun t₀ k₀ => XS.iload X157.here hx rfl (hb hby at_210) rfl k₀) ?_
              obtain ⟨cq183, kq183, q183a, q183b, q183c⟩ := isOf hZ rfl f164
              obtain ⟨_, _, ⟨T183, L183, k183, n183⟩, -, X183, ⟨Lc183, hQ183, l183, y183, z183⟩, st183⟩ := X157.virtualBack hx (y := (⟨"com/example/syncopate/syncopate/DeletedRows", "through", "(I)I"⟩ : MethodName)) (z := (⟨"com/example/syncopate/syncopate/DeletedRows", "through", "(I)I"⟩ : MethodName)) hown (mvT hZ (hw _ (List.mem_of_getElem? (i := 43) rfl))) (mvT hZ (hw _ (List.mem_of_getElem? (i := 44) rfl))) (notFace_of_selects (args := #[]) (mvT hZ (hw _ (List.mem_of_getElem? (i := 46) rfl)))) (mvT hZ (hw _ (List.mem_of_getElem? (i := 46) rfl))) (mvT hZ (hw _ (List.mem_of_getElem? (i := 45) rfl))) (by decide) (backOf (W := 0) (rm9 l Z a0 hw [] b110 pq ct1158 k1159 (own_next (own_next 1 m0) m1) g160 (m1 :: (m0 :: [])) T157.heap n0 z157' f165 f167 (own_nx1 (own_nx1 (Nat.le_refl 1))) (by omega) (own_InvTo f162 (own_M_lt (own_nx1 (own_nx1 (Nat.le_refl 1)))))) hZ (hw _ (List.mem_of_getElem? (i := 47) rfl)) (hw _ (List.mem_of_getElem? (i := 3) rfl)) (by decide) (by decide)) q183a q183c (g := (mkF m 212 #[.val (.int pa), .val (.int pb), .val (.int pc1), .val (.int pd0), .val (.int pe), .val (.int pq), .val (.int w1), .val (.int w2), .val (.int w3), .val (.ref ps), .val (.int (pd0 &&& (3 : Int32))), .val (.ref b110), .val (.int (1 : Int32))] [(.int pq), (.ref b110)])) rfl (by rw [hml]; rfl) (Steps.refl _) (argsL := [(.int pq)]) (rest := []) (lenOf pd_6 rfl) rfl (by show 2 * 0 + _ ≤ _; exact Nat.le_of_eq rfl) (hb hby at_212) (fun _ _ => ⟨rfl, rfl, (by decide : 5 + 0 ≤ _), (by decide : 520 + 0 ≤ _)⟩)
              dsimp only [Pt.U, Pt.locs, Pt.cells, Pt.slots] at X183 l183 y183 z183 st183 hQ183
              subst l183 y183 z183
              obtain ⟨rfl, N183q, e183⟩ := hQ183
              have N183 := Fr.app N157 N183q
              refine own_comes (T183.setTop (mkF m 215 #[.val (.int pa), .val (.int pb), .val (.int pc1), .val (.int pd0), .val (.int pe), .val (.int pq), .val (.int w1), .val (.int w2), .val (.int w3), .val (.ref ps), .val (.int (pd0 &&& (3 : Int32))), .val (.ref b110), .val (.int (1 : Int32))] [(.int (Int32.ofNat (own_cnt (m1 :: (m0 :: [])) 0 (own_M pq (own_next (own_next 1 m0) m1)))))])) st183 ?_
              refine own_step (T183.setTop (mkF m 217 #[.val (.int pa), .val (.int pb), .val (.int pc1), .val (.int pd0), .val (.int pe), .val (.int pq), .val (.int w1), .val (.int w2), .val (.int w3), .val (.ref ps), .val (.int (pd0 &&& (3 : Int32))), .val (.ref b110), .val (.int (1 : Int32))] [(.int (1 : Int32)), (.int (Int32.ofNat (own_cnt (m1 :: (m0 :: [])) 0 (own_M pq (own_next (own_next 1 m0) m1)))))])) (fun t₀ k₀ => XS.iload X183.here hx rfl (hb hby at_215) rfl k₀) ?_
              have hk184 : (Int32.ofNat (own_cnt (m1 :: (m0 :: [])) 0 (own_M pq (own_next (own_next 1 m0) m1)))) = (1 : Int32) := by rw [own_cA (hD169 _ (by simp)) (by omega) hc184, own_cB (hD169 _ (by simp)) (by omega) hc166]; rfl
              refine own_step (T183.setTop (mkF m 220 #[.val (.int pa), .val (.int pb), .val (.int pc1), .val (.int pd0), .val (.int pe), .val (.int pq), .val (.int w1), .val (.int w2), .val (.int w3), .val (.ref ps), .val (.int (pd0 &&& (3 : Int32))), .val (.ref b110), .val (.int (1 : Int32))] [])) (fun t₀ k₀ => XS.icmpNo X183.here hx rfl (hb hby at_217) rfl (teq hk184).2 k₀) ?_
              refine own_step (T183.setTop (mkF m 221 #[.val (.int pa), .val (.int pb), .val (.int pc1), .val (.int pd0), .val (.int pe), .val (.int pq), .val (.int w1), .val (.int w2), .val (.int w3), .val (.ref ps), .val (.int (pd0 &&& (3 : Int32))), .val (.ref b110), .val (.int (1 : Int32))] [(.int (1 : Int32))])) (fun t₀ k₀ => XS.iconst X183.here hx rfl (hb hby at_220) k₀) ?_
              refine own_step (T183.setTop (mkF m 225 #[.val (.int pa), .val (.int pb), .val (.int pc1), .val (.int pd0), .val (.int pe), .val (.int pq), .val (.int w1), .val (.int w2), .val (.int w3), .val (.ref ps), .val (.int (pd0 &&& (3 : Int32))), .val (.ref b110), .val (.int (1 : Int32))] [(.int (1 : Int32))])) (fun t₀ k₀ => XS.goto X183.here hx rfl (pc0 := 221) (pc' := 225) rfl (hb hby at_221) (by decide) (by decide) k₀) ?_
              obtain ⟨fs, hr, hrun, hended, hW, hsame⟩ := X183.leave (v := some (.int (1 : Int32))) (fun h => by rw [Bd.returns] at h; cases h)
              refine ⟨_, _, ?_, hrun, hended, _, _, rfl, ?_, ⟨_, rfl⟩, hW, hsame.mono (by decide) (by decide)⟩
              · exact retN X183 hx (t := .boolean) Bd.returns (by simp) (hb hby at_225) hr
              · show Q_rm0 Z pa pb pc1 pd0 pe pq h0 n0 _ T183.heap _
                rw [e183]
                exact ⟨rfl, N183⟩
            · skip
              refine own_step (T157.setTop (mkF m 187 #[.val (.int pa), .val (.int pb), .val (.int pc1), .val (.int pd0), .val (.int pe), .val (.int pq), .val (.int w1), .val (.int w2), .val (.int w3), .val (.ref ps), .val (.int (pd0 &&& (3 : Int32))), .val (.ref b110), .val (.int (1 : Int32))] [])) (fun t₀ k₀ => XS.icmpNo X157.here hx rfl (hb hby at_184) rfl (flt hc184).2.2.1 k₀) ?_
              refine own_step (T157.setTop (mkF m 190 #[.val (.int pa), .val (.int pb), .val (.int pc1), .val (.int pd0), .val (.int pe), .val (.int pq), .val (.int w1), .val (.int w2), .val (.int w3), .val (.ref ps), .val (.int (pd0 &&& (3 : Int32))), .val (.ref b110), .val (.int (2 : Int32))] [])) (fun t₀ k₀ => XS.iinc X157.here hx rfl (hb hby at_187) rfl (l' := #[.val (.int pa), .val (.int pb), .val (.int pc1), .val (.int pd0), .val (.int pe), .val (.int pq), .val (.int w1), .val (.int w2), .val (.int w3), .val (.ref ps), .val (.int (pd0 &&& (3 : Int32))), .val (.ref b110), .val (.int (2 : Int32))]) rfl k₀) ?_
              refine own_step (T157.setTop (mkF m 192 #[.val (.int pa), .val (.int pb), .val (.int pc1), .val (.int pd0), .val (.int pe), .val (.int pq), .val (.int w1), .val (.int w2), .val (.int w3), .val (.ref ps), .val (.int (pd0 &&& (3 : Int32))), .val (.ref b110), .val (.int (2 : Int32))] [(.int (pd0 &&& (3 : Int32)))])) (fun t₀ k₀ => XS.iload X157.here hx rfl (hb hby at_190) rfl k₀) ?_
              refine own_step (T157.setTop (mkF m 193 #[.val (.int pa), .val (.int pb), .val (.int pc1), .val (.int pd0), .val (.int pe), .val (.int pq), .val (.int w1), .val (.int w2), .val (.int w3), .val (.ref ps), .val (.int (pd0 &&& (3 : Int32))), .val (.ref b110), .val (.int (2 : Int32))] [(.int (3 : Int32)), (.int (pd0 &&& (3 : Int32)))])) (fun t₀ k₀ => XS.iconst X157.here hx rfl (hb hby at_192) k₀) ?_
              have hk185 : (pd0 &&& (3 : Int32)) < (3 : Int32) := hc139
              refine own_step (T157.setTop (mkF m 208 #[.val (.int pa), .val (.int pb), .val (.int pc1), .val (.int pd0), .val (.int pe), .val (.int pq), .val (.int w1), .val (.int w2), .val (.int w3), .val (.ref ps), .val (.int (pd0 &&& (3 : Int32))), .val (.ref b110), .val (.int (2 : Int32))] [])) (fun t₀ k₀ => XS.icmpYes X157.here hx rfl (pc0 := 193) (pc' := 208) rfl (hb hby at_193) rfl (tlt hk185).1 (by decide) (by decide) k₀) ?_
              refine own_step (T157.setTop (mkF m 210 #[.val (.int pa), .val (.int pb), .val (.int pc1), .val (.int pd0), .val (.int pe), .val (.int pq), .val (.int w1), .val (.int w2), .val (.int w3), .val (.ref ps), .val (.int (pd0 &&& (3 : Int32))), .val (.ref b110), .val (.int (2 : Int32))] [(.ref b110)])) (fun t₀ k₀ => XS.aload X157.here hx rfl (hb hby at_208) rfl rfl k₀) ?_
              refine own_step (T157.setTop (mkF m 212 #[.val (.int pa), .val (.int pb), .val (.int pc1), .val (.int pd0), .val (.int pe), .val (.int pq), .val (.int w1), .val (.int w2), .val (.int w3), .val (.ref ps), .val (.int (pd0 &&& (3 : Int32))), .val (.ref b110), .val (.int (2 : Int32))] [(.int pq), (.ref b110)])) (fun t₀ k₀ => XS.iload X157.here hx rfl (hb hby at_210) rfl k₀) ?_
              obtain ⟨cq186, kq186, q186a, q186b, q186c⟩ := isOf hZ rfl f164
              obtain ⟨_, _, ⟨T186, L186, k186, n186⟩, -, X186, ⟨Lc186, hQ186, l186, y186, z186⟩, st186⟩ := X157.virtualBack hx (y := (⟨"com/example/syncopate/syncopate/DeletedRows", "through", "(I)I"⟩ : MethodName)) (z := (⟨"com/example/syncopate/syncopate/DeletedRows", "through", "(I)I"⟩ : MethodName)) hown (mvT hZ (hw _ (List.mem_of_getElem? (i := 43) rfl))) (mvT hZ (hw _ (List.mem_of_getElem? (i := 44) rfl))) (notFace_of_selects (args := #[]) (mvT hZ (hw _ (List.mem_of_getElem? (i := 46) rfl)))) (mvT hZ (hw _ (List.mem_of_getElem? (i := 46) rfl))) (mvT hZ (hw _ (List.mem_of_getElem? (i := 45) rfl))) (by decide) (backOf (W := 0) (rm9 l Z a0 hw [] b110 pq ct1158 k1159 (own_next (own_next 1 m0) m1) g160 (m1 :: (m0 :: [])) T157.heap n0 z157' f165 f167 (own_nx1 (own_nx1 (Nat.le_refl 1))) (by omega) (own_InvTo f162 (own_M_lt (own_nx1 (own_nx1 (Nat.le_refl 1)))))) hZ (hw _ (List.mem_of_getElem? (i := 47) rfl)) (hw _ (List.mem_of_getElem? (i := 3) rfl)) (by decide) (by decide)) q186a q186c (g := (mkF m 212 #[.val (.int pa), .val (.int pb), .val (.int pc1), .val (.int pd0), .val (.int pe), .val (.int pq), .val (.int w1), .val (.int w2), .val (.int w3), .val (.ref ps), .val (.int (pd0 &&& (3 : Int32))), .val (.ref b110), .val (.int (2 : Int32))] [(.int pq), (.ref b110)])) rfl (by rw [hml]; rfl) (Steps.refl _) (argsL := [(.int pq)]) (rest := []) (lenOf pd_6 rfl) rfl (by show 2 * 0 + _ ≤ _; exact Nat.le_of_eq rfl) (hb hby at_212) (fun _ _ => ⟨rfl, rfl, (by decide : 5 + 0 ≤ _), (by decide : 520 + 0 ≤ _)⟩)
              dsimp only [Pt.U, Pt.locs, Pt.cells, Pt.slots] at X186 l186 y186 z186 st186 hQ186
              subst l186 y186 z186
              obtain ⟨rfl, N186q, e186⟩ := hQ186
              have N186 := Fr.app N157 N186q
              refine own_comes (T186.setTop (mkF m 215 #[.val (.int pa), .val (.int pb), .val (.int pc1), .val (.int pd0), .val (.int pe), .val (.int pq), .val (.int w1), .val (.int w2), .val (.int w3), .val (.ref ps), .val (.int (pd0 &&& (3 : Int32))), .val (.ref b110), .val (.int (2 : Int32))] [(.int (Int32.ofNat (own_cnt (m1 :: (m0 :: [])) 0 (own_M pq (own_next (own_next 1 m0) m1)))))])) st186 ?_
              refine own_step (T186.setTop (mkF m 217 #[.val (.int pa), .val (.int pb), .val (.int pc1), .val (.int pd0), .val (.int pe), .val (.int pq), .val (.int w1), .val (.int w2), .val (.int w3), .val (.ref ps), .val (.int (pd0 &&& (3 : Int32))), .val (.ref b110), .val (.int (2 : Int32))] [(.int (2 : Int32)), (.int (Int32.ofNat (own_cnt (m1 :: (m0 :: [])) 0 (own_M pq (own_next (own_next 1 m0) m1)))))])) (fun t₀ k₀ => XS.iload X186.here hx rfl (hb hby at_215) rfl k₀) ?_
              have hk187 : (Int32.ofNat (own_cnt (m1 :: (m0 :: [])) 0 (own_M pq (own_next (own_next 1 m0) m1)))) = (2 : Int32) := by rw [own_cB (hD169 _ (by simp)) (by omega) hc184, own_cB (hD169 _ (by simp)) (by omega) hc166]; rfl
              refine own_step (T186.setTop (mkF m 220 #[.val (.int pa), .val (.int pb), .val (.int pc1), .val (.int pd0), .val (.int pe), .val (.int pq), .val (.int w1), .val (.int w2), .val (.int w3), .val (.ref ps), .val (.int (pd0 &&& (3 : Int32))), .val (.ref b110), .val (.int (2 : Int32))] [])) (fun t₀ k₀ => XS.icmpNo X186.here hx rfl (hb hby at_217) rfl (teq hk187).2 k₀) ?_
              refine own_step (T186.setTop (mkF m 221 #[.val (.int pa), .val (.int pb), .val (.int pc1), .val (.int pd0), .val (.int pe), .val (.int pq), .val (.int w1), .val (.int w2), .val (.int w3), .val (.ref ps), .val (.int (pd0 &&& (3 : Int32))), .val (.ref b110), .val (.int (2 : Int32))] [(.int (1 : Int32))])) (fun t₀ k₀ => XS.iconst X186.here hx rfl (hb hby at_220) k₀) ?_
              refine own_step (T186.setTop (mkF m 225 #[.val (.int pa), .val (.int pb), .val (.int pc1), .val (.int pd0), .val (.int pe), .val (.int pq), .val (.int w1), .val (.int w2), .val (.int w3), .val (.ref ps), .val (.int (pd0 &&& (3 : Int32))), .val (.ref b110), .val (.int (2 : Int32))] [(.int (1 : Int32))])) (fun t₀ k₀ => XS.goto X186.here hx rfl (pc0 := 221) (pc' := 225) rfl (hb hby at_221) (by decide) (by decide) k₀) ?_
              obtain ⟨fs, hr, hrun, hended, hW, hsame⟩ := X186.leave (v := some (.int (1 : Int32))) (fun h => by rw [Bd.returns] at h; cases h)
              refine ⟨_, _, ?_, hrun, hended, _, _, rfl, ?_, ⟨_, rfl⟩, hW, hsame.mono (by decide) (by decide)⟩
              · exact retN X186 hx (t := .boolean) Bd.returns (by simp) (hb hby at_225) hr
              · show Q_rm0 Z pa pb pc1 pd0 pe pq h0 n0 _ T186.heap _
                rw [e186]
                exact ⟨rfl, N186⟩
        · skip
          refine own_step (T157.setTop (mkF m 142 #[.val (.int pa), .val (.int pb), .val (.int pc1), .val (.int pd0), .val (.int pe), .val (.int pq), .val (.int w1), .val (.int w2), .val (.int w3), .val (.ref ps), .val (.int (pd0 &&& (3 : Int32))), .val (.ref b110), .unset] [])) (fun t₀ k₀ => XS.icmpNo X157.here hx rfl (hb hby at_139) rfl (flt hc139).1 k₀) ?_
          refine own_step (T157.setTop (mkF m 144 #[.val (.int pa), .val (.int pb), .val (.int pc1), .val (.int pd0), .val (.int pe), .val (.int pq), .val (.int w1), .val (.int w2), .val (.int w3), .val (.ref ps), .val (.int (pd0 &&& (3 : Int32))), .val (.ref b110), .unset] [(.ref b110)])) (fun t₀ k₀ => XS.aload X157.here hx rfl (hb hby at_142) rfl rfl k₀) ?_
          refine own_step (T157.setTop (mkF m 146 #[.val (.int pa), .val (.int pb), .val (.int pc1), .val (.int pd0), .val (.int pe), .val (.int pq), .val (.int w1), .val (.int w2), .val (.int w3), .val (.ref ps), .val (.int (pd0 &&& (3 : Int32))), .val (.ref b110), .unset] [(.ref ps), (.ref b110)])) (fun t₀ k₀ => XS.aload X157.here hx rfl (hb hby at_144) rfl rfl k₀) ?_
          refine own_step (T157.setTop (mkF m 147 #[.val (.int pa), .val (.int pb), .val (.int pc1), .val (.int pd0), .val (.int pe), .val (.int pq), .val (.int w1), .val (.int w2), .val (.int w3), .val (.ref ps), .val (.int (pd0 &&& (3 : Int32))), .val (.ref b110), .unset] [(.int (2 : Int32)), (.ref ps), (.ref b110)])) (fun t₀ k₀ => XS.iconst X157.here hx rfl (hb hby at_146) k₀) ?_
          obtain ⟨clo188, Aro188, qo188, So188, Mo188, Ho188, Go188⟩ := id f168
          have hino188 : ¬ ((2 : Int32) < 0 ∨ clo188.slots.size ≤ ((2 : Int32)).toNatClampNeg) := inb_of So188 ⟨by decide, by decide⟩
          have hato188 : clo188.slots[((2 : Int32)).toNatClampNeg]? = some (.int (Int32.ofNat m2)) := Has.at Ho188 hino188 rfl
          refine own_step (T157.setTop (mkF m 148 #[.val (.int pa), .val (.int pb), .val (.int pc1), .val (.int pd0), .val (.int pe), .val (.int pq), .val (.int w1), .val (.int w2), .val (.int w3), .val (.ref ps), .val (.int (pd0 &&& (3 : Int32))), .val (.ref b110), .unset] [(.int (Int32.ofNat m2)), (.ref b110)])) (fun t₀ k₀ => X157.iaload hx (j := (2 : Int32)) (v := (.int (Int32.ofNat m2))) Aro188.1 (State.isArrayOf_alike hZ.alike Aro188.2.1) Aro188.2.2 hino188 hato188 (g := (mkF m 147 #[.val (.int pa), .val (.int pb), .val (.int pc1), .val (.int pd0), .val (.int pe), .val (.int pq), .val (.int w1), .val (.int w2), .val (.int w3), .val (.ref ps), .val (.int (pd0 &&& (3 : Int32))), .val (.ref b110), .unset] [(.int (2 : Int32)), (.ref ps), (.ref b110)])) rfl rfl (hb hby at_147) _ k₀) ?_
          obtain ⟨cq189, kq189, q189a, q189b, q189c⟩ := isOf hZ rfl f164
          obtain ⟨_, _, ⟨T189, L189, k189, n189⟩, -, X189, ⟨Lc189, hQ189, l189, y189, z189⟩, st189⟩ := X157.virtualBack hx (y := (⟨"com/example/syncopate/syncopate/DeletedRows", "add", "(I)V"⟩ : MethodName)) (z := (⟨"com/example/syncopate/syncopate/DeletedRows", "add", "(I)V"⟩ : MethodName)) hown (mvT hZ (hw _ (List.mem_of_getElem? (i := 12) rfl))) (mvT hZ (hw _ (List.mem_of_getElem? (i := 13) rfl))) (notFace_of_selects (args := #[]) (mvT hZ (hw _ (List.mem_of_getElem? (i := 15) rfl)))) (mvT hZ (hw _ (List.mem_of_getElem? (i := 15) rfl))) (mvT hZ (hw _ (List.mem_of_getElem? (i := 14) rfl))) (by decide) (backOf (W := 0) (rm3 l Z a0 hw [] b110 ct1158 k1159 (own_next (own_next 1 m0) m1) g160 (m1 :: (m0 :: [])) m2 (((0 : Int32) + (1 : Int32)) + (1 : Int32)) T157.heap b110 (Nat.le_of_lt f164.lt) f164 f165 f166 f167 (Nat.le_refl b110) (own_nx1 (own_nx1 (Nat.le_refl 1))) hm2 hx2 f162 hD169 f163 f161) hZ (hw _ (List.mem_of_getElem? (i := 16) rfl)) (hw _ (List.mem_of_getElem? (i := 3) rfl)) (by decide) (by decide)) q189a q189c (g := (mkF m 148 #[.val (.int pa), .val (.int pb), .val (.int pc1), .val (.int pd0), .val (.int pe), .val (.int pq), .val (.int w1), .val (.int w2), .val (.int w3), .val (.ref ps), .val (.int (pd0 &&& (3 : Int32))), .val (.ref b110), .unset] [(.int (Int32.ofNat m2)), (.ref b110)])) rfl (by rw [hml]; rfl) (Steps.refl _) (argsL := [(.int (Int32.ofNat m2))]) (rest := []) (lenOf pd_1 rfl) rfl (by show 2 * 0 + _ ≤ _; exact Nat.le_of_eq rfl) (hb hby at_148) (fun _ _ => ⟨rfl, rfl, (by decide : 5 + 1 ≤ _), (by decide : 520 + 257 ≤ _)⟩)
          dsimp only [Pt.U, Pt.locs, Pt.cells, Pt.slots] at X189 l189 y189 z189 st189 hQ189
          subst l189 y189 z189
          obtain ⟨ct1190, k1191, g192, rfl, N189q, K189, f193, f194, f195, f196, f197, f198, f199⟩ := hQ189
          have N189 := Fr.app N157 (own_Frm fr_b110 N189q)
          have f200 : Arv Z T189.heap ps kx .int (3 : Int32) [(.int (Int32.ofNat m0)), (.int (Int32.ofNat m1)), (.int (Int32.ofNat m2))] (.int (0 : Int32)) := own_bel_arv f168 K189 lt111
          have z189' : n0 ≤ T189.heap.size := Nat.le_trans z157' K189.1
          refine own_comes (T189.setTop (mkF m 151 #[.val (.int pa), .val (.int pb), .val (.int pc1), .val (.int pd0), .val (.int pe), .val (.int pq), .val (.int w1), .val (.int w2), .val (.int w3), .val (.ref ps), .val (.int (pd0 &&& (3 : Int32))), .val (.ref b110), .unset] [])) st189 ?_
          have hD201 : ∀ d ∈ (m2 :: (m1 :: (m0 :: []))), 0 < d ∧ d < (own_next (own_next (own_next 1 m0) m1) m2) := own_Dn hD169 hm2.1
          refine own_step (T189.setTop (mkF m 152 #[.val (.int pa), .val (.int pb), .val (.int pc1), .val (.int pd0), .val (.int pe), .val (.int pq), .val (.int w1), .val (.int w2), .val (.int w3), .val (.ref ps), .val (.int (pd0 &&& (3 : Int32))), .val (.ref b110), .unset] [(.int (0 : Int32))])) (fun t₀ k₀ => XS.iconst X189.here hx rfl (hb hby at_151) k₀) ?_
          refine own_step (T189.setTop (mkF m 154 #[.val (.int pa), .val (.int pb), .val (.int pc1), .val (.int pd0), .val (.int pe), .val (.int pq), .val (.int w1), .val (.int w2), .val (.int w3), .val (.ref ps), .val (.int (pd0 &&& (3 : Int32))), .val (.ref b110), .val (.int (0 : Int32))] [])) (fun t₀ k₀ => XS.istore X189.here hx rfl (hb hby at_152) rfl (l' := #[.val (.int pa), .val (.int pb), .val (.int pc1), .val (.int pd0), .val (.int pe), .val (.int pq), .val (.int w1), .val (.int w2), .val (.int w3), .val (.ref ps), .val (.int (pd0 &&& (3 : Int32))), .val (.ref b110), .val (.int (0 : Int32))]) rfl k₀) ?_
          refine own_step (T189.setTop (mkF m 156 #[.val (.int pa), .val (.int pb), .val (.int pc1), .val (.int pd0), .val (.int pe), .val (.int pq), .val (.int w1), .val (.int w2), .val (.int w3), .val (.ref ps), .val (.int (pd0 &&& (3 : Int32))), .val (.ref b110), .val (.int (0 : Int32))] [(.int (pd0 &&& (3 : Int32)))])) (fun t₀ k₀ => XS.iload X189.here hx rfl (hb hby at_154) rfl k₀) ?_
          refine own_step (T189.setTop (mkF m 157 #[.val (.int pa), .val (.int pb), .val (.int pc1), .val (.int pd0), .val (.int pe), .val (.int pq), .val (.int w1), .val (.int w2), .val (.int w3), .val (.ref ps), .val (.int (pd0 &&& (3 : Int32))), .val (.ref b110), .val (.int (0 : Int32))] [(.int (1 : Int32)), (.int (pd0 &&& (3 : Int32)))])) (fun t₀ k₀ => XS.iconst X189.here hx rfl (hb hby at_156) k₀) ?_
          have hk202 : ¬ ((pd0 &&& (3 : Int32)) < (1 : Int32)) := hc109
          refine own_step (T189.setTop (mkF m 160 #[.val (.int pa), .val (.int pb), .val (.int pc1), .val (.int pd0), .val (.int pe), .val (.int pq), .val (.int w1), .val (.int w2), .val (.int w3), .val (.ref ps), .val (.int (pd0 &&& (3 : Int32))), .val (.ref b110), .val (.int (0 : Int32))] [])) (fun t₀ k₀ => XS.icmpNo X189.here hx rfl (hb hby at_157) rfl (flt hk202).1 k₀) ?_
          refine own_step (T189.setTop (mkF m 162 #[.val (.int pa), .val (.int pb), .val (.int pc1), .val (.int pd0), .val (.int pe), .val (.int pq), .val (.int w1), .val (.int w2), .val (.int w3), .val (.ref ps), .val (.int (pd0 &&& (3 : Int32))), .val (.ref b110), .val (.int (0 : Int32))] [(.ref ps)])) (fun t₀ k₀ => XS.aload X189.here hx rfl (hb hby at_160) rfl rfl k₀) ?_
          refine own_step (T189.setTop (mkF m 163 #[.val (.int pa), .val (.int pb), .val (.int pc1), .val (.int pd0), .val (.int pe), .val (.int pq), .val (.int w1), .val (.int w2), .val (.int w3), .val (.ref ps), .val (.int (pd0 &&& (3 : Int32))), .val (.ref b110), .val (.int (0 : Int32))] [(.int (0 : Int32)), (.ref ps)])) (fun t₀ k₀ => XS.iconst X189.here hx rfl (hb hby at_162) k₀) ?_
          obtain ⟨clo203, Aro203, qo203, So203, Mo203, Ho203, Go203⟩ := id f200
          have hino203 : ¬ ((0 : Int32) < 0 ∨ clo203.slots.size ≤ ((0 : Int32)).toNatClampNeg) := inb_of So203 ⟨by decide, by decide⟩
          have hato203 : clo203.slots[((0 : Int32)).toNatClampNeg]? = some (.int (Int32.ofNat m0)) := Has.at Ho203 hino203 rfl
          refine own_step (T189.setTop (mkF m 164 #[.val (.int pa), .val (.int pb), .val (.int pc1), .val (.int pd0), .val (.int pe), .val (.int pq), .val (.int w1), .val (.int w2), .val (.int w3), .val (.ref ps), .val (.int (pd0 &&& (3 : Int32))), .val (.ref b110), .val (.int (0 : Int32))] [(.int (Int32.ofNat m0))])) (fun t₀ k₀ => X189.iaload hx (j := (0 : Int32)) (v := (.int (Int32.ofNat m0))) Aro203.1 (State.isArrayOf_alike hZ.alike Aro203.2.1) Aro203.2.2 hino203 hato203 (g := (mkF m 163 #[.val (.int pa), .val (.int pb), .val (.int pc1), .val (.int pd0), .val (.int pe), .val (.int pq), .val (.int w1), .val (.int w2), .val (.int w3), .val (.ref ps), .val (.int (pd0 &&& (3 : Int32))), .val (.ref b110), .val (.int (0 : Int32))] [(.int (0 : Int32)), (.ref ps)])) rfl rfl (hb hby at_163) _ k₀) ?_
          refine own_step (T189.setTop (mkF m 166 #[.val (.int pa), .val (.int pb), .val (.int pc1), .val (.int pd0), .val (.int pe), .val (.int pq), .val (.int w1), .val (.int w2), .val (.int w3), .val (.ref ps), .val (.int (pd0 &&& (3 : Int32))), .val (.ref b110), .val (.int (0 : Int32))] [(.int pq), (.int (Int32.ofNat m0))])) (fun t₀ k₀ => XS.iload X189.here hx rfl (hb hby at_164) rfl k₀) ?_
          by_cases hc166 : pq < (Int32.ofNat m0)
          · skip
            refine own_step (T189.setTop (mkF m 172 #[.val (.int pa), .val (.int pb), .val (.int pc1), .val (.int pd0), .val (.int pe), .val (.int pq), .val (.int w1), .val (.int w2), .val (.int w3), .val (.ref ps), .val (.int (pd0 &&& (3 : Int32))), .val (.ref b110), .val (.int (0 : Int32))] [])) (fun t₀ k₀ => XS.icmpYes X189.here hx rfl (pc0 := 166) (pc' := 172) rfl (hb hby at_166) rfl (tlt hc166).2.2.1 (by decide) (by decide) k₀) ?_
            refine own_step (T189.setTop (mkF m 174 #[.val (.int pa), .val (.int pb), .val (.int pc1), .val (.int pd0), .val (.int pe), .val (.int pq), .val (.int w1), .val (.int w2), .val (.int w3), .val (.ref ps), .val (.int (pd0 &&& (3 : Int32))), .val (.ref b110), .val (.int (0 : Int32))] [(.int (pd0 &&& (3 : Int32)))])) (fun t₀ k₀ => XS.iload X189.here hx rfl (hb hby at_172) rfl k₀) ?_
            refine own_step (T189.setTop (mkF m 175 #[.val (.int pa), .val (.int pb), .val (.int pc1), .val (.int pd0), .val (.int pe), .val (.int pq), .val (.int w1), .val (.int w2), .val (.int w3), .val (.ref ps), .val (.int (pd0 &&& (3 : Int32))), .val (.ref b110), .val (.int (0 : Int32))] [(.int (2 : Int32)), (.int (pd0 &&& (3 : Int32)))])) (fun t₀ k₀ => XS.iconst X189.here hx rfl (hb hby at_174) k₀) ?_
            have hk204 : ¬ ((pd0 &&& (3 : Int32)) < (2 : Int32)) := hc124
            refine own_step (T189.setTop (mkF m 178 #[.val (.int pa), .val (.int pb), .val (.int pc1), .val (.int pd0), .val (.int pe), .val (.int pq), .val (.int w1), .val (.int w2), .val (.int w3), .val (.ref ps), .val (.int (pd0 &&& (3 : Int32))), .val (.ref b110), .val (.int (0 : Int32))] [])) (fun t₀ k₀ => XS.icmpNo X189.here hx rfl (hb hby at_175) rfl (flt hk204).1 k₀) ?_
            refine own_step (T189.setTop (mkF m 180 #[.val (.int pa), .val (.int pb), .val (.int pc1), .val (.int pd0), .val (.int pe), .val (.int pq), .val (.int w1), .val (.int w2), .val (.int w3), .val (.ref ps), .val (.int (pd0 &&& (3 : Int32))), .val (.ref b110), .val (.int (0 : Int32))] [(.ref ps)])) (fun t₀ k₀ => XS.aload X189.here hx rfl (hb hby at_178) rfl rfl k₀) ?_
            refine own_step (T189.setTop (mkF m 181 #[.val (.int pa), .val (.int pb), .val (.int pc1), .val (.int pd0), .val (.int pe), .val (.int pq), .val (.int w1), .val (.int w2), .val (.int w3), .val (.ref ps), .val (.int (pd0 &&& (3 : Int32))), .val (.ref b110), .val (.int (0 : Int32))] [(.int (1 : Int32)), (.ref ps)])) (fun t₀ k₀ => XS.iconst X189.here hx rfl (hb hby at_180) k₀) ?_
            obtain ⟨clo205, Aro205, qo205, So205, Mo205, Ho205, Go205⟩ := id f200
            have hino205 : ¬ ((1 : Int32) < 0 ∨ clo205.slots.size ≤ ((1 : Int32)).toNatClampNeg) := inb_of So205 ⟨by decide, by decide⟩
            have hato205 : clo205.slots[((1 : Int32)).toNatClampNeg]? = some (.int (Int32.ofNat m1)) := Has.at Ho205 hino205 rfl
            refine own_step (T189.setTop (mkF m 182 #[.val (.int pa), .val (.int pb), .val (.int pc1), .val (.int pd0), .val (.int pe), .val (.int pq), .val (.int w1), .val (.int w2), .val (.int w3), .val (.ref ps), .val (.int (pd0 &&& (3 : Int32))), .val (.ref b110), .val (.int (0 : Int32))] [(.int (Int32.ofNat m1))])) (fun t₀ k₀ => X189.iaload hx (j := (1 : Int32)) (v := (.int (Int32.ofNat m1))) Aro205.1 (State.isArrayOf_alike hZ.alike Aro205.2.1) Aro205.2.2 hino205 hato205 (g := (mkF m 181 #[.val (.int pa), .val (.int pb), .val (.int pc1), .val (.int pd0), .val (.int pe), .val (.int pq), .val (.int w1), .val (.int w2), .val (.int w3), .val (.ref ps), .val (.int (pd0 &&& (3 : Int32))), .val (.ref b110), .val (.int (0 : Int32))] [(.int (1 : Int32)), (.ref ps)])) rfl rfl (hb hby at_181) _ k₀) ?_
            refine own_step (T189.setTop (mkF m 184 #[.val (.int pa), .val (.int pb), .val (.int pc1), .val (.int pd0), .val (.int pe), .val (.int pq), .val (.int w1), .val (.int w2), .val (.int w3), .val (.ref ps), .val (.int (pd0 &&& (3 : Int32))), .val (.ref b110), .val (.int (0 : Int32))] [(.int pq), (.int (Int32.ofNat m1))])) (fun t₀ k₀ => XS.iload X189.here hx rfl (hb hby at_182) rfl k₀) ?_
            by_cases hc184 : pq < (Int32.ofNat m1)
            · skip
              refine own_step (T189.setTop (mkF m 190 #[.val (.int pa), .val (.int pb), .val (.int pc1), .val (.int pd0), .val (.int pe), .val (.int pq), .val (.int w1), .val (.int w2), .val (.int w3), .val (.ref ps), .val (.int (pd0 &&& (3 : Int32))), .val (.ref b110), .val (.int (0 : Int32))] [])) (fun t₀ k₀ => XS.icmpYes X189.here hx rfl (pc0 := 184) (pc' := 190) rfl (hb hby at_184) rfl (tlt hc184).2.2.1 (by decide) (by decide) k₀) ?_
              refine own_step (T189.setTop (mkF m 192 #[.val (.int pa), .val (.int pb), .val (.int pc1), .val (.int pd0), .val (.int pe), .val (.int pq), .val (.int w1), .val (.int w2), .val (.int w3), .val (.ref ps), .val (.int (pd0 &&& (3 : Int32))), .val (.ref b110), .val (.int (0 : Int32))] [(.int (pd0 &&& (3 : Int32)))])) (fun t₀ k₀ => XS.iload X189.here hx rfl (hb hby at_190) rfl k₀) ?_
              refine own_step (T189.setTop (mkF m 193 #[.val (.int pa), .val (.int pb), .val (.int pc1), .val (.int pd0), .val (.int pe), .val (.int pq), .val (.int w1), .val (.int w2), .val (.int w3), .val (.ref ps), .val (.int (pd0 &&& (3 : Int32))), .val (.ref b110), .val (.int (0 : Int32))] [(.int (3 : Int32)), (.int (pd0 &&& (3 : Int32)))])) (fun t₀ k₀ => XS.iconst X189.here hx rfl (hb hby at_192) k₀) ?_
              have hk206 : ¬ ((pd0 &&& (3 : Int32)) < (3 : Int32)) := hc139
              refine own_step (T189.setTop (mkF m 196 #[.val (.int pa), .val (.int pb), .val (.int pc1), .val (.int pd0), .val (.int pe), .val (.int pq), .val (.int w1), .val (.int w2), .val (.int w3), .val (.ref ps), .val (.int (pd0 &&& (3 : Int32))), .val (.ref b110), .val (.int (0 : Int32))] [])) (fun t₀ k₀ => XS.icmpNo X189.here hx rfl (hb hby at_193) rfl (flt hk206).1 k₀) ?_
              refine own_step (T189.setTop (mkF m 198 #[.val (.int pa), .val (.int pb), .val (.int pc1), .val (.int pd0), .val (.int pe), .val (.int pq), .val (.int w1), .val (.int w2), .val (.int w3), .val (.ref ps), .val (.int (pd0 &&& (3 : Int32))), .val (.ref b110), .val (.int (0 : Int32))] [(.ref ps)])) (fun t₀ k₀ => XS.aload X189.here hx rfl (hb hby at_196) rfl rfl k₀) ?_
              refine own_step (T189.setTop (mkF m 199 #[.val (.int pa), .val (.int pb), .val (.int pc1), .val (.int pd0), .val (.int pe), .val (.int pq), .val (.int w1), .val (.int w2), .val (.int w3), .val (.ref ps), .val (.int (pd0 &&& (3 : Int32))), .val (.ref b110), .val (.int (0 : Int32))] [(.int (2 : Int32)), (.ref ps)])) (fun t₀ k₀ => XS.iconst X189.here hx rfl (hb hby at_198) k₀) ?_
              obtain ⟨clo207, Aro207, qo207, So207, Mo207, Ho207, Go207⟩ := id f200
              have hino207 : ¬ ((2 : Int32) < 0 ∨ clo207.slots.size ≤ ((2 : Int32)).toNatClampNeg) := inb_of So207 ⟨by decide, by decide⟩
              have hato207 : clo207.slots[((2 : Int32)).toNatClampNeg]? = some (.int (Int32.ofNat m2)) := Has.at Ho207 hino207 rfl
              refine own_step (T189.setTop (mkF m 200 #[.val (.int pa), .val (.int pb), .val (.int pc1), .val (.int pd0), .val (.int pe), .val (.int pq), .val (.int w1), .val (.int w2), .val (.int w3), .val (.ref ps), .val (.int (pd0 &&& (3 : Int32))), .val (.ref b110), .val (.int (0 : Int32))] [(.int (Int32.ofNat m2))])) (fun t₀ k₀ => X189.iaload hx (j := (2 : Int32)) (v := (.int (Int32.ofNat m2))) Aro207.1 (State.isArrayOf_alike hZ.alike Aro207.2.1) Aro207.2.2 hino207 hato207 (g := (mkF m 199 #[.val (.int pa), .val (.int pb), .val (.int pc1), .val (.int pd0), .val (.int pe), .val (.int pq), .val (.int w1), .val (.int w2), .val (.int w3), .val (.ref ps), .val (.int (pd0 &&& (3 : Int32))), .val (.ref b110), .val (.int (0 : Int32))] [(.int (2 : Int32)), (.ref ps)])) rfl rfl (hb hby at_199) _ k₀) ?_
              refine own_step (T189.setTop (mkF m 202 #[.val (.int pa), .val (.int pb), .val (.int pc1), .val (.int pd0), .val (.int pe), .val (.int pq), .val (.int w1), .val (.int w2), .val (.int w3), .val (.ref ps), .val (.int (pd0 &&& (3 : Int32))), .val (.ref b110), .val (.int (0 : Int32))] [(.int pq), (.int (Int32.ofNat m2))])) (fun t₀ k₀ => XS.iload X189.here hx rfl (hb hby at_200) rfl k₀) ?_
              by_cases hc202 : pq < (Int32.ofNat m2)
              · skip
                refine own_step (T189.setTop (mkF m 208 #[.val (.int pa), .val (.int pb), .val (.int pc1), .val (.int pd0), .val (.int pe), .val (.int pq), .val (.int w1), .val (.int w2), .val (.int w3), .val (.ref ps), .val (.int (pd0 &&& (3 : Int32))), .val (.ref b110), .val (.int (0 : Int32))] [])) (fun t₀ k₀ => XS.icmpYes X189.here hx rfl (pc0 := 202) (pc' := 208) rfl (hb hby at_202) rfl (tlt hc202).2.2.1 (by decide) (by decide) k₀) ?_
                refine own_step (T189.setTop (mkF m 210 #[.val (.int pa), .val (.int pb), .val (.int pc1), .val (.int pd0), .val (.int pe), .val (.int pq), .val (.int w1), .val (.int w2), .val (.int w3), .val (.ref ps), .val (.int (pd0 &&& (3 : Int32))), .val (.ref b110), .val (.int (0 : Int32))] [(.ref b110)])) (fun t₀ k₀ => XS.aload X189.here hx rfl (hb hby at_208) rfl rfl k₀) ?_
                refine own_step (T189.setTop (mkF m 212 #[.val (.int pa), .val (.int pb), .val (.int pc1), .val (.int pd0), .val (.int pe), .val (.int pq), .val (.int w1), .val (.int w2), .val (.int w3), .val (.ref ps), .val (.int (pd0 &&& (3 : Int32))), .val (.ref b110), .val (.int (0 : Int32))] [(.int pq), (.ref b110)])) (fun t₀ k₀ => XS.iload X189.here hx rfl (hb hby at_210) rfl k₀) ?_
                obtain ⟨cq208, kq208, q208a, q208b, q208c⟩ := isOf hZ rfl f196
                obtain ⟨_, _, ⟨T208, L208, k208, n208⟩, -, X208, ⟨Lc208, hQ208, l208, y208, z208⟩, st208⟩ := X189.virtualBack hx (y := (⟨"com/example/syncopate/syncopate/DeletedRows", "through", "(I)I"⟩ : MethodName)) (z := (⟨"com/example/syncopate/syncopate/DeletedRows", "through", "(I)I"⟩ : MethodName)) hown (mvT hZ (hw _ (List.mem_of_getElem? (i := 43) rfl))) (mvT hZ (hw _ (List.mem_of_getElem? (i := 44) rfl))) (notFace_of_selects (args := #[]) (mvT hZ (hw _ (List.mem_of_getElem? (i := 46) rfl)))) (mvT hZ (hw _ (List.mem_of_getElem? (i := 46) rfl))) (mvT hZ (hw _ (List.mem_of_getElem? (i := 45) rfl))) (by decide) (backOf (W := 0) (rm9 l Z a0 hw [] b110 pq ct1190 k1191 (own_next (own_next (own_next 1 m0) m1) m2) g192 (m2 :: (m1 :: (m0 :: []))) T189.heap n0 z189' f197 f199 (own_nx1 (own_nx1 (own_nx1 (Nat.le_refl 1)))) (by omega) (own_InvTo f194 (own_M_lt (own_nx1 (own_nx1 (own_nx1 (Nat.le_refl 1))))))) hZ (hw _ (List.mem_of_getElem? (i := 47) rfl)) (hw _ (List.mem_of_getElem? (i := 3) rfl)) (by decide) (by decide)) q208a q208c (g := (mkF m 212 #[.val (.int pa), .val (.int pb), .val (.int pc1), .val (.int pd0), .val (.int pe), .val (.int pq), .val (.int w1), .val (.int w2), .val (.int w3), .val (.ref ps), .val (.int (pd0 &&& (3 : Int32))), .val (.ref b110), .val (.int (0 : Int32))] [(.int pq), (.ref b110)])) rfl (by rw [hml]; rfl) (Steps.refl _) (argsL := [(.int pq)]) (rest := []) (lenOf pd_6 rfl) rfl (by show 2 * 0 + _ ≤ _; exact Nat.le_of_eq rfl) (hb hby at_212) (fun _ _ => ⟨rfl, rfl, (by decide : 6 + 0 ≤ _), (by decide : 777 + 0 ≤ _)⟩)
                dsimp only [Pt.U, Pt.locs, Pt.cells, Pt.slots] at X208 l208 y208 z208 st208 hQ208
                subst l208 y208 z208
                obtain ⟨rfl, N208q, e208⟩ := hQ208
                have N208 := Fr.app N189 N208q
                refine own_comes (T208.setTop (mkF m 215 #[.val (.int pa), .val (.int pb), .val (.int pc1), .val (.int pd0), .val (.int pe), .val (.int pq), .val (.int w1), .val (.int w2), .val (.int w3), .val (.ref ps), .val (.int (pd0 &&& (3 : Int32))), .val (.ref b110), .val (.int (0 : Int32))] [(.int (Int32.ofNat (own_cnt (m2 :: (m1 :: (m0 :: []))) 0 (own_M pq (own_next (own_next (own_next 1 m0) m1) m2)))))])) st208 ?_
                refine own_step (T208.setTop (mkF m 217 #[.val (.int pa), .val (.int pb), .val (.int pc1), .val (.int pd0), .val (.int pe), .val (.int pq), .val (.int w1), .val (.int w2), .val (.int w3), .val (.ref ps), .val (.int (pd0 &&& (3 : Int32))), .val (.ref b110), .val (.int (0 : Int32))] [(.int (0 : Int32)), (.int (Int32.ofNat (own_cnt (m2 :: (m1 :: (m0 :: []))) 0 (own_M pq (own_next (own_next (own_next 1 m0) m1) m2)))))])) (fun t₀ k₀ => XS.iload X208.here hx rfl (hb hby at_215) rfl k₀) ?_
                have hk209 : (Int32.ofNat (own_cnt (m2 :: (m1 :: (m0 :: []))) 0 (own_M pq (own_next (own_next (own_next 1 m0) m1) m2)))) = (0 : Int32) := by rw [own_cA (hD201 _ (by simp)) (by omega) hc202, own_cA (hD201 _ (by simp)) (by omega) hc184, own_cA (hD201 _ (by simp)) (by omega) hc166]; rfl
                refine own_step (T208.setTop (mkF m 220 #[.val (.int pa), .val (.int pb), .val (.int pc1), .val (.int pd0), .val (.int pe), .val (.int pq), .val (.int w1), .val (.int w2), .val (.int w3), .val (.ref ps), .val (.int (pd0 &&& (3 : Int32))), .val (.ref b110), .val (.int (0 : Int32))] [])) (fun t₀ k₀ => XS.icmpNo X208.here hx rfl (hb hby at_217) rfl (teq hk209).2 k₀) ?_
                refine own_step (T208.setTop (mkF m 221 #[.val (.int pa), .val (.int pb), .val (.int pc1), .val (.int pd0), .val (.int pe), .val (.int pq), .val (.int w1), .val (.int w2), .val (.int w3), .val (.ref ps), .val (.int (pd0 &&& (3 : Int32))), .val (.ref b110), .val (.int (0 : Int32))] [(.int (1 : Int32))])) (fun t₀ k₀ => XS.iconst X208.here hx rfl (hb hby at_220) k₀) ?_
                refine own_step (T208.setTop (mkF m 225 #[.val (.int pa), .val (.int pb), .val (.int pc1), .val (.int pd0), .val (.int pe), .val (.int pq), .val (.int w1), .val (.int w2), .val (.int w3), .val (.ref ps), .val (.int (pd0 &&& (3 : Int32))), .val (.ref b110), .val (.int (0 : Int32))] [(.int (1 : Int32))])) (fun t₀ k₀ => XS.goto X208.here hx rfl (pc0 := 221) (pc' := 225) rfl (hb hby at_221) (by decide) (by decide) k₀) ?_
                obtain ⟨fs, hr, hrun, hended, hW, hsame⟩ := X208.leave (v := some (.int (1 : Int32))) (fun h => by rw [Bd.returns] at h; cases h)
                refine ⟨_, _, ?_, hrun, hended, _, _, rfl, ?_, ⟨_, rfl⟩, hW, hsame.mono (by decide) (by decide)⟩
                · exact retN X208 hx (t := .boolean) Bd.returns (by simp) (hb hby at_225) hr
                · show Q_rm0 Z pa pb pc1 pd0 pe pq h0 n0 _ T208.heap _
                  rw [e208]
                  exact ⟨rfl, N208⟩
              · skip
                refine own_step (T189.setTop (mkF m 205 #[.val (.int pa), .val (.int pb), .val (.int pc1), .val (.int pd0), .val (.int pe), .val (.int pq), .val (.int w1), .val (.int w2), .val (.int w3), .val (.ref ps), .val (.int (pd0 &&& (3 : Int32))), .val (.ref b110), .val (.int (0 : Int32))] [])) (fun t₀ k₀ => XS.icmpNo X189.here hx rfl (hb hby at_202) rfl (flt hc202).2.2.1 k₀) ?_
                refine own_step (T189.setTop (mkF m 208 #[.val (.int pa), .val (.int pb), .val (.int pc1), .val (.int pd0), .val (.int pe), .val (.int pq), .val (.int w1), .val (.int w2), .val (.int w3), .val (.ref ps), .val (.int (pd0 &&& (3 : Int32))), .val (.ref b110), .val (.int (1 : Int32))] [])) (fun t₀ k₀ => XS.iinc X189.here hx rfl (hb hby at_205) rfl (l' := #[.val (.int pa), .val (.int pb), .val (.int pc1), .val (.int pd0), .val (.int pe), .val (.int pq), .val (.int w1), .val (.int w2), .val (.int w3), .val (.ref ps), .val (.int (pd0 &&& (3 : Int32))), .val (.ref b110), .val (.int (1 : Int32))]) rfl k₀) ?_
                refine own_step (T189.setTop (mkF m 210 #[.val (.int pa), .val (.int pb), .val (.int pc1), .val (.int pd0), .val (.int pe), .val (.int pq), .val (.int w1), .val (.int w2), .val (.int w3), .val (.ref ps), .val (.int (pd0 &&& (3 : Int32))), .val (.ref b110), .val (.int (1 : Int32))] [(.ref b110)])) (fun t₀ k₀ => XS.aload X189.here hx rfl (hb hby at_208) rfl rfl k₀) ?_
                refine own_step (T189.setTop (mkF m 212 #[.val (.int pa), .val (.int pb), .val (.int pc1), .val (.int pd0), .val (.int pe), .val (.int pq), .val (.int w1), .val (.int w2), .val (.int w3), .val (.ref ps), .val (.int (pd0 &&& (3 : Int32))), .val (.ref b110), .val (.int (1 : Int32))] [(.int pq), (.ref b110)])) (fun t₀ k₀ => XS.iload X189.here hx rfl (hb hby at_210) rfl k₀) ?_
                obtain ⟨cq210, kq210, q210a, q210b, q210c⟩ := isOf hZ rfl f196
                obtain ⟨_, _, ⟨T210, L210, k210, n210⟩, -, X210, ⟨Lc210, hQ210, l210, y210, z210⟩, st210⟩ := X189.virtualBack hx (y := (⟨"com/example/syncopate/syncopate/DeletedRows", "through", "(I)I"⟩ : MethodName)) (z := (⟨"com/example/syncopate/syncopate/DeletedRows", "through", "(I)I"⟩ : MethodName)) hown (mvT hZ (hw _ (List.mem_of_getElem? (i := 43) rfl))) (mvT hZ (hw _ (List.mem_of_getElem? (i := 44) rfl))) (notFace_of_selects (args := #[]) (mvT hZ (hw _ (List.mem_of_getElem? (i := 46) rfl)))) (mvT hZ (hw _ (List.mem_of_getElem? (i := 46) rfl))) (mvT hZ (hw _ (List.mem_of_getElem? (i := 45) rfl))) (by decide) (backOf (W := 0) (rm9 l Z a0 hw [] b110 pq ct1190 k1191 (own_next (own_next (own_next 1 m0) m1) m2) g192 (m2 :: (m1 :: (m0 :: []))) T189.heap n0 z189' f197 f199 (own_nx1 (own_nx1 (own_nx1 (Nat.le_refl 1)))) (by omega) (own_InvTo f194 (own_M_lt (own_nx1 (own_nx1 (own_nx1 (Nat.le_refl 1))))))) hZ (hw _ (List.mem_of_getElem? (i := 47) rfl)) (hw _ (List.mem_of_getElem? (i := 3) rfl)) (by decide) (by decide)) q210a q210c (g := (mkF m 212 #[.val (.int pa), .val (.int pb), .val (.int pc1), .val (.int pd0), .val (.int pe), .val (.int pq), .val (.int w1), .val (.int w2), .val (.int w3), .val (.ref ps), .val (.int (pd0 &&& (3 : Int32))), .val (.ref b110), .val (.int (1 : Int32))] [(.int pq), (.ref b110)])) rfl (by rw [hml]; rfl) (Steps.refl _) (argsL := [(.int pq)]) (rest := []) (lenOf pd_6 rfl) rfl (by show 2 * 0 + _ ≤ _; exact Nat.le_of_eq rfl) (hb hby at_212) (fun _ _ => ⟨rfl, rfl, (by decide : 6 + 0 ≤ _), (by decide : 777 + 0 ≤ _)⟩)
                dsimp only [Pt.U, Pt.locs, Pt.cells, Pt.slots] at X210 l210 y210 z210 st210 hQ210
                subst l210 y210 z210
                obtain ⟨rfl, N210q, e210⟩ := hQ210
                have N210 := Fr.app N189 N210q
                refine own_comes (T210.setTop (mkF m 215 #[.val (.int pa), .val (.int pb), .val (.int pc1), .val (.int pd0), .val (.int pe), .val (.int pq), .val (.int w1), .val (.int w2), .val (.int w3), .val (.ref ps), .val (.int (pd0 &&& (3 : Int32))), .val (.ref b110), .val (.int (1 : Int32))] [(.int (Int32.ofNat (own_cnt (m2 :: (m1 :: (m0 :: []))) 0 (own_M pq (own_next (own_next (own_next 1 m0) m1) m2)))))])) st210 ?_
                refine own_step (T210.setTop (mkF m 217 #[.val (.int pa), .val (.int pb), .val (.int pc1), .val (.int pd0), .val (.int pe), .val (.int pq), .val (.int w1), .val (.int w2), .val (.int w3), .val (.ref ps), .val (.int (pd0 &&& (3 : Int32))), .val (.ref b110), .val (.int (1 : Int32))] [(.int (1 : Int32)), (.int (Int32.ofNat (own_cnt (m2 :: (m1 :: (m0 :: []))) 0 (own_M pq (own_next (own_next (own_next 1 m0) m1) m2)))))])) (fun t₀ k₀ => XS.iload X210.here hx rfl (hb hby at_215) rfl k₀) ?_
                have hk211 : (Int32.ofNat (own_cnt (m2 :: (m1 :: (m0 :: []))) 0 (own_M pq (own_next (own_next (own_next 1 m0) m1) m2)))) = (1 : Int32) := by rw [own_cB (hD201 _ (by simp)) (by omega) hc202, own_cA (hD201 _ (by simp)) (by omega) hc184, own_cA (hD201 _ (by simp)) (by omega) hc166]; rfl
                refine own_step (T210.setTop (mkF m 220 #[.val (.int pa), .val (.int pb), .val (.int pc1), .val (.int pd0), .val (.int pe), .val (.int pq), .val (.int w1), .val (.int w2), .val (.int w3), .val (.ref ps), .val (.int (pd0 &&& (3 : Int32))), .val (.ref b110), .val (.int (1 : Int32))] [])) (fun t₀ k₀ => XS.icmpNo X210.here hx rfl (hb hby at_217) rfl (teq hk211).2 k₀) ?_
                refine own_step (T210.setTop (mkF m 221 #[.val (.int pa), .val (.int pb), .val (.int pc1), .val (.int pd0), .val (.int pe), .val (.int pq), .val (.int w1), .val (.int w2), .val (.int w3), .val (.ref ps), .val (.int (pd0 &&& (3 : Int32))), .val (.ref b110), .val (.int (1 : Int32))] [(.int (1 : Int32))])) (fun t₀ k₀ => XS.iconst X210.here hx rfl (hb hby at_220) k₀) ?_
                refine own_step (T210.setTop (mkF m 225 #[.val (.int pa), .val (.int pb), .val (.int pc1), .val (.int pd0), .val (.int pe), .val (.int pq), .val (.int w1), .val (.int w2), .val (.int w3), .val (.ref ps), .val (.int (pd0 &&& (3 : Int32))), .val (.ref b110), .val (.int (1 : Int32))] [(.int (1 : Int32))])) (fun t₀ k₀ => XS.goto X210.here hx rfl (pc0 := 221) (pc' := 225) rfl (hb hby at_221) (by decide) (by decide) k₀) ?_
                obtain ⟨fs, hr, hrun, hended, hW, hsame⟩ := X210.leave (v := some (.int (1 : Int32))) (fun h => by rw [Bd.returns] at h; cases h)
                refine ⟨_, _, ?_, hrun, hended, _, _, rfl, ?_, ⟨_, rfl⟩, hW, hsame.mono (by decide) (by decide)⟩
                · exact retN X210 hx (t := .boolean) Bd.returns (by simp) (hb hby at_225) hr
                · show Q_rm0 Z pa pb pc1 pd0 pe pq h0 n0 _ T210.heap _
                  rw [e210]
                  exact ⟨rfl, N210⟩
            · skip
              refine own_step (T189.setTop (mkF m 187 #[.val (.int pa), .val (.int pb), .val (.int pc1), .val (.int pd0), .val (.int pe), .val (.int pq), .val (.int w1), .val (.int w2), .val (.int w3), .val (.ref ps), .val (.int (pd0 &&& (3 : Int32))), .val (.ref b110), .val (.int (0 : Int32))] [])) (fun t₀ k₀ => XS.icmpNo X189.here hx rfl (hb hby at_184) rfl (flt hc184).2.2.1 k₀) ?_
              refine own_step (T189.setTop (mkF m 190 #[.val (.int pa), .val (.int pb), .val (.int pc1), .val (.int pd0), .val (.int pe), .val (.int pq), .val (.int w1), .val (.int w2), .val (.int w3), .val (.ref ps), .val (.int (pd0 &&& (3 : Int32))), .val (.ref b110), .val (.int (1 : Int32))] [])) (fun t₀ k₀ => XS.iinc X189.here hx rfl (hb hby at_187) rfl (l' := #[.val (.int pa), .val (.int pb), .val (.int pc1), .val (.int pd0), .val (.int pe), .val (.int pq), .val (.int w1), .val (.int w2), .val (.int w3), .val (.ref ps), .val (.int (pd0 &&& (3 : Int32))), .val (.ref b110), .val (.int (1 : Int32))]) rfl k₀) ?_
              refine own_step (T189.setTop (mkF m 192 #[.val (.int pa), .val (.int pb), .val (.int pc1), .val (.int pd0), .val (.int pe), .val (.int pq), .val (.int w1), .val (.int w2), .val (.int w3), .val (.ref ps), .val (.int (pd0 &&& (3 : Int32))), .val (.ref b110), .val (.int (1 : Int32))] [(.int (pd0 &&& (3 : Int32)))])) (fun t₀ k₀ => XS.iload X189.here hx rfl (hb hby at_190) rfl k₀) ?_
              refine own_step (T189.setTop (mkF m 193 #[.val (.int pa), .val (.int pb), .val (.int pc1), .val (.int pd0), .val (.int pe), .val (.int pq), .val (.int w1), .val (.int w2), .val (.int w3), .val (.ref ps), .val (.int (pd0 &&& (3 : Int32))), .val (.ref b110), .val (.int (1 : Int32))] [(.int (3 : Int32)), (.int (pd0 &&& (3 : Int32)))])) (fun t₀ k₀ => XS.iconst X189.here hx rfl (hb hby at_192) k₀) ?_
              have hk212 : ¬ ((pd0 &&& (3 : Int32)) < (3 : Int32)) := hc139
              refine own_step (T189.setTop (mkF m 196 #[.val (.int pa), .val (.int pb), .val (.int pc1), .val (.int pd0), .val (.int pe), .val (.int pq), .val (.int w1), .val (.int w2), .val (.int w3), .val (.ref ps), .val (.int (pd0 &&& (3 : Int32))), .val (.ref b110), .val (.int (1 : Int32))] [])) (fun t₀ k₀ => XS.icmpNo X189.here hx rfl (hb hby at_193) rfl (flt hk212).1 k₀) ?_
              refine own_step (T189.setTop (mkF m 198 #[.val (.int pa), .val (.int pb), .val (.int pc1), .val (.int pd0), .val (.int pe), .val (.int pq), .val (.int w1), .val (.int w2), .val (.int w3), .val (.ref ps), .val (.int (pd0 &&& (3 : Int32))), .val (.ref b110), .val (.int (1 : Int32))] [(.ref ps)])) (fun t₀ k₀ => XS.aload X189.here hx rfl (hb hby at_196) rfl rfl k₀) ?_
              refine own_step (T189.setTop (mkF m 199 #[.val (.int pa), .val (.int pb), .val (.int pc1), .val (.int pd0), .val (.int pe), .val (.int pq), .val (.int w1), .val (.int w2), .val (.int w3), .val (.ref ps), .val (.int (pd0 &&& (3 : Int32))), .val (.ref b110), .val (.int (1 : Int32))] [(.int (2 : Int32)), (.ref ps)])) (fun t₀ k₀ => XS.iconst X189.here hx rfl (hb hby at_198) k₀) ?_
              obtain ⟨clo213, Aro213, qo213, So213, Mo213, Ho213, Go213⟩ := id f200
              have hino213 : ¬ ((2 : Int32) < 0 ∨ clo213.slots.size ≤ ((2 : Int32)).toNatClampNeg) := inb_of So213 ⟨by decide, by decide⟩
              have hato213 : clo213.slots[((2 : Int32)).toNatClampNeg]? = some (.int (Int32.ofNat m2)) := Has.at Ho213 hino213 rfl
              refine own_step (T189.setTop (mkF m 200 #[.val (.int pa), .val (.int pb), .val (.int pc1), .val (.int pd0), .val (.int pe), .val (.int pq), .val (.int w1), .val (.int w2), .val (.int w3), .val (.ref ps), .val (.int (pd0 &&& (3 : Int32))), .val (.ref b110), .val (.int (1 : Int32))] [(.int (Int32.ofNat m2))])) (fun t₀ k₀ => X189.iaload hx (j := (2 : Int32)) (v := (.int (Int32.ofNat m2))) Aro213.1 (State.isArrayOf_alike hZ.alike Aro213.2.1) Aro213.2.2 hino213 hato213 (g := (mkF m 199 #[.val (.int pa), .val (.int pb), .val (.int pc1), .val (.int pd0), .val (.int pe), .val (.int pq), .val (.int w1), .val (.int w2), .val (.int w3), .val (.ref ps), .val (.int (pd0 &&& (3 : Int32))), .val (.ref b110), .val (.int (1 : Int32))] [(.int (2 : Int32)), (.ref ps)])) rfl rfl (hb hby at_199) _ k₀) ?_
              refine own_step (T189.setTop (mkF m 202 #[.val (.int pa), .val (.int pb), .val (.int pc1), .val (.int pd0), .val (.int pe), .val (.int pq), .val (.int w1), .val (.int w2), .val (.int w3), .val (.ref ps), .val (.int (pd0 &&& (3 : Int32))), .val (.ref b110), .val (.int (1 : Int32))] [(.int pq), (.int (Int32.ofNat m2))])) (fun t₀ k₀ => XS.iload X189.here hx rfl (hb hby at_200) rfl k₀) ?_
              by_cases hc202 : pq < (Int32.ofNat m2)
              · skip
                refine own_step (T189.setTop (mkF m 208 #[.val (.int pa), .val (.int pb), .val (.int pc1), .val (.int pd0), .val (.int pe), .val (.int pq), .val (.int w1), .val (.int w2), .val (.int w3), .val (.ref ps), .val (.int (pd0 &&& (3 : Int32))), .val (.ref b110), .val (.int (1 : Int32))] [])) (fun t₀ k₀ => XS.icmpYes X189.here hx rfl (pc0 := 202) (pc' := 208) rfl (hb hby at_202) rfl (tlt hc202).2.2.1 (by decide) (by decide) k₀) ?_
                refine own_step (T189.setTop (mkF m 210 #[.val (.int pa), .val (.int pb), .val (.int pc1), .val (.int pd0), .val (.int pe), .val (.int pq), .val (.int w1), .val (.int w2), .val (.int w3), .val (.ref ps), .val (.int (pd0 &&& (3 : Int32))), .val (.ref b110), .val (.int (1 : Int32))] [(.ref b110)])) (fun t₀ k₀ => XS.aload X189.here hx rfl (hb hby at_208) rfl rfl k₀) ?_
                refine own_step (T189.setTop (mkF m 212 #[.val (.int pa), .val (.int pb), .val (.int pc1), .val (.int pd0), .val (.int pe), .val (.int pq), .val (.int w1), .val (.int w2), .val (.int w3), .val (.ref ps), .val (.int (pd0 &&& (3 : Int32))), .val (.ref b110), .val (.int (1 : Int32))] [(.int pq), (.ref b110)])) (fun t₀ k₀ => XS.iload X189.here hx rfl (hb hby at_210) rfl k₀) ?_
                obtain ⟨cq214, kq214, q214a, q214b, q214c⟩ := isOf hZ rfl f196
                obtain ⟨_, _, ⟨T214, L214, k214, n214⟩, -, X214, ⟨Lc214, hQ214, l214, y214, z214⟩, st214⟩ := X189.virtualBack hx (y := (⟨"com/example/syncopate/syncopate/DeletedRows", "through", "(I)I"⟩ : MethodName)) (z := (⟨"com/example/syncopate/syncopate/DeletedRows", "through", "(I)I"⟩ : MethodName)) hown (mvT hZ (hw _ (List.mem_of_getElem? (i := 43) rfl))) (mvT hZ (hw _ (List.mem_of_getElem? (i := 44) rfl))) (notFace_of_selects (args := #[]) (mvT hZ (hw _ (List.mem_of_getElem? (i := 46) rfl)))) (mvT hZ (hw _ (List.mem_of_getElem? (i := 46) rfl))) (mvT hZ (hw _ (List.mem_of_getElem? (i := 45) rfl))) (by decide) (backOf (W := 0) (rm9 l Z a0 hw [] b110 pq ct1190 k1191 (own_next (own_next (own_next 1 m0) m1) m2) g192 (m2 :: (m1 :: (m0 :: []))) T189.heap n0 z189' f197 f199 (own_nx1 (own_nx1 (own_nx1 (Nat.le_refl 1)))) (by omega) (own_InvTo f194 (own_M_lt (own_nx1 (own_nx1 (own_nx1 (Nat.le_refl 1))))))) hZ (hw _ (List.mem_of_getElem? (i := 47) rfl)) (hw _ (List.mem_of_getElem? (i := 3) rfl)) (by decide) (by decide)) q214a q214c (g := (mkF m 212 #[.val (.int pa), .val (.int pb), .val (.int pc1), .val (.int pd0), .val (.int pe), .val (.int pq), .val (.int w1), .val (.int w2), .val (.int w3), .val (.ref ps), .val (.int (pd0 &&& (3 : Int32))), .val (.ref b110), .val (.int (1 : Int32))] [(.int pq), (.ref b110)])) rfl (by rw [hml]; rfl) (Steps.refl _) (argsL := [(.int pq)]) (rest := []) (lenOf pd_6 rfl) rfl (by show 2 * 0 + _ ≤ _; exact Nat.le_of_eq rfl) (hb hby at_212) (fun _ _ => ⟨rfl, rfl, (by decide : 6 + 0 ≤ _), (by decide : 777 + 0 ≤ _)⟩)
                dsimp only [Pt.U, Pt.locs, Pt.cells, Pt.slots] at X214 l214 y214 z214 st214 hQ214
                subst l214 y214 z214
                obtain ⟨rfl, N214q, e214⟩ := hQ214
                have N214 := Fr.app N189 N214q
                refine own_comes (T214.setTop (mkF m 215 #[.val (.int pa), .val (.int pb), .val (.int pc1), .val (.int pd0), .val (.int pe), .val (.int pq), .val (.int w1), .val (.int w2), .val (.int w3), .val (.ref ps), .val (.int (pd0 &&& (3 : Int32))), .val (.ref b110), .val (.int (1 : Int32))] [(.int (Int32.ofNat (own_cnt (m2 :: (m1 :: (m0 :: []))) 0 (own_M pq (own_next (own_next (own_next 1 m0) m1) m2)))))])) st214 ?_
                refine own_step (T214.setTop (mkF m 217 #[.val (.int pa), .val (.int pb), .val (.int pc1), .val (.int pd0), .val (.int pe), .val (.int pq), .val (.int w1), .val (.int w2), .val (.int w3), .val (.ref ps), .val (.int (pd0 &&& (3 : Int32))), .val (.ref b110), .val (.int (1 : Int32))] [(.int (1 : Int32)), (.int (Int32.ofNat (own_cnt (m2 :: (m1 :: (m0 :: []))) 0 (own_M pq (own_next (own_next (own_next 1 m0) m1) m2)))))])) (fun t₀ k₀ => XS.iload X214.here hx rfl (hb hby at_215) rfl k₀) ?_
                have hk215 : (Int32.ofNat (own_cnt (m2 :: (m1 :: (m0 :: []))) 0 (own_M pq (own_next (own_next (own_next 1 m0) m1) m2)))) = (1 : Int32) := by rw [own_cA (hD201 _ (by simp)) (by omega) hc202, own_cB (hD201 _ (by simp)) (by omega) hc184, own_cA (hD201 _ (by simp)) (by omega) hc166]; rfl
                refine own_step (T214.setTop (mkF m 220 #[.val (.int pa), .val (.int pb), .val (.int pc1), .val (.int pd0), .val (.int pe), .val (.int pq), .val (.int w1), .val (.int w2), .val (.int w3), .val (.ref ps), .val (.int (pd0 &&& (3 : Int32))), .val (.ref b110), .val (.int (1 : Int32))] [])) (fun t₀ k₀ => XS.icmpNo X214.here hx rfl (hb hby at_217) rfl (teq hk215).2 k₀) ?_
                refine own_step (T214.setTop (mkF m 221 #[.val (.int pa), .val (.int pb), .val (.int pc1), .val (.int pd0), .val (.int pe), .val (.int pq), .val (.int w1), .val (.int w2), .val (.int w3), .val (.ref ps), .val (.int (pd0 &&& (3 : Int32))), .val (.ref b110), .val (.int (1 : Int32))] [(.int (1 : Int32))])) (fun t₀ k₀ => XS.iconst X214.here hx rfl (hb hby at_220) k₀) ?_
                refine own_step (T214.setTop (mkF m 225 #[.val (.int pa), .val (.int pb), .val (.int pc1), .val (.int pd0), .val (.int pe), .val (.int pq), .val (.int w1), .val (.int w2), .val (.int w3), .val (.ref ps), .val (.int (pd0 &&& (3 : Int32))), .val (.ref b110), .val (.int (1 : Int32))] [(.int (1 : Int32))])) (fun t₀ k₀ => XS.goto X214.here hx rfl (pc0 := 221) (pc' := 225) rfl (hb hby at_221) (by decide) (by decide) k₀) ?_
                obtain ⟨fs, hr, hrun, hended, hW, hsame⟩ := X214.leave (v := some (.int (1 : Int32))) (fun h => by rw [Bd.returns] at h; cases h)
                refine ⟨_, _, ?_, hrun, hended, _, _, rfl, ?_, ⟨_, rfl⟩, hW, hsame.mono (by decide) (by decide)⟩
                · exact retN X214 hx (t := .boolean) Bd.returns (by simp) (hb hby at_225) hr
                · show Q_rm0 Z pa pb pc1 pd0 pe pq h0 n0 _ T214.heap _
                  rw [e214]
                  exact ⟨rfl, N214⟩
              · skip
                refine own_step (T189.setTop (mkF m 205 #[.val (.int pa), .val (.int pb), .val (.int pc1), .val (.int pd0), .val (.int pe), .val (.int pq), .val (.int w1), .val (.int w2), .val (.int w3), .val (.ref ps), .val (.int (pd0 &&& (3 : Int32))), .val (.ref b110), .val (.int (1 : Int32))] [])) (fun t₀ k₀ => XS.icmpNo X189.here hx rfl (hb hby at_202) rfl (flt hc202).2.2.1 k₀) ?_
                refine own_step (T189.setTop (mkF m 208 #[.val (.int pa), .val (.int pb), .val (.int pc1), .val (.int pd0), .val (.int pe), .val (.int pq), .val (.int w1), .val (.int w2), .val (.int w3), .val (.ref ps), .val (.int (pd0 &&& (3 : Int32))), .val (.ref b110), .val (.int (2 : Int32))] [])) (fun t₀ k₀ => XS.iinc X189.here hx rfl (hb hby at_205) rfl (l' := #[.val (.int pa), .val (.int pb), .val (.int pc1), .val (.int pd0), .val (.int pe), .val (.int pq), .val (.int w1), .val (.int w2), .val (.int w3), .val (.ref ps), .val (.int (pd0 &&& (3 : Int32))), .val (.ref b110), .val (.int (2 : Int32))]) rfl k₀) ?_
                refine own_step (T189.setTop (mkF m 210 #[.val (.int pa), .val (.int pb), .val (.int pc1), .val (.int pd0), .val (.int pe), .val (.int pq), .val (.int w1), .val (.int w2), .val (.int w3), .val (.ref ps), .val (.int (pd0 &&& (3 : Int32))), .val (.ref b110), .val (.int (2 : Int32))] [(.ref b110)])) (fun t₀ k₀ => XS.aload X189.here hx rfl (hb hby at_208) rfl rfl k₀) ?_
                refine own_step (T189.setTop (mkF m 212 #[.val (.int pa), .val (.int pb), .val (.int pc1), .val (.int pd0), .val (.int pe), .val (.int pq), .val (.int w1), .val (.int w2), .val (.int w3), .val (.ref ps), .val (.int (pd0 &&& (3 : Int32))), .val (.ref b110), .val (.int (2 : Int32))] [(.int pq), (.ref b110)])) (fun t₀ k₀ => XS.iload X189.here hx rfl (hb hby at_210) rfl k₀) ?_
                obtain ⟨cq216, kq216, q216a, q216b, q216c⟩ := isOf hZ rfl f196
                obtain ⟨_, _, ⟨T216, L216, k216, n216⟩, -, X216, ⟨Lc216, hQ216, l216, y216, z216⟩, st216⟩ := X189.virtualBack hx (y := (⟨"com/example/syncopate/syncopate/DeletedRows", "through", "(I)I"⟩ : MethodName)) (z := (⟨"com/example/syncopate/syncopate/DeletedRows", "through", "(I)I"⟩ : MethodName)) hown (mvT hZ (hw _ (List.mem_of_getElem? (i := 43) rfl))) (mvT hZ (hw _ (List.mem_of_getElem? (i := 44) rfl))) (notFace_of_selects (args := #[]) (mvT hZ (hw _ (List.mem_of_getElem? (i := 46) rfl)))) (mvT hZ (hw _ (List.mem_of_getElem? (i := 46) rfl))) (mvT hZ (hw _ (List.mem_of_getElem? (i := 45) rfl))) (by decide) (backOf (W := 0) (rm9 l Z a0 hw [] b110 pq ct1190 k1191 (own_next (own_next (own_next 1 m0) m1) m2) g192 (m2 :: (m1 :: (m0 :: []))) T189.heap n0 z189' f197 f199 (own_nx1 (own_nx1 (own_nx1 (Nat.le_refl 1)))) (by omega) (own_InvTo f194 (own_M_lt (own_nx1 (own_nx1 (own_nx1 (Nat.le_refl 1))))))) hZ (hw _ (List.mem_of_getElem? (i := 47) rfl)) (hw _ (List.mem_of_getElem? (i := 3) rfl)) (by decide) (by decide)) q216a q216c (g := (mkF m 212 #[.val (.int pa), .val (.int pb), .val (.int pc1), .val (.int pd0), .val (.int pe), .val (.int pq), .val (.int w1), .val (.int w2), .val (.int w3), .val (.ref ps), .val (.int (pd0 &&& (3 : Int32))), .val (.ref b110), .val (.int (2 : Int32))] [(.int pq), (.ref b110)])) rfl (by rw [hml]; rfl) (Steps.refl _) (argsL := [(.int pq)]) (rest := []) (lenOf pd_6 rfl) rfl (by show 2 * 0 + _ ≤ _; exact Nat.le_of_eq rfl) (hb hby at_212) (fun _ _ => ⟨rfl, rfl, (by decide : 6 + 0 ≤ _), (by decide : 777 + 0 ≤ _)⟩)
                dsimp only [Pt.U, Pt.locs, Pt.cells, Pt.slots] at X216 l216 y216 z216 st216 hQ216
                subst l216 y216 z216
                obtain ⟨rfl, N216q, e216⟩ := hQ216
                have N216 := Fr.app N189 N216q
                refine own_comes (T216.setTop (mkF m 215 #[.val (.int pa), .val (.int pb), .val (.int pc1), .val (.int pd0), .val (.int pe), .val (.int pq), .val (.int w1), .val (.int w2), .val (.int w3), .val (.ref ps), .val (.int (pd0 &&& (3 : Int32))), .val (.ref b110), .val (.int (2 : Int32))] [(.int (Int32.ofNat (own_cnt (m2 :: (m1 :: (m0 :: []))) 0 (own_M pq (own_next (own_next (own_next 1 m0) m1) m2)))))])) st216 ?_
                refine own_step (T216.setTop (mkF m 217 #[.val (.int pa), .val (.int pb), .val (.int pc1), .val (.int pd0), .val (.int pe), .val (.int pq), .val (.int w1), .val (.int w2), .val (.int w3), .val (.ref ps), .val (.int (pd0 &&& (3 : Int32))), .val (.ref b110), .val (.int (2 : Int32))] [(.int (2 : Int32)), (.int (Int32.ofNat (own_cnt (m2 :: (m1 :: (m0 :: []))) 0 (own_M pq (own_next (own_next (own_next 1 m0) m1) m2)))))])) (fun t₀ k₀ => XS.iload X216.here hx rfl (hb hby at_215) rfl k₀) ?_
                have hk217 : (Int32.ofNat (own_cnt (m2 :: (m1 :: (m0 :: []))) 0 (own_M pq (own_next (own_next (own_next 1 m0) m1) m2)))) = (2 : Int32) := by rw [own_cB (hD201 _ (by simp)) (by omega) hc202, own_cB (hD201 _ (by simp)) (by omega) hc184, own_cA (hD201 _ (by simp)) (by omega) hc166]; rfl
                refine own_step (T216.setTop (mkF m 220 #[.val (.int pa), .val (.int pb), .val (.int pc1), .val (.int pd0), .val (.int pe), .val (.int pq), .val (.int w1), .val (.int w2), .val (.int w3), .val (.ref ps), .val (.int (pd0 &&& (3 : Int32))), .val (.ref b110), .val (.int (2 : Int32))] [])) (fun t₀ k₀ => XS.icmpNo X216.here hx rfl (hb hby at_217) rfl (teq hk217).2 k₀) ?_
                refine own_step (T216.setTop (mkF m 221 #[.val (.int pa), .val (.int pb), .val (.int pc1), .val (.int pd0), .val (.int pe), .val (.int pq), .val (.int w1), .val (.int w2), .val (.int w3), .val (.ref ps), .val (.int (pd0 &&& (3 : Int32))), .val (.ref b110), .val (.int (2 : Int32))] [(.int (1 : Int32))])) (fun t₀ k₀ => XS.iconst X216.here hx rfl (hb hby at_220) k₀) ?_
                refine own_step (T216.setTop (mkF m 225 #[.val (.int pa), .val (.int pb), .val (.int pc1), .val (.int pd0), .val (.int pe), .val (.int pq), .val (.int w1), .val (.int w2), .val (.int w3), .val (.ref ps), .val (.int (pd0 &&& (3 : Int32))), .val (.ref b110), .val (.int (2 : Int32))] [(.int (1 : Int32))])) (fun t₀ k₀ => XS.goto X216.here hx rfl (pc0 := 221) (pc' := 225) rfl (hb hby at_221) (by decide) (by decide) k₀) ?_
                obtain ⟨fs, hr, hrun, hended, hW, hsame⟩ := X216.leave (v := some (.int (1 : Int32))) (fun h => by rw [Bd.returns] at h; cases h)
                refine ⟨_, _, ?_, hrun, hended, _, _, rfl, ?_, ⟨_, rfl⟩, hW, hsame.mono (by decide) (by decide)⟩
                · exact retN X216 hx (t := .boolean) Bd.returns (by simp) (hb hby at_225) hr
                · show Q_rm0 Z pa pb pc1 pd0 pe pq h0 n0 _ T216.heap _
                  rw [e216]
                  exact ⟨rfl, N216⟩
          · skip
            refine own_step (T189.setTop (mkF m 169 #[.val (.int pa), .val (.int pb), .val (.int pc1), .val (.int pd0), .val (.int pe), .val (.int pq), .val (.int w1), .val (.int w2), .val (.int w3), .val (.ref ps), .val (.int (pd0 &&& (3 : Int32))), .val (.ref b110), .val (.int (0 : Int32))] [])) (fun t₀ k₀ => XS.icmpNo X189.here hx rfl (hb hby at_166) rfl (flt hc166).2.2.1 k₀) ?_
            refine own_step (T189.setTop (mkF m 172 #[.val (.int pa), .val (.int pb), .val (.int pc1), .val (.int pd0), .val (.int pe), .val (.int pq), .val (.int w1), .val (.int w2), .val (.int w3), .val (.ref ps), .val (.int (pd0 &&& (3 : Int32))), .val (.ref b110), .val (.int (1 : Int32))] [])) (fun t₀ k₀ => XS.iinc X189.here hx rfl (hb hby at_169) rfl (l' := #[.val (.int pa), .val (.int pb), .val (.int pc1), .val (.int pd0), .val (.int pe), .val (.int pq), .val (.int w1), .val (.int w2), .val (.int w3), .val (.ref ps), .val (.int (pd0 &&& (3 : Int32))), .val (.ref b110), .val (.int (1 : Int32))]) rfl k₀) ?_
            refine own_step (T189.setTop (mkF m 174 #[.val (.int pa), .val (.int pb), .val (.int pc1), .val (.int pd0), .val (.int pe), .val (.int pq), .val (.int w1), .val (.int w2), .val (.int w3), .val (.ref ps), .val (.int (pd0 &&& (3 : Int32))), .val (.ref b110), .val (.int (1 : Int32))] [(.int (pd0 &&& (3 : Int32)))])) (fun t₀ k₀ => XS.iload X189.here hx rfl (hb hby at_172) rfl k₀) ?_
            refine own_step (T189.setTop (mkF m 175 #[.val (.int pa), .val (.int pb), .val (.int pc1), .val (.int pd0), .val (.int pe), .val (.int pq), .val (.int w1), .val (.int w2), .val (.int w3), .val (.ref ps), .val (.int (pd0 &&& (3 : Int32))), .val (.ref b110), .val (.int (1 : Int32))] [(.int (2 : Int32)), (.int (pd0 &&& (3 : Int32)))])) (fun t₀ k₀ => XS.iconst X189.here hx rfl (hb hby at_174) k₀) ?_
            have hk218 : ¬ ((pd0 &&& (3 : Int32)) < (2 : Int32)) := hc124
            refine own_step (T189.setTop (mkF m 178 #[.val (.int pa), .val (.int pb), .val (.int pc1), .val (.int pd0), .val (.int pe), .val (.int pq), .val (.int w1), .val (.int w2), .val (.int w3), .val (.ref ps), .val (.int (pd0 &&& (3 : Int32))), .val (.ref b110), .val (.int (1 : Int32))] [])) (fun t₀ k₀ => XS.icmpNo X189.here hx rfl (hb hby at_175) rfl (flt hk218).1 k₀) ?_
            refine own_step (T189.setTop (mkF m 180 #[.val (.int pa), .val (.int pb), .val (.int pc1), .val (.int pd0), .val (.int pe), .val (.int pq), .val (.int w1), .val (.int w2), .val (.int w3), .val (.ref ps), .val (.int (pd0 &&& (3 : Int32))), .val (.ref b110), .val (.int (1 : Int32))] [(.ref ps)])) (fun t₀ k₀ => XS.aload X189.here hx rfl (hb hby at_178) rfl rfl k₀) ?_
            refine own_step (T189.setTop (mkF m 181 #[.val (.int pa), .val (.int pb), .val (.int pc1), .val (.int pd0), .val (.int pe), .val (.int pq), .val (.int w1), .val (.int w2), .val (.int w3), .val (.ref ps), .val (.int (pd0 &&& (3 : Int32))), .val (.ref b110), .val (.int (1 : Int32))] [(.int (1 : Int32)), (.ref ps)])) (fun t₀ k₀ => XS.iconst X189.here hx rfl (hb hby at_180) k₀) ?_
            obtain ⟨clo219, Aro219, qo219, So219, Mo219, Ho219, Go219⟩ := id f200
            have hino219 : ¬ ((1 : Int32) < 0 ∨ clo219.slots.size ≤ ((1 : Int32)).toNatClampNeg) := inb_of So219 ⟨by decide, by decide⟩
            have hato219 : clo219.slots[((1 : Int32)).toNatClampNeg]? = some (.int (Int32.ofNat m1)) := Has.at Ho219 hino219 rfl
            refine own_step (T189.setTop (mkF m 182 #[.val (.int pa), .val (.int pb), .val (.int pc1), .val (.int pd0), .val (.int pe), .val (.int pq), .val (.int w1), .val (.int w2), .val (.int w3), .val (.ref ps), .val (.int (pd0 &&& (3 : Int32))), .val (.ref b110), .val (.int (1 : Int32))] [(.int (Int32.ofNat m1))])) (fun t₀ k₀ => X189.iaload hx (j := (1 : Int32)) (v := (.int (Int32.ofNat m1))) Aro219.1 (State.isArrayOf_alike hZ.alike Aro219.2.1) Aro219.2.2 hino219 hato219 (g := (mkF m 181 #[.val (.int pa), .val (.int pb), .val (.int pc1), .val (.int pd0), .val (.int pe), .val (.int pq), .val (.int w1), .val (.int w2), .val (.int w3), .val (.ref ps), .val (.int (pd0 &&& (3 : Int32))), .val (.ref b110), .val (.int (1 : Int32))] [(.int (1 : Int32)), (.ref ps)])) rfl rfl (hb hby at_181) _ k₀) ?_
            refine own_step (T189.setTop (mkF m 184 #[.val (.int pa), .val (.int pb), .val (.int pc1), .val (.int pd0), .val (.int pe), .val (.int pq), .val (.int w1), .val (.int w2), .val (.int w3), .val (.ref ps), .val (.int (pd0 &&& (3 : Int32))), .val (.ref b110), .val (.int (1 : Int32))] [(.int pq), (.int (Int32.ofNat m1))])) (fun t₀ k₀ => XS.iload X189.here hx rfl (hb hby at_182) rfl k₀) ?_
            by_cases hc184 : pq < (Int32.ofNat m1)
            · skip
              refine own_step (T189.setTop (mkF m 190 #[.val (.int pa), .val (.int pb), .val (.int pc1), .val (.int pd0), .val (.int pe), .val (.int pq), .val (.int w1), .val (.int w2), .val (.int w3), .val (.ref ps), .val (.int (pd0 &&& (3 : Int32))), .val (.ref b110), .val (.int (1 : Int32))] [])) (fun t₀ k₀ => XS.icmpYes X189.here hx rfl (pc0 := 184) (pc' := 190) rfl (hb hby at_184) rfl (tlt hc184).2.2.1 (by decide) (by decide) k₀) ?_
              refine own_step (T189.setTop (mkF m 192 #[.val (.int pa), .val (.int pb), .val (.int pc1), .val (.int pd0), .val (.int pe), .val (.int pq), .val (.int w1), .val (.int w2), .val (.int w3), .val (.ref ps), .val (.int (pd0 &&& (3 : Int32))), .val (.ref b110), .val (.int (1 : Int32))] [(.int (pd0 &&& (3 : Int32)))])) (fun t₀ k₀ => XS.iload X189.here hx rfl (hb hby at_190) rfl k₀) ?_
              refine own_step (T189.setTop (mkF m 193 #[.val (.int pa), .val (.int pb), .val (.int pc1), .val (.int pd0), .val (.int pe), .val (.int pq), .val (.int w1), .val (.int w2), .val (.int w3), .val (.ref ps), .val (.int (pd0 &&& (3 : Int32))), .val (.ref b110), .val (.int (1 : Int32))] [(.int (3 : Int32)), (.int (pd0 &&& (3 : Int32)))])) (fun t₀ k₀ => XS.iconst X189.here hx rfl (hb hby at_192) k₀) ?_
              have hk220 : ¬ ((pd0 &&& (3 : Int32)) < (3 : Int32)) := hc139
              refine own_step (T189.setTop (mkF m 196 #[.val (.int pa), .val (.int pb), .val (.int pc1), .val (.int pd0), .val (.int pe), .val (.int pq), .val (.int w1), .val (.int w2), .val (.int w3), .val (.ref ps), .val (.int (pd0 &&& (3 : Int32))), .val (.ref b110), .val (.int (1 : Int32))] [])) (fun t₀ k₀ => XS.icmpNo X189.here hx rfl (hb hby at_193) rfl (flt hk220).1 k₀) ?_
              refine own_step (T189.setTop (mkF m 198 #[.val (.int pa), .val (.int pb), .val (.int pc1), .val (.int pd0), .val (.int pe), .val (.int pq), .val (.int w1), .val (.int w2), .val (.int w3), .val (.ref ps), .val (.int (pd0 &&& (3 : Int32))), .val (.ref b110), .val (.int (1 : Int32))] [(.ref ps)])) (fun t₀ k₀ => XS.aload X189.here hx rfl (hb hby at_196) rfl rfl k₀) ?_
              refine own_step (T189.setTop (mkF m 199 #[.val (.int pa), .val (.int pb), .val (.int pc1), .val (.int pd0), .val (.int pe), .val (.int pq), .val (.int w1), .val (.int w2), .val (.int w3), .val (.ref ps), .val (.int (pd0 &&& (3 : Int32))), .val (.ref b110), .val (.int (1 : Int32))] [(.int (2 : Int32)), (.ref ps)])) (fun t₀ k₀ => XS.iconst X189.here hx rfl (hb hby at_198) k₀) ?_
              obtain ⟨clo221, Aro221, qo221, So221, Mo221, Ho221, Go221⟩ := id f200
              have hino221 : ¬ ((2 : Int32) < 0 ∨ clo221.slots.size ≤ ((2 : Int32)).toNatClampNeg) := inb_of So221 ⟨by decide, by decide⟩
              have hato221 : clo221.slots[((2 : Int32)).toNatClampNeg]? = some (.int (Int32.ofNat m2)) := Has.at Ho221 hino221 rfl
              refine own_step (T189.setTop (mkF m 200 #[.val (.int pa), .val (.int pb), .val (.int pc1), .val (.int pd0), .val (.int pe), .val (.int pq), .val (.int w1), .val (.int w2), .val (.int w3), .val (.ref ps), .val (.int (pd0 &&& (3 : Int32))), .val (.ref b110), .val (.int (1 : Int32))] [(.int (Int32.ofNat m2))])) (fun t₀ k₀ => X189.iaload hx (j := (2 : Int32)) (v := (.int (Int32.ofNat m2))) Aro221.1 (State.isArrayOf_alike hZ.alike Aro221.2.1) Aro221.2.2 hino221 hato221 (g := (mkF m 199 #[.val (.int pa), .val (.int pb), .val (.int pc1), .val (.int pd0), .val (.int pe), .val (.int pq), .val (.int w1), .val (.int w2), .val (.int w3), .val (.ref ps), .val (.int (pd0 &&& (3 : Int32))), .val (.ref b110), .val (.int (1 : Int32))] [(.int (2 : Int32)), (.ref ps)])) rfl rfl (hb hby at_199) _ k₀) ?_
              refine own_step (T189.setTop (mkF m 202 #[.val (.int pa), .val (.int pb), .val (.int pc1), .val (.int pd0), .val (.int pe), .val (.int pq), .val (.int w1), .val (.int w2), .val (.int w3), .val (.ref ps), .val (.int (pd0 &&& (3 : Int32))), .val (.ref b110), .val (.int (1 : Int32))] [(.int pq), (.int (Int32.ofNat m2))])) (fun t₀ k₀ => XS.iload X189.here hx rfl (hb hby at_200) rfl k₀) ?_
              by_cases hc202 : pq < (Int32.ofNat m2)
              · skip
                refine own_step (T189.setTop (mkF m 208 #[.val (.int pa), .val (.int pb), .val (.int pc1), .val (.int pd0), .val (.int pe), .val (.int pq), .val (.int w1), .val (.int w2), .val (.int w3), .val (.ref ps), .val (.int (pd0 &&& (3 : Int32))), .val (.ref b110), .val (.int (1 : Int32))] [])) (fun t₀ k₀ => XS.icmpYes X189.here hx rfl (pc0 := 202) (pc' := 208) rfl (hb hby at_202) rfl (tlt hc202).2.2.1 (by decide) (by decide) k₀) ?_
                refine own_step (T189.setTop (mkF m 210 #[.val (.int pa), .val (.int pb), .val (.int pc1), .val (.int pd0), .val (.int pe), .val (.int pq), .val (.int w1), .val (.int w2), .val (.int w3), .val (.ref ps), .val (.int (pd0 &&& (3 : Int32))), .val (.ref b110), .val (.int (1 : Int32))] [(.ref b110)])) (fun t₀ k₀ => XS.aload X189.here hx rfl (hb hby at_208) rfl rfl k₀) ?_
                refine own_step (T189.setTop (mkF m 212 #[.val (.int pa), .val (.int pb), .val (.int pc1), .val (.int pd0), .val (.int pe), .val (.int pq), .val (.int w1), .val (.int w2), .val (.int w3), .val (.ref ps), .val (.int (pd0 &&& (3 : Int32))), .val (.ref b110), .val (.int (1 : Int32))] [(.int pq), (.ref b110)])) (fun t₀ k₀ => XS.iload X189.here hx rfl (hb hby at_210) rfl k₀) ?_
                obtain ⟨cq222, kq222, q222a, q222b, q222c⟩ := isOf hZ rfl f196
                obtain ⟨_, _, ⟨T222, L222, k222, n222⟩, -, X222, ⟨Lc222, hQ222, l222, y222, z222⟩, st222⟩ := X189.virtualBack hx (y := (⟨"com/example/syncopate/syncopate/DeletedRows", "through", "(I)I"⟩ : MethodName)) (z := (⟨"com/example/syncopate/syncopate/DeletedRows", "through", "(I)I"⟩ : MethodName)) hown (mvT hZ (hw _ (List.mem_of_getElem? (i := 43) rfl))) (mvT hZ (hw _ (List.mem_of_getElem? (i := 44) rfl))) (notFace_of_selects (args := #[]) (mvT hZ (hw _ (List.mem_of_getElem? (i := 46) rfl)))) (mvT hZ (hw _ (List.mem_of_getElem? (i := 46) rfl))) (mvT hZ (hw _ (List.mem_of_getElem? (i := 45) rfl))) (by decide) (backOf (W := 0) (rm9 l Z a0 hw [] b110 pq ct1190 k1191 (own_next (own_next (own_next 1 m0) m1) m2) g192 (m2 :: (m1 :: (m0 :: []))) T189.heap n0 z189' f197 f199 (own_nx1 (own_nx1 (own_nx1 (Nat.le_refl 1)))) (by omega) (own_InvTo f194 (own_M_lt (own_nx1 (own_nx1 (own_nx1 (Nat.le_refl 1))))))) hZ (hw _ (List.mem_of_getElem? (i := 47) rfl)) (hw _ (List.mem_of_getElem? (i := 3) rfl)) (by decide) (by decide)) q222a q222c (g := (mkF m 212 #[.val (.int pa), .val (.int pb), .val (.int pc1), .val (.int pd0), .val (.int pe), .val (.int pq), .val (.int w1), .val (.int w2), .val (.int w3), .val (.ref ps), .val (.int (pd0 &&& (3 : Int32))), .val (.ref b110), .val (.int (1 : Int32))] [(.int pq), (.ref b110)])) rfl (by rw [hml]; rfl) (Steps.refl _) (argsL := [(.int pq)]) (rest := []) (lenOf pd_6 rfl) rfl (by show 2 * 0 + _ ≤ _; exact Nat.le_of_eq rfl) (hb hby at_212) (fun _ _ => ⟨rfl, rfl, (by decide : 6 + 0 ≤ _), (by decide : 777 + 0 ≤ _)⟩)
                dsimp only [Pt.U, Pt.locs, Pt.cells, Pt.slots] at X222 l222 y222 z222 st222 hQ222
                subst l222 y222 z222
                obtain ⟨rfl, N222q, e222⟩ := hQ222
                have N222 := Fr.app N189 N222q
                refine own_comes (T222.setTop (mkF m 215 #[.val (.int pa), .val (.int pb), .val (.int pc1), .val (.int pd0), .val (.int pe), .val (.int pq), .val (.int w1), .val (.int w2), .val (.int w3), .val (.ref ps), .val (.int (pd0 &&& (3 : Int32))), .val (.ref b110), .val (.int (1 : Int32))] [(.int (Int32.ofNat (own_cnt (m2 :: (m1 :: (m0 :: []))) 0 (own_M pq (own_next (own_next (own_next 1 m0) m1) m2)))))])) st222 ?_
                refine own_step (T222.setTop (mkF m 217 #[.val (.int pa), .val (.int pb), .val (.int pc1), .val (.int pd0), .val (.int pe), .val (.int pq), .val (.int w1), .val (.int w2), .val (.int w3), .val (.ref ps), .val (.int (pd0 &&& (3 : Int32))), .val (.ref b110), .val (.int (1 : Int32))] [(.int (1 : Int32)), (.int (Int32.ofNat (own_cnt (m2 :: (m1 :: (m0 :: []))) 0 (own_M pq (own_next (own_next (own_next 1 m0) m1) m2)))))])) (fun t₀ k₀ => XS.iload X222.here hx rfl (hb hby at_215) rfl k₀) ?_
                have hk223 : (Int32.ofNat (own_cnt (m2 :: (m1 :: (m0 :: []))) 0 (own_M pq (own_next (own_next (own_next 1 m0) m1) m2)))) = (1 : Int32) := by rw [own_cA (hD201 _ (by simp)) (by omega) hc202, own_cA (hD201 _ (by simp)) (by omega) hc184, own_cB (hD201 _ (by simp)) (by omega) hc166]; rfl
                refine own_step (T222.setTop (mkF m 220 #[.val (.int pa), .val (.int pb), .val (.int pc1), .val (.int pd0), .val (.int pe), .val (.int pq), .val (.int w1), .val (.int w2), .val (.int w3), .val (.ref ps), .val (.int (pd0 &&& (3 : Int32))), .val (.ref b110), .val (.int (1 : Int32))] [])) (fun t₀ k₀ => XS.icmpNo X222.here hx rfl (hb hby at_217) rfl (teq hk223).2 k₀) ?_
                refine own_step (T222.setTop (mkF m 221 #[.val (.int pa), .val (.int pb), .val (.int pc1), .val (.int pd0), .val (.int pe), .val (.int pq), .val (.int w1), .val (.int w2), .val (.int w3), .val (.ref ps), .val (.int (pd0 &&& (3 : Int32))), .val (.ref b110), .val (.int (1 : Int32))] [(.int (1 : Int32))])) (fun t₀ k₀ => XS.iconst X222.here hx rfl (hb hby at_220) k₀) ?_
                refine own_step (T222.setTop (mkF m 225 #[.val (.int pa), .val (.int pb), .val (.int pc1), .val (.int pd0), .val (.int pe), .val (.int pq), .val (.int w1), .val (.int w2), .val (.int w3), .val (.ref ps), .val (.int (pd0 &&& (3 : Int32))), .val (.ref b110), .val (.int (1 : Int32))] [(.int (1 : Int32))])) (fun t₀ k₀ => XS.goto X222.here hx rfl (pc0 := 221) (pc' := 225) rfl (hb hby at_221) (by decide) (by decide) k₀) ?_
                obtain ⟨fs, hr, hrun, hended, hW, hsame⟩ := X222.leave (v := some (.int (1 : Int32))) (fun h => by rw [Bd.returns] at h; cases h)
                refine ⟨_, _, ?_, hrun, hended, _, _, rfl, ?_, ⟨_, rfl⟩, hW, hsame.mono (by decide) (by decide)⟩
                · exact retN X222 hx (t := .boolean) Bd.returns (by simp) (hb hby at_225) hr
                · show Q_rm0 Z pa pb pc1 pd0 pe pq h0 n0 _ T222.heap _
                  rw [e222]
                  exact ⟨rfl, N222⟩
              · skip
                refine own_step (T189.setTop (mkF m 205 #[.val (.int pa), .val (.int pb), .val (.int pc1), .val (.int pd0), .val (.int pe), .val (.int pq), .val (.int w1), .val (.int w2), .val (.int w3), .val (.ref ps), .val (.int (pd0 &&& (3 : Int32))), .val (.ref b110), .val (.int (1 : Int32))] [])) (fun t₀ k₀ => XS.icmpNo X189.here hx rfl (hb hby at_202) rfl (flt hc202).2.2.1 k₀) ?_
                refine own_step (T189.setTop (mkF m 208 #[.val (.int pa), .val (.int pb), .val (.int pc1), .val (.int pd0), .val (.int pe), .val (.int pq), .val (.int w1), .val (.int w2), .val (.int w3), .val (.ref ps), .val (.int (pd0 &&& (3 : Int32))), .val (.ref b110), .val (.int (2 : Int32))] [])) (fun t₀ k₀ => XS.iinc X189.here hx rfl (hb hby at_205) rfl (l' := #[.val (.int pa), .val (.int pb), .val (.int pc1), .val (.int pd0), .val (.int pe), .val (.int pq), .val (.int w1), .val (.int w2), .val (.int w3), .val (.ref ps), .val (.int (pd0 &&& (3 : Int32))), .val (.ref b110), .val (.int (2 : Int32))]) rfl k₀) ?_
                refine own_step (T189.setTop (mkF m 210 #[.val (.int pa), .val (.int pb), .val (.int pc1), .val (.int pd0), .val (.int pe), .val (.int pq), .val (.int w1), .val (.int w2), .val (.int w3), .val (.ref ps), .val (.int (pd0 &&& (3 : Int32))), .val (.ref b110), .val (.int (2 : Int32))] [(.ref b110)])) (fun t₀ k₀ => XS.aload X189.here hx rfl (hb hby at_208) rfl rfl k₀) ?_
                refine own_step (T189.setTop (mkF m 212 #[.val (.int pa), .val (.int pb), .val (.int pc1), .val (.int pd0), .val (.int pe), .val (.int pq), .val (.int w1), .val (.int w2), .val (.int w3), .val (.ref ps), .val (.int (pd0 &&& (3 : Int32))), .val (.ref b110), .val (.int (2 : Int32))] [(.int pq), (.ref b110)])) (fun t₀ k₀ => XS.iload X189.here hx rfl (hb hby at_210) rfl k₀) ?_
                obtain ⟨cq224, kq224, q224a, q224b, q224c⟩ := isOf hZ rfl f196
                obtain ⟨_, _, ⟨T224, L224, k224, n224⟩, -, X224, ⟨Lc224, hQ224, l224, y224, z224⟩, st224⟩ := X189.virtualBack hx (y := (⟨"com/example/syncopate/syncopate/DeletedRows", "through", "(I)I"⟩ : MethodName)) (z := (⟨"com/example/syncopate/syncopate/DeletedRows", "through", "(I)I"⟩ : MethodName)) hown (mvT hZ (hw _ (List.mem_of_getElem? (i := 43) rfl))) (mvT hZ (hw _ (List.mem_of_getElem? (i := 44) rfl))) (notFace_of_selects (args := #[]) (mvT hZ (hw _ (List.mem_of_getElem? (i := 46) rfl)))) (mvT hZ (hw _ (List.mem_of_getElem? (i := 46) rfl))) (mvT hZ (hw _ (List.mem_of_getElem? (i := 45) rfl))) (by decide) (backOf (W := 0) (rm9 l Z a0 hw [] b110 pq ct1190 k1191 (own_next (own_next (own_next 1 m0) m1) m2) g192 (m2 :: (m1 :: (m0 :: []))) T189.heap n0 z189' f197 f199 (own_nx1 (own_nx1 (own_nx1 (Nat.le_refl 1)))) (by omega) (own_InvTo f194 (own_M_lt (own_nx1 (own_nx1 (own_nx1 (Nat.le_refl 1))))))) hZ (hw _ (List.mem_of_getElem? (i := 47) rfl)) (hw _ (List.mem_of_getElem? (i := 3) rfl)) (by decide) (by decide)) q224a q224c (g := (mkF m 212 #[.val (.int pa), .val (.int pb), .val (.int pc1), .val (.int pd0), .val (.int pe), .val (.int pq), .val (.int w1), .val (.int w2), .val (.int w3), .val (.ref ps), .val (.int (pd0 &&& (3 : Int32))), .val (.ref b110), .val (.int (2 : Int32))] [(.int pq), (.ref b110)])) rfl (by rw [hml]; rfl) (Steps.refl _) (argsL := [(.int pq)]) (rest := []) (lenOf pd_6 rfl) rfl (by show 2 * 0 + _ ≤ _; exact Nat.le_of_eq rfl) (hb hby at_212) (fun _ _ => ⟨rfl, rfl, (by decide : 6 + 0 ≤ _), (by decide : 777 + 0 ≤ _)⟩)
                dsimp only [Pt.U, Pt.locs, Pt.cells, Pt.slots] at X224 l224 y224 z224 st224 hQ224
                subst l224 y224 z224
                obtain ⟨rfl, N224q, e224⟩ := hQ224
                have N224 := Fr.app N189 N224q
                refine own_comes (T224.setTop (mkF m 215 #[.val (.int pa), .val (.int pb), .val (.int pc1), .val (.int pd0), .val (.int pe), .val (.int pq), .val (.int w1), .val (.int w2), .val (.int w3), .val (.ref ps), .val (.int (pd0 &&& (3 : Int32))), .val (.ref b110), .val (.int (2 : Int32))] [(.int (Int32.ofNat (own_cnt (m2 :: (m1 :: (m0 :: []))) 0 (own_M pq (own_next (own_next (own_next 1 m0) m1) m2)))))])) st224 ?_
                refine own_step (T224.setTop (mkF m 217 #[.val (.int pa), .val (.int pb), .val (.int pc1), .val (.int pd0), .val (.int pe), .val (.int pq), .val (.int w1), .val (.int w2), .val (.int w3), .val (.ref ps), .val (.int (pd0 &&& (3 : Int32))), .val (.ref b110), .val (.int (2 : Int32))] [(.int (2 : Int32)), (.int (Int32.ofNat (own_cnt (m2 :: (m1 :: (m0 :: []))) 0 (own_M pq (own_next (own_next (own_next 1 m0) m1) m2)))))])) (fun t₀ k₀ => XS.iload X224.here hx rfl (hb hby at_215) rfl k₀) ?_
                have hk225 : (Int32.ofNat (own_cnt (m2 :: (m1 :: (m0 :: []))) 0 (own_M pq (own_next (own_next (own_next 1 m0) m1) m2)))) = (2 : Int32) := by rw [own_cB (hD201 _ (by simp)) (by omega) hc202, own_cA (hD201 _ (by simp)) (by omega) hc184, own_cB (hD201 _ (by simp)) (by omega) hc166]; rfl
                refine own_step (T224.setTop (mkF m 220 #[.val (.int pa), .val (.int pb), .val (.int pc1), .val (.int pd0), .val (.int pe), .val (.int pq), .val (.int w1), .val (.int w2), .val (.int w3), .val (.ref ps), .val (.int (pd0 &&& (3 : Int32))), .val (.ref b110), .val (.int (2 : Int32))] [])) (fun t₀ k₀ => XS.icmpNo X224.here hx rfl (hb hby at_217) rfl (teq hk225).2 k₀) ?_
                refine own_step (T224.setTop (mkF m 221 #[.val (.int pa), .val (.int pb), .val (.int pc1), .val (.int pd0), .val (.int pe), .val (.int pq), .val (.int w1), .val (.int w2), .val (.int w3), .val (.ref ps), .val (.int (pd0 &&& (3 : Int32))), .val (.ref b110), .val (.int (2 : Int32))] [(.int (1 : Int32))])) (fun t₀ k₀ => XS.iconst X224.here hx rfl (hb hby at_220) k₀) ?_
                refine own_step (T224.setTop (mkF m 225 #[.val (.int pa), .val (.int pb), .val (.int pc1), .val (.int pd0), .val (.int pe), .val (.int pq), .val (.int w1), .val (.int w2), .val (.int w3), .val (.ref ps), .val (.int (pd0 &&& (3 : Int32))), .val (.ref b110), .val (.int (2 : Int32))] [(.int (1 : Int32))])) (fun t₀ k₀ => XS.goto X224.here hx rfl (pc0 := 221) (pc' := 225) rfl (hb hby at_221) (by decide) (by decide) k₀) ?_
                obtain ⟨fs, hr, hrun, hended, hW, hsame⟩ := X224.leave (v := some (.int (1 : Int32))) (fun h => by rw [Bd.returns] at h; cases h)
                refine ⟨_, _, ?_, hrun, hended, _, _, rfl, ?_, ⟨_, rfl⟩, hW, hsame.mono (by decide) (by decide)⟩
                · exact retN X224 hx (t := .boolean) Bd.returns (by simp) (hb hby at_225) hr
                · show Q_rm0 Z pa pb pc1 pd0 pe pq h0 n0 _ T224.heap _
                  rw [e224]
                  exact ⟨rfl, N224⟩
            · skip
              refine own_step (T189.setTop (mkF m 187 #[.val (.int pa), .val (.int pb), .val (.int pc1), .val (.int pd0), .val (.int pe), .val (.int pq), .val (.int w1), .val (.int w2), .val (.int w3), .val (.ref ps), .val (.int (pd0 &&& (3 : Int32))), .val (.ref b110), .val (.int (1 : Int32))] [])) (fun t₀ k₀ => XS.icmpNo X189.here hx rfl (hb hby at_184) rfl (flt hc184).2.2.1 k₀) ?_
              refine own_step (T189.setTop (mkF m 190 #[.val (.int pa), .val (.int pb), .val (.int pc1), .val (.int pd0), .val (.int pe), .val (.int pq), .val (.int w1), .val (.int w2), .val (.int w3), .val (.ref ps), .val (.int (pd0 &&& (3 : Int32))), .val (.ref b110), .val (.int (2 : Int32))] [])) (fun t₀ k₀ => XS.iinc X189.here hx rfl (hb hby at_187) rfl (l' := #[.val (.int pa), .val (.int pb), .val (.int pc1), .val (.int pd0), .val (.int pe), .val (.int pq), .val (.int w1), .val (.int w2), .val (.int w3), .val (.ref ps), .val (.int (pd0 &&& (3 : Int32))), .val (.ref b110), .val (.int (2 : Int32))]) rfl k₀) ?_
              refine own_step (T189.setTop (mkF m 192 #[.val (.int pa), .val (.int pb), .val (.int pc1), .val (.int pd0), .val (.int pe), .val (.int pq), .val (.int w1), .val (.int w2), .val (.int w3), .val (.ref ps), .val (.int (pd0 &&& (3 : Int32))), .val (.ref b110), .val (.int (2 : Int32))] [(.int (pd0 &&& (3 : Int32)))])) (fun t₀ k₀ => XS.iload X189.here hx rfl (hb hby at_190) rfl k₀) ?_
              refine own_step (T189.setTop (mkF m 193 #[.val (.int pa), .val (.int pb), .val (.int pc1), .val (.int pd0), .val (.int pe), .val (.int pq), .val (.int w1), .val (.int w2), .val (.int w3), .val (.ref ps), .val (.int (pd0 &&& (3 : Int32))), .val (.ref b110), .val (.int (2 : Int32))] [(.int (3 : Int32)), (.int (pd0 &&& (3 : Int32)))])) (fun t₀ k₀ => XS.iconst X189.here hx rfl (hb hby at_192) k₀) ?_
              have hk226 : ¬ ((pd0 &&& (3 : Int32)) < (3 : Int32)) := hc139
              refine own_step (T189.setTop (mkF m 196 #[.val (.int pa), .val (.int pb), .val (.int pc1), .val (.int pd0), .val (.int pe), .val (.int pq), .val (.int w1), .val (.int w2), .val (.int w3), .val (.ref ps), .val (.int (pd0 &&& (3 : Int32))), .val (.ref b110), .val (.int (2 : Int32))] [])) (fun t₀ k₀ => XS.icmpNo X189.here hx rfl (hb hby at_193) rfl (flt hk226).1 k₀) ?_
              refine own_step (T189.setTop (mkF m 198 #[.val (.int pa), .val (.int pb), .val (.int pc1), .val (.int pd0), .val (.int pe), .val (.int pq), .val (.int w1), .val (.int w2), .val (.int w3), .val (.ref ps), .val (.int (pd0 &&& (3 : Int32))), .val (.ref b110), .val (.int (2 : Int32))] [(.ref ps)])) (fun t₀ k₀ => XS.aload X189.here hx rfl (hb hby at_196) rfl rfl k₀) ?_
              refine own_step (T189.setTop (mkF m 199 #[.val (.int pa), .val (.int pb), .val (.int pc1), .val (.int pd0), .val (.int pe), .val (.int pq), .val (.int w1), .val (.int w2), .val (.int w3), .val (.ref ps), .val (.int (pd0 &&& (3 : Int32))), .val (.ref b110), .val (.int (2 : Int32))] [(.int (2 : Int32)), (.ref ps)])) (fun t₀ k₀ => XS.iconst X189.here hx rfl (hb hby at_198) k₀) ?_
              obtain ⟨clo227, Aro227, qo227, So227, Mo227, Ho227, Go227⟩ := id f200
              have hino227 : ¬ ((2 : Int32) < 0 ∨ clo227.slots.size ≤ ((2 : Int32)).toNatClampNeg) := inb_of So227 ⟨by decide, by decide⟩
              have hato227 : clo227.slots[((2 : Int32)).toNatClampNeg]? = some (.int (Int32.ofNat m2)) := Has.at Ho227 hino227 rfl
              refine own_step (T189.setTop (mkF m 200 #[.val (.int pa), .val (.int pb), .val (.int pc1), .val (.int pd0), .val (.int pe), .val (.int pq), .val (.int w1), .val (.int w2), .val (.int w3), .val (.ref ps), .val (.int (pd0 &&& (3 : Int32))), .val (.ref b110), .val (.int (2 : Int32))] [(.int (Int32.ofNat m2))])) (fun t₀ k₀ => X189.iaload hx (j := (2 : Int32)) (v := (.int (Int32.ofNat m2))) Aro227.1 (State.isArrayOf_alike hZ.alike Aro227.2.1) Aro227.2.2 hino227 hato227 (g := (mkF m 199 #[.val (.int pa), .val (.int pb), .val (.int pc1), .val (.int pd0), .val (.int pe), .val (.int pq), .val (.int w1), .val (.int w2), .val (.int w3), .val (.ref ps), .val (.int (pd0 &&& (3 : Int32))), .val (.ref b110), .val (.int (2 : Int32))] [(.int (2 : Int32)), (.ref ps)])) rfl rfl (hb hby at_199) _ k₀) ?_
              refine own_step (T189.setTop (mkF m 202 #[.val (.int pa), .val (.int pb), .val (.int pc1), .val (.int pd0), .val (.int pe), .val (.int pq), .val (.int w1), .val (.int w2), .val (.int w3), .val (.ref ps), .val (.int (pd0 &&& (3 : Int32))), .val (.ref b110), .val (.int (2 : Int32))] [(.int pq), (.int (Int32.ofNat m2))])) (fun t₀ k₀ => XS.iload X189.here hx rfl (hb hby at_200) rfl k₀) ?_
              by_cases hc202 : pq < (Int32.ofNat m2)
              · skip
                refine own_step (T189.setTop (mkF m 208 #[.val (.int pa), .val (.int pb), .val (.int pc1), .val (.int pd0), .val (.int pe), .val (.int pq), .val (.int w1), .val (.int w2), .val (.int w3), .val (.ref ps), .val (.int (pd0 &&& (3 : Int32))), .val (.ref b110), .val (.int (2 : Int32))] [])) (fun t₀ k₀ => XS.icmpYes X189.here hx rfl (pc0 := 202) (pc' := 208) rfl (hb hby at_202) rfl (tlt hc202).2.2.1 (by decide) (by decide) k₀) ?_
                refine own_step (T189.setTop (mkF m 210 #[.val (.int pa), .val (.int pb), .val (.int pc1), .val (.int pd0), .val (.int pe), .val (.int pq), .val (.int w1), .val (.int w2), .val (.int w3), .val (.ref ps), .val (.int (pd0 &&& (3 : Int32))), .val (.ref b110), .val (.int (2 : Int32))] [(.ref b110)])) (fun t₀ k₀ => XS.aload X189.here hx rfl (hb hby at_208) rfl rfl k₀) ?_
                refine own_step (T189.setTop (mkF m 212 #[.val (.int pa), .val (.int pb), .val (.int pc1), .val (.int pd0), .val (.int pe), .val (.int pq), .val (.int w1), .val (.int w2), .val (.int w3), .val (.ref ps), .val (.int (pd0 &&& (3 : Int32))), .val (.ref b110), .val (.int (2 : Int32))] [(.int pq), (.ref b110)])) (fun t₀ k₀ => XS.iload X189.here hx rfl (hb hby at_210) rfl k₀) ?_
                obtain ⟨cq228, kq228, q228a, q228b, q228c⟩ := isOf hZ rfl f196
                obtain ⟨_, _, ⟨T228, L228, k228, n228⟩, -, X228, ⟨Lc228, hQ228, l228, y228, z228⟩, st228⟩ := X189.virtualBack hx (y := (⟨"com/example/syncopate/syncopate/DeletedRows", "through", "(I)I"⟩ : MethodName)) (z := (⟨"com/example/syncopate/syncopate/DeletedRows", "through", "(I)I"⟩ : MethodName)) hown (mvT hZ (hw _ (List.mem_of_getElem? (i := 43) rfl))) (mvT hZ (hw _ (List.mem_of_getElem? (i := 44) rfl))) (notFace_of_selects (args := #[]) (mvT hZ (hw _ (List.mem_of_getElem? (i := 46) rfl)))) (mvT hZ (hw _ (List.mem_of_getElem? (i := 46) rfl))) (mvT hZ (hw _ (List.mem_of_getElem? (i := 45) rfl))) (by decide) (backOf (W := 0) (rm9 l Z a0 hw [] b110 pq ct1190 k1191 (own_next (own_next (own_next 1 m0) m1) m2) g192 (m2 :: (m1 :: (m0 :: []))) T189.heap n0 z189' f197 f199 (own_nx1 (own_nx1 (own_nx1 (Nat.le_refl 1)))) (by omega) (own_InvTo f194 (own_M_lt (own_nx1 (own_nx1 (own_nx1 (Nat.le_refl 1))))))) hZ (hw _ (List.mem_of_getElem? (i := 47) rfl)) (hw _ (List.mem_of_getElem? (i := 3) rfl)) (by decide) (by decide)) q228a q228c (g := (mkF m 212 #[.val (.int pa), .val (.int pb), .val (.int pc1), .val (.int pd0), .val (.int pe), .val (.int pq), .val (.int w1), .val (.int w2), .val (.int w3), .val (.ref ps), .val (.int (pd0 &&& (3 : Int32))), .val (.ref b110), .val (.int (2 : Int32))] [(.int pq), (.ref b110)])) rfl (by rw [hml]; rfl) (Steps.refl _) (argsL := [(.int pq)]) (rest := []) (lenOf pd_6 rfl) rfl (by show 2 * 0 + _ ≤ _; exact Nat.le_of_eq rfl) (hb hby at_212) (fun _ _ => ⟨rfl, rfl, (by decide : 6 + 0 ≤ _), (by decide : 777 + 0 ≤ _)⟩)
                dsimp only [Pt.U, Pt.locs, Pt.cells, Pt.slots] at X228 l228 y228 z228 st228 hQ228
                subst l228 y228 z228
                obtain ⟨rfl, N228q, e228⟩ := hQ228
                have N228 := Fr.app N189 N228q
                refine own_comes (T228.setTop (mkF m 215 #[.val (.int pa), .val (.int pb), .val (.int pc1), .val (.int pd0), .val (.int pe), .val (.int pq), .val (.int w1), .val (.int w2), .val (.int w3), .val (.ref ps), .val (.int (pd0 &&& (3 : Int32))), .val (.ref b110), .val (.int (2 : Int32))] [(.int (Int32.ofNat (own_cnt (m2 :: (m1 :: (m0 :: []))) 0 (own_M pq (own_next (own_next (own_next 1 m0) m1) m2)))))])) st228 ?_
                refine own_step (T228.setTop (mkF m 217 #[.val (.int pa), .val (.int pb), .val (.int pc1), .val (.int pd0), .val (.int pe), .val (.int pq), .val (.int w1), .val (.int w2), .val (.int w3), .val (.ref ps), .val (.int (pd0 &&& (3 : Int32))), .val (.ref b110), .val (.int (2 : Int32))] [(.int (2 : Int32)), (.int (Int32.ofNat (own_cnt (m2 :: (m1 :: (m0 :: []))) 0 (own_M pq (own_next (own_next (own_next 1 m0) m1) m2)))))])) (fun t₀ k₀ => XS.iload X228.here hx rfl (hb hby at_215) rfl k₀) ?_
                have hk229 : (Int32.ofNat (own_cnt (m2 :: (m1 :: (m0 :: []))) 0 (own_M pq (own_next (own_next (own_next 1 m0) m1) m2)))) = (2 : Int32) := by rw [own_cA (hD201 _ (by simp)) (by omega) hc202, own_cB (hD201 _ (by simp)) (by omega) hc184, own_cB (hD201 _ (by simp)) (by omega) hc166]; rfl
                refine own_step (T228.setTop (mkF m 220 #[.val (.int pa), .val (.int pb), .val (.int pc1), .val (.int pd0), .val (.int pe), .val (.int pq), .val (.int w1), .val (.int w2), .val (.int w3), .val (.ref ps), .val (.int (pd0 &&& (3 : Int32))), .val (.ref b110), .val (.int (2 : Int32))] [])) (fun t₀ k₀ => XS.icmpNo X228.here hx rfl (hb hby at_217) rfl (teq hk229).2 k₀) ?_
                refine own_step (T228.setTop (mkF m 221 #[.val (.int pa), .val (.int pb), .val (.int pc1), .val (.int pd0), .val (.int pe), .val (.int pq), .val (.int w1), .val (.int w2), .val (.int w3), .val (.ref ps), .val (.int (pd0 &&& (3 : Int32))), .val (.ref b110), .val (.int (2 : Int32))] [(.int (1 : Int32))])) (fun t₀ k₀ => XS.iconst X228.here hx rfl (hb hby at_220) k₀) ?_
                refine own_step (T228.setTop (mkF m 225 #[.val (.int pa), .val (.int pb), .val (.int pc1), .val (.int pd0), .val (.int pe), .val (.int pq), .val (.int w1), .val (.int w2), .val (.int w3), .val (.ref ps), .val (.int (pd0 &&& (3 : Int32))), .val (.ref b110), .val (.int (2 : Int32))] [(.int (1 : Int32))])) (fun t₀ k₀ => XS.goto X228.here hx rfl (pc0 := 221) (pc' := 225) rfl (hb hby at_221) (by decide) (by decide) k₀) ?_
                obtain ⟨fs, hr, hrun, hended, hW, hsame⟩ := X228.leave (v := some (.int (1 : Int32))) (fun h => by rw [Bd.returns] at h; cases h)
                refine ⟨_, _, ?_, hrun, hended, _, _, rfl, ?_, ⟨_, rfl⟩, hW, hsame.mono (by decide) (by decide)⟩
                · exact retN X228 hx (t := .boolean) Bd.returns (by simp) (hb hby at_225) hr
                · show Q_rm0 Z pa pb pc1 pd0 pe pq h0 n0 _ T228.heap _
                  rw [e228]
                  exact ⟨rfl, N228⟩
              · skip
                refine own_step (T189.setTop (mkF m 205 #[.val (.int pa), .val (.int pb), .val (.int pc1), .val (.int pd0), .val (.int pe), .val (.int pq), .val (.int w1), .val (.int w2), .val (.int w3), .val (.ref ps), .val (.int (pd0 &&& (3 : Int32))), .val (.ref b110), .val (.int (2 : Int32))] [])) (fun t₀ k₀ => XS.icmpNo X189.here hx rfl (hb hby at_202) rfl (flt hc202).2.2.1 k₀) ?_
                refine own_step (T189.setTop (mkF m 208 #[.val (.int pa), .val (.int pb), .val (.int pc1), .val (.int pd0), .val (.int pe), .val (.int pq), .val (.int w1), .val (.int w2), .val (.int w3), .val (.ref ps), .val (.int (pd0 &&& (3 : Int32))), .val (.ref b110), .val (.int (3 : Int32))] [])) (fun t₀ k₀ => XS.iinc X189.here hx rfl (hb hby at_205) rfl (l' := #[.val (.int pa), .val (.int pb), .val (.int pc1), .val (.int pd0), .val (.int pe), .val (.int pq), .val (.int w1), .val (.int w2), .val (.int w3), .val (.ref ps), .val (.int (pd0 &&& (3 : Int32))), .val (.ref b110), .val (.int (3 : Int32))]) rfl k₀) ?_
                refine own_step (T189.setTop (mkF m 210 #[.val (.int pa), .val (.int pb), .val (.int pc1), .val (.int pd0), .val (.int pe), .val (.int pq), .val (.int w1), .val (.int w2), .val (.int w3), .val (.ref ps), .val (.int (pd0 &&& (3 : Int32))), .val (.ref b110), .val (.int (3 : Int32))] [(.ref b110)])) (fun t₀ k₀ => XS.aload X189.here hx rfl (hb hby at_208) rfl rfl k₀) ?_
                refine own_step (T189.setTop (mkF m 212 #[.val (.int pa), .val (.int pb), .val (.int pc1), .val (.int pd0), .val (.int pe), .val (.int pq), .val (.int w1), .val (.int w2), .val (.int w3), .val (.ref ps), .val (.int (pd0 &&& (3 : Int32))), .val (.ref b110), .val (.int (3 : Int32))] [(.int pq), (.ref b110)])) (fun t₀ k₀ => XS.iload X189.here hx rfl (hb hby at_210) rfl k₀) ?_
                obtain ⟨cq230, kq230, q230a, q230b, q230c⟩ := isOf hZ rfl f196
                obtain ⟨_, _, ⟨T230, L230, k230, n230⟩, -, X230, ⟨Lc230, hQ230, l230, y230, z230⟩, st230⟩ := X189.virtualBack hx (y := (⟨"com/example/syncopate/syncopate/DeletedRows", "through", "(I)I"⟩ : MethodName)) (z := (⟨"com/example/syncopate/syncopate/DeletedRows", "through", "(I)I"⟩ : MethodName)) hown (mvT hZ (hw _ (List.mem_of_getElem? (i := 43) rfl))) (mvT hZ (hw _ (List.mem_of_getElem? (i := 44) rfl))) (notFace_of_selects (args := #[]) (mvT hZ (hw _ (List.mem_of_getElem? (i := 46) rfl)))) (mvT hZ (hw _ (List.mem_of_getElem? (i := 46) rfl))) (mvT hZ (hw _ (List.mem_of_getElem? (i := 45) rfl))) (by decide) (backOf (W := 0) (rm9 l Z a0 hw [] b110 pq ct1190 k1191 (own_next (own_next (own_next 1 m0) m1) m2) g192 (m2 :: (m1 :: (m0 :: []))) T189.heap n0 z189' f197 f199 (own_nx1 (own_nx1 (own_nx1 (Nat.le_refl 1)))) (by omega) (own_InvTo f194 (own_M_lt (own_nx1 (own_nx1 (own_nx1 (Nat.le_refl 1))))))) hZ (hw _ (List.mem_of_getElem? (i := 47) rfl)) (hw _ (List.mem_of_getElem? (i := 3) rfl)) (by decide) (by decide)) q230a q230c (g := (mkF m 212 #[.val (.int pa), .val (.int pb), .val (.int pc1), .val (.int pd0), .val (.int pe), .val (.int pq), .val (.int w1), .val (.int w2), .val (.int w3), .val (.ref ps), .val (.int (pd0 &&& (3 : Int32))), .val (.ref b110), .val (.int (3 : Int32))] [(.int pq), (.ref b110)])) rfl (by rw [hml]; rfl) (Steps.refl _) (argsL := [(.int pq)]) (rest := []) (lenOf pd_6 rfl) rfl (by show 2 * 0 + _ ≤ _; exact Nat.le_of_eq rfl) (hb hby at_212) (fun _ _ => ⟨rfl, rfl, (by decide : 6 + 0 ≤ _), (by decide : 777 + 0 ≤ _)⟩)
                dsimp only [Pt.U, Pt.locs, Pt.cells, Pt.slots] at X230 l230 y230 z230 st230 hQ230
                subst l230 y230 z230
                obtain ⟨rfl, N230q, e230⟩ := hQ230
                have N230 := Fr.app N189 N230q
                refine own_comes (T230.setTop (mkF m 215 #[.val (.int pa), .val (.int pb), .val (.int pc1), .val (.int pd0), .val (.int pe), .val (.int pq), .val (.int w1), .val (.int w2), .val (.int w3), .val (.ref ps), .val (.int (pd0 &&& (3 : Int32))), .val (.ref b110), .val (.int (3 : Int32))] [(.int (Int32.ofNat (own_cnt (m2 :: (m1 :: (m0 :: []))) 0 (own_M pq (own_next (own_next (own_next 1 m0) m1) m2)))))])) st230 ?_
                refine own_step (T230.setTop (mkF m 217 #[.val (.int pa), .val (.int pb), .val (.int pc1), .val (.int pd0), .val (.int pe), .val (.int pq), .val (.int w1), .val (.int w2), .val (.int w3), .val (.ref ps), .val (.int (pd0 &&& (3 : Int32))), .val (.ref b110), .val (.int (3 : Int32))] [(.int (3 : Int32)), (.int (Int32.ofNat (own_cnt (m2 :: (m1 :: (m0 :: []))) 0 (own_M pq (own_next (own_next (own_next 1 m0) m1) m2)))))])) (fun t₀ k₀ => XS.iload X230.here hx rfl (hb hby at_215) rfl k₀) ?_
                have hk231 : (Int32.ofNat (own_cnt (m2 :: (m1 :: (m0 :: []))) 0 (own_M pq (own_next (own_next (own_next 1 m0) m1) m2)))) = (3 : Int32) := by rw [own_cB (hD201 _ (by simp)) (by omega) hc202, own_cB (hD201 _ (by simp)) (by omega) hc184, own_cB (hD201 _ (by simp)) (by omega) hc166]; rfl
                refine own_step (T230.setTop (mkF m 220 #[.val (.int pa), .val (.int pb), .val (.int pc1), .val (.int pd0), .val (.int pe), .val (.int pq), .val (.int w1), .val (.int w2), .val (.int w3), .val (.ref ps), .val (.int (pd0 &&& (3 : Int32))), .val (.ref b110), .val (.int (3 : Int32))] [])) (fun t₀ k₀ => XS.icmpNo X230.here hx rfl (hb hby at_217) rfl (teq hk231).2 k₀) ?_
                refine own_step (T230.setTop (mkF m 221 #[.val (.int pa), .val (.int pb), .val (.int pc1), .val (.int pd0), .val (.int pe), .val (.int pq), .val (.int w1), .val (.int w2), .val (.int w3), .val (.ref ps), .val (.int (pd0 &&& (3 : Int32))), .val (.ref b110), .val (.int (3 : Int32))] [(.int (1 : Int32))])) (fun t₀ k₀ => XS.iconst X230.here hx rfl (hb hby at_220) k₀) ?_
                refine own_step (T230.setTop (mkF m 225 #[.val (.int pa), .val (.int pb), .val (.int pc1), .val (.int pd0), .val (.int pe), .val (.int pq), .val (.int w1), .val (.int w2), .val (.int w3), .val (.ref ps), .val (.int (pd0 &&& (3 : Int32))), .val (.ref b110), .val (.int (3 : Int32))] [(.int (1 : Int32))])) (fun t₀ k₀ => XS.goto X230.here hx rfl (pc0 := 221) (pc' := 225) rfl (hb hby at_221) (by decide) (by decide) k₀) ?_
                obtain ⟨fs, hr, hrun, hended, hW, hsame⟩ := X230.leave (v := some (.int (1 : Int32))) (fun h => by rw [Bd.returns] at h; cases h)
                refine ⟨_, _, ?_, hrun, hended, _, _, rfl, ?_, ⟨_, rfl⟩, hW, hsame.mono (by decide) (by decide)⟩
                · exact retN X230 hx (t := .boolean) Bd.returns (by simp) (hb hby at_225) hr
                · show Q_rm0 Z pa pb pc1 pd0 pe pq h0 n0 _ T230.heap _
                  rw [e230]
                  exact ⟨rfl, N230⟩
  show own_Go p e below (fun s₂ o₉ => s₂.status = .running ∧ Ended s₂ below o₉ ∧ ∃ v L, o₉ = .returned v ∧ Q_rm0 Z pa pb pc1 pd0 pe pq h0 n0 v s₂.heap L ∧ FrameEnd s o₉ s₂ L room_1.cells room_1.slots) (s₁.setTop (entryFrame m #[(.int pa), (.int pb), (.int pc1), (.int pd0), (.int pe), (.int pq)] maxLocals))
  rw [ef_rm0 m pa pb pc1 pd0 pe pq]
  refine own_step (s₁.setTop (mkF m 1 #[.val (.int pa), .val (.int pb), .val (.int pc1), .val (.int pd0), .val (.int pe), .val (.int pq), .unset, .unset, .unset, .unset, .unset, .unset, .unset] [(.int (1 : Int32))])) (fun t₀ k₀ => XS.iconst X0.here hx rfl (hb hby at_0) k₀) ?_
  refine own_step (s₁.setTop (mkF m 2 #[.val (.int pa), .val (.int pb), .val (.int pc1), .val (.int pd0), .val (.int pe), .val (.int pq), .unset, .unset, .unset, .unset, .unset, .unset, .unset] [(.int pa), (.int (1 : Int32))])) (fun t₀ k₀ => XS.iloadN X0.here hx rfl (hb hby at_1) rfl k₀) ?_
  refine own_step (s₁.setTop (mkF m 4 #[.val (.int pa), .val (.int pb), .val (.int pc1), .val (.int pd0), .val (.int pe), .val (.int pq), .unset, .unset, .unset, .unset, .unset, .unset, .unset] [(.int (63 : Int32)), (.int pa), (.int (1 : Int32))])) (fun t₀ k₀ => XS.bipush X0.here hx rfl (hb hby at_2) k₀) ?_
  refine own_step (s₁.setTop (mkF m 5 #[.val (.int pa), .val (.int pb), .val (.int pc1), .val (.int pd0), .val (.int pe), .val (.int pq), .unset, .unset, .unset, .unset, .unset, .unset, .unset] [(.int (pa &&& (63 : Int32))), (.int (1 : Int32))])) (fun t₀ k₀ => XS.iand X0.here hx rfl (hb hby at_4) rfl k₀) ?_
  refine own_step (s₁.setTop (mkF m 6 #[.val (.int pa), .val (.int pb), .val (.int pc1), .val (.int pd0), .val (.int pe), .val (.int pq), .unset, .unset, .unset, .unset, .unset, .unset, .unset] [(.int ((1 : Int32) + (pa &&& (63 : Int32))))])) (fun t₀ k₀ => XS.iadd X0.here hx rfl (hb hby at_5) rfl k₀) ?_
  refine own_step (s₁.setTop (mkF m 8 #[.val (.int pa), .val (.int pb), .val (.int pc1), .val (.int pd0), .val (.int pe), .val (.int pq), .val (.int ((1 : Int32) + (pa &&& (63 : Int32)))), .unset, .unset, .unset, .unset, .unset, .unset] [])) (fun t₀ k₀ => XS.istore X0.here hx rfl (hb hby at_6) rfl (l' := #[.val (.int pa), .val (.int pb), .val (.int pc1), .val (.int pd0), .val (.int pe), .val (.int pq), .val (.int ((1 : Int32) + (pa &&& (63 : Int32)))), .unset, .unset, .unset, .unset, .unset, .unset]) rfl k₀) ?_
  refine own_step (s₁.setTop (mkF m 10 #[.val (.int pa), .val (.int pb), .val (.int pc1), .val (.int pd0), .val (.int pe), .val (.int pq), .val (.int ((1 : Int32) + (pa &&& (63 : Int32)))), .unset, .unset, .unset, .unset, .unset, .unset] [(.int ((1 : Int32) + (pa &&& (63 : Int32))))])) (fun t₀ k₀ => XS.iload X0.here hx rfl (hb hby at_8) rfl k₀) ?_
  refine own_step (s₁.setTop (mkF m 11 #[.val (.int pa), .val (.int pb), .val (.int pc1), .val (.int pd0), .val (.int pe), .val (.int pq), .val (.int ((1 : Int32) + (pa &&& (63 : Int32)))), .unset, .unset, .unset, .unset, .unset, .unset] [(.int (1 : Int32)), (.int ((1 : Int32) + (pa &&& (63 : Int32))))])) (fun t₀ k₀ => XS.iconst X0.here hx rfl (hb hby at_10) k₀) ?_
  refine own_step (s₁.setTop (mkF m 12 #[.val (.int pa), .val (.int pb), .val (.int pc1), .val (.int pd0), .val (.int pe), .val (.int pq), .val (.int ((1 : Int32) + (pa &&& (63 : Int32)))), .unset, .unset, .unset, .unset, .unset, .unset] [(.int (((1 : Int32) + (pa &&& (63 : Int32))) + (1 : Int32)))])) (fun t₀ k₀ => XS.iadd X0.here hx rfl (hb hby at_11) rfl k₀) ?_
  refine own_step (s₁.setTop (mkF m 13 #[.val (.int pa), .val (.int pb), .val (.int pc1), .val (.int pd0), .val (.int pe), .val (.int pq), .val (.int ((1 : Int32) + (pa &&& (63 : Int32)))), .unset, .unset, .unset, .unset, .unset, .unset] [(.int pb), (.int (((1 : Int32) + (pa &&& (63 : Int32))) + (1 : Int32)))])) (fun t₀ k₀ => XS.iloadN X0.here hx rfl (hb hby at_12) rfl k₀) ?_
  refine own_step (s₁.setTop (mkF m 15 #[.val (.int pa), .val (.int pb), .val (.int pc1), .val (.int pd0), .val (.int pe), .val (.int pq), .val (.int ((1 : Int32) + (pa &&& (63 : Int32)))), .unset, .unset, .unset, .unset, .unset, .unset] [(.int (63 : Int32)), (.int pb), (.int (((1 : Int32) + (pa &&& (63 : Int32))) + (1 : Int32)))])) (fun t₀ k₀ => XS.bipush X0.here hx rfl (hb hby at_13) k₀) ?_
  refine own_step (s₁.setTop (mkF m 16 #[.val (.int pa), .val (.int pb), .val (.int pc1), .val (.int pd0), .val (.int pe), .val (.int pq), .val (.int ((1 : Int32) + (pa &&& (63 : Int32)))), .unset, .unset, .unset, .unset, .unset, .unset] [(.int (pb &&& (63 : Int32))), (.int (((1 : Int32) + (pa &&& (63 : Int32))) + (1 : Int32)))])) (fun t₀ k₀ => XS.iand X0.here hx rfl (hb hby at_15) rfl k₀) ?_
  refine own_step (s₁.setTop (mkF m 17 #[.val (.int pa), .val (.int pb), .val (.int pc1), .val (.int pd0), .val (.int pe), .val (.int pq), .val (.int ((1 : Int32) + (pa &&& (63 : Int32)))), .unset, .unset, .unset, .unset, .unset, .unset] [(.int ((((1 : Int32) + (pa &&& (63 : Int32))) + (1 : Int32)) + (pb &&& (63 : Int32))))])) (fun t₀ k₀ => XS.iadd X0.here hx rfl (hb hby at_16) rfl k₀) ?_
  refine own_step (s₁.setTop (mkF m 19 #[.val (.int pa), .val (.int pb), .val (.int pc1), .val (.int pd0), .val (.int pe), .val (.int pq), .val (.int ((1 : Int32) + (pa &&& (63 : Int32)))), .val (.int ((((1 : Int32) + (pa &&& (63 : Int32))) + (1 : Int32)) + (pb &&& (63 : Int32)))), .unset, .unset, .unset, .unset, .unset] [])) (fun t₀ k₀ => XS.istore X0.here hx rfl (hb hby at_17) rfl (l' := #[.val (.int pa), .val (.int pb), .val (.int pc1), .val (.int pd0), .val (.int pe), .val (.int pq), .val (.int ((1 : Int32) + (pa &&& (63 : Int32)))), .val (.int ((((1 : Int32) + (pa &&& (63 : Int32))) + (1 : Int32)) + (pb &&& (63 : Int32)))), .unset, .unset, .unset, .unset, .unset]) rfl k₀) ?_
  refine own_step (s₁.setTop (mkF m 21 #[.val (.int pa), .val (.int pb), .val (.int pc1), .val (.int pd0), .val (.int pe), .val (.int pq), .val (.int ((1 : Int32) + (pa &&& (63 : Int32)))), .val (.int ((((1 : Int32) + (pa &&& (63 : Int32))) + (1 : Int32)) + (pb &&& (63 : Int32)))), .unset, .unset, .unset, .unset, .unset] [(.int ((((1 : Int32) + (pa &&& (63 : Int32))) + (1 : Int32)) + (pb &&& (63 : Int32))))])) (fun t₀ k₀ => XS.iload X0.here hx rfl (hb hby at_19) rfl k₀) ?_
  refine own_step (s₁.setTop (mkF m 22 #[.val (.int pa), .val (.int pb), .val (.int pc1), .val (.int pd0), .val (.int pe), .val (.int pq), .val (.int ((1 : Int32) + (pa &&& (63 : Int32)))), .val (.int ((((1 : Int32) + (pa &&& (63 : Int32))) + (1 : Int32)) + (pb &&& (63 : Int32)))), .unset, .unset, .unset, .unset, .unset] [(.int (1 : Int32)), (.int ((((1 : Int32) + (pa &&& (63 : Int32))) + (1 : Int32)) + (pb &&& (63 : Int32))))])) (fun t₀ k₀ => XS.iconst X0.here hx rfl (hb hby at_21) k₀) ?_
  refine own_step (s₁.setTop (mkF m 23 #[.val (.int pa), .val (.int pb), .val (.int pc1), .val (.int pd0), .val (.int pe), .val (.int pq), .val (.int ((1 : Int32) + (pa &&& (63 : Int32)))), .val (.int ((((1 : Int32) + (pa &&& (63 : Int32))) + (1 : Int32)) + (pb &&& (63 : Int32)))), .unset, .unset, .unset, .unset, .unset] [(.int (((((1 : Int32) + (pa &&& (63 : Int32))) + (1 : Int32)) + (pb &&& (63 : Int32))) + (1 : Int32)))])) (fun t₀ k₀ => XS.iadd X0.here hx rfl (hb hby at_22) rfl k₀) ?_
  refine own_step (s₁.setTop (mkF m 24 #[.val (.int pa), .val (.int pb), .val (.int pc1), .val (.int pd0), .val (.int pe), .val (.int pq), .val (.int ((1 : Int32) + (pa &&& (63 : Int32)))), .val (.int ((((1 : Int32) + (pa &&& (63 : Int32))) + (1 : Int32)) + (pb &&& (63 : Int32)))), .unset, .unset, .unset, .unset, .unset] [(.int pc1), (.int (((((1 : Int32) + (pa &&& (63 : Int32))) + (1 : Int32)) + (pb &&& (63 : Int32))) + (1 : Int32)))])) (fun t₀ k₀ => XS.iloadN X0.here hx rfl (hb hby at_23) rfl k₀) ?_
  refine own_step (s₁.setTop (mkF m 26 #[.val (.int pa), .val (.int pb), .val (.int pc1), .val (.int pd0), .val (.int pe), .val (.int pq), .val (.int ((1 : Int32) + (pa &&& (63 : Int32)))), .val (.int ((((1 : Int32) + (pa &&& (63 : Int32))) + (1 : Int32)) + (pb &&& (63 : Int32)))), .unset, .unset, .unset, .unset, .unset] [(.int (63 : Int32)), (.int pc1), (.int (((((1 : Int32) + (pa &&& (63 : Int32))) + (1 : Int32)) + (pb &&& (63 : Int32))) + (1 : Int32)))])) (fun t₀ k₀ => XS.bipush X0.here hx rfl (hb hby at_24) k₀) ?_
  refine own_step (s₁.setTop (mkF m 27 #[.val (.int pa), .val (.int pb), .val (.int pc1), .val (.int pd0), .val (.int pe), .val (.int pq), .val (.int ((1 : Int32) + (pa &&& (63 : Int32)))), .val (.int ((((1 : Int32) + (pa &&& (63 : Int32))) + (1 : Int32)) + (pb &&& (63 : Int32)))), .unset, .unset, .unset, .unset, .unset] [(.int (pc1 &&& (63 : Int32))), (.int (((((1 : Int32) + (pa &&& (63 : Int32))) + (1 : Int32)) + (pb &&& (63 : Int32))) + (1 : Int32)))])) (fun t₀ k₀ => XS.iand X0.here hx rfl (hb hby at_26) rfl k₀) ?_
  refine own_step (s₁.setTop (mkF m 28 #[.val (.int pa), .val (.int pb), .val (.int pc1), .val (.int pd0), .val (.int pe), .val (.int pq), .val (.int ((1 : Int32) + (pa &&& (63 : Int32)))), .val (.int ((((1 : Int32) + (pa &&& (63 : Int32))) + (1 : Int32)) + (pb &&& (63 : Int32)))), .unset, .unset, .unset, .unset, .unset] [(.int ((((((1 : Int32) + (pa &&& (63 : Int32))) + (1 : Int32)) + (pb &&& (63 : Int32))) + (1 : Int32)) + (pc1 &&& (63 : Int32))))])) (fun t₀ k₀ => XS.iadd X0.here hx rfl (hb hby at_27) rfl k₀) ?_
  refine own_step (s₁.setTop (mkF m 30 #[.val (.int pa), .val (.int pb), .val (.int pc1), .val (.int pd0), .val (.int pe), .val (.int pq), .val (.int ((1 : Int32) + (pa &&& (63 : Int32)))), .val (.int ((((1 : Int32) + (pa &&& (63 : Int32))) + (1 : Int32)) + (pb &&& (63 : Int32)))), .val (.int ((((((1 : Int32) + (pa &&& (63 : Int32))) + (1 : Int32)) + (pb &&& (63 : Int32))) + (1 : Int32)) + (pc1 &&& (63 : Int32)))), .unset, .unset, .unset, .unset] [])) (fun t₀ k₀ => XS.istore X0.here hx rfl (hb hby at_28) rfl (l' := #[.val (.int pa), .val (.int pb), .val (.int pc1), .val (.int pd0), .val (.int pe), .val (.int pq), .val (.int ((1 : Int32) + (pa &&& (63 : Int32)))), .val (.int ((((1 : Int32) + (pa &&& (63 : Int32))) + (1 : Int32)) + (pb &&& (63 : Int32)))), .val (.int ((((((1 : Int32) + (pa &&& (63 : Int32))) + (1 : Int32)) + (pb &&& (63 : Int32))) + (1 : Int32)) + (pc1 &&& (63 : Int32)))), .unset, .unset, .unset, .unset]) rfl k₀) ?_
  obtain ⟨P1, P2, P3, hB, eP1, eP2, eP3⟩ := own_ps pa pb pc1
  rw [eP3, eP2, eP1]
  refine own_step (s₁.setTop (mkF m 31 #[.val (.int pa), .val (.int pb), .val (.int pc1), .val (.int pd0), .val (.int pe), .val (.int pq), .val (.int (Int32.ofNat P1)), .val (.int (Int32.ofNat P2)), .val (.int (Int32.ofNat P3)), .unset, .unset, .unset, .unset] [(.int (3 : Int32))])) (fun t₀ k₀ => XS.iconst X0.here hx rfl (hb hby at_30) k₀) ?_
  obtain ⟨T232, h232, k232, X232, e232, E232, A232, st232⟩ := newP X0 hx hZ (hw _ (List.mem_of_getElem? (i := 0) rfl)) e0 (g := (mkF m 31 #[.val (.int pa), .val (.int pb), .val (.int pc1), .val (.int pd0), .val (.int pe), .val (.int pq), .val (.int (Int32.ofNat P1)), .val (.int (Int32.ofNat P2)), .val (.int (Int32.ofNat P3)), .unset, .unset, .unset, .unset] [(.int (3 : Int32))])) rfl (hb hby at_31) rfl (by decide) (cap := 3) (by decide) (by decide) (by decide) (by decide)
  obtain ⟨b232, g232⟩ : ∃ z, z = h0.size := ⟨_, rfl⟩
  rw [← g232] at A232 st232
  have fr_b232 : n0 ≤ b232 := Nat.le_trans Z0 (Nat.le_of_eq g232.symm)
  have V232 : Arv Z h232 b232 k232 .int (3 : Int32) [(.int (0 : Int32)), (.int (0 : Int32)), (.int (0 : Int32))] (.int (0 : Int32)) := (Arv.new A232 (by decide)).pad (pad_rep [] (.int (0 : Int32)) 3)
  have z232 : n0 ≤ h232.size := Nat.le_trans Z0 E232.1
  refine own_step (T232.setTop (mkF m 33 #[.val (.int pa), .val (.int pb), .val (.int pc1), .val (.int pd0), .val (.int pe), .val (.int pq), .val (.int (Int32.ofNat P1)), .val (.int (Int32.ofNat P2)), .val (.int (Int32.ofNat P3)), .unset, .unset, .unset, .unset] [(.ref b232)])) (fun t₀ k₀ => st232 t₀ k₀) ?_
  refine own_step (T232.setTop (mkF m 34 #[.val (.int pa), .val (.int pb), .val (.int pc1), .val (.int pd0), .val (.int pe), .val (.int pq), .val (.int (Int32.ofNat P1)), .val (.int (Int32.ofNat P2)), .val (.int (Int32.ofNat P3)), .unset, .unset, .unset, .unset] [(.ref b232), (.ref b232)])) (fun t₀ k₀ => XS.dup X232.here hx rfl (hb hby at_33) rfl rfl k₀) ?_
  refine own_step (T232.setTop (mkF m 35 #[.val (.int pa), .val (.int pb), .val (.int pc1), .val (.int pd0), .val (.int pe), .val (.int pq), .val (.int (Int32.ofNat P1)), .val (.int (Int32.ofNat P2)), .val (.int (Int32.ofNat P3)), .unset, .unset, .unset, .unset] [(.int (0 : Int32)), (.ref b232), (.ref b232)])) (fun t₀ k₀ => XS.iconst X232.here hx rfl (hb hby at_34) k₀) ?_
  refine own_step (T232.setTop (mkF m 37 #[.val (.int pa), .val (.int pb), .val (.int pc1), .val (.int pd0), .val (.int pe), .val (.int pq), .val (.int (Int32.ofNat P1)), .val (.int (Int32.ofNat P2)), .val (.int (Int32.ofNat P3)), .unset, .unset, .unset, .unset] [(.int (Int32.ofNat P1)), (.int (0 : Int32)), (.ref b232), (.ref b232)])) (fun t₀ k₀ => XS.iload X232.here hx rfl (hb hby at_35) rfl k₀) ?_
  obtain ⟨clo233, Aro233, qo233, So233, Mo233, Ho233, Go233⟩ := id V232
  have hino233 : ¬ ((0 : Int32) < 0 ∨ clo233.slots.size ≤ ((0 : Int32)).toNatClampNeg) := inb_of So233 ⟨by decide, by decide⟩
  obtain ⟨T234, h234, X234, e234, W234, st234⟩ := stI X232 hx hZ e232 Aro233 (j := (0 : Int32)) hino233 (g := (mkF m 37 #[.val (.int pa), .val (.int pb), .val (.int pc1), .val (.int pd0), .val (.int pe), .val (.int pq), .val (.int (Int32.ofNat P1)), .val (.int (Int32.ofNat P2)), .val (.int (Int32.ofNat P3)), .unset, .unset, .unset, .unset] [(.int (Int32.ofNat P1)), (.int (0 : Int32)), (.ref b232), (.ref b232)])) rfl rfl (hb hby at_37)
  have V234 : Arv Z h234 b232 k232 .int (3 : Int32) [(.int (Int32.ofNat P1)), (.int (0 : Int32)), (.int (0 : Int32))] (.int (0 : Int32)) := Arv.set Aro233 qo233 So233 Mo233 Ho233 Go233 rfl W234 0 rfl (Nat.le_of_ble_eq_true rfl)
  have N234 := Fr.snoc X234 N0 fr_b232
  have z234 : n0 ≤ h234.size := Nat.le_trans z232 (Keep.of_wr W234).1
  refine own_step (T234.setTop (mkF m 38 #[.val (.int pa), .val (.int pb), .val (.int pc1), .val (.int pd0), .val (.int pe), .val (.int pq), .val (.int (Int32.ofNat P1)), .val (.int (Int32.ofNat P2)), .val (.int (Int32.ofNat P3)), .unset, .unset, .unset, .unset] [(.ref b232)])) (fun t₀ k₀ => st234 t₀ k₀) ?_
  refine own_step (T234.setTop (mkF m 39 #[.val (.int pa), .val (.int pb), .val (.int pc1), .val (.int pd0), .val (.int pe), .val (.int pq), .val (.int (Int32.ofNat P1)), .val (.int (Int32.ofNat P2)), .val (.int (Int32.ofNat P3)), .unset, .unset, .unset, .unset] [(.ref b232), (.ref b232)])) (fun t₀ k₀ => XS.dup X234.here hx rfl (hb hby at_38) rfl rfl k₀) ?_
  refine own_step (T234.setTop (mkF m 40 #[.val (.int pa), .val (.int pb), .val (.int pc1), .val (.int pd0), .val (.int pe), .val (.int pq), .val (.int (Int32.ofNat P1)), .val (.int (Int32.ofNat P2)), .val (.int (Int32.ofNat P3)), .unset, .unset, .unset, .unset] [(.int (1 : Int32)), (.ref b232), (.ref b232)])) (fun t₀ k₀ => XS.iconst X234.here hx rfl (hb hby at_39) k₀) ?_
  refine own_step (T234.setTop (mkF m 42 #[.val (.int pa), .val (.int pb), .val (.int pc1), .val (.int pd0), .val (.int pe), .val (.int pq), .val (.int (Int32.ofNat P1)), .val (.int (Int32.ofNat P2)), .val (.int (Int32.ofNat P3)), .unset, .unset, .unset, .unset] [(.int (Int32.ofNat P2)), (.int (1 : Int32)), (.ref b232), (.ref b232)])) (fun t₀ k₀ => XS.iload X234.here hx rfl (hb hby at_40) rfl k₀) ?_
  obtain ⟨clo235, Aro235, qo235, So235, Mo235, Ho235, Go235⟩ := id V234
  have hino235 : ¬ ((1 : Int32) < 0 ∨ clo235.slots.size ≤ ((1 : Int32)).toNatClampNeg) := inb_of So235 ⟨by decide, by decide⟩
  obtain ⟨T236, h236, X236, e236, W236, st236⟩ := stI X234 hx hZ e234 Aro235 (j := (1 : Int32)) hino235 (g := (mkF m 42 #[.val (.int pa), .val (.int pb), .val (.int pc1), .val (.int pd0), .val (.int pe), .val (.int pq), .val (.int (Int32.ofNat P1)), .val (.int (Int32.ofNat P2)), .val (.int (Int32.ofNat P3)), .unset, .unset, .unset, .unset] [(.int (Int32.ofNat P2)), (.int (1 : Int32)), (.ref b232), (.ref b232)])) rfl rfl (hb hby at_42)
  have V236 : Arv Z h236 b232 k232 .int (3 : Int32) [(.int (Int32.ofNat P1)), (.int (Int32.ofNat P2)), (.int (0 : Int32))] (.int (0 : Int32)) := Arv.set Aro235 qo235 So235 Mo235 Ho235 Go235 rfl W236 1 rfl (Nat.le_of_ble_eq_true rfl)
  have N236 := Fr.snoc X236 N234 fr_b232
  have z236 : n0 ≤ h236.size := Nat.le_trans z234 (Keep.of_wr W236).1
  refine own_step (T236.setTop (mkF m 43 #[.val (.int pa), .val (.int pb), .val (.int pc1), .val (.int pd0), .val (.int pe), .val (.int pq), .val (.int (Int32.ofNat P1)), .val (.int (Int32.ofNat P2)), .val (.int (Int32.ofNat P3)), .unset, .unset, .unset, .unset] [(.ref b232)])) (fun t₀ k₀ => st236 t₀ k₀) ?_
  refine own_step (T236.setTop (mkF m 44 #[.val (.int pa), .val (.int pb), .val (.int pc1), .val (.int pd0), .val (.int pe), .val (.int pq), .val (.int (Int32.ofNat P1)), .val (.int (Int32.ofNat P2)), .val (.int (Int32.ofNat P3)), .unset, .unset, .unset, .unset] [(.ref b232), (.ref b232)])) (fun t₀ k₀ => XS.dup X236.here hx rfl (hb hby at_43) rfl rfl k₀) ?_
  refine own_step (T236.setTop (mkF m 45 #[.val (.int pa), .val (.int pb), .val (.int pc1), .val (.int pd0), .val (.int pe), .val (.int pq), .val (.int (Int32.ofNat P1)), .val (.int (Int32.ofNat P2)), .val (.int (Int32.ofNat P3)), .unset, .unset, .unset, .unset] [(.int (2 : Int32)), (.ref b232), (.ref b232)])) (fun t₀ k₀ => XS.iconst X236.here hx rfl (hb hby at_44) k₀) ?_
  refine own_step (T236.setTop (mkF m 47 #[.val (.int pa), .val (.int pb), .val (.int pc1), .val (.int pd0), .val (.int pe), .val (.int pq), .val (.int (Int32.ofNat P1)), .val (.int (Int32.ofNat P2)), .val (.int (Int32.ofNat P3)), .unset, .unset, .unset, .unset] [(.int (Int32.ofNat P3)), (.int (2 : Int32)), (.ref b232), (.ref b232)])) (fun t₀ k₀ => XS.iload X236.here hx rfl (hb hby at_45) rfl k₀) ?_
  obtain ⟨clo237, Aro237, qo237, So237, Mo237, Ho237, Go237⟩ := id V236
  have hino237 : ¬ ((2 : Int32) < 0 ∨ clo237.slots.size ≤ ((2 : Int32)).toNatClampNeg) := inb_of So237 ⟨by decide, by decide⟩
  obtain ⟨T238, h238, X238, e238, W238, st238⟩ := stI X236 hx hZ e236 Aro237 (j := (2 : Int32)) hino237 (g := (mkF m 47 #[.val (.int pa), .val (.int pb), .val (.int pc1), .val (.int pd0), .val (.int pe), .val (.int pq), .val (.int (Int32.ofNat P1)), .val (.int (Int32.ofNat P2)), .val (.int (Int32.ofNat P3)), .unset, .unset, .unset, .unset] [(.int (Int32.ofNat P3)), (.int (2 : Int32)), (.ref b232), (.ref b232)])) rfl rfl (hb hby at_47)
  have V238 : Arv Z h238 b232 k232 .int (3 : Int32) [(.int (Int32.ofNat P1)), (.int (Int32.ofNat P2)), (.int (Int32.ofNat P3))] (.int (0 : Int32)) := Arv.set Aro237 qo237 So237 Mo237 Ho237 Go237 rfl W238 2 rfl (Nat.le_of_ble_eq_true rfl)
  have N238 := Fr.snoc X238 N236 fr_b232
  have z238 : n0 ≤ h238.size := Nat.le_trans z236 (Keep.of_wr W238).1
  refine own_step (T238.setTop (mkF m 48 #[.val (.int pa), .val (.int pb), .val (.int pc1), .val (.int pd0), .val (.int pe), .val (.int pq), .val (.int (Int32.ofNat P1)), .val (.int (Int32.ofNat P2)), .val (.int (Int32.ofNat P3)), .unset, .unset, .unset, .unset] [(.ref b232)])) (fun t₀ k₀ => st238 t₀ k₀) ?_
  refine own_step (T238.setTop (mkF m 50 #[.val (.int pa), .val (.int pb), .val (.int pc1), .val (.int pd0), .val (.int pe), .val (.int pq), .val (.int (Int32.ofNat P1)), .val (.int (Int32.ofNat P2)), .val (.int (Int32.ofNat P3)), .val (.ref b232), .unset, .unset, .unset] [])) (fun t₀ k₀ => XS.astore X238.here hx rfl (hb hby at_48) rfl rfl (l' := #[.val (.int pa), .val (.int pb), .val (.int pc1), .val (.int pd0), .val (.int pe), .val (.int pq), .val (.int (Int32.ofNat P1)), .val (.int (Int32.ofNat P2)), .val (.int (Int32.ofNat P3)), .val (.ref b232), .unset, .unset, .unset]) rfl k₀) ?_
  refine own_step (T238.setTop (mkF m 52 #[.val (.int pa), .val (.int pb), .val (.int pc1), .val (.int pd0), .val (.int pe), .val (.int pq), .val (.int (Int32.ofNat P1)), .val (.int (Int32.ofNat P2)), .val (.int (Int32.ofNat P3)), .val (.ref b232), .unset, .unset, .unset] [(.int pe)])) (fun t₀ k₀ => XS.iload X238.here hx rfl (hb hby at_50) rfl k₀) ?_
  refine own_step (T238.setTop (mkF m 53 #[.val (.int pa), .val (.int pb), .val (.int pc1), .val (.int pd0), .val (.int pe), .val (.int pq), .val (.int (Int32.ofNat P1)), .val (.int (Int32.ofNat P2)), .val (.int (Int32.ofNat P3)), .val (.ref b232), .unset, .unset, .unset] [(.int (1 : Int32)), (.int pe)])) (fun t₀ k₀ => XS.iconst X238.here hx rfl (hb hby at_52) k₀) ?_
  refine own_step (T238.setTop (mkF m 54 #[.val (.int pa), .val (.int pb), .val (.int pc1), .val (.int pd0), .val (.int pe), .val (.int pq), .val (.int (Int32.ofNat P1)), .val (.int (Int32.ofNat P2)), .val (.int (Int32.ofNat P3)), .val (.ref b232), .unset, .unset, .unset] [(.int (pe &&& (1 : Int32)))])) (fun t₀ k₀ => XS.iand X238.here hx rfl (hb hby at_53) rfl k₀) ?_
  by_cases hc54 : (pe &&& (1 : Int32)) = (0 : Int32)
  · skip
    refine own_step (T238.setTop (mkF m 64 #[.val (.int pa), .val (.int pb), .val (.int pc1), .val (.int pd0), .val (.int pe), .val (.int pq), .val (.int (Int32.ofNat P1)), .val (.int (Int32.ofNat P2)), .val (.int (Int32.ofNat P3)), .val (.ref b232), .unset, .unset, .unset] [])) (fun t₀ k₀ => XS.ifYes X238.here hx rfl (pc0 := 54) (pc' := 64) rfl (hb hby at_54) rfl ((if0 _ _).trans (teq hc54).1) (by decide) (by decide) k₀) ?_
    refine own_step (T238.setTop (mkF m 66 #[.val (.int pa), .val (.int pb), .val (.int pc1), .val (.int pd0), .val (.int pe), .val (.int pq), .val (.int (Int32.ofNat P1)), .val (.int (Int32.ofNat P2)), .val (.int (Int32.ofNat P3)), .val (.ref b232), .unset, .unset, .unset] [(.int pe)])) (fun t₀ k₀ => XS.iload X238.here hx rfl (hb hby at_64) rfl k₀) ?_
    refine own_step (T238.setTop (mkF m 67 #[.val (.int pa), .val (.int pb), .val (.int pc1), .val (.int pd0), .val (.int pe), .val (.int pq), .val (.int (Int32.ofNat P1)), .val (.int (Int32.ofNat P2)), .val (.int (Int32.ofNat P3)), .val (.ref b232), .unset, .unset, .unset] [(.int (2 : Int32)), (.int pe)])) (fun t₀ k₀ => XS.iconst X238.here hx rfl (hb hby at_66) k₀) ?_
    refine own_step (T238.setTop (mkF m 68 #[.val (.int pa), .val (.int pb), .val (.int pc1), .val (.int pd0), .val (.int pe), .val (.int pq), .val (.int (Int32.ofNat P1)), .val (.int (Int32.ofNat P2)), .val (.int (Int32.ofNat P3)), .val (.ref b232), .unset, .unset, .unset] [(.int (pe &&& (2 : Int32)))])) (fun t₀ k₀ => XS.iand X238.here hx rfl (hb hby at_67) rfl k₀) ?_
    by_cases hc68 : (pe &&& (2 : Int32)) = (0 : Int32)
    · skip
      refine own_step (T238.setTop (mkF m 78 #[.val (.int pa), .val (.int pb), .val (.int pc1), .val (.int pd0), .val (.int pe), .val (.int pq), .val (.int (Int32.ofNat P1)), .val (.int (Int32.ofNat P2)), .val (.int (Int32.ofNat P3)), .val (.ref b232), .unset, .unset, .unset] [])) (fun t₀ k₀ => XS.ifYes X238.here hx rfl (pc0 := 68) (pc' := 78) rfl (hb hby at_68) rfl ((if0 _ _).trans (teq hc68).1) (by decide) (by decide) k₀) ?_
      refine own_step (T238.setTop (mkF m 80 #[.val (.int pa), .val (.int pb), .val (.int pc1), .val (.int pd0), .val (.int pe), .val (.int pq), .val (.int (Int32.ofNat P1)), .val (.int (Int32.ofNat P2)), .val (.int (Int32.ofNat P3)), .val (.ref b232), .unset, .unset, .unset] [(.int pe)])) (fun t₀ k₀ => XS.iload X238.here hx rfl (hb hby at_78) rfl k₀) ?_
      refine own_step (T238.setTop (mkF m 81 #[.val (.int pa), .val (.int pb), .val (.int pc1), .val (.int pd0), .val (.int pe), .val (.int pq), .val (.int (Int32.ofNat P1)), .val (.int (Int32.ofNat P2)), .val (.int (Int32.ofNat P3)), .val (.ref b232), .unset, .unset, .unset] [(.int (4 : Int32)), (.int pe)])) (fun t₀ k₀ => XS.iconst X238.here hx rfl (hb hby at_80) k₀) ?_
      refine own_step (T238.setTop (mkF m 82 #[.val (.int pa), .val (.int pb), .val (.int pc1), .val (.int pd0), .val (.int pe), .val (.int pq), .val (.int (Int32.ofNat P1)), .val (.int (Int32.ofNat P2)), .val (.int (Int32.ofNat P3)), .val (.ref b232), .unset, .unset, .unset] [(.int (pe &&& (4 : Int32)))])) (fun t₀ k₀ => XS.iand X238.here hx rfl (hb hby at_81) rfl k₀) ?_
      by_cases hc82 : (pe &&& (4 : Int32)) = (0 : Int32)
      · skip
        refine own_step (T238.setTop (mkF m 92 #[.val (.int pa), .val (.int pb), .val (.int pc1), .val (.int pd0), .val (.int pe), .val (.int pq), .val (.int (Int32.ofNat P1)), .val (.int (Int32.ofNat P2)), .val (.int (Int32.ofNat P3)), .val (.ref b232), .unset, .unset, .unset] [])) (fun t₀ k₀ => XS.ifYes X238.here hx rfl (pc0 := 82) (pc' := 92) rfl (hb hby at_82) rfl ((if0 _ _).trans (teq hc82).1) (by decide) (by decide) k₀) ?_
        exact cut92 (Int32.ofNat P1) (Int32.ofNat P2) (Int32.ofNat P3) b232 k232 P1 P2 P3 _ z238 _ _ N238 X238 e238 V238 (own_pp hB).1
      · skip
        refine own_step (T238.setTop (mkF m 85 #[.val (.int pa), .val (.int pb), .val (.int pc1), .val (.int pd0), .val (.int pe), .val (.int pq), .val (.int (Int32.ofNat P1)), .val (.int (Int32.ofNat P2)), .val (.int (Int32.ofNat P3)), .val (.ref b232), .unset, .unset, .unset] [])) (fun t₀ k₀ => XS.ifNo X238.here hx rfl (hb hby at_82) rfl ((if0 _ _).trans (feq hc82).1) k₀) ?_
        refine own_step (T238.setTop (mkF m 87 #[.val (.int pa), .val (.int pb), .val (.int pc1), .val (.int pd0), .val (.int pe), .val (.int pq), .val (.int (Int32.ofNat P1)), .val (.int (Int32.ofNat P2)), .val (.int (Int32.ofNat P3)), .val (.ref b232), .unset, .unset, .unset] [(.ref b232)])) (fun t₀ k₀ => XS.aload X238.here hx rfl (hb hby at_85) rfl rfl k₀) ?_
        refine own_step (T238.setTop (mkF m 88 #[.val (.int pa), .val (.int pb), .val (.int pc1), .val (.int pd0), .val (.int pe), .val (.int pq), .val (.int (Int32.ofNat P1)), .val (.int (Int32.ofNat P2)), .val (.int (Int32.ofNat P3)), .val (.ref b232), .unset, .unset, .unset] [(.int (0 : Int32)), (.ref b232)])) (fun t₀ k₀ => XS.iconst X238.here hx rfl (hb hby at_87) k₀) ?_
        refine own_step (T238.setTop (mkF m 89 #[.val (.int pa), .val (.int pb), .val (.int pc1), .val (.int pd0), .val (.int pe), .val (.int pq), .val (.int (Int32.ofNat P1)), .val (.int (Int32.ofNat P2)), .val (.int (Int32.ofNat P3)), .val (.ref b232), .unset, .unset, .unset] [(.int (1 : Int32)), (.int (0 : Int32)), (.ref b232)])) (fun t₀ k₀ => XS.iconst X238.here hx rfl (hb hby at_88) k₀) ?_
        obtain ⟨_, _, ⟨T239, L239, k239, n239⟩, -, X239, ⟨Lc239, hQ239, l239, y239, z239⟩, st239⟩ := Jvm.LawKit.callS X238 hx (y := (⟨"com/example/syncopate/syncopate/DeletedRowsThroughPinLaw", "swap", "([III)V"⟩ : MethodName)) hown (mvT hZ (hw _ (List.mem_of_getElem? (i := 50) rfl))) (mvT hZ (hw _ (List.mem_of_getElem? (i := 51) rfl))) (mvT hZ (hw _ (List.mem_of_getElem? (i := 52) rfl))) (mvT hZ (hw _ (List.mem_of_getElem? (i := 53) rfl))) (by decide) (backOf (W := 0) (rm10_0_1 l Z a0 hw [] b232 k232 (Int32.ofNat P1) (Int32.ofNat P2) (Int32.ofNat P3) h238 n0 z238 V238 fr_b232) hZ (hw _ (List.mem_of_getElem? (i := 53) rfl)) (hw _ (List.mem_of_getElem? (i := 52) rfl)) (by decide) (by decide)) (g := (mkF m 89 #[.val (.int pa), .val (.int pb), .val (.int pc1), .val (.int pd0), .val (.int pe), .val (.int pq), .val (.int (Int32.ofNat P1)), .val (.int (Int32.ofNat P2)), .val (.int (Int32.ofNat P3)), .val (.ref b232), .unset, .unset, .unset] [(.int (1 : Int32)), (.int (0 : Int32)), (.ref b232)])) rfl (by rw [hml]; rfl) (argsL := [(.ref b232), (.int (0 : Int32)), (.int (1 : Int32))]) (rest := []) (lenOf pd_7 rfl) rfl (by show 2 * 0 + _ ≤ _; exact Nat.le_of_eq rfl) (hb hby at_89) (fun _ _ => ⟨rfl, e238, (by decide : 1 + 0 ≤ _), (by decide : 3 + 0 ≤ _)⟩)
        dsimp only [Pt.U, Pt.locs, Pt.cells, Pt.slots] at X239 l239 y239 z239 st239 hQ239
        subst l239 y239 z239
        obtain ⟨rfl, N239q, K239, f240⟩ := hQ239
        have N239 := Fr.app N238 N239q
        have z239' : n0 ≤ T239.heap.size := Nat.le_trans z238 K239.1
        refine own_step (T239.setTop (mkF m 92 #[.val (.int pa), .val (.int pb), .val (.int pc1), .val (.int pd0), .val (.int pe), .val (.int pq), .val (.int (Int32.ofNat P1)), .val (.int (Int32.ofNat P2)), .val (.int (Int32.ofNat P3)), .val (.ref b232), .unset, .unset, .unset] [])) (fun t₀ k₀ => st239 t₀ k₀) ?_
        exact cut92 (Int32.ofNat P1) (Int32.ofNat P2) (Int32.ofNat P3) b232 k232 P2 P1 P3 _ z239' _ _ N239 X239 rfl f240 (own_pp hB).2.2.1
    · skip
      refine own_step (T238.setTop (mkF m 71 #[.val (.int pa), .val (.int pb), .val (.int pc1), .val (.int pd0), .val (.int pe), .val (.int pq), .val (.int (Int32.ofNat P1)), .val (.int (Int32.ofNat P2)), .val (.int (Int32.ofNat P3)), .val (.ref b232), .unset, .unset, .unset] [])) (fun t₀ k₀ => XS.ifNo X238.here hx rfl (hb hby at_68) rfl ((if0 _ _).trans (feq hc68).1) k₀) ?_
      refine own_step (T238.setTop (mkF m 73 #[.val (.int pa), .val (.int pb), .val (.int pc1), .val (.int pd0), .val (.int pe), .val (.int pq), .val (.int (Int32.ofNat P1)), .val (.int (Int32.ofNat P2)), .val (.int (Int32.ofNat P3)), .val (.ref b232), .unset, .unset, .unset] [(.ref b232)])) (fun t₀ k₀ => XS.aload X238.here hx rfl (hb hby at_71) rfl rfl k₀) ?_
      refine own_step (T238.setTop (mkF m 74 #[.val (.int pa), .val (.int pb), .val (.int pc1), .val (.int pd0), .val (.int pe), .val (.int pq), .val (.int (Int32.ofNat P1)), .val (.int (Int32.ofNat P2)), .val (.int (Int32.ofNat P3)), .val (.ref b232), .unset, .unset, .unset] [(.int (1 : Int32)), (.ref b232)])) (fun t₀ k₀ => XS.iconst X238.here hx rfl (hb hby at_73) k₀) ?_
      refine own_step (T238.setTop (mkF m 75 #[.val (.int pa), .val (.int pb), .val (.int pc1), .val (.int pd0), .val (.int pe), .val (.int pq), .val (.int (Int32.ofNat P1)), .val (.int (Int32.ofNat P2)), .val (.int (Int32.ofNat P3)), .val (.ref b232), .unset, .unset, .unset] [(.int (2 : Int32)), (.int (1 : Int32)), (.ref b232)])) (fun t₀ k₀ => XS.iconst X238.here hx rfl (hb hby at_74) k₀) ?_
      obtain ⟨_, _, ⟨T242, L242, k242, n242⟩, -, X242, ⟨Lc242, hQ242, l242, y242, z242⟩, st242⟩ := Jvm.LawKit.callS X238 hx (y := (⟨"com/example/syncopate/syncopate/DeletedRowsThroughPinLaw", "swap", "([III)V"⟩ : MethodName)) hown (mvT hZ (hw _ (List.mem_of_getElem? (i := 50) rfl))) (mvT hZ (hw _ (List.mem_of_getElem? (i := 51) rfl))) (mvT hZ (hw _ (List.mem_of_getElem? (i := 52) rfl))) (mvT hZ (hw _ (List.mem_of_getElem? (i := 53) rfl))) (by decide) (backOf (W := 0) (rm10_1_2 l Z a0 hw [] b232 k232 (Int32.ofNat P1) (Int32.ofNat P2) (Int32.ofNat P3) h238 n0 z238 V238 fr_b232) hZ (hw _ (List.mem_of_getElem? (i := 53) rfl)) (hw _ (List.mem_of_getElem? (i := 52) rfl)) (by decide) (by decide)) (g := (mkF m 75 #[.val (.int pa), .val (.int pb), .val (.int pc1), .val (.int pd0), .val (.int pe), .val (.int pq), .val (.int (Int32.ofNat P1)), .val (.int (Int32.ofNat P2)), .val (.int (Int32.ofNat P3)), .val (.ref b232), .unset, .unset, .unset] [(.int (2 : Int32)), (.int (1 : Int32)), (.ref b232)])) rfl (by rw [hml]; rfl) (argsL := [(.ref b232), (.int (1 : Int32)), (.int (2 : Int32))]) (rest := []) (lenOf pd_7 rfl) rfl (by show 2 * 0 + _ ≤ _; exact Nat.le_of_eq rfl) (hb hby at_75) (fun _ _ => ⟨rfl, e238, (by decide : 1 + 0 ≤ _), (by decide : 3 + 0 ≤ _)⟩)
      dsimp only [Pt.U, Pt.locs, Pt.cells, Pt.slots] at X242 l242 y242 z242 st242 hQ242
      subst l242 y242 z242
      obtain ⟨rfl, N242q, K242, f243⟩ := hQ242
      have N242 := Fr.app N238 N242q
      have z242' : n0 ≤ T242.heap.size := Nat.le_trans z238 K242.1
      refine own_step (T242.setTop (mkF m 78 #[.val (.int pa), .val (.int pb), .val (.int pc1), .val (.int pd0), .val (.int pe), .val (.int pq), .val (.int (Int32.ofNat P1)), .val (.int (Int32.ofNat P2)), .val (.int (Int32.ofNat P3)), .val (.ref b232), .unset, .unset, .unset] [])) (fun t₀ k₀ => st242 t₀ k₀) ?_
      refine own_step (T242.setTop (mkF m 80 #[.val (.int pa), .val (.int pb), .val (.int pc1), .val (.int pd0), .val (.int pe), .val (.int pq), .val (.int (Int32.ofNat P1)), .val (.int (Int32.ofNat P2)), .val (.int (Int32.ofNat P3)), .val (.ref b232), .unset, .unset, .unset] [(.int pe)])) (fun t₀ k₀ => XS.iload X242.here hx rfl (hb hby at_78) rfl k₀) ?_
      refine own_step (T242.setTop (mkF m 81 #[.val (.int pa), .val (.int pb), .val (.int pc1), .val (.int pd0), .val (.int pe), .val (.int pq), .val (.int (Int32.ofNat P1)), .val (.int (Int32.ofNat P2)), .val (.int (Int32.ofNat P3)), .val (.ref b232), .unset, .unset, .unset] [(.int (4 : Int32)), (.int pe)])) (fun t₀ k₀ => XS.iconst X242.here hx rfl (hb hby at_80) k₀) ?_
      refine own_step (T242.setTop (mkF m 82 #[.val (.int pa), .val (.int pb), .val (.int pc1), .val (.int pd0), .val (.int pe), .val (.int pq), .val (.int (Int32.ofNat P1)), .val (.int (Int32.ofNat P2)), .val (.int (Int32.ofNat P3)), .val (.ref b232), .unset, .unset, .unset] [(.int (pe &&& (4 : Int32)))])) (fun t₀ k₀ => XS.iand X242.here hx rfl (hb hby at_81) rfl k₀) ?_
      by_cases hc82 : (pe &&& (4 : Int32)) = (0 : Int32)
      · skip
        refine own_step (T242.setTop (mkF m 92 #[.val (.int pa), .val (.int pb), .val (.int pc1), .val (.int pd0), .val (.int pe), .val (.int pq), .val (.int (Int32.ofNat P1)), .val (.int (Int32.ofNat P2)), .val (.int (Int32.ofNat P3)), .val (.ref b232), .unset, .unset, .unset] [])) (fun t₀ k₀ => XS.ifYes X242.here hx rfl (pc0 := 82) (pc' := 92) rfl (hb hby at_82) rfl ((if0 _ _).trans (teq hc82).1) (by decide) (by decide) k₀) ?_
        exact cut92 (Int32.ofNat P1) (Int32.ofNat P2) (Int32.ofNat P3) b232 k232 P1 P3 P2 _ z242' _ _ N242 X242 rfl f243 (own_pp hB).2.1
      · skip
        refine own_step (T242.setTop (mkF m 85 #[.val (.int pa), .val (.int pb), .val (.int pc1), .val (.int pd0), .val (.int pe), .val (.int pq), .val (.int (Int32.ofNat P1)), .val (.int (Int32.ofNat P2)), .val (.int (Int32.ofNat P3)), .val (.ref b232), .unset, .unset, .unset] [])) (fun t₀ k₀ => XS.ifNo X242.here hx rfl (hb hby at_82) rfl ((if0 _ _).trans (feq hc82).1) k₀) ?_
        refine own_step (T242.setTop (mkF m 87 #[.val (.int pa), .val (.int pb), .val (.int pc1), .val (.int pd0), .val (.int pe), .val (.int pq), .val (.int (Int32.ofNat P1)), .val (.int (Int32.ofNat P2)), .val (.int (Int32.ofNat P3)), .val (.ref b232), .unset, .unset, .unset] [(.ref b232)])) (fun t₀ k₀ => XS.aload X242.here hx rfl (hb hby at_85) rfl rfl k₀) ?_
        refine own_step (T242.setTop (mkF m 88 #[.val (.int pa), .val (.int pb), .val (.int pc1), .val (.int pd0), .val (.int pe), .val (.int pq), .val (.int (Int32.ofNat P1)), .val (.int (Int32.ofNat P2)), .val (.int (Int32.ofNat P3)), .val (.ref b232), .unset, .unset, .unset] [(.int (0 : Int32)), (.ref b232)])) (fun t₀ k₀ => XS.iconst X242.here hx rfl (hb hby at_87) k₀) ?_
        refine own_step (T242.setTop (mkF m 89 #[.val (.int pa), .val (.int pb), .val (.int pc1), .val (.int pd0), .val (.int pe), .val (.int pq), .val (.int (Int32.ofNat P1)), .val (.int (Int32.ofNat P2)), .val (.int (Int32.ofNat P3)), .val (.ref b232), .unset, .unset, .unset] [(.int (1 : Int32)), (.int (0 : Int32)), (.ref b232)])) (fun t₀ k₀ => XS.iconst X242.here hx rfl (hb hby at_88) k₀) ?_
        obtain ⟨_, _, ⟨T245, L245, k245, n245⟩, -, X245, ⟨Lc245, hQ245, l245, y245, z245⟩, st245⟩ := Jvm.LawKit.callS X242 hx (y := (⟨"com/example/syncopate/syncopate/DeletedRowsThroughPinLaw", "swap", "([III)V"⟩ : MethodName)) hown (mvT hZ (hw _ (List.mem_of_getElem? (i := 50) rfl))) (mvT hZ (hw _ (List.mem_of_getElem? (i := 51) rfl))) (mvT hZ (hw _ (List.mem_of_getElem? (i := 52) rfl))) (mvT hZ (hw _ (List.mem_of_getElem? (i := 53) rfl))) (by decide) (backOf (W := 0) (rm10_0_1 l Z a0 hw [] b232 k232 (Int32.ofNat P1) (Int32.ofNat P3) (Int32.ofNat P2) T242.heap n0 z242' f243 fr_b232) hZ (hw _ (List.mem_of_getElem? (i := 53) rfl)) (hw _ (List.mem_of_getElem? (i := 52) rfl)) (by decide) (by decide)) (g := (mkF m 89 #[.val (.int pa), .val (.int pb), .val (.int pc1), .val (.int pd0), .val (.int pe), .val (.int pq), .val (.int (Int32.ofNat P1)), .val (.int (Int32.ofNat P2)), .val (.int (Int32.ofNat P3)), .val (.ref b232), .unset, .unset, .unset] [(.int (1 : Int32)), (.int (0 : Int32)), (.ref b232)])) rfl (by rw [hml]; rfl) (argsL := [(.ref b232), (.int (0 : Int32)), (.int (1 : Int32))]) (rest := []) (lenOf pd_7 rfl) rfl (by show 2 * 0 + _ ≤ _; exact Nat.le_of_eq rfl) (hb hby at_89) (fun _ _ => ⟨rfl, rfl, (by decide : 1 + 0 ≤ _), (by decide : 3 + 0 ≤ _)⟩)
        dsimp only [Pt.U, Pt.locs, Pt.cells, Pt.slots] at X245 l245 y245 z245 st245 hQ245
        subst l245 y245 z245
        obtain ⟨rfl, N245q, K245, f246⟩ := hQ245
        have N245 := Fr.app N242 N245q
        have z245' : n0 ≤ T245.heap.size := Nat.le_trans z242' K245.1
        refine own_step (T245.setTop (mkF m 92 #[.val (.int pa), .val (.int pb), .val (.int pc1), .val (.int pd0), .val (.int pe), .val (.int pq), .val (.int (Int32.ofNat P1)), .val (.int (Int32.ofNat P2)), .val (.int (Int32.ofNat P3)), .val (.ref b232), .unset, .unset, .unset] [])) (fun t₀ k₀ => st245 t₀ k₀) ?_
        exact cut92 (Int32.ofNat P1) (Int32.ofNat P2) (Int32.ofNat P3) b232 k232 P3 P1 P2 _ z245' _ _ N245 X245 rfl f246 (own_pp hB).2.2.2.2.1
  · skip
    refine own_step (T238.setTop (mkF m 57 #[.val (.int pa), .val (.int pb), .val (.int pc1), .val (.int pd0), .val (.int pe), .val (.int pq), .val (.int (Int32.ofNat P1)), .val (.int (Int32.ofNat P2)), .val (.int (Int32.ofNat P3)), .val (.ref b232), .unset, .unset, .unset] [])) (fun t₀ k₀ => XS.ifNo X238.here hx rfl (hb hby at_54) rfl ((if0 _ _).trans (feq hc54).1) k₀) ?_
    refine own_step (T238.setTop (mkF m 59 #[.val (.int pa), .val (.int pb), .val (.int pc1), .val (.int pd0), .val (.int pe), .val (.int pq), .val (.int (Int32.ofNat P1)), .val (.int (Int32.ofNat P2)), .val (.int (Int32.ofNat P3)), .val (.ref b232), .unset, .unset, .unset] [(.ref b232)])) (fun t₀ k₀ => XS.aload X238.here hx rfl (hb hby at_57) rfl rfl k₀) ?_
    refine own_step (T238.setTop (mkF m 60 #[.val (.int pa), .val (.int pb), .val (.int pc1), .val (.int pd0), .val (.int pe), .val (.int pq), .val (.int (Int32.ofNat P1)), .val (.int (Int32.ofNat P2)), .val (.int (Int32.ofNat P3)), .val (.ref b232), .unset, .unset, .unset] [(.int (0 : Int32)), (.ref b232)])) (fun t₀ k₀ => XS.iconst X238.here hx rfl (hb hby at_59) k₀) ?_
    refine own_step (T238.setTop (mkF m 61 #[.val (.int pa), .val (.int pb), .val (.int pc1), .val (.int pd0), .val (.int pe), .val (.int pq), .val (.int (Int32.ofNat P1)), .val (.int (Int32.ofNat P2)), .val (.int (Int32.ofNat P3)), .val (.ref b232), .unset, .unset, .unset] [(.int (1 : Int32)), (.int (0 : Int32)), (.ref b232)])) (fun t₀ k₀ => XS.iconst X238.here hx rfl (hb hby at_60) k₀) ?_
    obtain ⟨_, _, ⟨T248, L248, k248, n248⟩, -, X248, ⟨Lc248, hQ248, l248, y248, z248⟩, st248⟩ := Jvm.LawKit.callS X238 hx (y := (⟨"com/example/syncopate/syncopate/DeletedRowsThroughPinLaw", "swap", "([III)V"⟩ : MethodName)) hown (mvT hZ (hw _ (List.mem_of_getElem? (i := 50) rfl))) (mvT hZ (hw _ (List.mem_of_getElem? (i := 51) rfl))) (mvT hZ (hw _ (List.mem_of_getElem? (i := 52) rfl))) (mvT hZ (hw _ (List.mem_of_getElem? (i := 53) rfl))) (by decide) (backOf (W := 0) (rm10_0_1 l Z a0 hw [] b232 k232 (Int32.ofNat P1) (Int32.ofNat P2) (Int32.ofNat P3) h238 n0 z238 V238 fr_b232) hZ (hw _ (List.mem_of_getElem? (i := 53) rfl)) (hw _ (List.mem_of_getElem? (i := 52) rfl)) (by decide) (by decide)) (g := (mkF m 61 #[.val (.int pa), .val (.int pb), .val (.int pc1), .val (.int pd0), .val (.int pe), .val (.int pq), .val (.int (Int32.ofNat P1)), .val (.int (Int32.ofNat P2)), .val (.int (Int32.ofNat P3)), .val (.ref b232), .unset, .unset, .unset] [(.int (1 : Int32)), (.int (0 : Int32)), (.ref b232)])) rfl (by rw [hml]; rfl) (argsL := [(.ref b232), (.int (0 : Int32)), (.int (1 : Int32))]) (rest := []) (lenOf pd_7 rfl) rfl (by show 2 * 0 + _ ≤ _; exact Nat.le_of_eq rfl) (hb hby at_61) (fun _ _ => ⟨rfl, e238, (by decide : 1 + 0 ≤ _), (by decide : 3 + 0 ≤ _)⟩)
    dsimp only [Pt.U, Pt.locs, Pt.cells, Pt.slots] at X248 l248 y248 z248 st248 hQ248
    subst l248 y248 z248
    obtain ⟨rfl, N248q, K248, f249⟩ := hQ248
    have N248 := Fr.app N238 N248q
    have z248' : n0 ≤ T248.heap.size := Nat.le_trans z238 K248.1
    refine own_step (T248.setTop (mkF m 64 #[.val (.int pa), .val (.int pb), .val (.int pc1), .val (.int pd0), .val (.int pe), .val (.int pq), .val (.int (Int32.ofNat P1)), .val (.int (Int32.ofNat P2)), .val (.int (Int32.ofNat P3)), .val (.ref b232), .unset, .unset, .unset] [])) (fun t₀ k₀ => st248 t₀ k₀) ?_
    refine own_step (T248.setTop (mkF m 66 #[.val (.int pa), .val (.int pb), .val (.int pc1), .val (.int pd0), .val (.int pe), .val (.int pq), .val (.int (Int32.ofNat P1)), .val (.int (Int32.ofNat P2)), .val (.int (Int32.ofNat P3)), .val (.ref b232), .unset, .unset, .unset] [(.int pe)])) (fun t₀ k₀ => XS.iload X248.here hx rfl (hb hby at_64) rfl k₀) ?_
    refine own_step (T248.setTop (mkF m 67 #[.val (.int pa), .val (.int pb), .val (.int pc1), .val (.int pd0), .val (.int pe), .val (.int pq), .val (.int (Int32.ofNat P1)), .val (.int (Int32.ofNat P2)), .val (.int (Int32.ofNat P3)), .val (.ref b232), .unset, .unset, .unset] [(.int (2 : Int32)), (.int pe)])) (fun t₀ k₀ => XS.iconst X248.here hx rfl (hb hby at_66) k₀) ?_
    refine own_step (T248.setTop (mkF m 68 #[.val (.int pa), .val (.int pb), .val (.int pc1), .val (.int pd0), .val (.int pe), .val (.int pq), .val (.int (Int32.ofNat P1)), .val (.int (Int32.ofNat P2)), .val (.int (Int32.ofNat P3)), .val (.ref b232), .unset, .unset, .unset] [(.int (pe &&& (2 : Int32)))])) (fun t₀ k₀ => XS.iand X248.here hx rfl (hb hby at_67) rfl k₀) ?_
    by_cases hc68 : (pe &&& (2 : Int32)) = (0 : Int32)
    · skip
      refine own_step (T248.setTop (mkF m 78 #[.val (.int pa), .val (.int pb), .val (.int pc1), .val (.int pd0), .val (.int pe), .val (.int pq), .val (.int (Int32.ofNat P1)), .val (.int (Int32.ofNat P2)), .val (.int (Int32.ofNat P3)), .val (.ref b232), .unset, .unset, .unset] [])) (fun t₀ k₀ => XS.ifYes X248.here hx rfl (pc0 := 68) (pc' := 78) rfl (hb hby at_68) rfl ((if0 _ _).trans (teq hc68).1) (by decide) (by decide) k₀) ?_
      refine own_step (T248.setTop (mkF m 80 #[.val (.int pa), .val (.int pb), .val (.int pc1), .val (.int pd0), .val (.int pe), .val (.int pq), .val (.int (Int32.ofNat P1)), .val (.int (Int32.ofNat P2)), .val (.int (Int32.ofNat P3)), .val (.ref b232), .unset, .unset, .unset] [(.int pe)])) (fun t₀ k₀ => XS.iload X248.here hx rfl (hb hby at_78) rfl k₀) ?_
      refine own_step (T248.setTop (mkF m 81 #[.val (.int pa), .val (.int pb), .val (.int pc1), .val (.int pd0), .val (.int pe), .val (.int pq), .val (.int (Int32.ofNat P1)), .val (.int (Int32.ofNat P2)), .val (.int (Int32.ofNat P3)), .val (.ref b232), .unset, .unset, .unset] [(.int (4 : Int32)), (.int pe)])) (fun t₀ k₀ => XS.iconst X248.here hx rfl (hb hby at_80) k₀) ?_
      refine own_step (T248.setTop (mkF m 82 #[.val (.int pa), .val (.int pb), .val (.int pc1), .val (.int pd0), .val (.int pe), .val (.int pq), .val (.int (Int32.ofNat P1)), .val (.int (Int32.ofNat P2)), .val (.int (Int32.ofNat P3)), .val (.ref b232), .unset, .unset, .unset] [(.int (pe &&& (4 : Int32)))])) (fun t₀ k₀ => XS.iand X248.here hx rfl (hb hby at_81) rfl k₀) ?_
      by_cases hc82 : (pe &&& (4 : Int32)) = (0 : Int32)
      · skip
        refine own_step (T248.setTop (mkF m 92 #[.val (.int pa), .val (.int pb), .val (.int pc1), .val (.int pd0), .val (.int pe), .val (.int pq), .val (.int (Int32.ofNat P1)), .val (.int (Int32.ofNat P2)), .val (.int (Int32.ofNat P3)), .val (.ref b232), .unset, .unset, .unset] [])) (fun t₀ k₀ => XS.ifYes X248.here hx rfl (pc0 := 82) (pc' := 92) rfl (hb hby at_82) rfl ((if0 _ _).trans (teq hc82).1) (by decide) (by decide) k₀) ?_
        exact cut92 (Int32.ofNat P1) (Int32.ofNat P2) (Int32.ofNat P3) b232 k232 P2 P1 P3 _ z248' _ _ N248 X248 rfl f249 (own_pp hB).2.2.1
      · skip
        refine own_step (T248.setTop (mkF m 85 #[.val (.int pa), .val (.int pb), .val (.int pc1), .val (.int pd0), .val (.int pe), .val (.int pq), .val (.int (Int32.ofNat P1)), .val (.int (Int32.ofNat P2)), .val (.int (Int32.ofNat P3)), .val (.ref b232), .unset, .unset, .unset] [])) (fun t₀ k₀ => XS.ifNo X248.here hx rfl (hb hby at_82) rfl ((if0 _ _).trans (feq hc82).1) k₀) ?_
        refine own_step (T248.setTop (mkF m 87 #[.val (.int pa), .val (.int pb), .val (.int pc1), .val (.int pd0), .val (.int pe), .val (.int pq), .val (.int (Int32.ofNat P1)), .val (.int (Int32.ofNat P2)), .val (.int (Int32.ofNat P3)), .val (.ref b232), .unset, .unset, .unset] [(.ref b232)])) (fun t₀ k₀ => XS.aload X248.here hx rfl (hb hby at_85) rfl rfl k₀) ?_
        refine own_step (T248.setTop (mkF m 88 #[.val (.int pa), .val (.int pb), .val (.int pc1), .val (.int pd0), .val (.int pe), .val (.int pq), .val (.int (Int32.ofNat P1)), .val (.int (Int32.ofNat P2)), .val (.int (Int32.ofNat P3)), .val (.ref b232), .unset, .unset, .unset] [(.int (0 : Int32)), (.ref b232)])) (fun t₀ k₀ => XS.iconst X248.here hx rfl (hb hby at_87) k₀) ?_
        refine own_step (T248.setTop (mkF m 89 #[.val (.int pa), .val (.int pb), .val (.int pc1), .val (.int pd0), .val (.int pe), .val (.int pq), .val (.int (Int32.ofNat P1)), .val (.int (Int32.ofNat P2)), .val (.int (Int32.ofNat P3)), .val (.ref b232), .unset, .unset, .unset] [(.int (1 : Int32)), (.int (0 : Int32)), (.ref b232)])) (fun t₀ k₀ => XS.iconst X248.here hx rfl (hb hby at_88) k₀) ?_
        obtain ⟨_, _, ⟨T251, L251, k251, n251⟩, -, X251, ⟨Lc251, hQ251, l251, y251, z251⟩, st251⟩ := Jvm.LawKit.callS X248 hx (y := (⟨"com/example/syncopate/syncopate/DeletedRowsThroughPinLaw", "swap", "([III)V"⟩ : MethodName)) hown (mvT hZ (hw _ (List.mem_of_getElem? (i := 50) rfl))) (mvT hZ (hw _ (List.mem_of_getElem? (i := 51) rfl))) (mvT hZ (hw _ (List.mem_of_getElem? (i := 52) rfl))) (mvT hZ (hw _ (List.mem_of_getElem? (i := 53) rfl))) (by decide) (backOf (W := 0) (rm10_0_1 l Z a0 hw [] b232 k232 (Int32.ofNat P2) (Int32.ofNat P1) (Int32.ofNat P3) T248.heap n0 z248' f249 fr_b232) hZ (hw _ (List.mem_of_getElem? (i := 53) rfl)) (hw _ (List.mem_of_getElem? (i := 52) rfl)) (by decide) (by decide)) (g := (mkF m 89 #[.val (.int pa), .val (.int pb), .val (.int pc1), .val (.int pd0), .val (.int pe), .val (.int pq), .val (.int (Int32.ofNat P1)), .val (.int (Int32.ofNat P2)), .val (.int (Int32.ofNat P3)), .val (.ref b232), .unset, .unset, .unset] [(.int (1 : Int32)), (.int (0 : Int32)), (.ref b232)])) rfl (by rw [hml]; rfl) (argsL := [(.ref b232), (.int (0 : Int32)), (.int (1 : Int32))]) (rest := []) (lenOf pd_7 rfl) rfl (by show 2 * 0 + _ ≤ _; exact Nat.le_of_eq rfl) (hb hby at_89) (fun _ _ => ⟨rfl, rfl, (by decide : 1 + 0 ≤ _), (by decide : 3 + 0 ≤ _)⟩)
        dsimp only [Pt.U, Pt.locs, Pt.cells, Pt.slots] at X251 l251 y251 z251 st251 hQ251
        subst l251 y251 z251
        obtain ⟨rfl, N251q, K251, f252⟩ := hQ251
        have N251 := Fr.app N248 N251q
        have z251' : n0 ≤ T251.heap.size := Nat.le_trans z248' K251.1
        refine own_step (T251.setTop (mkF m 92 #[.val (.int pa), .val (.int pb), .val (.int pc1), .val (.int pd0), .val (.int pe), .val (.int pq), .val (.int (Int32.ofNat P1)), .val (.int (Int32.ofNat P2)), .val (.int (Int32.ofNat P3)), .val (.ref b232), .unset, .unset, .unset] [])) (fun t₀ k₀ => st251 t₀ k₀) ?_
        exact cut92 (Int32.ofNat P1) (Int32.ofNat P2) (Int32.ofNat P3) b232 k232 P1 P2 P3 _ z251' _ _ N251 X251 rfl f252 (own_pp hB).1
    · skip
      refine own_step (T248.setTop (mkF m 71 #[.val (.int pa), .val (.int pb), .val (.int pc1), .val (.int pd0), .val (.int pe), .val (.int pq), .val (.int (Int32.ofNat P1)), .val (.int (Int32.ofNat P2)), .val (.int (Int32.ofNat P3)), .val (.ref b232), .unset, .unset, .unset] [])) (fun t₀ k₀ => XS.ifNo X248.here hx rfl (hb hby at_68) rfl ((if0 _ _).trans (feq hc68).1) k₀) ?_
      refine own_step (T248.setTop (mkF m 73 #[.val (.int pa), .val (.int pb), .val (.int pc1), .val (.int pd0), .val (.int pe), .val (.int pq), .val (.int (Int32.ofNat P1)), .val (.int (Int32.ofNat P2)), .val (.int (Int32.ofNat P3)), .val (.ref b232), .unset, .unset, .unset] [(.ref b232)])) (fun t₀ k₀ => XS.aload X248.here hx rfl (hb hby at_71) rfl rfl k₀) ?_
      refine own_step (T248.setTop (mkF m 74 #[.val (.int pa), .val (.int pb), .val (.int pc1), .val (.int pd0), .val (.int pe), .val (.int pq), .val (.int (Int32.ofNat P1)), .val (.int (Int32.ofNat P2)), .val (.int (Int32.ofNat P3)), .val (.ref b232), .unset, .unset, .unset] [(.int (1 : Int32)), (.ref b232)])) (fun t₀ k₀ => XS.iconst X248.here hx rfl (hb hby at_73) k₀) ?_
      refine own_step (T248.setTop (mkF m 75 #[.val (.int pa), .val (.int pb), .val (.int pc1), .val (.int pd0), .val (.int pe), .val (.int pq), .val (.int (Int32.ofNat P1)), .val (.int (Int32.ofNat P2)), .val (.int (Int32.ofNat P3)), .val (.ref b232), .unset, .unset, .unset] [(.int (2 : Int32)), (.int (1 : Int32)), (.ref b232)])) (fun t₀ k₀ => XS.iconst X248.here hx rfl (hb hby at_74) k₀) ?_
      obtain ⟨_, _, ⟨T254, L254, k254, n254⟩, -, X254, ⟨Lc254, hQ254, l254, y254, z254⟩, st254⟩ := Jvm.LawKit.callS X248 hx (y := (⟨"com/example/syncopate/syncopate/DeletedRowsThroughPinLaw", "swap", "([III)V"⟩ : MethodName)) hown (mvT hZ (hw _ (List.mem_of_getElem? (i := 50) rfl))) (mvT hZ (hw _ (List.mem_of_getElem? (i := 51) rfl))) (mvT hZ (hw _ (List.mem_of_getElem? (i := 52) rfl))) (mvT hZ (hw _ (List.mem_of_getElem? (i := 53) rfl))) (by decide) (backOf (W := 0) (rm10_1_2 l Z a0 hw [] b232 k232 (Int32.ofNat P2) (Int32.ofNat P1) (Int32.ofNat P3) T248.heap n0 z248' f249 fr_b232) hZ (hw _ (List.mem_of_getElem? (i := 53) rfl)) (hw _ (List.mem_of_getElem? (i := 52) rfl)) (by decide) (by decide)) (g := (mkF m 75 #[.val (.int pa), .val (.int pb), .val (.int pc1), .val (.int pd0), .val (.int pe), .val (.int pq), .val (.int (Int32.ofNat P1)), .val (.int (Int32.ofNat P2)), .val (.int (Int32.ofNat P3)), .val (.ref b232), .unset, .unset, .unset] [(.int (2 : Int32)), (.int (1 : Int32)), (.ref b232)])) rfl (by rw [hml]; rfl) (argsL := [(.ref b232), (.int (1 : Int32)), (.int (2 : Int32))]) (rest := []) (lenOf pd_7 rfl) rfl (by show 2 * 0 + _ ≤ _; exact Nat.le_of_eq rfl) (hb hby at_75) (fun _ _ => ⟨rfl, rfl, (by decide : 1 + 0 ≤ _), (by decide : 3 + 0 ≤ _)⟩)
      dsimp only [Pt.U, Pt.locs, Pt.cells, Pt.slots] at X254 l254 y254 z254 st254 hQ254
      subst l254 y254 z254
      obtain ⟨rfl, N254q, K254, f255⟩ := hQ254
      have N254 := Fr.app N248 N254q
      have z254' : n0 ≤ T254.heap.size := Nat.le_trans z248' K254.1
      refine own_step (T254.setTop (mkF m 78 #[.val (.int pa), .val (.int pb), .val (.int pc1), .val (.int pd0), .val (.int pe), .val (.int pq), .val (.int (Int32.ofNat P1)), .val (.int (Int32.ofNat P2)), .val (.int (Int32.ofNat P3)), .val (.ref b232), .unset, .unset, .unset] [])) (fun t₀ k₀ => st254 t₀ k₀) ?_
      refine own_step (T254.setTop (mkF m 80 #[.val (.int pa), .val (.int pb), .val (.int pc1), .val (.int pd0), .val (.int pe), .val (.int pq), .val (.int (Int32.ofNat P1)), .val (.int (Int32.ofNat P2)), .val (.int (Int32.ofNat P3)), .val (.ref b232), .unset, .unset, .unset] [(.int pe)])) (fun t₀ k₀ => XS.iload X254.here hx rfl (hb hby at_78) rfl k₀) ?_
      refine own_step (T254.setTop (mkF m 81 #[.val (.int pa), .val (.int pb), .val (.int pc1), .val (.int pd0), .val (.int pe), .val (.int pq), .val (.int (Int32.ofNat P1)), .val (.int (Int32.ofNat P2)), .val (.int (Int32.ofNat P3)), .val (.ref b232), .unset, .unset, .unset] [(.int (4 : Int32)), (.int pe)])) (fun t₀ k₀ => XS.iconst X254.here hx rfl (hb hby at_80) k₀) ?_
      refine own_step (T254.setTop (mkF m 82 #[.val (.int pa), .val (.int pb), .val (.int pc1), .val (.int pd0), .val (.int pe), .val (.int pq), .val (.int (Int32.ofNat P1)), .val (.int (Int32.ofNat P2)), .val (.int (Int32.ofNat P3)), .val (.ref b232), .unset, .unset, .unset] [(.int (pe &&& (4 : Int32)))])) (fun t₀ k₀ => XS.iand X254.here hx rfl (hb hby at_81) rfl k₀) ?_
      by_cases hc82 : (pe &&& (4 : Int32)) = (0 : Int32)
      · skip
        refine own_step (T254.setTop (mkF m 92 #[.val (.int pa), .val (.int pb), .val (.int pc1), .val (.int pd0), .val (.int pe), .val (.int pq), .val (.int (Int32.ofNat P1)), .val (.int (Int32.ofNat P2)), .val (.int (Int32.ofNat P3)), .val (.ref b232), .unset, .unset, .unset] [])) (fun t₀ k₀ => XS.ifYes X254.here hx rfl (pc0 := 82) (pc' := 92) rfl (hb hby at_82) rfl ((if0 _ _).trans (teq hc82).1) (by decide) (by decide) k₀) ?_
        exact cut92 (Int32.ofNat P1) (Int32.ofNat P2) (Int32.ofNat P3) b232 k232 P2 P3 P1 _ z254' _ _ N254 X254 rfl f255 (own_pp hB).2.2.2.1
      · skip
        refine own_step (T254.setTop (mkF m 85 #[.val (.int pa), .val (.int pb), .val (.int pc1), .val (.int pd0), .val (.int pe), .val (.int pq), .val (.int (Int32.ofNat P1)), .val (.int (Int32.ofNat P2)), .val (.int (Int32.ofNat P3)), .val (.ref b232), .unset, .unset, .unset] [])) (fun t₀ k₀ => XS.ifNo X254.here hx rfl (hb hby at_82) rfl ((if0 _ _).trans (feq hc82).1) k₀) ?_
        refine own_step (T254.setTop (mkF m 87 #[.val (.int pa), .val (.int pb), .val (.int pc1), .val (.int pd0), .val (.int pe), .val (.int pq), .val (.int (Int32.ofNat P1)), .val (.int (Int32.ofNat P2)), .val (.int (Int32.ofNat P3)), .val (.ref b232), .unset, .unset, .unset] [(.ref b232)])) (fun t₀ k₀ => XS.aload X254.here hx rfl (hb hby at_85) rfl rfl k₀) ?_
        refine own_step (T254.setTop (mkF m 88 #[.val (.int pa), .val (.int pb), .val (.int pc1), .val (.int pd0), .val (.int pe), .val (.int pq), .val (.int (Int32.ofNat P1)), .val (.int (Int32.ofNat P2)), .val (.int (Int32.ofNat P3)), .val (.ref b232), .unset, .unset, .unset] [(.int (0 : Int32)), (.ref b232)])) (fun t₀ k₀ => XS.iconst X254.here hx rfl (hb hby at_87) k₀) ?_
        refine own_step (T254.setTop (mkF m 89 #[.val (.int pa), .val (.int pb), .val (.int pc1), .val (.int pd0), .val (.int pe), .val (.int pq), .val (.int (Int32.ofNat P1)), .val (.int (Int32.ofNat P2)), .val (.int (Int32.ofNat P3)), .val (.ref b232), .unset, .unset, .unset] [(.int (1 : Int32)), (.int (0 : Int32)), (.ref b232)])) (fun t₀ k₀ => XS.iconst X254.here hx rfl (hb hby at_88) k₀) ?_
        obtain ⟨_, _, ⟨T257, L257, k257, n257⟩, -, X257, ⟨Lc257, hQ257, l257, y257, z257⟩, st257⟩ := Jvm.LawKit.callS X254 hx (y := (⟨"com/example/syncopate/syncopate/DeletedRowsThroughPinLaw", "swap", "([III)V"⟩ : MethodName)) hown (mvT hZ (hw _ (List.mem_of_getElem? (i := 50) rfl))) (mvT hZ (hw _ (List.mem_of_getElem? (i := 51) rfl))) (mvT hZ (hw _ (List.mem_of_getElem? (i := 52) rfl))) (mvT hZ (hw _ (List.mem_of_getElem? (i := 53) rfl))) (by decide) (backOf (W := 0) (rm10_0_1 l Z a0 hw [] b232 k232 (Int32.ofNat P2) (Int32.ofNat P3) (Int32.ofNat P1) T254.heap n0 z254' f255 fr_b232) hZ (hw _ (List.mem_of_getElem? (i := 53) rfl)) (hw _ (List.mem_of_getElem? (i := 52) rfl)) (by decide) (by decide)) (g := (mkF m 89 #[.val (.int pa), .val (.int pb), .val (.int pc1), .val (.int pd0), .val (.int pe), .val (.int pq), .val (.int (Int32.ofNat P1)), .val (.int (Int32.ofNat P2)), .val (.int (Int32.ofNat P3)), .val (.ref b232), .unset, .unset, .unset] [(.int (1 : Int32)), (.int (0 : Int32)), (.ref b232)])) rfl (by rw [hml]; rfl) (argsL := [(.ref b232), (.int (0 : Int32)), (.int (1 : Int32))]) (rest := []) (lenOf pd_7 rfl) rfl (by show 2 * 0 + _ ≤ _; exact Nat.le_of_eq rfl) (hb hby at_89) (fun _ _ => ⟨rfl, rfl, (by decide : 1 + 0 ≤ _), (by decide : 3 + 0 ≤ _)⟩)
        dsimp only [Pt.U, Pt.locs, Pt.cells, Pt.slots] at X257 l257 y257 z257 st257 hQ257
        subst l257 y257 z257
        obtain ⟨rfl, N257q, K257, f258⟩ := hQ257
        have N257 := Fr.app N254 N257q
        have z257' : n0 ≤ T257.heap.size := Nat.le_trans z254' K257.1
        refine own_step (T257.setTop (mkF m 92 #[.val (.int pa), .val (.int pb), .val (.int pc1), .val (.int pd0), .val (.int pe), .val (.int pq), .val (.int (Int32.ofNat P1)), .val (.int (Int32.ofNat P2)), .val (.int (Int32.ofNat P3)), .val (.ref b232), .unset, .unset, .unset] [])) (fun t₀ k₀ => st257 t₀ k₀) ?_
        exact cut92 (Int32.ofNat P1) (Int32.ofNat P2) (Int32.ofNat P3) b232 k232 P3 P2 P1 _ z257' _ _ N257 X257 rfl f258 (own_pp hB).2.2.2.2.2
set_option maxRecDepth 65536 in
set_option maxHeartbeats 40000000 in
theorem comes_1 {Post : Tables → Env → Array Value → State → Outcome → State → Prop} (hpost : ∀ tb e args s v u, (limb_1_1.after args s (.returned v) u = true ∧ limb_1_2.after args s (.returned v) u = true ∧ True) → FrameEnd s (.returned v) u (Jvm.fieldLocs frame_1_writes args s ++ Jvm.arrayLocs frame_1_arrays args s ++ Jvm.staticLocs frame_1_statics s) 24 1024 → Post tb e args s (.returned v) u) :
    ArmFor flags0 classFile x code maxLocals ret World_1 tables_1 room_1 Calls_1 rest_1 Pre_1 Post := by
  intro l hfl _ _ p e ha hc hk s m args below hf hA hF happ hP
  obtain ⟨hcalls, hrest, hpre⟩ := hP
  obtain ⟨-, -, -, hnamed, -, -, -, hat⟩ := (Spec.applies_iff hf).mp happ
  obtain ⟨hg, hn⟩ := and_e (Cond.before_iff.mp (show (Jvm.Cond.and given_1 narrow_1).before args s = true from hpre))
  obtain ⟨hcount, hg0⟩ := and_e hg
  obtain ⟨ga0, hg1⟩ := and_e hg0
  obtain ⟨ga1, hg2⟩ := and_e hg1
  obtain ⟨ga2, hg3⟩ := and_e hg2
  obtain ⟨ga3, hg4⟩ := and_e hg3
  obtain ⟨ga4, hg5⟩ := and_e hg4
  have ga5 := hg5
  obtain ⟨w0, w1, w2, w3, w4, w5, rfl⟩ : ∃ w0 w1 w2 w3 w4 w5 : Value, args = #[w0, w1, w2, w3, w4, w5] := by
    have hs : args.size = 6 := by simpa [Cond.value, given_1] using hcount
    obtain ⟨L⟩ := args
    match L, hs with
    | [w0, w1, w2, w3, w4, w5], _ => exact ⟨w0, w1, w2, w3, w4, w5, rfl⟩
  have hw := fun d (hd : d ∈ tables_1) => atoms_spec (ws := Jvm.Cond.code x code maxLocals ret :: tables_1) hat d (List.mem_cons_of_mem _ hd)
  have hfit : Fit s := fun {y c} hc i hi => by
    obtain ⟨ha, rfl⟩ := Array.getElem?_eq_some_iff.mp hc
    have q := List.all_eq_true.mp ((Array.all_eq_true_iff_forall_mem.mp hF) _ (Array.getElem_mem ha)) i (List.mem_range.mpr hi)
    simpa [Array.getElem?_eq_getElem hi] using q
  obtain ⟨i0, ei0⟩ := is_v ga0
  obtain rfl : w0 = (.int i0) := Option.some.inj ei0
  obtain ⟨i1, ei1⟩ := is_v ga1
  obtain rfl : w1 = (.int i1) := Option.some.inj ei1
  obtain ⟨i2, ei2⟩ := is_v ga2
  obtain rfl : w2 = (.int i2) := Option.some.inj ei2
  obtain ⟨i3, ei3⟩ := is_v ga3
  obtain rfl : w3 = (.int i3) := Option.some.inj ei3
  obtain ⟨i4, ei4⟩ := is_v ga4
  obtain rfl : w4 = (.int i4) := Option.some.inj ei4
  obtain ⟨i5, ei5⟩ := is_v ga5
  obtain rfl : w5 = (.int i5) := Option.some.inj ei5
  obtain ⟨n, o, h1, h2, h3, _, L, rfl, ⟨rfl, N⟩, hq⟩ := rm0 l s _ hw tables_1 i0 i1 i2 i3 i4 i5 s.heap s.heap.size (Nat.le_refl _) p e ha hc hk s m _ below hf ((Spec.applies_iff_loose hf).mp happ).1 ⟨rfl, State.Warmed39.refl s, rfl⟩ trivial
  refine ⟨n, _, h1, h2, h3, hpost _ _ _ _ _ _ ⟨Cond.after_iff.mpr rfl, Cond.after_iff.mpr (eq_i res_at (Term.int_eval (1)) rfl), trivial⟩ ⟨hq.1, hq.2.1, (hq.2.2.sift fun y hy => Or.inr (N y hy)).mono (by decide) (by decide)⟩⟩
theorem main_1_1 : Claimed_1_1 := comes_1 fun _ _ _ _ _ _ h hF => ⟨h.1, hF⟩
theorem main_1_2 : Claimed_1_2 := comes_1 fun _ _ _ _ _ _ h hF => ⟨h.2.1, hF⟩
end Jvm.Pilot.@@N@@
namespace Jvm.Pilot.@@N@@
open Jvm Jvm.ClassFile Sem Op Lib Jvm.Free Jvm.Stand Jvm.Pilot.@@N@@.Jvm.D
/-! MADE BY PROGRAM (witnessworld.py) out of the Statement's table words and the real class files: 12 classes; the members and pool entries that the words name. The judged class is class 1, her method 1. -/
namespace start1
open Jvm.ClassFile
def u (s : String) : CpInfo := .utf8 (stringToUtf16 s)
/-- a pool by its gaps: so many unusable entries, then the entry; so many at the end -/
def gap : Nat → List CpInfo → List CpInfo
  | 0, r => r
  | n + 1, r => .unusable :: gap n r
def poolList (es : List (Nat × CpInfo)) (last : Nat) : List CpInfo := es.foldr (fun e r => gap e.1 (e.2 :: r)) (gap last [])
def pool (es : List (Nat × CpInfo)) (last : Nat) : Array CpInfo := ⟨poolList es last⟩
def fileOf (pool : Array CpInfo) (this : Nat) (attrs : Array Attribute := #[]) (ms : Array MethodInfo := #[]) (fl : Nat := 33) (sup : Nat := 0) (ifs : Array Nat := #[]) (fds : Array FieldInfo := #[]) : ClassFile where
  minorVersion := 0
  majorVersion := 65
  constantPool := pool
  accessFlags := fl
  thisClass := this
  superClass := sup
  interfaces := ifs
  fields := fds
  methods := ms
  attributes := attrs
def plain (name : String) (sup : Option ClassId) : Class where
  name := name
  kind := .ordinary
  loader := none
  accessFlags := 33
  super := sup
  interfaces := #[]
  cf := none
  fields := #[]
  methods := #[]
  instanceTypes := #[]
  staticTypes := #[]
  resolved := #[]
  callSites := []
  init := .initialized
  statics := none
  mirror := none

def pool0 : Array CpInfo := pool [(5, u "<init>"), (0, u "()V"), (1, .class_ 10), (1, u "java/lang/Object")] 113

def k0c0 : Code := { maxStack := 0, maxLocals := 1, code := object_method_1_code, exceptionTable := #[], attributes := #[] }
def k0m0 : Method := { name := "<init>", desc := "()V", sig := { parameters := [], returnType := none }, accessFlags := 1, code := some k0c0 }
/-- java/lang/Object -/
def k0 : Class := { plain "java/lang/Object" none with
  accessFlags := 33
  interfaces := #[]
  cf := some (fileOf pool0 8 #[] #[{ accessFlags := 1, nameIndex := 5, descriptorIndex := 6, attributes := #[] }] 33 0 #[] #[])
  fields := #[]
  methods := #[k0m0]
  instanceTypes := #[]
  staticTypes := #[]
  resolved := Array.replicate 124 none
  statics := none }

def pool1 : Array CpInfo := pool [(2, .class_ 4), (0, .nameAndType 5 6), (0, u "java/lang/Object"), (0, u "<init>"), (0, u "()V"), (0, .methodref 8 9), (0, .class_ 10), (0, .nameAndType 11 12), (0, u "com/example/syncopate/syncopate/DeletedRowsThroughPinLaw"), (0, u "swap"), (0, u "([III)V"), (0, .class_ 14), (0, u "com/example/syncopate/syncopate/DeletedRows"), (0, .methodref 13 3), (0, .methodref 13 17), (0, .nameAndType 18 19), (0, u "add"), (0, u "(I)V"), (0, .methodref 13 21), (0, .nameAndType 22 23), (0, u "through"), (0, u "(I)I"), (2, u "law"), (0, u "(IIIIII)Z")] 5

def k1m0 : Method := { name := "<init>", desc := "()V", sig := { parameters := [], returnType := none }, accessFlags := 1, code := none }
def k1c1 : Code := { maxStack := 4, maxLocals := 13, code := code, exceptionTable := #[], attributes := #[] }
def k1m1 : Method := { name := "law", desc := "(IIIIII)Z", sig := { parameters := [.int, .int, .int, .int, .int, .int], returnType := some .boolean }, accessFlags := 9, code := some k1c1 }
def k1c2 : Code := { maxStack := 4, maxLocals := 4, code := method_3_code, exceptionTable := #[], attributes := #[] }
def k1m2 : Method := { name := "swap", desc := "([III)V", sig := { parameters := [(.array .int), .int, .int], returnType := none }, accessFlags := 10, code := some k1c2 }
/-- com/example/syncopate/syncopate/DeletedRowsThroughPinLaw -/
def k1 : Class := { plain "com/example/syncopate/syncopate/DeletedRowsThroughPinLaw" (some 0) with
  accessFlags := 49
  interfaces := #[]
  cf := some (fileOf pool1 8 #[] #[{ accessFlags := 1, nameIndex := 5, descriptorIndex := 6, attributes := #[] }, { accessFlags := 9, nameIndex := 26, descriptorIndex := 27, attributes := #[] }, { accessFlags := 10, nameIndex := 11, descriptorIndex := 12, attributes := #[] }] 49 2 #[] #[])
  fields := #[]
  methods := #[k1m0, k1m1, k1m2]
  instanceTypes := #[]
  staticTypes := #[]
  resolved := Array.replicate 33 none
  statics := none }

def pool2 : Array CpInfo := pool [(3, .methodref 4 5), (0, .class_ 6), (0, .nameAndType 7 8), (0, u "java/lang/Object"), (0, u "<init>"), (0, u "()V"), (0, .fieldref 10 11), (0, .class_ 12), (0, .nameAndType 13 14), (0, u "com/example/syncopate/syncopate/DeletedRows"), (0, u "counts"), (0, u "[I"), (0, .methodref 10 16), (0, .nameAndType 17 18), (0, u "grow"), (0, u "(I)V"), (0, .fieldref 10 20), (0, .nameAndType 21 22), (0, u "count"), (0, u "I"), (0, .methodref 24 25), (0, .class_ 26), (0, .nameAndType 27 28), (0, u "java/lang/Math"), (0, u "min"), (0, u "(II)I"), (3, u "(I)I"), (0, .long 2), (1, .long 2147483638), (1, .methodref 24 38), (0, .nameAndType 27 39), (0, u "(JJ)J"), (0, .methodref 24 41), (0, .nameAndType 42 28), (0, u "max"), (0, .methodref 44 45), (0, .class_ 46), (0, .nameAndType 47 48), (0, u "java/util/Arrays"), (0, u "copyOf"), (0, u "([II)[I"), (0, .methodref 10 50), (0, .nameAndType 51 32), (0, u "through"), (0, u "MAX_CAPACITY"), (4, u "add")] 4

def k2c0 : Code := { maxStack := 2, maxLocals := 1, code := prog_7_method_1_code, exceptionTable := #[], attributes := #[] }
def k2m0 : Method := { name := "<init>", desc := "()V", sig := { parameters := [], returnType := none }, accessFlags := 0, code := some k2c0 }
def k2c1 : Code := { maxStack := 6, maxLocals := 4, code := prog_7_method_2_code, exceptionTable := #[], attributes := #[] }
def k2m1 : Method := { name := "add", desc := "(I)V", sig := { parameters := [.int], returnType := none }, accessFlags := 0, code := some k2c1 }
def k2c2 : Code := { maxStack := 3, maxLocals := 4, code := prog_7_method_3_code, exceptionTable := #[], attributes := #[] }
def k2m2 : Method := { name := "through", desc := "(I)I", sig := { parameters := [.int], returnType := some .int }, accessFlags := 0, code := some k2c2 }
def k2c3 : Code := { maxStack := 5, maxLocals := 6, code := prog_7_method_5_code, exceptionTable := #[], attributes := #[] }
def k2m3 : Method := { name := "grow", desc := "(I)V", sig := { parameters := [.int], returnType := none }, accessFlags := 2, code := some k2c3 }
/-- com/example/syncopate/syncopate/DeletedRows -/
def k2 : Class := { plain "com/example/syncopate/syncopate/DeletedRows" (some 0) with
  accessFlags := 48
  interfaces := #[]
  cf := some (fileOf pool2 10 #[] #[{ accessFlags := 0, nameIndex := 7, descriptorIndex := 8, attributes := #[] }, { accessFlags := 0, nameIndex := 57, descriptorIndex := 18, attributes := #[] }, { accessFlags := 0, nameIndex := 51, descriptorIndex := 32, attributes := #[] }, { accessFlags := 2, nameIndex := 17, descriptorIndex := 18, attributes := #[] }] 48 4 #[] #[{ accessFlags := 26, nameIndex := 52, descriptorIndex := 22, attributes := #[] }, { accessFlags := 2, nameIndex := 13, descriptorIndex := 14, attributes := #[] }, { accessFlags := 2, nameIndex := 21, descriptorIndex := 22, attributes := #[] }])
  fields := #[{ name := "MAX_CAPACITY", type := .int, accessFlags := 26, slot := 0, constantValue := 0 }, { name := "counts", type := (.array .int), accessFlags := 2, slot := 0, constantValue := 0 }, { name := "count", type := .int, accessFlags := 2, slot := 1, constantValue := 0 }]
  methods := #[k2m0, k2m1, k2m2, k2m3]
  instanceTypes := #[(.array .int), .int]
  staticTypes := #[.int]
  resolved := Array.replicate 62 none
  statics := none }

def pool3 : Array CpInfo := pool [(1, .class_ 2), (0, u "java/lang/Math"), (1, .class_ 6), (1, u "java/lang/Object"), (0, u "<init>"), (0, u "()V"), (89, .class_ 100), (1, u "java/lang/Math$RandomNumberGeneratorHolder"), (20, u "(JJ)J"), (50, u "negativeZeroFloatBits"), (0, u "J"), (2, u "negativeZeroDoubleBits"), (21, u "max"), (2, u "min"), (43, u "$assertionsDisabled"), (0, u "Z"), (88, u "(II)I"), (2, u "twoToTheDoubleScaleDown"), (0, u "D"), (4, u "twoToTheDoubleScaleUp"), (9, u "E"), (3, u "PI"), (2, u "TAU"), (2, u "DEGREES_TO_RADIANS"), (0, u "RADIANS_TO_DEGREES")] 94

def k3m0 : Method := { name := "<init>", desc := "()V", sig := { parameters := [], returnType := none }, accessFlags := 2, code := none }
def k3c1 : Code := { maxStack := 2, maxLocals := 2, code := jdk_29_method_65_code, exceptionTable := #[], attributes := #[] }
def k3m1 : Method := { name := "max", desc := "(II)I", sig := { parameters := [.int, .int], returnType := some .int }, accessFlags := 9, code := some k3c1 }
def k3c2 : Code := { maxStack := 2, maxLocals := 2, code := jdk_29_method_69_code, exceptionTable := #[], attributes := #[] }
def k3m2 : Method := { name := "min", desc := "(II)I", sig := { parameters := [.int, .int], returnType := some .int }, accessFlags := 9, code := some k3c2 }
def k3c3 : Code := { maxStack := 4, maxLocals := 4, code := jdk_29_method_70_code, exceptionTable := #[], attributes := #[] }
def k3m3 : Method := { name := "min", desc := "(JJ)J", sig := { parameters := [.long, .long], returnType := some .long }, accessFlags := 9, code := some k3c3 }
/-- java/lang/Math -/
def k3 : Class := { plain "java/lang/Math" (some 0) with
  accessFlags := 49
  interfaces := #[]
  cf := some (fileOf pool3 1 #[.nestMembers #[98]] #[{ accessFlags := 2, nameIndex := 7, descriptorIndex := 8, attributes := #[] }, { accessFlags := 9, nameIndex := 198, descriptorIndex := 335, attributes := #[] }, { accessFlags := 9, nameIndex := 201, descriptorIndex := 335, attributes := #[] }, { accessFlags := 9, nameIndex := 201, descriptorIndex := 121, attributes := #[] }] 49 4 #[] #[{ accessFlags := 25, nameIndex := 354, descriptorIndex := 339, attributes := #[] }, { accessFlags := 25, nameIndex := 358, descriptorIndex := 339, attributes := #[] }, { accessFlags := 25, nameIndex := 361, descriptorIndex := 339, attributes := #[] }, { accessFlags := 26, nameIndex := 364, descriptorIndex := 339, attributes := #[] }, { accessFlags := 26, nameIndex := 365, descriptorIndex := 339, attributes := #[] }, { accessFlags := 26, nameIndex := 172, descriptorIndex := 173, attributes := #[] }, { accessFlags := 26, nameIndex := 176, descriptorIndex := 173, attributes := #[] }, { accessFlags := 8, nameIndex := 344, descriptorIndex := 339, attributes := #[] }, { accessFlags := 8, nameIndex := 338, descriptorIndex := 339, attributes := #[] }, { accessFlags := 4120, nameIndex := 245, descriptorIndex := 246, attributes := #[] }])
  fields := #[{ name := "E", type := .double, accessFlags := 25, slot := 0, constantValue := 0 }, { name := "PI", type := .double, accessFlags := 25, slot := 1, constantValue := 0 }, { name := "TAU", type := .double, accessFlags := 25, slot := 2, constantValue := 0 }, { name := "DEGREES_TO_RADIANS", type := .double, accessFlags := 26, slot := 3, constantValue := 0 }, { name := "RADIANS_TO_DEGREES", type := .double, accessFlags := 26, slot := 4, constantValue := 0 }, { name := "negativeZeroFloatBits", type := .long, accessFlags := 26, slot := 5, constantValue := 0 }, { name := "negativeZeroDoubleBits", type := .long, accessFlags := 26, slot := 6, constantValue := 0 }, { name := "twoToTheDoubleScaleUp", type := .double, accessFlags := 8, slot := 7, constantValue := 0 }, { name := "twoToTheDoubleScaleDown", type := .double, accessFlags := 8, slot := 8, constantValue := 0 }, { name := "$assertionsDisabled", type := .boolean, accessFlags := 4120, slot := 9, constantValue := 0 }]
  methods := #[k3m0, k3m1, k3m2, k3m3]
  instanceTypes := #[]
  staticTypes := #[.double, .double, .double, .double, .double, .long, .long, .double, .double, .boolean]
  resolved := Array.replicate 460 none
  statics := none }

def pool4 : Array CpInfo := pool [(2, .class_ 4), (1, u "java/lang/Object"), (0, u "<init>"), (0, u "()V"), (7, .class_ 16), (1, u "java/util/Arrays"), (57, .class_ 76), (1, u "java/util/Arrays$NaturalOrder"), (36, .class_ 115), (1, u "java/util/Arrays$LegacyMergeSort"), (1, u "Z"), (32, .methodref 151 152), (0, .class_ 153), (0, .nameAndType 154 155), (0, u "java/lang/System"), (0, u "arraycopy"), (0, u "(Ljava/lang/Object;ILjava/lang/Object;II)V"), (146, u "copyOf"), (1, .methodref 305 306), (0, .class_ 307), (0, .nameAndType 308 309), (0, u "java/lang/Math"), (0, u "min"), (0, u "(II)I"), (65, .class_ 376), (0, u "java/util/Arrays$ArrayList"), (68, u "$assertionsDisabled"), (269, u "MIN_ARRAY_SORT_GRAN"), (0, u "I"), (2, u "INSERTIONSORT_THRESHOLD"), (151, u "([II)[I"), (103, .class_ 976), (0, u "java/util/Arrays$ArrayItr")] 52

def k4m0 : Method := { name := "<init>", desc := "()V", sig := { parameters := [], returnType := none }, accessFlags := 2, code := none }
def k4c1 : Code := { maxStack := 6, maxLocals := 3, code := jdk_65_method_123_code, exceptionTable := #[], attributes := #[] }
def k4m1 : Method := { name := "copyOf", desc := "([II)[I", sig := { parameters := [(.array .int), .int], returnType := some (.array .int) }, accessFlags := 9, code := some k4c1 }
/-- java/util/Arrays -/
def k4 : Class := { plain "java/util/Arrays" (some 0) with
  accessFlags := 49
  interfaces := #[]
  cf := some (fileOf pool4 14 #[.nestMembers #[975, 375, 113, 74]] #[{ accessFlags := 2, nameIndex := 5, descriptorIndex := 6, attributes := #[] }, { accessFlags := 9, nameIndex := 302, descriptorIndex := 871, attributes := #[] }] 49 2 #[] #[{ accessFlags := 26, nameIndex := 715, descriptorIndex := 716, attributes := #[] }, { accessFlags := 26, nameIndex := 719, descriptorIndex := 716, attributes := #[] }, { accessFlags := 4120, nameIndex := 445, descriptorIndex := 117, attributes := #[] }])
  fields := #[{ name := "MIN_ARRAY_SORT_GRAN", type := .int, accessFlags := 26, slot := 0, constantValue := 0 }, { name := "INSERTIONSORT_THRESHOLD", type := .int, accessFlags := 26, slot := 1, constantValue := 0 }, { name := "$assertionsDisabled", type := .boolean, accessFlags := 4120, slot := 2, constantValue := 0 }]
  methods := #[k4m0, k4m1]
  instanceTypes := #[]
  staticTypes := #[.int, .int, .boolean]
  resolved := Array.replicate 1029 none
  statics := none }

def pool5 : Array CpInfo := pool [(2, .class_ 4), (1, u "java/lang/Object"), (0, u "<init>"), (0, u "()V"), (1, .class_ 10), (1, u "java/lang/System"), (0, u "allowSecurityManager"), (0, u "I"), (16, u "cons"), (0, u "Ljava/io/Console;"), (77, .class_ 110), (1, u "java/lang/System$CallersHolder"), (43, u "initialErrStream"), (0, u "Ljava/io/PrintStream;"), (19, u "security"), (0, u "Ljava/lang/SecurityManager;"), (31, .class_ 209), (0, u "java/lang/System$1"), (7, u "props"), (0, u "Ljava/util/Properties;"), (2, u "lineSeparator"), (0, u "Ljava/lang/String;"), (96, .class_ 321), (1, u "java/lang/System$LoggerFinder"), (5, .class_ 328), (0, u "java/lang/System$Logger"), (67, u "err"), (2, u "out"), (91, u "notSupportedJnuEncoding"), (15, u "in"), (17, u "initialIn"), (0, u "Ljava/io/InputStream;"), (35, u "bootLayer"), (0, u "Ljava/lang/ModuleLayer;"), (99, .class_ 664), (0, u "java/lang/System$2"), (9, u "NEVER"), (2, u "MAYBE"), (49, u "arraycopy"), (0, u "(Ljava/lang/Object;ILjava/lang/Object;II)V"), (72, .class_ 802), (0, u "java/lang/System$Logger$Level")] 31

def k5m0 : Method := { name := "<init>", desc := "()V", sig := { parameters := [], returnType := none }, accessFlags := 2, code := none }
def k5m1 : Method := { name := "arraycopy", desc := "(Ljava/lang/Object;ILjava/lang/Object;II)V", sig := { parameters := [(.object "java/lang/Object"), .int, (.object "java/lang/Object"), .int, .int], returnType := none }, accessFlags := 265, code := none }
/-- java/lang/System -/
def k5 : Class := { plain "java/lang/System" (some 0) with
  accessFlags := 49
  interfaces := #[]
  cf := some (fileOf pool5 8 #[.nestMembers #[319, 327, 801, 108, 663, 208]] #[{ accessFlags := 2, nameIndex := 5, descriptorIndex := 6, attributes := #[] }, { accessFlags := 265, nameIndex := 727, descriptorIndex := 728, attributes := #[] }] 49 2 #[] #[{ accessFlags := 25, nameIndex := 507, descriptorIndex := 526, attributes := #[] }, { accessFlags := 25, nameIndex := 399, descriptorIndex := 155, attributes := #[] }, { accessFlags := 25, nameIndex := 396, descriptorIndex := 155, attributes := #[] }, { accessFlags := 10, nameIndex := 525, descriptorIndex := 526, attributes := #[] }, { accessFlags := 26, nameIndex := 674, descriptorIndex := 12, attributes := #[] }, { accessFlags := 26, nameIndex := 677, descriptorIndex := 12, attributes := #[] }, { accessFlags := 10, nameIndex := 11, descriptorIndex := 12, attributes := #[] }, { accessFlags := 74, nameIndex := 175, descriptorIndex := 176, attributes := #[] }, { accessFlags := 10, nameIndex := 491, descriptorIndex := 222, attributes := #[] }, { accessFlags := 74, nameIndex := 29, descriptorIndex := 30, attributes := #[] }, { accessFlags := 74, nameIndex := 154, descriptorIndex := 155, attributes := #[] }, { accessFlags := 10, nameIndex := 217, descriptorIndex := 218, attributes := #[] }, { accessFlags := 10, nameIndex := 221, descriptorIndex := 222, attributes := #[] }, { accessFlags := 8, nameIndex := 562, descriptorIndex := 563, attributes := #[] }])
  fields := #[{ name := "in", type := (.object "java/io/InputStream"), accessFlags := 25, slot := 0, constantValue := 0 }, { name := "out", type := (.object "java/io/PrintStream"), accessFlags := 25, slot := 1, constantValue := 0 }, { name := "err", type := (.object "java/io/PrintStream"), accessFlags := 25, slot := 2, constantValue := 0 }, { name := "initialIn", type := (.object "java/io/InputStream"), accessFlags := 10, slot := 3, constantValue := 0 }, { name := "NEVER", type := .int, accessFlags := 26, slot := 4, constantValue := 0 }, { name := "MAYBE", type := .int, accessFlags := 26, slot := 5, constantValue := 0 }, { name := "allowSecurityManager", type := .int, accessFlags := 10, slot := 6, constantValue := 0 }, { name := "security", type := (.object "java/lang/SecurityManager"), accessFlags := 74, slot := 7, constantValue := 0 }, { name := "notSupportedJnuEncoding", type := (.object "java/lang/String"), accessFlags := 10, slot := 8, constantValue := 0 }, { name := "cons", type := (.object "java/io/Console"), accessFlags := 74, slot := 9, constantValue := 0 }, { name := "initialErrStream", type := (.object "java/io/PrintStream"), accessFlags := 74, slot := 10, constantValue := 0 }, { name := "props", type := (.object "java/util/Properties"), accessFlags := 10, slot := 11, constantValue := 0 }, { name := "lineSeparator", type := (.object "java/lang/String"), accessFlags := 10, slot := 12, constantValue := 0 }, { name := "bootLayer", type := (.object "java/lang/ModuleLayer"), accessFlags := 8, slot := 13, constantValue := 0 }]
  methods := #[k5m0, k5m1]
  instanceTypes := #[]
  staticTypes := #[(.object "java/io/InputStream"), (.object "java/io/PrintStream"), (.object "java/io/PrintStream"), (.object "java/io/InputStream"), .int, .int, .int, (.object "java/lang/SecurityManager"), (.object "java/lang/String"), (.object "java/io/Console"), (.object "java/io/PrintStream"), (.object "java/util/Properties"), (.object "java/lang/String"), (.object "java/lang/ModuleLayer")]
  resolved := Array.replicate 834 none
  statics := none }

def pool6 : Array CpInfo := pool [(1, u "java/lang/Cloneable"), (0, .class_ 1), (0, u "java/lang/Object"), (0, .class_ 3)] 3

/-- java/lang/Cloneable -/
def k6 : Class := { plain "java/lang/Cloneable" (some 0) with
  accessFlags := 1537
  interfaces := #[]
  cf := some (fileOf pool6 2 #[] #[] 1537 4 #[] #[])
  fields := #[]
  methods := #[]
  instanceTypes := #[]
  staticTypes := #[]
  resolved := Array.replicate 8 none
  statics := none }

def pool7 : Array CpInfo := pool [(1, u "java/io/Serializable"), (0, .class_ 1), (0, u "java/lang/Object"), (0, .class_ 3)] 3

/-- java/io/Serializable -/
def k7 : Class := { plain "java/io/Serializable" (some 0) with
  accessFlags := 1537
  interfaces := #[]
  cf := some (fileOf pool7 2 #[] #[] 1537 4 #[] #[])
  fields := #[]
  methods := #[]
  instanceTypes := #[]
  staticTypes := #[]
  resolved := Array.replicate 8 none
  statics := none }

/-- the primitive byte -/
def k8 : Class := { plain "byte" none with kind := .primitive 'B', accessFlags := 0x411 }
/-- [B -/
def k9 : Class := { plain "[B" (some 0) with kind := .array 8 .byte, interfaces := #[6, 7], accessFlags := 1041 }

/-- the primitive int -/
def k10 : Class := { plain "int" none with kind := .primitive 'I', accessFlags := 0x411 }
/-- [I -/
def k11 : Class := { plain "[I" (some 0) with kind := .array 10 .int, interfaces := #[6, 7], accessFlags := 1041 }

def heap : Heap := #[]
def classes : Array Class := #[k0, k1, k2, k3, k4, k5, k6, k7, k8, k9, k10, k11]
def interned : List (Array UInt16 × Addr) := []
def slotsUsed : Nat := 0
def theMethod : MethodId := ⟨1, 1⟩
def args0 : Array Value := #[.int 5, .int 7, .int 1, .int 3, .int 2, .int 9]
def aboutOver (below : List Frame) : State where
  vm := { classes := classes, interned := interned.toArray }
  heap := heap
  slotsUsed := slotsUsed
  threads := #[{ frames := .invoking theMethod args0 :: below }]
def below0 : List Frame := [.native { method := ⟨0, 0⟩, args := #[] }]
def about1 : State := aboutOver below0
def p0 : Program := .bare "" "" ""
def e0 : Env := launch0.env 0 0 0
theorem w_frames : about1.frames = Frame.invoking theMethod args0 :: below0 := rfl
set_option maxRecDepth 65536 in
theorem w_args : argsFit about1.vm theMethod args0 = true := by decide +kernel
set_option maxRecDepth 65536 in
theorem w_heap : heapFits about1 = true := by decide +kernel
set_option maxRecDepth 65536 in
theorem w_runnable : about1.curStatus? = some .runnable := by decide +kernel
set_option maxRecDepth 65536 in
theorem w_alone : about1.alone = true := by decide +kernel
set_option maxRecDepth 65536 in
theorem w_named : about1.methodNamed? x = some theMethod := by decide +kernel
set_option maxRecDepth 65536 in
theorem w_hears : about1.hears theMethod below0 = true := by decide +kernel
set_option maxRecDepth 65536 in
theorem w_ripe : about1.ripe theMethod args0 below0 = true := by decide +kernel
theorem w_running : about1.status = .running := rfl
set_option maxRecDepth 65536 in
theorem w_room : about1.hasRoom e0.platform room_1 = true :=
  launch0.hasRoom_least _ room_1 (by decide +kernel) (by decide +kernel) (by decide +kernel) (by decide +kernel) (by decide +kernel) (by decide +kernel)
theorem allAtoms_all (ts : List Jvm.Cond) (a : Array Jvm.Value) (st : Jvm.State) : (allAtoms ts).before a st = ts.all (fun c => c.before a st) := by
  induction ts with
  | nil => rfl
  | cons c t ih =>
    show (Jvm.Cond.and c (allAtoms t)).before a st = _
    rw [Jvm.Cond.before_and, ih, List.all_cons]
def words1 : List Jvm.Cond := Jvm.Cond.code x code maxLocals ret :: tables_1
/-- a 'code' word, met by the world's own term for the bytes: nothing is compared byte by byte -/
theorem code_word {y : MethodName} {bytes : ByteArray} {mx : Nat} {rt : Option FieldType} {a : Array Value} {s : State} {m : MethodId} {meth : Method} {c : Code} (h1 : s.methodNamed? y = some m) (h2 : s.vm.method? m = some meth) (h3 : meth.code = some c) (h4 : c.code = bytes)
    (h5 : (c.maxLocals == mx && c.exceptionTable.isEmpty && decide (c.maxStack ≤ mostOperands) && decide (meth.sig.returnType = rt) && !meth.locks && decide (parseMethodDescriptor y.desc = some meth.sig)) = true) : (Jvm.Cond.code y bytes mx rt).before a s = true := by
  simp only [Bool.and_eq_true, beq_iff_eq, Bool.not_eq_true', decide_eq_true_eq] at h5
  obtain ⟨⟨⟨⟨⟨g1, g2⟩, g3⟩, g4⟩, g5⟩, g6⟩ := h5
  simp [Cond.before, Cond.holds, Cond.value, h1, h2, h3, h4, g1, g2, g3, g4, g5, g6]
def isCode : Jvm.Cond → Bool
  | .code _ _ _ _ => true
  | _ => false
theorem all_split {L : List Jvm.Cond} {P : Jvm.Cond → Bool} (h1 : L.all (fun c => isCode c || P c) = true) (h2 : ∀ c ∈ L.filter isCode, P c = true) : L.all P = true := by
  refine List.all_eq_true.mpr fun c hc => ?_
  have h := List.all_eq_true.mp h1 c hc
  rcases Bool.eq_false_or_eq_true (isCode c) with hi | hi
  · exact h2 c (List.mem_filter.mpr ⟨hc, hi⟩)
  · simpa [hi] using h
set_option maxRecDepth 65536 in
theorem w_c0 : (Jvm.Cond.code x code maxLocals ret).before args0 about1 = true := code_word (m := ⟨1, 1⟩) (meth := k1m1) (c := k1c1) (by decide +kernel) rfl rfl rfl (by decide +kernel)
set_option maxRecDepth 65536 in
theorem w_c1 : (Jvm.Cond.code ({ cls := "com/example/syncopate/syncopate/DeletedRows", name := "<init>", desc := "()V" } : Jvm.MethodName) prog_7_method_1_code (1 : Nat) (Option.none : Option Jvm.ClassFile.FieldType)).before args0 about1 = true := code_word (m := ⟨2, 0⟩) (meth := k2m0) (c := k2c0) (by decide +kernel) rfl rfl rfl (by decide +kernel)
set_option maxRecDepth 65536 in
theorem w_c2 : (Jvm.Cond.code ({ cls := "java/lang/Object", name := "<init>", desc := "()V" } : Jvm.MethodName) object_method_1_code (1 : Nat) (Option.none : Option Jvm.ClassFile.FieldType)).before args0 about1 = true := code_word (m := ⟨0, 0⟩) (meth := k0m0) (c := k0c0) (by decide +kernel) rfl rfl rfl (by decide +kernel)
set_option maxRecDepth 65536 in
theorem w_c3 : (Jvm.Cond.code ({ cls := "com/example/syncopate/syncopate/DeletedRows", name := "add", desc := "(I)V" } : Jvm.MethodName) prog_7_method_2_code (4 : Nat) (Option.none : Option Jvm.ClassFile.FieldType)).before args0 about1 = true := code_word (m := ⟨2, 1⟩) (meth := k2m1) (c := k2c1) (by decide +kernel) rfl rfl rfl (by decide +kernel)
set_option maxRecDepth 65536 in
theorem w_c4 : (Jvm.Cond.code ({ cls := "com/example/syncopate/syncopate/DeletedRows", name := "grow", desc := "(I)V" } : Jvm.MethodName) prog_7_method_5_code (6 : Nat) (Option.none : Option Jvm.ClassFile.FieldType)).before args0 about1 = true := code_word (m := ⟨2, 3⟩) (meth := k2m3) (c := k2c3) (by decide +kernel) rfl rfl rfl (by decide +kernel)
set_option maxRecDepth 65536 in
theorem w_c5 : (Jvm.Cond.code ({ cls := "java/lang/Math", name := "min", desc := "(JJ)J" } : Jvm.MethodName) jdk_29_method_70_code (4 : Nat) (Option.some Jvm.ClassFile.FieldType.long)).before args0 about1 = true := code_word (m := ⟨3, 3⟩) (meth := k3m3) (c := k3c3) (by decide +kernel) rfl rfl rfl (by decide +kernel)
set_option maxRecDepth 65536 in
theorem w_c6 : (Jvm.Cond.code ({ cls := "java/lang/Math", name := "max", desc := "(II)I" } : Jvm.MethodName) jdk_29_method_65_code (2 : Nat) (Option.some Jvm.ClassFile.FieldType.int)).before args0 about1 = true := code_word (m := ⟨3, 1⟩) (meth := k3m1) (c := k3c1) (by decide +kernel) rfl rfl rfl (by decide +kernel)
set_option maxRecDepth 65536 in
theorem w_c7 : (Jvm.Cond.code ({ cls := "java/util/Arrays", name := "copyOf", desc := "([II)[I" } : Jvm.MethodName) jdk_65_method_123_code (3 : Nat) (Option.some (Jvm.ClassFile.FieldType.array Jvm.ClassFile.FieldType.int))).before args0 about1 = true := code_word (m := ⟨4, 1⟩) (meth := k4m1) (c := k4c1) (by decide +kernel) rfl rfl rfl (by decide +kernel)
set_option maxRecDepth 65536 in
theorem w_c8 : (Jvm.Cond.code ({ cls := "java/lang/Math", name := "min", desc := "(II)I" } : Jvm.MethodName) jdk_29_method_69_code (2 : Nat) (Option.some Jvm.ClassFile.FieldType.int)).before args0 about1 = true := code_word (m := ⟨3, 2⟩) (meth := k3m2) (c := k3c2) (by decide +kernel) rfl rfl rfl (by decide +kernel)
set_option maxRecDepth 65536 in
theorem w_c9 : (Jvm.Cond.code ({ cls := "com/example/syncopate/syncopate/DeletedRows", name := "through", desc := "(I)I" } : Jvm.MethodName) prog_7_method_3_code (4 : Nat) (Option.some Jvm.ClassFile.FieldType.int)).before args0 about1 = true := code_word (m := ⟨2, 2⟩) (meth := k2m2) (c := k2c2) (by decide +kernel) rfl rfl rfl (by decide +kernel)
set_option maxRecDepth 65536 in
theorem w_c10 : (Jvm.Cond.code ({ cls := "com/example/syncopate/syncopate/DeletedRowsThroughPinLaw", name := "swap", desc := "([III)V" } : Jvm.MethodName) method_3_code (4 : Nat) (Option.none : Option Jvm.ClassFile.FieldType)).before args0 about1 = true := code_word (m := ⟨1, 2⟩) (meth := k1m2) (c := k1c2) (by decide +kernel) rfl rfl rfl (by decide +kernel)
def codes1 : List Jvm.Cond := [Jvm.Cond.code x code maxLocals ret, Jvm.Cond.code ({ cls := "com/example/syncopate/syncopate/DeletedRows", name := "<init>", desc := "()V" } : Jvm.MethodName) prog_7_method_1_code (1 : Nat) (Option.none : Option Jvm.ClassFile.FieldType), Jvm.Cond.code ({ cls := "java/lang/Object", name := "<init>", desc := "()V" } : Jvm.MethodName) object_method_1_code (1 : Nat) (Option.none : Option Jvm.ClassFile.FieldType), Jvm.Cond.code ({ cls := "com/example/syncopate/syncopate/DeletedRows", name := "add", desc := "(I)V" } : Jvm.MethodName) prog_7_method_2_code (4 : Nat) (Option.none : Option Jvm.ClassFile.FieldType), Jvm.Cond.code ({ cls := "com/example/syncopate/syncopate/DeletedRows", name := "grow", desc := "(I)V" } : Jvm.MethodName) prog_7_method_5_code (6 : Nat) (Option.none : Option Jvm.ClassFile.FieldType), Jvm.Cond.code ({ cls := "java/lang/Math", name := "min", desc := "(JJ)J" } : Jvm.MethodName) jdk_29_method_70_code (4 : Nat) (Option.some Jvm.ClassFile.FieldType.long), Jvm.Cond.code ({ cls := "java/lang/Math", name := "max", desc := "(II)I" } : Jvm.MethodName) jdk_29_method_65_code (2 : Nat) (Option.some Jvm.ClassFile.FieldType.int), Jvm.Cond.code ({ cls := "java/util/Arrays", name := "copyOf", desc := "([II)[I" } : Jvm.MethodName) jdk_65_method_123_code (3 : Nat) (Option.some (Jvm.ClassFile.FieldType.array Jvm.ClassFile.FieldType.int)), Jvm.Cond.code ({ cls := "java/lang/Math", name := "min", desc := "(II)I" } : Jvm.MethodName) jdk_29_method_69_code (2 : Nat) (Option.some Jvm.ClassFile.FieldType.int), Jvm.Cond.code ({ cls := "com/example/syncopate/syncopate/DeletedRows", name := "through", desc := "(I)I" } : Jvm.MethodName) prog_7_method_3_code (4 : Nat) (Option.some Jvm.ClassFile.FieldType.int), Jvm.Cond.code ({ cls := "com/example/syncopate/syncopate/DeletedRowsThroughPinLaw", name := "swap", desc := "([III)V" } : Jvm.MethodName) method_3_code (4 : Nat) (Option.none : Option Jvm.ClassFile.FieldType)]
set_option maxRecDepth 65536 in
theorem codes_eq : words1.filter isCode = codes1 := rfl
theorem w_codes : ∀ c ∈ words1.filter isCode, c.before args0 about1 = true := by
  rw [codes_eq]
  intro c hc
  simp only [codes1, List.mem_cons, List.not_mem_nil, or_false] at hc
  rcases hc with rfl | rfl | rfl | rfl | rfl | rfl | rfl | rfl | rfl | rfl | rfl
  · exact w_c0
  · exact w_c1
  · exact w_c2
  · exact w_c3
  · exact w_c4
  · exact w_c5
  · exact w_c6
  · exact w_c7
  · exact w_c8
  · exact w_c9
  · exact w_c10
set_option maxRecDepth 65536 in
theorem w_t1 : (words1.take 24).all (fun c => isCode c || c.before args0 about1) = true := by decide +kernel
set_option maxRecDepth 65536 in
theorem w_t2 : ((words1.drop 24).take 24).all (fun c => isCode c || c.before args0 about1) = true := by decide +kernel
set_option maxRecDepth 65536 in
theorem w_t3 : ((words1.drop 24).drop 24).all (fun c => isCode c || c.before args0 about1) = true := by decide +kernel
theorem w_tables : (allAtoms (Jvm.Cond.code x code maxLocals ret :: tables_1)).before args0 about1 = true := by
  rw [allAtoms_all]
  show words1.all (fun c => c.before args0 about1) = true
  refine all_split ?_ w_codes
  rw [← List.take_append_drop 24 words1, List.all_append, w_t1, ← List.take_append_drop 24 (words1.drop 24), List.all_append, w_t2, w_t3]
  rfl
set_option maxRecDepth 65536 in
theorem w_case : (Jvm.Cond.and given_1 narrow_1).before args0 about1 = true := by decide +kernel
theorem w_applies : (headSpec (Jvm.Cond.code x code maxLocals ret :: tables_1) room_1).applies x e0.platform about1 = true :=
  (Spec.applies_iff w_frames).mpr ⟨w_running, w_runnable, w_alone, w_named, w_hears, w_ripe, w_room, w_tables⟩
theorem atStart : AtStart classFile x code maxLocals ret World_1 tables_1 room_1 Calls_1 rest_1 Pre_1 launch0 p0 e0 about1 theMethod args0 below0 :=
  ⟨lists_1, trivial, launch0.admits_env _ _ _, launch0.least_env, fairChoices_fair.cas, fairChoices_fair.clock, w_frames, w_args, w_heap, w_applies, trivial, trivial, w_case⟩
end start1
theorem witness_1 : WitnessClaimed_1 := ⟨start1.p0, start1.e0, start1.about1, start1.theMethod, start1.args0, start1.below0, start1.atStart⟩
end Jvm.Pilot.@@N@@
