import JvmDerived
import JvmDerived.Pilot.@@N@@Statement
import JvmDerived.Pilot.@@N@@Code
set_option linter.unusedVariables false
set_option linter.unusedSimpArgs false
@@BLOCK:NumsL.lean.txt@@
namespace Jvm.RoadKit
open Sem ClassFile Op Lib Jvm.Stand Jvm.Free Jvm.LawKit
section New
variable {p : Program} {l : Launch} {e : Env} {R : Room} {s : State} {m : MethodId} {args : Array Value} {below : List Frame} {meth : Method} {c : Code} {T : State} {locs : List Loc} {cells slots : Nat}
theorem retI (X : Stand p l e R s m args below meth c T locs cells slots) (hx : p.tables.exec = Jvm.exec) {pc : Nat} {Ls : Array Slot} {z : Int32} {rest : List Value} (hret : meth.sig.returnType = some .int) (hd : decode c.code pc = .ok (.ireturn, 1)) {fs : List Frame}
    (hl : ∀ (f : JFrame) (acts : List Action), f.method = m → f.locked = none → f.entered = [] → (doReturn e (T.setTop f) acts (some (.int z))).1 = T.setFrames fs) : Steps p.tables e below (T.setTop (mkF m pc Ls (.int z :: rest))) (T.setFrames fs) := by
  have hm' : T.vm.method? m = some meth := X.method'
  have hn : narrow .int (.int z) = .int z := rfl
  show Steps p.tables e below (T.setTop { method := m, pc := pc, locals := Ls, stack := _ :: rest, locked := none }) _
  jvm_step X.here [X.here.top, hx, hd, hm', hret, hn]
  first | (intro acts; rw [hl _ acts rfl rfl rfl]) | rw [hl _ _ rfl rfl rfl]
  exact Steps.refl _
end New
end Jvm.RoadKit
namespace Jvm.Pilot.@@N@@
open Jvm Jvm.ClassFile Sem Op Lib Jvm.Free Jvm.Stand Jvm.LawKit Jvm.RoadKit Bundle Jvm.Pilot.@@N@@.Jvm.D
/-- from A the run comes to an end of which P is said -/
def own_Go (p : Program) (e : Env) (below : List Frame) (P : State → Outcome → Prop) (A : State) : Prop := ∃ s₂ o, Steps p.tables e below A s₂ ∧ P s₂ o
theorem own_step {p : Program} {e : Env} {below : List Frame} {P : State → Outcome → Prop} {A : State} (B : State) (h : ∀ t, Steps p.tables e below B t → Steps p.tables e below A t) (g : own_Go p e below P B) : own_Go p e below P A := by
  obtain ⟨s₂, o, h1, h2⟩ := g; exact ⟨s₂, o, h s₂ h1, h2⟩
theorem own_comes {p : Program} {e : Env} {below : List Frame} {P : State → Outcome → Prop} {A : State} (B : State) (h : Steps p.tables e below A B) (g : own_Go p e below P B) : own_Go p e below P A := by
  obtain ⟨s₂, o, h1, h2⟩ := g; exact ⟨s₂, o, h.trans h1, h2⟩
theorem own_sta_keep {Z : State} {h h' : Heap} {C n d : String} {w : Value} {ws : List Addr} (F : Sta Z h C n d w) (K : Keep h h' ws) (hw : ∀ x ∈ ws, ∀ cell : Cell, h[x]? = some cell → cell.vm.isStatics = false) : Sta Z h' C n d w := by
  obtain ⟨cf, i, k, f, st, cell, h1, h2, h3, h4, h5, h6, r⟩ := F
  exact ⟨cf, i, k, f, st, cell, h1, h2, h3, h4, K.2.1 _ _ h5 (fun q => by rw [hw _ q _ h5] at h6; cases h6), h6, r⟩
theorem own_sel {s : State} {args : Array Value} {y : MethodName} {n : Nat} (w : (Cond.instantiable y.cls n).before args s = true) (hp : (Cond.privateMethod y).before args s = true) (hi : (Cond.instanceMethod y).before args s = true) (hy : y.cls ≠ "java/lang/invoke/MethodHandle" ∧ y.cls ≠ "java/lang/invoke/VarHandle") : (Cond.selects y.cls y y).before args s = true := by
  obtain ⟨c, k, h1, h2, -, h4, -, -⟩ := Cond.instantiable_spec w
  simp only [Bool.or_eq_false_iff] at h4
  exact Jvm.Stand.selects_self_of_private h1 h2 h4.1 (Cond.privateMethod_at hp) hi hy
def own_lrem (x y : Int64) : Int64 := x - x / y * y
def own_Bel (n : Nat) (h h' : Heap) : Prop := h.size ≤ h'.size ∧ ∀ (x : Addr) (c : Cell), x < n → h[x]? = some c → h'[x]? = some c
theorem own_Bel.refl (n : Nat) (h : Heap) : own_Bel n h h := ⟨Nat.le_refl _, fun _ _ _ q => q⟩
theorem own_Bel.ext {n : Nat} {h0 h h' : Heap} (B : own_Bel n h0 h) (E : Ext h h') : own_Bel n h0 h' := ⟨Nat.le_trans B.1 E.1, fun x c q r => E.2 x c (B.2 x c q r)⟩
theorem own_Bel.trans {n : Nat} {h0 h h' : Heap} (B : own_Bel n h0 h) (E : own_Bel n h h') : own_Bel n h0 h' := ⟨Nat.le_trans B.1 E.1, fun x c q r => E.2 x c q (B.2 x c q r)⟩
theorem own_Bel.keep {n : Nat} {h0 h h' : Heap} {ws : List Addr} (B : own_Bel n h0 h) (K : Keep h h' ws) (q : ∀ x ∈ ws, n ≤ x) : own_Bel n h0 h' := ⟨Nat.le_trans B.1 K.1, fun x c r u => K.2.1 x c (B.2 x c r u) (fun z => absurd (q x z) (Nat.not_le.mpr r))⟩
theorem own_Bel.wr {n : Nat} {h0 h h' : Heap} {a : Addr} {sl : Nat} {v : Value} (B : own_Bel n h0 h) (W : Wr h h' a sl v) (q : n ≤ a) : own_Bel n h0 h' := B.keep (Keep.of_wr W) (allS q all0)
theorem own_Frm {n0 n1 : Nat} {L : List Loc} (h : n0 ≤ n1) (N : Fr n1 L) : Fr n0 L := fun y q => Nat.le_trans h (N y q)
theorem own_bel_arv {Z : State} {h h' : Heap} {a : Addr} {k : ClassId} {ty : FieldType} {z : Int32} {vs : List Value} {d : Value} {n : Nat} (F : Arv Z h a k ty z vs d) (B : own_Bel n h h') (q : a < n) : Arv Z h' a k ty z vs d := by
  obtain ⟨c, A, r⟩ := F; exact ⟨c, ⟨B.2 a c q A.1, A.2⟩, r⟩
theorem own_widen {p : Program} {l : Launch} {e : Env} {R : Room} {s : State} {m : MethodId} {args : Array Value} {below : List Frame} {meth : Method} {c : Code} {T : State} {locs : List Loc} {cells slots cells' slots' : Nat} (X : Stand p l e R s m args below meth c T locs cells slots) (h1 : cells ≤ cells') (h2 : slots ≤ slots') : Stand p l e R s m args below meth c T locs cells' slots' := { X with same := X.same.mono h1 h2 }
theorem own_vne {a b : Int32} (h : a ≠ b) : Value.int a ≠ Value.int b := fun q => h (Value.int.inj q)
theorem own_lgtT {x y : Int64} (h : y < x) : ifCond.holds .gt (lcmpW x y) = true := (if0 _ _).trans (tlt ((lw_gt x y).mpr h)).2.2.1
theorem own_lgtF {x y : Int64} (h : ¬ y < x) : ifCond.holds .gt (lcmpW x y) = false := (if0 _ _).trans (flt (fun q => h ((lw_gt x y).mp q))).2.2.1
theorem own_lleT {x y : Int64} (h : ¬ y < x) : ifCond.holds .le (lcmpW x y) = true := (if0 _ _).trans (flt (fun q => h ((lw_gt x y).mp q))).2.2.2
theorem own_lleF {x y : Int64} (h : y < x) : ifCond.holds .le (lcmpW x y) = false := (if0 _ _).trans (tlt ((lw_gt x y).mpr h)).2.2.2
theorem own_lltT {x y : Int64} (h : x < y) : ifCond.holds .lt (lcmpW x y) = true := (if0 _ _).trans (tlt ((lw_lt x y).mpr h)).1
theorem own_lltF {x y : Int64} (h : ¬ x < y) : ifCond.holds .lt (lcmpW x y) = false := (if0 _ _).trans (flt (fun q => h ((lw_lt x y).mp q))).1
theorem own_lgeT {x y : Int64} (h : ¬ x < y) : ifCond.holds .ge (lcmpW x y) = true := (if0 _ _).trans (flt (fun q => h ((lw_lt x y).mp q))).2.1
theorem own_lgeF {x y : Int64} (h : x < y) : ifCond.holds .ge (lcmpW x y) = false := (if0 _ _).trans (tlt ((lw_lt x y).mpr h)).2.1
theorem own_leqT {x y : Int64} (h : x = y) : ifCond.holds .eq (lcmpW x y) = true := (if0 _ _).trans (teq ((lw_eq x y).mpr h)).1
theorem own_leqF {x y : Int64} (h : ¬ x = y) : ifCond.holds .eq (lcmpW x y) = false := (if0 _ _).trans (feq (fun q => h ((lw_eq x y).mp q))).1
theorem own_lneT {x y : Int64} (h : ¬ x = y) : ifCond.holds .ne (lcmpW x y) = true := (if0 _ _).trans (feq (fun q => h ((lw_eq x y).mp q))).2
theorem own_lneF {x y : Int64} (h : x = y) : ifCond.holds .ne (lcmpW x y) = false := (if0 _ _).trans (teq ((lw_eq x y).mpr h)).2
/-! linking: a constructor by a resolved reference; a private synchronized method of the nest host -/
section Own
variable {p : Program} {l : Launch} {e : Env} {R : Room} {s : State} {m : MethodId} {args : Array Value} {below : List Frame} {meth : Method} {c : Code} {T : State} {locs : List Loc} {cells slots : Nat} {Z : State} {a0 : Array Value} {h h' h2 : Heap}
theorem own_specialRef (X : Stand p l e R s m args below meth c T locs cells slots) (hexec : p.tables.exec = Jvm.exec) (hZ : Z.Warmed39 s.vm) {own : String} {index : Nat} {y : MethodName} (hy1 : y.name = "<init>")
    (hown : s.vm.findClass own = some m.cls) (w : (Cond.methodRef own index y).before a0 Z = true) (hinst : (Cond.instanceMethod y).before args s = true)
    {bytes : ByteArray} {maxL : Nat} (hcode : (Cond.code y bytes maxL none).before args s = true)
    (hy : y.cls ≠ "java/lang/invoke/MethodHandle" ∧ y.cls ≠ "java/lang/invoke/VarHandle")
    {W : Nat} {Pre : Pt → Array Value → Prop} {Post : Pt → Array Value → Option Value → Pt → Prop} (hK : Back l R p e below s args y 3 W Pre Post)
    {g : JFrame} (hg : g.method = m) (hsize : g.locals.size = c.maxLocals) {s₀ : State} (hcome : Steps p.tables e below s₀ (T.setTop g)) {a : Addr} {argsL rest : List Value}
    (hlen : ∀ sig, parseMethodDescriptor y.desc = some sig → argsL.length = sig.parameters.length) (hstack : g.stack = argsL.reverse ++ .ref a :: rest) (hW : 2 * g.monitorRoom + (rest.map fun v => v.category).sum ≤ W)
    (hdg : decode c.code g.pc = .ok (.invokespecial index, 3)) (hpre : ∀ vm₁, s.WarmedH vm₁ → Pre ⟨T.setVm vm₁, locs, cells, slots⟩ (.ref a :: argsL).toArray) :
    ∃ (v : Option Value) (vm₁ : Vm) (B : Pt), s.WarmedH vm₁ ∧ Stand p l e R s m args below meth c B.U B.locs B.cells B.slots ∧ Post ⟨T.setVm vm₁, locs, cells, slots⟩ (.ref a :: argsL).toArray v B ∧
      Steps p.tables e below s₀ (B.U.setTop { g with pc := g.pc + 3, stack := v.toList ++ rest }) := by
  obtain ⟨obj, methO, hnO, hmO, hstO, habO⟩ := Cond.instanceMethod_spec hinst
  obtain ⟨methO', cO, hmO', hcO, hbO, hlO, -, hlockO, -, hsigO⟩ := Cond.code_spec hnO hcode
  cases hmO.symm.trans hmO'
  obtain ⟨kO, hkO, hnameO⟩ := className_of_methodNamed hnO
  obtain ⟨hnameMO, hdescO⟩ := name_of_methodNamed hnO hmO
  have hU : Z.Warmed39 T.vm := wtrans hZ X.warmed
  have hnZ : Z.methodNamed? y = some obj := by
    have q : (Z.setVm s.vm).methodNamed? y = Z.methodNamed? y := State.methodNamed?_setVm hZ.alike y
    rw [← q]; exact hnO
  have w' := Cond.methodRef_warmed39 hU hnZ hy w
  have hownU : (Z.setVm T.vm).vm.findClass own = some m.cls := by rw [State.vm_setVm, X.warmed.alike.findClass]; exact hown
  obtain ⟨mf, c', hfound, hready, hfind, hnr⟩ := Cond.methodRef_named e hownU w'
  have hnU : (Z.setVm T.vm).methodNamed? y = some obj := by rw [State.methodNamed?_setVm hU.alike]; exact hnZ
  have hfo : (Z.setVm T.vm).methodFound? y.cls y.name y.desc = some obj := State.methodFound?_of_named hnU hy
  cases hfo.symm.trans hfound
  have hcls : obj.cls = c' := Option.some.inj ((findClass_of_methodNamed hnU).symm.trans hfind)
  subst hcls
  obtain ⟨kU, hkU, heU⟩ := X.warmed.alike.2.2 _ _ hkO
  have hmU : T.vm.method? obj = some methO := by rw [X.warmed.alike.method?]; exact hmO
  have hfoundS : lookupSpecial T.vm obj.cls "<init>" methO.desc = .method obj := by
    rw [X.warmed.alike.lookupSpecial, hdescO, ← hy1]; exact lookupSpecial_of_named hnO hmO hstO
  have hstep : ∀ target, (∀ acts, Steps p.tables e below (doInvoke e (T.setTop { g with stack := rest }) acts obj (.ref a :: argsL).toArray).1 target) → Steps p.tables e below (T.setTop g) target := by
    intro target hrest
    subst hg
    have hAt := X.here
    jvm_step hAt [hexec, hdg, invokespecial.wp_init (e := e) (s := T) (k := kU) (meth := methO) (m := obj) (a := a) (args := argsL) (rest := rest) (f := g) hAt.top hnr hready hkU hmU (by rw [hnameMO]; exact hy1) hstO habO hfoundS (hlen _ hsigO) hstack]
    exact hrest
  have eT : T.setVm T.vm = T := by cases T; rfl
  have hp := hpre T.vm X.warmed
  rw [eT] at hp
  obtain ⟨v, B, X', hpost, hsteps⟩ := hK m meth c ⟨T, locs, cells, slots⟩ { g with stack := rest } (.invokespecial index) obj (.ref a :: argsL).toArray X hg hsize hdg hW (X.named hnO) hp
  exact ⟨v, T.vm, B, X.warmed, X', by rw [eT]; exact hpost, (hcome.trans (hstep _ fun acts => by rw [doInvoke_state]; exact Steps.refl _)).trans hsteps⟩
theorem own_nestBack (X : Stand p l e R s m args below meth c T locs cells slots) (hexec : p.tables.exec = Jvm.exec) {own host : String} {index : Nat} {y : MethodName} {bytes : ByteArray} {maxL : Nat} {ret : Option FieldType}
    (hown : s.vm.findClass own = some m.cls) (hlink : (Cond.methodLinkNest own index y host).before args s = true) (hinst : (Cond.instanceMethod y).before args s = true) (hsel : (Cond.selects y.cls y y).before args s = true)
    (hpriv : s.PrivateAt y) (hcode : (Cond.codeSync y bytes maxL ret).before args s = true) (hy : y.cls ≠ "java/lang/invoke/MethodHandle" ∧ y.cls ≠ "java/lang/invoke/VarHandle")
    {W : Nat} {Pre : Free.Pt → Array Value → Prop} {Post : Free.Pt → Array Value → Option Value → Free.Pt → Prop} (hK : Free.Back l R p e below s args y 3 W Pre Post)
    {g : JFrame} (hg : g.method = m) (hsize : g.locals.size = c.maxLocals) {s₀ : State} (hcome : Steps p.tables e below s₀ (T.setTop g)) {a : Addr} {cell : Cell} (hcell : T.heap[a]? = some cell) (hobj : ∀ q, cell.vm ≠ .statics q)
    {argsL rest : List Value} (hlen : ∀ sig, parseMethodDescriptor y.desc = some sig → argsL.length = sig.parameters.length)
    (hstack : g.stack = argsL.reverse ++ .ref a :: rest) (hW : 2 * g.monitorRoom + (rest.map fun v => v.category).sum ≤ W) (hdg : decode c.code g.pc = .ok (.invokevirtual index, 3))
    (hpre : ∀ vm₁, s.WarmedH vm₁ → Pre ⟨T.setVm vm₁, locs, cells, slots⟩ (.ref a :: argsL).toArray) :
    ∃ (v : Option Value) (vm₁ : Vm) (B : Free.Pt), s.WarmedH vm₁ ∧ Stand p l e R s m args below meth c B.U B.locs B.cells B.slots ∧ Post ⟨T.setVm vm₁, locs, cells, slots⟩ (.ref a :: argsL).toArray v B ∧
      Steps p.tables e below s₀ (B.U.setTop { g with pc := g.pc + 3, stack := v.toList ++ rest }) := by
  obtain ⟨mk, methM, hnamed, hmethM, hstM, habM⟩ := Cond.instanceMethod_spec hinst
  obtain ⟨methM', cM, hmethM', -, -, -, -, -, -, hsigM⟩ := Cond.codeSync_spec hnamed hcode
  cases hmethM.symm.trans hmethM'
  obtain ⟨c2, r2, m2, -, -, q3, -, kP, hkP, hkPi⟩ := Cond.selects_spec hsel
  cases hnamed.symm.trans q3
  have hselP : selectMethod e.platform s.vm cell.cls mk = .method mk := selectMethod_private hmethM (hpriv mk methM hnamed hmethM)
  obtain ⟨vm₁, X₁, hstep₁⟩ := X.invokevirtualNest hexec hown hlink hnamed hmethM hstM hkP hkPi hy (a := a) (cell := cell) hcell hobj hselP hmethM habM hkP hkPi (g := g) hg (argsL := argsL) (rest := rest) (hlen _ hsigM) hstack hdg
  have hW₁ : s.WarmedH vm₁ := X₁.warmed
  obtain ⟨v, B, X', hpost, hsteps⟩ := hK m meth c ⟨T.setVm vm₁, locs, cells, slots⟩ { g with stack := rest } (.invokevirtual index) mk (.ref a :: argsL).toArray X₁ hg hsize hdg hW (X₁.named hnamed) (hpre vm₁ hW₁)
  exact ⟨v, vm₁, B, hW₁, X', hpost, (hcome.trans (hstep₁ _ fun acts => by rw [doInvoke_state]; exact Steps.refl _)).trans hsteps⟩
theorem own_mvNest (hZ : Z.Warmed39 s.vm) {own host : String} {index : Nat} {y : MethodName} (w : (Cond.methodLinkNest own index y host).before a0 Z = true) : (Cond.methodLinkNest own index y host).before args s = true := Cond.methodLinkNest_wide hZ w
end Own
section Own2
variable {p : Program} {l : Launch} {e : Env} {R : Room} {s t : State} {m : MethodId} {args : Array Value} {below : List Frame} {meth : Method} {c : Code} {T : State} {locs : List Loc} {cells slots : Nat} {Z : State} {a0 : Array Value} {h h' h2 : Heap}
theorem own_keepS {ws : List Addr} {L : List Loc} {k n : Nat} (q : s.sameButNew t L k n) (hL : ∀ y ∈ L, y.base ∈ ws) : Keep s.heap t.heap ws := by
  obtain ⟨-, h1, -, -, -, h2⟩ := q
  refine ⟨h1, fun x c hc hx => ?_, fun x c hc => ?_⟩
  · obtain ⟨c', q1, q2, -, q4⟩ := h2 x c hc
    have hsl : c'.slots = c.slots := Array.ext_getElem? fun i => q4 i (fun z => hx (hL _ z))
    have hcc : c' = c := by rw [q2, hsl]
    rw [q1, hcc]
  · obtain ⟨c', q1, q2, q3, -⟩ := h2 x c hc
    exact ⟨c', q1, by rw [q2], by rw [q2], q3⟩
theorem own_untS {a : Addr} {L : List Loc} {k n : Nat} (q : s.sameButNew t L k n) (N : Unt s.heap a) : Unt t.heap a := by
  obtain ⟨c, h1, h2, h3⟩ := N
  obtain ⟨c', q1, q2, -, -⟩ := q.2.2.2.2.2 a c h1
  exact ⟨c', q1, by rw [q2]; exact h2, by rw [q2]; exact h3⟩
theorem own_in0 {ws : List Addr} : ∀ y ∈ ([] : List Loc), y.base ∈ ws := fun _ q => nomatch q
theorem own_in1 {L : List Loc} {a : Addr} {sl : Nat} (q : ∀ y ∈ L, y.base ∈ [a]) : ∀ y ∈ L ++ [⟨a, sl⟩], y.base ∈ [a] := fun y hy => (List.mem_append.mp hy).elim (q y) fun z => by cases List.mem_singleton.mp z; exact List.mem_singleton.mpr rfl
theorem own_ent {a : Addr} (N : Unt h a) (t : ThreadId) : ∃ cell : Cell, h[a]? = some cell ∧ cell.enterable t := by
  obtain ⟨cl, u1, -, u3⟩ := N; exact ⟨cl, u1, by rw [Cell.enterable, u3]; simp⟩
theorem own_backSync {y : MethodName} {bytes : ByteArray} {maxL : Nat} {ret : Option FieldType} {rm : Room} {len W : Nat} {as' : Array Value} {a : Addr} {Q : Option Value → Heap → List Loc → Prop}
    (hM : MetFree l y (head1 [Cond.codeSync y bytes maxL ret, Cond.instanceMethod y] rm) (fun as U => as = as' ∧ Z.Warmed39 U.vm ∧ U.heap = h ∧ ∃ cell : Cell, h[a]? = some cell ∧ cell.enterable U.cur) (fun _ _ _ _ _ => True) (fun _ U o U' => ∃ v L, o = .returned v ∧ Q v U'.heap L ∧ FrameEnd U o U' L rm.cells rm.slots))
    (hZ : Z.Warmed39 s.vm) (wc : (Cond.codeSync y bytes maxL ret).before a0 Z = true) (wi : (Cond.instanceMethod y).before a0 Z = true) (wz : (Cond.initialized y.cls).before a0 Z = true) (N : Unt h a) (hf : rm.frames + 1 ≤ R.frames) (hl : W + (maxL + 11) + rm.locals ≤ R.locals) :
    Back l R p e below s args y len W (fun A a => a = as' ∧ A.U.heap = h ∧ A.cells + rm.cells ≤ R.cells ∧ A.slots + rm.slots ≤ R.slots)
      (fun A _ v B => ∃ L, Q v B.U.heap L ∧ B.locs = A.locs ++ L ∧ B.cells = A.cells + rm.cells ∧ B.slots = A.slots + rm.slots) :=
  Jvm.Free.XT.back_of_sync (bytes := bytes) (maxL := maxL) (ret := ret) (E := fun _ _ o t L k n => k = rm.cells ∧ n = rm.slots ∧ ∃ v, o = .returned v ∧ Q v t.heap L) hM hf hl
    (fun m meth c A as Y hp => have hU : Z.Warmed39 A.U.vm := wtrans hZ Y.warmed
      ⟨by show (Cond.and _ (Cond.and _ .tt)).before as A.U = true; rw [Cond.before_and, Cond.before_and, mv hU wc, mv hU wi]; rfl, mv hU wc, mv hU wz, hp.2.2.1, hp.2.2.2⟩)
    (fun m meth c A as g mk Y hp => ⟨hp.1, wtrans hZ Y.warmed, hp.2.1, own_ent N _⟩)
    (fun _ _ _ _ _ _ _ _ _ => trivial)
    (fun _ _ _ _ ⟨v, L, h1, h2, h3⟩ => ⟨L, _, _, h3, rfl, rfl, v, h1, h2⟩)
    (fun m meth c A a g mk v t L k n Y hp _ _ ⟨e1, e2, v', e3, e4⟩ => by cases e3; subst e1 e2; exact ⟨L, e4, rfl, rfl, rfl⟩)
end Own2
def own_minj (x y : Int64) : Int64 := if y < x then y else x
theorem own_div (x : Int64) : ((x / (2 : Int64)) / (6 : Int64)) = x / (12 : Int64) := by
  apply Int64.toInt_inj.mp
  have r := rng64 x
  obtain ⟨a1, a2⟩ := c_ldiv x 2 2 rfl (by decide)
  obtain ⟨b1, b2⟩ := c_ldiv (x / 2) 6 6 rfl (by decide)
  obtain ⟨d1, d2⟩ := c_ldiv x 12 12 rfl (by decide)
  by_cases h : 0 ≤ x.toInt
  · have a := a1 h; have d := d1 h; have b := b1 (by omega); omega
  · have a := a2 (by omega); have d := d2 (by omega)
    by_cases h2 : 0 ≤ (x / 2).toInt
    · have b := b1 h2; omega
    · have b := b2 (by omega); omega
theorem own_minle (x : Int64) : (own_minj x 67108864).toInt ≤ 67108864 := by
  unfold own_minj
  have e : (67108864 : Int64).toInt = 67108864 := rfl
  split
  · rw [e]; omega
  · rename_i h; rw [Int64.lt_iff_toInt_lt, e] at h; omega
theorem own_minge (x : Int64) : -9223372036854775808 / 12 - 1 ≤ (own_minj (x / 12) 67108864).toInt := by
  have r := rng64 x
  obtain ⟨d1, d2⟩ := c_ldiv x 12 12 rfl (by decide)
  have e : (67108864 : Int64).toInt = 67108864 := rfl
  unfold own_minj
  split
  · rw [e]; omega
  · by_cases h : 0 ≤ x.toInt
    · have := d1 h; omega
    · have := d2 (by omega); omega
theorem own_f2 (x : Int64) : ¬ ((0 : Int64) + ((1 : Int64) - (0 : Int64))) = (0 : Int64) ∧ (own_minj (x / 12) 67108864) < ((0 : Int64) + ((1 : Int64) - (0 : Int64))) + ((own_minj (x / 12) 67108864) - (0 : Int64)) := by
  refine ⟨by decide, ?_⟩
  rw [show ((0 : Int64) + ((1 : Int64) - (0 : Int64))) = 1 from by decide]
  have h1 := own_minle (x / 12); have h2 := own_minge x
  generalize own_minj (x / 12) 67108864 = c at h1 h2 ⊢
  rw [Int64.sub_zero, Int64.lt_iff_toInt_lt]
  have q := c_ladd 1 c; have r := rng64 (1 + c)
  rw [show (1 : Int64).toInt = 1 from rfl] at q
  omega
theorem own_f3 (x : Int64) : ¬ (own_minj (x / 12) 67108864) < ((0 : Int64) + ((1 : Int64) - (0 : Int64))) + (((own_minj (x / 12) 67108864) - (1 : Int64)) - (0 : Int64)) := by
  rw [show ((0 : Int64) + ((1 : Int64) - (0 : Int64))) = 1 from by decide]
  have h1 := own_minle (x / 12); have h2 := own_minge x
  generalize own_minj (x / 12) 67108864 = c at h1 h2 ⊢
  rw [Int64.sub_zero, Int64.lt_iff_toInt_lt]
  have q := c_ladd 1 (c - 1); have r := rng64 (1 + (c - 1)); have q2 := c_lsub c 1; have r2 := rng64 (c - 1)
  rw [show (1 : Int64).toInt = 1 from rfl] at q
  rw [show (1 : Int64).toInt = 1 from rfl] at q2
  omega
theorem pd_0 : parseMethodDescriptor "(JJ)J" = some ⟨[.long, .long], some .long⟩ := by decide +kernel
theorem pd_1 : parseMethodDescriptor "(J)Lcom/example/annalist/annalist/BodyBudget;" = some ⟨[.long], some (.object "com/example/annalist/annalist/BodyBudget")⟩ := by decide +kernel
theorem pd_2 : parseMethodDescriptor "(J)V" = some ⟨[.long], none⟩ := by decide +kernel
theorem pd_3 : parseMethodDescriptor "()V" = some ⟨[], none⟩ := by decide +kernel
theorem pd_4 : parseMethodDescriptor "()Lcom/example/annalist/annalist/BodyBudget$Reservation;" = some ⟨[], some (.object "com/example/annalist/annalist/BodyBudget$Reservation")⟩ := by decide +kernel
theorem pd_5 : parseMethodDescriptor "(Lcom/example/annalist/annalist/BodyBudget;)V" = some ⟨[(.object "com/example/annalist/annalist/BodyBudget")], none⟩ := by decide +kernel
theorem pd_6 : parseMethodDescriptor "(J)Z" = some ⟨[.long], some .boolean⟩ := by decide +kernel
theorem pd_7 : parseMethodDescriptor "(JJ)Z" = some ⟨[.long, .long], some .boolean⟩ := by decide +kernel
theorem d1_0 : decode jdk_29_method_70_code 0 = .ok (.lload_n 0, 1) := by decide +kernel
theorem d1_1 : decode jdk_29_method_70_code 1 = .ok (.lload_n 2, 1) := by decide +kernel
theorem d1_2 : decode jdk_29_method_70_code 2 = .ok (.lcmp, 1) := by decide +kernel
theorem d1_3 : decode jdk_29_method_70_code 3 = .ok (.ifCond .gt 7, 3) := by decide +kernel
theorem d1_6 : decode jdk_29_method_70_code 6 = .ok (.lload_n 0, 1) := by decide +kernel
theorem d1_7 : decode jdk_29_method_70_code 7 = .ok (.goto 4, 3) := by decide +kernel
theorem d1_10 : decode jdk_29_method_70_code 10 = .ok (.lload_n 2, 1) := by decide +kernel
theorem d1_11 : decode jdk_29_method_70_code 11 = .ok (.lreturn, 1) := by decide +kernel
theorem ef_rm1 (m : MethodId) (x1 : Int64) (x2 : Int64) : entryFrame m #[(.long x1), (.long x2)] 4 = mkF m 0 #[.val (.long x1), .second, .val (.long x2), .second] [] := by first | (simp [entryFrame, mkF, argsToLocals, Value.category]; done) | rfl
def Q_rm1 (Z : State) (x1 : Int64) (x2 : Int64) (h0 : Heap) (n0 : Nat) (v : Option Value) (h : Heap) (L : List Loc) : Prop := v = some (.long (own_minj x1 x2)) ∧ Fr n0 L ∧ h = h0
set_option maxRecDepth 65536 in
set_option maxHeartbeats 40000000 in
theorem rm1 (l : Launch) (Z : State) (a0 : Array Value) (hw : ∀ d ∈ tables_1, d.before a0 Z = true) (ws : List Jvm.Cond) (x1 : Int64) (x2 : Int64) (h0 : Heap) (n0 : Nat) (Z0 : n0 ≤ h0.size) :
    MetFree l (⟨"java/lang/Math", "min", "(JJ)J"⟩ : MethodName) (head1 (Jvm.Cond.code (⟨"java/lang/Math", "min", "(JJ)J"⟩ : MethodName) jdk_29_method_70_code 4 (some .long) :: ws) ({ frames := 0, cells := 0, slots := 0, locals := 0 } : Room)) (fun as₉ U => as₉ = #[(.long x1), (.long x2)] ∧ Z.Warmed39 U.vm ∧ U.heap = h0) (fun _ _ _ _ _ => True) (fun _ U o₉ U' => ∃ v L, o₉ = .returned v ∧ Q_rm1 Z x1 x2 h0 n0 v U'.heap L ∧ FrameEnd U o₉ U' L ({ frames := 0, cells := 0, slots := 0, locals := 0 } : Room).cells ({ frames := 0, cells := 0, slots := 0, locals := 0 } : Room).slots) := by
  refine MetFree.of_bodySF (Jvm.Free.JP.mathPlain rfl (by decide +kernel)) hisR ?_
  intro p e s m args below meth c s₁ Bd hml0 hP hK
  obtain ⟨rfl, hZ, hh⟩ := hP
  have hx := Bd.exec
  have hby := Bd.bytes
  have hml : c.maxLocals = 4 := hml0
  have hown : s.vm.findClass "java/lang/Math" = some m.cls := findClass_of_methodNamed Bd.named
  have hnm := (name_of_methodNamed Bd.named Bd.method).1
  have X0 : Stand p l e ({ frames := 0, cells := 0, slots := 0, locals := 0 } : Room) s m #[(.long x1), (.long x2)] below meth c s₁ [] 0 0 := Stand.of_body Bd
  have e0 : s₁.heap = h0 := by rw [← hh, Bd.state]; rfl
  have N0 := Fr.nil n0
  show own_Go p e below (fun s₂ o₉ => s₂.status = .running ∧ Ended s₂ below o₉ ∧ ∃ v L, o₉ = .returned v ∧ Q_rm1 Z x1 x2 h0 n0 v s₂.heap L ∧ FrameEnd s o₉ s₂ L ({ frames := 0, cells := 0, slots := 0, locals := 0 } : Room).cells ({ frames := 0, cells := 0, slots := 0, locals := 0 } : Room).slots) (s₁.setTop (entryFrame m #[(.long x1), (.long x2)] 4))
  rw [ef_rm1 m x1 x2]
  refine own_step (s₁.setTop (mkF m 1 #[.val (.long x1), .second, .val (.long x2), .second] [(.long x1)])) (fun t₀ k₀ => XS.lloadN X0.here hx rfl (hb hby d1_0) rfl k₀) ?_
  refine own_step (s₁.setTop (mkF m 2 #[.val (.long x1), .second, .val (.long x2), .second] [(.long x2), (.long x1)])) (fun t₀ k₀ => XS.lloadN X0.here hx rfl (hb hby d1_1) rfl k₀) ?_
  refine own_step (s₁.setTop (mkF m 3 #[.val (.long x1), .second, .val (.long x2), .second] [(.int (lcmpW x1 x2))])) (fun t₀ k₀ => XS.lcmp X0.here hx rfl (hb hby d1_2) rfl k₀) ?_
  by_cases hc3 : x2 < x1
  · skip
    refine own_step (s₁.setTop (mkF m 10 #[.val (.long x1), .second, .val (.long x2), .second] [])) (fun t₀ k₀ => XS.ifYes X0.here hx rfl (pc0 := 3) (pc' := 10) rfl (hb hby d1_3) rfl (own_lgtT hc3) (by decide) (by decide) k₀) ?_
    refine own_step (s₁.setTop (mkF m 11 #[.val (.long x1), .second, .val (.long x2), .second] [(.long x2)])) (fun t₀ k₀ => XS.lloadN X0.here hx rfl (hb hby d1_10) rfl k₀) ?_
    obtain ⟨fs, hr, hrun, hended, hW, hsame⟩ := X0.leave (v := some (.long x2)) (fun h => by rw [Bd.returns] at h; cases h)
    refine ⟨_, _, ?_, hrun, hended, _, _, rfl, ?_, ⟨_, rfl⟩, hW, hsame.mono (by decide) (by decide)⟩
    · jvm_step X0.here [X0.here.top, hx, (hb hby d1_11), X0.method', Bd.returns, narrow]
      first | (intro acts; rw [hr _ acts rfl rfl rfl]) | rw [hr _ _ rfl rfl rfl]
      exact Steps.refl _
    · show Q_rm1 Z x1 x2 h0 n0 _ s₁.heap _
      rw [e0]
      exact ⟨by simp [own_minj, hc3], N0, rfl⟩
  · skip
    refine own_step (s₁.setTop (mkF m 6 #[.val (.long x1), .second, .val (.long x2), .second] [])) (fun t₀ k₀ => XS.ifNo X0.here hx rfl (hb hby d1_3) rfl (own_lgtF hc3) k₀) ?_
    refine own_step (s₁.setTop (mkF m 7 #[.val (.long x1), .second, .val (.long x2), .second] [(.long x1)])) (fun t₀ k₀ => XS.lloadN X0.here hx rfl (hb hby d1_6) rfl k₀) ?_
    refine own_step (s₁.setTop (mkF m 11 #[.val (.long x1), .second, .val (.long x2), .second] [(.long x1)])) (fun t₀ k₀ => XS.goto X0.here hx rfl (pc0 := 7) (pc' := 11) rfl (hb hby d1_7) (by decide) (by decide) k₀) ?_
    obtain ⟨fs, hr, hrun, hended, hW, hsame⟩ := X0.leave (v := some (.long x1)) (fun h => by rw [Bd.returns] at h; cases h)
    refine ⟨_, _, ?_, hrun, hended, _, _, rfl, ?_, ⟨_, rfl⟩, hW, hsame.mono (by decide) (by decide)⟩
    · jvm_step X0.here [X0.here.top, hx, (hb hby d1_11), X0.method', Bd.returns, narrow]
      first | (intro acts; rw [hr _ acts rfl rfl rfl]) | rw [hr _ _ rfl rfl rfl]
      exact Steps.refl _
    · show Q_rm1 Z x1 x2 h0 n0 _ s₁.heap _
      rw [e0]
      exact ⟨by simp [own_minj, hc3], N0, rfl⟩
theorem d3_0 : decode prog_1_method_1_code 0 = .ok (.aload_n 0, 1) := by decide +kernel
theorem d3_1 : decode prog_1_method_1_code 1 = .ok (.invokespecial 1, 3) := by decide +kernel
theorem d3_4 : decode prog_1_method_1_code 4 = .ok (.aload_n 0, 1) := by decide +kernel
theorem d3_5 : decode prog_1_method_1_code 5 = .ok (.lload_n 1, 1) := by decide +kernel
theorem d3_6 : decode prog_1_method_1_code 6 = .ok (.putfield 7, 3) := by decide +kernel
theorem d3_9 : decode prog_1_method_1_code 9 = .ok (.return_, 1) := by decide +kernel
theorem pn_3 : plainName "com/example/annalist/annalist/BodyBudget" = true := by first | (simp [plainName, overriddenIn]; done) | decide +kernel
theorem ef_rm3 (m : MethodId) (a : Addr) (cp : Int64) : entryFrame m #[(.ref a), (.long cp)] 3 = mkF m 0 #[.val (.ref a), .val (.long cp), .second] [] := by first | (simp [entryFrame, mkF, argsToLocals, Value.category]; done) | rfl
def Q_rm3 (Z : State) (a : Addr) (cp : Int64) (h0 : Heap) (n0 : Nat) (v : Option Value) (h : Heap) (L : List Loc) : Prop := v = none ∧ Fr n0 L ∧ Keep h0 h [a] ∧ Fld Z h a "com/example/annalist/annalist/BodyBudget" "capacity" "J" (.long cp) ∧ Fld Z h a "com/example/annalist/annalist/BodyBudget" "reserved" "J" (.long (0 : Int64)) ∧ Unt h a
set_option maxRecDepth 65536 in
set_option maxHeartbeats 40000000 in
theorem rm3 (l : Launch) (Z : State) (a0 : Array Value) (hw : ∀ d ∈ tables_1, d.before a0 Z = true) (ws : List Jvm.Cond) (a : Addr) (cp : Int64) (h0 : Heap) (n0 : Nat) (Z0 : n0 ≤ h0.size) (Ea : Exa Z h0 a "com/example/annalist/annalist/BodyBudget") (Fc : Fld Z h0 a "com/example/annalist/annalist/BodyBudget" "capacity" "J" (.long (0 : Int64))) (Fr0 : Fld Z h0 a "com/example/annalist/annalist/BodyBudget" "reserved" "J" (.long (0 : Int64))) (Ua : Unt h0 a) (ga : n0 ≤ a) :
    MetFree l (⟨"com/example/annalist/annalist/BodyBudget", "<init>", "(J)V"⟩ : MethodName) (head1 (Jvm.Cond.code (⟨"com/example/annalist/annalist/BodyBudget", "<init>", "(J)V"⟩ : MethodName) prog_1_method_1_code 3 none :: ws) ({ frames := 1, cells := 0, slots := 0, locals := 12 } : Room)) (fun as₉ U => as₉ = #[(.ref a), (.long cp)] ∧ Z.Warmed39 U.vm ∧ U.heap = h0) (fun _ _ _ _ _ => True) (fun _ U o₉ U' => ∃ v L, o₉ = .returned v ∧ Q_rm3 Z a cp h0 n0 v U'.heap L ∧ FrameEnd U o₉ U' L ({ frames := 1, cells := 0, slots := 0, locals := 12 } : Room).cells ({ frames := 1, cells := 0, slots := 0, locals := 12 } : Room).slots) := by
  refine MetFree.of_bodySF (plainFor_of_name pn_3) hisR ?_
  intro p e s m args below meth c s₁ Bd hml0 hP hK
  obtain ⟨rfl, hZ, hh⟩ := hP
  have hx := Bd.exec
  have hby := Bd.bytes
  have hml : c.maxLocals = 3 := hml0
  have hown : s.vm.findClass "com/example/annalist/annalist/BodyBudget" = some m.cls := findClass_of_methodNamed Bd.named
  have hnm := (name_of_methodNamed Bd.named Bd.method).1
  have X0 : Stand p l e ({ frames := 1, cells := 0, slots := 0, locals := 12 } : Room) s m #[(.ref a), (.long cp)] below meth c s₁ [] 0 0 := Stand.of_body Bd
  have e0 : s₁.heap = h0 := by rw [← hh, Bd.state]; rfl
  have N0 := Fr.nil n0
  show own_Go p e below (fun s₂ o₉ => s₂.status = .running ∧ Ended s₂ below o₉ ∧ ∃ v L, o₉ = .returned v ∧ Q_rm3 Z a cp h0 n0 v s₂.heap L ∧ FrameEnd s o₉ s₂ L ({ frames := 1, cells := 0, slots := 0, locals := 12 } : Room).cells ({ frames := 1, cells := 0, slots := 0, locals := 12 } : Room).slots) (s₁.setTop (entryFrame m #[(.ref a), (.long cp)] 3))
  rw [ef_rm3 m a cp]
  refine own_step (s₁.setTop (mkF m 1 #[.val (.ref a), .val (.long cp), .second] [(.ref a)])) (fun t₀ k₀ => XS.aloadN X0.here hx rfl (hb hby d3_0) rfl rfl k₀) ?_
  obtain ⟨T1, X1, e1, st1⟩ := initO X0 hx hZ hown (hw _ (List.mem_of_getElem? (i := 19) rfl)) (hw _ (List.mem_of_getElem? (i := 20) rfl)) (hw _ (List.mem_of_getElem? (i := 21) rfl)) e0 (g := (mkF m 1 #[.val (.ref a), .val (.long cp), .second] [(.ref a)])) rfl (by rw [hml]; rfl) rfl (hb hby d3_1) (by decide) (W := 0) (by show 2 * 0 + _ ≤ _; exact Nat.le_of_eq rfl) (by decide)
  refine own_step (T1.setTop (mkF m 4 #[.val (.ref a), .val (.long cp), .second] [])) (fun t₀ k₀ => st1 t₀ k₀) ?_
  refine own_step (T1.setTop (mkF m 5 #[.val (.ref a), .val (.long cp), .second] [(.ref a)])) (fun t₀ k₀ => XS.aloadN X1.here hx rfl (hb hby d3_4) rfl rfl k₀) ?_
  refine own_step (T1.setTop (mkF m 6 #[.val (.ref a), .val (.long cp), .second] [(.long cp), (.ref a)])) (fun t₀ k₀ => XS.lloadN X1.here hx rfl (hb hby d3_5) rfl k₀) ?_
  obtain ⟨T2, h2, X2, e2, W2, st2⟩ := putF X1 hx hZ hown (host := "") (Or.inl (hw _ (List.mem_of_getElem? (i := 22) rfl))) Via.refl e1 Fc Ea (Or.inr ⟨(hw _ (List.mem_of_getElem? (i := 23) rfl)), rfl, hnm⟩) (hw _ (List.mem_of_getElem? (i := 11) rfl)) (ty := .long) (by decide) rfl rfl (g := (mkF m 6 #[.val (.ref a), .val (.long cp), .second] [(.long cp), (.ref a)])) rfl rfl (hb hby d3_6)
  have f3 : Fld Z h2 a "com/example/annalist/annalist/BodyBudget" "capacity" "J" (.long cp) := Fc.same W2
  have f4 : Exa Z h2 a "com/example/annalist/annalist/BodyBudget" := Ea.wr W2
  have f5 : Fld Z h2 a "com/example/annalist/annalist/BodyBudget" "reserved" "J" (.long (0 : Int64)) := Fr0.other W2 (Or.inr (slot_ne (Or.inl (hw _ (List.mem_of_getElem? (i := 50) rfl))) (Or.inr (hw _ (List.mem_of_getElem? (i := 23) rfl))) (by decide) (t := .long) (t' := .long) (by decide) (by decide)))
  have f6 : Unt h2 a := Ua.wr W2
  have N2 := Fr.snoc X2 N0 ga
  have z2 : n0 ≤ h2.size := Nat.le_trans Z0 (Keep.of_wr W2).1
  have K2 : Keep h0 h2 [a] := (Keep.refl h0 [a]).wr W2 (Or.inl (List.mem_of_getElem? (i := 0) rfl))
  refine own_step (T2.setTop (mkF m 9 #[.val (.ref a), .val (.long cp), .second] [])) (fun t₀ k₀ => st2 t₀ k₀) ?_
  obtain ⟨fs, hr, hrun, hended, hW, hsame⟩ := X2.leave (v := none) (fun _ => rfl)
  refine ⟨_, _, ?_, hrun, hended, _, _, rfl, ?_, ⟨_, rfl⟩, hW, hsame.mono (by decide) (by decide)⟩
  · exact X2.returnOut hx Bd.returns (hb hby d3_9) hr
  · show Q_rm3 Z a cp h0 n0 _ T2.heap _
    rw [e2]
    exact ⟨rfl, N2, K2, f3, f5, f6⟩
theorem d2_0 : decode prog_1_method_2_code 0 = .ok (.new 8, 3) := by decide +kernel
theorem d2_3 : decode prog_1_method_2_code 3 = .ok (.dup, 1) := by decide +kernel
theorem d2_4 : decode prog_1_method_2_code 4 = .ok (.lload_n 0, 1) := by decide +kernel
theorem d2_5 : decode prog_1_method_2_code 5 = .ok (.ldc2_w 13, 3) := by decide +kernel
theorem d2_8 : decode prog_1_method_2_code 8 = .ok (.ldiv, 1) := by decide +kernel
theorem d2_9 : decode prog_1_method_2_code 9 = .ok (.ldc2_w 15, 3) := by decide +kernel
theorem d2_12 : decode prog_1_method_2_code 12 = .ok (.ldiv, 1) := by decide +kernel
theorem d2_13 : decode prog_1_method_2_code 13 = .ok (.ldc2_w 17, 3) := by decide +kernel
theorem d2_16 : decode prog_1_method_2_code 16 = .ok (.invokestatic 19, 3) := by decide +kernel
theorem d2_19 : decode prog_1_method_2_code 19 = .ok (.invokespecial 25, 3) := by decide +kernel
theorem d2_22 : decode prog_1_method_2_code 22 = .ok (.areturn, 1) := by decide +kernel
theorem ef_rm2 (m : MethodId) (hp : Int64) : entryFrame m #[(.long hp)] 2 = mkF m 0 #[.val (.long hp), .second] [] := by first | (simp [entryFrame, mkF, argsToLocals, Value.category]; done) | rfl
def Q_rm2 (Z : State) (hp : Int64) (h0 : Heap) (n0 : Nat) (v : Option Value) (h : Heap) (L : List Loc) : Prop := ∃ nb : Addr, v = some (.ref nb) ∧ Fr n0 L ∧ Keep h0 h [] ∧ n0 ≤ nb ∧ Exa Z h nb "com/example/annalist/annalist/BodyBudget" ∧ Fld Z h nb "com/example/annalist/annalist/BodyBudget" "capacity" "J" (.long (own_minj ((hp / (2 : Int64)) / (6 : Int64)) (67108864 : Int64))) ∧ Fld Z h nb "com/example/annalist/annalist/BodyBudget" "reserved" "J" (.long (0 : Int64)) ∧ Unt h nb
set_option maxRecDepth 65536 in
set_option maxHeartbeats 40000000 in
theorem rm2 (l : Launch) (Z : State) (a0 : Array Value) (hw : ∀ d ∈ tables_1, d.before a0 Z = true) (ws : List Jvm.Cond) (hp : Int64) (h0 : Heap) (n0 : Nat) (Z0 : n0 ≤ h0.size) :
    MetFree l (⟨"com/example/annalist/annalist/BodyBudget", "forHeap", "(J)Lcom/example/annalist/annalist/BodyBudget;"⟩ : MethodName) (head1 (Jvm.Cond.code (⟨"com/example/annalist/annalist/BodyBudget", "forHeap", "(J)Lcom/example/annalist/annalist/BodyBudget;"⟩ : MethodName) prog_1_method_2_code 2 (some (.object "com/example/annalist/annalist/BodyBudget")) :: ws) ({ frames := 2, cells := 1, slots := 2, locals := 30 } : Room)) (fun as₉ U => as₉ = #[(.long hp)] ∧ Z.Warmed39 U.vm ∧ U.heap = h0) (fun _ _ _ _ _ => True) (fun _ U o₉ U' => ∃ v L, o₉ = .returned v ∧ Q_rm2 Z hp h0 n0 v U'.heap L ∧ FrameEnd U o₉ U' L ({ frames := 2, cells := 1, slots := 2, locals := 30 } : Room).cells ({ frames := 2, cells := 1, slots := 2, locals := 30 } : Room).slots) := by
  refine MetFree.of_bodySF (plainFor_of_name pn_3) hisR ?_
  intro p e s m args below meth c s₁ Bd hml0 hP hK
  obtain ⟨rfl, hZ, hh⟩ := hP
  have hx := Bd.exec
  have hby := Bd.bytes
  have hml : c.maxLocals = 2 := hml0
  have hown : s.vm.findClass "com/example/annalist/annalist/BodyBudget" = some m.cls := findClass_of_methodNamed Bd.named
  have hnm := (name_of_methodNamed Bd.named Bd.method).1
  have X0 : Stand p l e ({ frames := 2, cells := 1, slots := 2, locals := 30 } : Room) s m #[(.long hp)] below meth c s₁ [] 0 0 := Stand.of_body Bd
  have e0 : s₁.heap = h0 := by rw [← hh, Bd.state]; rfl
  have N0 := Fr.nil n0
  show own_Go p e below (fun s₂ o₉ => s₂.status = .running ∧ Ended s₂ below o₉ ∧ ∃ v L, o₉ = .returned v ∧ Q_rm2 Z hp h0 n0 v s₂.heap L ∧ FrameEnd s o₉ s₂ L ({ frames := 2, cells := 1, slots := 2, locals := 30 } : Room).cells ({ frames := 2, cells := 1, slots := 2, locals := 30 } : Room).slots) (s₁.setTop (entryFrame m #[(.long hp)] 2))
  rw [ef_rm2 m hp]
  obtain ⟨T7, h7, X7, e7, E7, A7, D7, U7, st7⟩ := newO X0 hx hZ hown (hw _ (List.mem_of_getElem? (i := 10) rfl)) (hw _ (List.mem_of_getElem? (i := 11) rfl)) (hw _ (List.mem_of_getElem? (i := 8) rfl)) e0 (g := (mkF m 0 #[.val (.long hp), .second] [])) rfl (hb hby d2_0) (by decide) (by decide)
  obtain ⟨b7, g7⟩ : ∃ z, z = h0.size := ⟨_, rfl⟩
  rw [← g7] at A7 D7 U7 st7
  have fr_b7 : n0 ≤ b7 := Nat.le_trans Z0 (Nat.le_of_eq g7.symm)
  have sz_b7 : h0.size ≤ b7 := Nat.le_trans (Keep.refl h0 []).1 (Nat.le_of_eq g7.symm)
  have Un7 : Unt h7 b7 := U7
  have f8 : Fld Z h7 b7 "com/example/annalist/annalist/BodyBudget" "capacity" "J" (.long (0 : Int64)) := D7 (Or.inr (hw _ (List.mem_of_getElem? (i := 23) rfl))) (ty := .long) (by decide)
  have f9 : Fld Z h7 b7 "com/example/annalist/annalist/BodyBudget" "reserved" "J" (.long (0 : Int64)) := D7 (Or.inl (hw _ (List.mem_of_getElem? (i := 50) rfl))) (ty := .long) (by decide)
  have z7 : n0 ≤ h7.size := Nat.le_trans Z0 E7.1
  have K7 : Keep h0 h7 [] := (Keep.refl h0 []).ext E7
  refine own_step (T7.setTop (mkF m 3 #[.val (.long hp), .second] [(.ref b7)])) (fun t₀ k₀ => st7 t₀ k₀) ?_
  refine own_step (T7.setTop (mkF m 4 #[.val (.long hp), .second] [(.ref b7), (.ref b7)])) (fun t₀ k₀ => XS.dup X7.here hx rfl (hb hby d2_3) rfl rfl k₀) ?_
  refine own_step (T7.setTop (mkF m 5 #[.val (.long hp), .second] [(.long hp), (.ref b7), (.ref b7)])) (fun t₀ k₀ => XS.lloadN X7.here hx rfl (hb hby d2_4) rfl k₀) ?_
  refine own_step (T7.setTop (mkF m 8 #[.val (.long hp), .second] [(.long (2 : Int64)), (.long hp), (.ref b7), (.ref b7)])) (fun t₀ k₀ => X7.ldc2Long hx hown (mvT hZ (hw _ (List.mem_of_getElem? (i := 12) rfl))) (g := (mkF m 5 #[.val (.long hp), .second] [(.long hp), (.ref b7), (.ref b7)])) rfl (hb hby d2_5) _ k₀) ?_
  refine own_step (T7.setTop (mkF m 9 #[.val (.long hp), .second] [(.long (hp / (2 : Int64))), (.ref b7), (.ref b7)])) (fun t₀ k₀ => XS.ldiv X7.here hx rfl (hb hby d2_8) rfl (by decide) k₀) ?_
  refine own_step (T7.setTop (mkF m 12 #[.val (.long hp), .second] [(.long (6 : Int64)), (.long (hp / (2 : Int64))), (.ref b7), (.ref b7)])) (fun t₀ k₀ => X7.ldc2Long hx hown (mvT hZ (hw _ (List.mem_of_getElem? (i := 13) rfl))) (g := (mkF m 9 #[.val (.long hp), .second] [(.long (hp / (2 : Int64))), (.ref b7), (.ref b7)])) rfl (hb hby d2_9) _ k₀) ?_
  refine own_step (T7.setTop (mkF m 13 #[.val (.long hp), .second] [(.long ((hp / (2 : Int64)) / (6 : Int64))), (.ref b7), (.ref b7)])) (fun t₀ k₀ => XS.ldiv X7.here hx rfl (hb hby d2_12) rfl (by decide) k₀) ?_
  refine own_step (T7.setTop (mkF m 16 #[.val (.long hp), .second] [(.long (67108864 : Int64)), (.long ((hp / (2 : Int64)) / (6 : Int64))), (.ref b7), (.ref b7)])) (fun t₀ k₀ => X7.ldc2Long hx hown (mvT hZ (hw _ (List.mem_of_getElem? (i := 14) rfl))) (g := (mkF m 13 #[.val (.long hp), .second] [(.long ((hp / (2 : Int64)) / (6 : Int64))), (.ref b7), (.ref b7)])) rfl (hb hby d2_13) _ k₀) ?_
  obtain ⟨_, _, ⟨T10, L10, k10, n10⟩, -, X10, ⟨Lc10, hQ10, l10, y10, z10⟩, st10⟩ := Jvm.LawKit.callS X7 hx (y := (⟨"java/lang/Math", "min", "(JJ)J"⟩ : MethodName)) hown (mvT hZ (hw _ (List.mem_of_getElem? (i := 15) rfl))) (mvT hZ (hw _ (List.mem_of_getElem? (i := 3) rfl))) (mvT hZ (hw _ (List.mem_of_getElem? (i := 4) rfl))) (mvT hZ (hw _ (List.mem_of_getElem? (i := 5) rfl))) (by decide) (backOf (W := 2) (rm1 l Z a0 hw [] ((hp / (2 : Int64)) / (6 : Int64)) (67108864 : Int64) h7 n0 z7) hZ (hw _ (List.mem_of_getElem? (i := 5) rfl)) (hw _ (List.mem_of_getElem? (i := 4) rfl)) (by decide) (by decide)) (g := (mkF m 16 #[.val (.long hp), .second] [(.long (67108864 : Int64)), (.long ((hp / (2 : Int64)) / (6 : Int64))), (.ref b7), (.ref b7)])) rfl (by rw [hml]; rfl) (argsL := [(.long ((hp / (2 : Int64)) / (6 : Int64))), (.long (67108864 : Int64))]) (rest := [(.ref b7), (.ref b7)]) (lenOf pd_0 rfl) rfl (by show 2 * 0 + _ ≤ _; exact Nat.le_of_eq rfl) (hb hby d2_16) (fun _ _ => ⟨rfl, e7, (by decide : 1 + 0 ≤ _), (by decide : 2 + 0 ≤ _)⟩)
  dsimp only [Pt.U, Pt.locs, Pt.cells, Pt.slots] at X10 l10 y10 z10 st10 hQ10
  subst l10 y10 z10
  obtain ⟨rfl, N10q, e10⟩ := hQ10
  have N10 := Fr.app N0 N10q
  refine own_step (T10.setTop (mkF m 19 #[.val (.long hp), .second] [(.long (own_minj ((hp / (2 : Int64)) / (6 : Int64)) (67108864 : Int64))), (.ref b7), (.ref b7)])) (fun t₀ k₀ => st10 t₀ k₀) ?_
  obtain ⟨_, _, ⟨T11, L11, k11, n11⟩, -, X11, ⟨Lc11, hQ11, l11, y11, z11⟩, st11⟩ := X10.specialBack hx (y := (⟨"com/example/annalist/annalist/BodyBudget", "<init>", "(J)V"⟩ : MethodName)) rfl hown (mvT hZ (hw _ (List.mem_of_getElem? (i := 16) rfl))) (mvT hZ (hw _ (List.mem_of_getElem? (i := 17) rfl))) (mvT hZ (hw _ (List.mem_of_getElem? (i := 18) rfl))) (by decide) (backOf (W := 1) (rm3 l Z a0 hw [] b7 (own_minj ((hp / (2 : Int64)) / (6 : Int64)) (67108864 : Int64)) h7 n0 z7 A7 f8 f9 Un7 fr_b7) hZ (hw _ (List.mem_of_getElem? (i := 18) rfl)) (hw _ (List.mem_of_getElem? (i := 8) rfl)) (by decide) (by decide)) (g := (mkF m 19 #[.val (.long hp), .second] [(.long (own_minj ((hp / (2 : Int64)) / (6 : Int64)) (67108864 : Int64))), (.ref b7), (.ref b7)])) rfl (by rw [hml]; rfl) (Steps.refl _) (a := b7) (argsL := [(.long (own_minj ((hp / (2 : Int64)) / (6 : Int64)) (67108864 : Int64)))]) (rest := [(.ref b7)]) (lenOf pd_2 rfl) rfl (by show 2 * 0 + _ ≤ _; exact Nat.le_of_eq rfl) (hb hby d2_19) (fun _ _ => ⟨rfl, e10, (by decide : 1 + 0 ≤ _), (by decide : 2 + 0 ≤ _)⟩)
  dsimp only [Pt.U, Pt.locs, Pt.cells, Pt.slots] at X11 l11 y11 z11 st11 hQ11
  subst l11 y11 z11
  obtain ⟨rfl, N11q, K11, f12, f13, f14⟩ := hQ11
  have N11 := Fr.app N10 N11q
  have f15 : Exa Z T11.heap b7 "com/example/annalist/annalist/BodyBudget" := A7.keep K11
  have z11' : n0 ≤ T11.heap.size := Nat.le_trans z7 K11.1
  have K11' : Keep h0 T11.heap [] := K7.trans K11 (allS (Or.inr sz_b7) all0)
  refine own_comes (T11.setTop (mkF m 22 #[.val (.long hp), .second] [(.ref b7)])) st11 ?_
  obtain ⟨fs, hr, hrun, hended, hW, hsame⟩ := X11.leave (v := some (.ref b7)) (fun h => by rw [Bd.returns] at h; cases h)
  refine ⟨_, _, ?_, hrun, hended, _, _, rfl, ?_, ⟨_, rfl⟩, hW, hsame.mono (by decide) (by decide)⟩
  · jvm_step X11.here [X11.here.top, hx, (hb hby d2_22), X11.method', Bd.returns, Value.isRef, FieldType.isReference]
    first | (intro acts; rw [hr _ acts rfl rfl rfl]) | rw [hr _ _ rfl rfl rfl]
    exact Steps.refl _
  · show Q_rm2 Z hp h0 n0 _ T11.heap _
    exact ⟨b7, rfl, N11, K11', fr_b7, f15, f12, f13, f14⟩
theorem d6_0 : decode prog_2_method_1_code 0 = .ok (.aload_n 0, 1) := by decide +kernel
theorem d6_1 : decode prog_2_method_1_code 1 = .ok (.aload_n 1, 1) := by decide +kernel
theorem d6_2 : decode prog_2_method_1_code 2 = .ok (.putfield 1, 3) := by decide +kernel
theorem d6_5 : decode prog_2_method_1_code 5 = .ok (.aload_n 0, 1) := by decide +kernel
theorem d6_6 : decode prog_2_method_1_code 6 = .ok (.invokespecial 7, 3) := by decide +kernel
theorem d6_9 : decode prog_2_method_1_code 9 = .ok (.return_, 1) := by decide +kernel
theorem pn_6 : plainName "com/example/annalist/annalist/BodyBudget$Reservation" = true := by first | (simp [plainName, overriddenIn]; done) | decide +kernel
theorem ef_rm6 (m : MethodId) (rv : Addr) (a : Addr) : entryFrame m #[(.ref rv), (.ref a)] 2 = mkF m 0 #[.val (.ref rv), .val (.ref a)] [] := by first | (simp [entryFrame, mkF, argsToLocals, Value.category]; done) | rfl
def Q_rm6 (Z : State) (rv : Addr) (a : Addr) (h0 : Heap) (n0 : Nat) (v : Option Value) (h : Heap) (L : List Loc) : Prop := v = none ∧ Fr n0 L ∧ Keep h0 h [rv] ∧ Fld Z h rv "com/example/annalist/annalist/BodyBudget$Reservation" "this$0" "Lcom/example/annalist/annalist/BodyBudget;" (.ref a) ∧ Fld Z h rv "com/example/annalist/annalist/BodyBudget$Reservation" "bytes" "J" (.long (0 : Int64))
set_option maxRecDepth 65536 in
set_option maxHeartbeats 40000000 in
theorem rm6 (l : Launch) (Z : State) (a0 : Array Value) (hw : ∀ d ∈ tables_1, d.before a0 Z = true) (ws : List Jvm.Cond) (rv : Addr) (a : Addr) (h0 : Heap) (n0 : Nat) (Z0 : n0 ≤ h0.size) (Er : Exa Z h0 rv "com/example/annalist/annalist/BodyBudget$Reservation") (Ft : Fld Z h0 rv "com/example/annalist/annalist/BodyBudget$Reservation" "this$0" "Lcom/example/annalist/annalist/BodyBudget;" .null) (Fb : Fld Z h0 rv "com/example/annalist/annalist/BodyBudget$Reservation" "bytes" "J" (.long (0 : Int64))) (gr : n0 ≤ rv) :
    MetFree l (⟨"com/example/annalist/annalist/BodyBudget$Reservation", "<init>", "(Lcom/example/annalist/annalist/BodyBudget;)V"⟩ : MethodName) (head1 (Jvm.Cond.code (⟨"com/example/annalist/annalist/BodyBudget$Reservation", "<init>", "(Lcom/example/annalist/annalist/BodyBudget;)V"⟩ : MethodName) prog_2_method_1_code 2 none :: ws) ({ frames := 1, cells := 0, slots := 0, locals := 12 } : Room)) (fun as₉ U => as₉ = #[(.ref rv), (.ref a)] ∧ Z.Warmed39 U.vm ∧ U.heap = h0) (fun _ _ _ _ _ => True) (fun _ U o₉ U' => ∃ v L, o₉ = .returned v ∧ Q_rm6 Z rv a h0 n0 v U'.heap L ∧ FrameEnd U o₉ U' L ({ frames := 1, cells := 0, slots := 0, locals := 12 } : Room).cells ({ frames := 1, cells := 0, slots := 0, locals := 12 } : Room).slots) := by
  refine MetFree.of_bodySF (plainFor_of_name pn_6) hisR ?_
  intro p e s m args below meth c s₁ Bd hml0 hP hK
  obtain ⟨rfl, hZ, hh⟩ := hP
  have hx := Bd.exec
  have hby := Bd.bytes
  have hml : c.maxLocals = 2 := hml0
  have hown : s.vm.findClass "com/example/annalist/annalist/BodyBudget$Reservation" = some m.cls := findClass_of_methodNamed Bd.named
  have hnm := (name_of_methodNamed Bd.named Bd.method).1
  have X0 : Stand p l e ({ frames := 1, cells := 0, slots := 0, locals := 12 } : Room) s m #[(.ref rv), (.ref a)] below meth c s₁ [] 0 0 := Stand.of_body Bd
  have e0 : s₁.heap = h0 := by rw [← hh, Bd.state]; rfl
  have N0 := Fr.nil n0
  show own_Go p e below (fun s₂ o₉ => s₂.status = .running ∧ Ended s₂ below o₉ ∧ ∃ v L, o₉ = .returned v ∧ Q_rm6 Z rv a h0 n0 v s₂.heap L ∧ FrameEnd s o₉ s₂ L ({ frames := 1, cells := 0, slots := 0, locals := 12 } : Room).cells ({ frames := 1, cells := 0, slots := 0, locals := 12 } : Room).slots) (s₁.setTop (entryFrame m #[(.ref rv), (.ref a)] 2))
  rw [ef_rm6 m rv a]
  refine own_step (s₁.setTop (mkF m 1 #[.val (.ref rv), .val (.ref a)] [(.ref rv)])) (fun t₀ k₀ => XS.aloadN X0.here hx rfl (hb hby d6_0) rfl rfl k₀) ?_
  refine own_step (s₁.setTop (mkF m 2 #[.val (.ref rv), .val (.ref a)] [(.ref a), (.ref rv)])) (fun t₀ k₀ => XS.aloadN X0.here hx rfl (hb hby d6_1) rfl rfl k₀) ?_
  obtain ⟨T19, h19, X19, e19, W19, st19⟩ := putF X0 hx hZ hown (host := "") (Or.inl (hw _ (List.mem_of_getElem? (i := 35) rfl))) Via.refl e0 Ft Er (Or.inr ⟨(hw _ (List.mem_of_getElem? (i := 36) rfl)), rfl, hnm⟩) (hw _ (List.mem_of_getElem? (i := 30) rfl)) (ty := (.object "com/example/annalist/annalist/BodyBudget")) (by decide) rfl rfl (g := (mkF m 2 #[.val (.ref rv), .val (.ref a)] [(.ref a), (.ref rv)])) rfl rfl (hb hby d6_2)
  have f20 : Fld Z h19 rv "com/example/annalist/annalist/BodyBudget$Reservation" "this$0" "Lcom/example/annalist/annalist/BodyBudget;" (.ref a) := Ft.same W19
  have f21 : Exa Z h19 rv "com/example/annalist/annalist/BodyBudget$Reservation" := Er.wr W19
  have f22 : Fld Z h19 rv "com/example/annalist/annalist/BodyBudget$Reservation" "bytes" "J" (.long (0 : Int64)) := Fb.other W19 (Or.inr (slot_ne (Or.inl (hw _ (List.mem_of_getElem? (i := 44) rfl))) (Or.inr (hw _ (List.mem_of_getElem? (i := 36) rfl))) (by decide) (t := .long) (t' := (.object "com/example/annalist/annalist/BodyBudget")) (by decide) (by decide)))
  have N19 := Fr.snoc X19 N0 gr
  have z19 : n0 ≤ h19.size := Nat.le_trans Z0 (Keep.of_wr W19).1
  have K19 : Keep h0 h19 [rv] := (Keep.refl h0 [rv]).wr W19 (Or.inl (List.mem_of_getElem? (i := 0) rfl))
  refine own_step (T19.setTop (mkF m 5 #[.val (.ref rv), .val (.ref a)] [])) (fun t₀ k₀ => st19 t₀ k₀) ?_
  refine own_step (T19.setTop (mkF m 6 #[.val (.ref rv), .val (.ref a)] [(.ref rv)])) (fun t₀ k₀ => XS.aloadN X19.here hx rfl (hb hby d6_5) rfl rfl k₀) ?_
  obtain ⟨T23, X23, e23, st23⟩ := initO X19 hx hZ hown (hw _ (List.mem_of_getElem? (i := 37) rfl)) (hw _ (List.mem_of_getElem? (i := 20) rfl)) (hw _ (List.mem_of_getElem? (i := 21) rfl)) e19 (g := (mkF m 6 #[.val (.ref rv), .val (.ref a)] [(.ref rv)])) rfl (by rw [hml]; rfl) rfl (hb hby d6_6) (by decide) (W := 0) (by show 2 * 0 + _ ≤ _; exact Nat.le_of_eq rfl) (by decide)
  refine own_step (T23.setTop (mkF m 9 #[.val (.ref rv), .val (.ref a)] [])) (fun t₀ k₀ => st23 t₀ k₀) ?_
  obtain ⟨fs, hr, hrun, hended, hW, hsame⟩ := X23.leave (v := none) (fun _ => rfl)
  refine ⟨_, _, ?_, hrun, hended, _, _, rfl, ?_, ⟨_, rfl⟩, hW, hsame.mono (by decide) (by decide)⟩
  · exact X23.returnOut hx Bd.returns (hb hby d6_9) hr
  · show Q_rm6 Z rv a h0 n0 _ T23.heap _
    rw [e23]
    exact ⟨rfl, N19, K19, f20, f22⟩
theorem d5_0 : decode prog_1_method_3_code 0 = .ok (.new 28, 3) := by decide +kernel
theorem d5_3 : decode prog_1_method_3_code 3 = .ok (.dup, 1) := by decide +kernel
theorem d5_4 : decode prog_1_method_3_code 4 = .ok (.aload_n 0, 1) := by decide +kernel
theorem d5_5 : decode prog_1_method_3_code 5 = .ok (.invokespecial 30, 3) := by decide +kernel
theorem d5_8 : decode prog_1_method_3_code 8 = .ok (.areturn, 1) := by decide +kernel
theorem ef_rm5 (m : MethodId) (a : Addr) : entryFrame m #[(.ref a)] 1 = mkF m 0 #[.val (.ref a)] [] := by first | (simp [entryFrame, mkF, argsToLocals, Value.category]; done) | rfl
def Q_rm5 (Z : State) (a : Addr) (h0 : Heap) (n0 : Nat) (v : Option Value) (h : Heap) (L : List Loc) : Prop := ∃ nb : Addr, v = some (.ref nb) ∧ Fr n0 L ∧ Keep h0 h [] ∧ n0 ≤ nb ∧ h0.size ≤ nb ∧ Exa Z h nb "com/example/annalist/annalist/BodyBudget$Reservation" ∧ Fld Z h nb "com/example/annalist/annalist/BodyBudget$Reservation" "this$0" "Lcom/example/annalist/annalist/BodyBudget;" (.ref a) ∧ Fld Z h nb "com/example/annalist/annalist/BodyBudget$Reservation" "bytes" "J" (.long (0 : Int64))
set_option maxRecDepth 65536 in
set_option maxHeartbeats 40000000 in
theorem rm5 (l : Launch) (Z : State) (a0 : Array Value) (hw : ∀ d ∈ tables_1, d.before a0 Z = true) (ws : List Jvm.Cond) (a : Addr) (h0 : Heap) (n0 : Nat) (Z0 : n0 ≤ h0.size) (Ea : Exa Z h0 a "com/example/annalist/annalist/BodyBudget") :
    MetFree l (⟨"com/example/annalist/annalist/BodyBudget", "reserve", "()Lcom/example/annalist/annalist/BodyBudget$Reservation;"⟩ : MethodName) (head1 (Jvm.Cond.code (⟨"com/example/annalist/annalist/BodyBudget", "reserve", "()Lcom/example/annalist/annalist/BodyBudget$Reservation;"⟩ : MethodName) prog_1_method_3_code 1 (some (.object "com/example/annalist/annalist/BodyBudget$Reservation")) :: ws) ({ frames := 2, cells := 1, slots := 2, locals := 30 } : Room)) (fun as₉ U => as₉ = #[(.ref a)] ∧ Z.Warmed39 U.vm ∧ U.heap = h0) (fun _ _ _ _ _ => True) (fun _ U o₉ U' => ∃ v L, o₉ = .returned v ∧ Q_rm5 Z a h0 n0 v U'.heap L ∧ FrameEnd U o₉ U' L ({ frames := 2, cells := 1, slots := 2, locals := 30 } : Room).cells ({ frames := 2, cells := 1, slots := 2, locals := 30 } : Room).slots) := by
  refine MetFree.of_bodySF (plainFor_of_name pn_3) hisR ?_
  intro p e s m args below meth c s₁ Bd hml0 hP hK
  obtain ⟨rfl, hZ, hh⟩ := hP
  have hx := Bd.exec
  have hby := Bd.bytes
  have hml : c.maxLocals = 1 := hml0
  have hown : s.vm.findClass "com/example/annalist/annalist/BodyBudget" = some m.cls := findClass_of_methodNamed Bd.named
  have hnm := (name_of_methodNamed Bd.named Bd.method).1
  have X0 : Stand p l e ({ frames := 2, cells := 1, slots := 2, locals := 30 } : Room) s m #[(.ref a)] below meth c s₁ [] 0 0 := Stand.of_body Bd
  have e0 : s₁.heap = h0 := by rw [← hh, Bd.state]; rfl
  have N0 := Fr.nil n0
  show own_Go p e below (fun s₂ o₉ => s₂.status = .running ∧ Ended s₂ below o₉ ∧ ∃ v L, o₉ = .returned v ∧ Q_rm5 Z a h0 n0 v s₂.heap L ∧ FrameEnd s o₉ s₂ L ({ frames := 2, cells := 1, slots := 2, locals := 30 } : Room).cells ({ frames := 2, cells := 1, slots := 2, locals := 30 } : Room).slots) (s₁.setTop (entryFrame m #[(.ref a)] 1))
  rw [ef_rm5 m a]
  obtain ⟨T24, h24, X24, e24, E24, A24, D24, U24, st24⟩ := newO X0 hx hZ hown (hw _ (List.mem_of_getElem? (i := 29) rfl)) (hw _ (List.mem_of_getElem? (i := 30) rfl)) (hw _ (List.mem_of_getElem? (i := 31) rfl)) e0 (g := (mkF m 0 #[.val (.ref a)] [])) rfl (hb hby d5_0) (by decide) (by decide)
  obtain ⟨b24, g24⟩ : ∃ z, z = h0.size := ⟨_, rfl⟩
  rw [← g24] at A24 D24 U24 st24
  have lt25 : a < b24 := Nat.lt_of_lt_of_le Ea.lt (Nat.le_of_eq g24.symm)
  have fr_b24 : n0 ≤ b24 := Nat.le_trans Z0 (Nat.le_of_eq g24.symm)
  have sz_b24 : h0.size ≤ b24 := Nat.le_trans (Keep.refl h0 []).1 (Nat.le_of_eq g24.symm)
  have f26 : Exa Z h24 a "com/example/annalist/annalist/BodyBudget" := Ea.ext E24
  have f27 : Fld Z h24 b24 "com/example/annalist/annalist/BodyBudget$Reservation" "this$0" "Lcom/example/annalist/annalist/BodyBudget;" .null := D24 (Or.inr (hw _ (List.mem_of_getElem? (i := 36) rfl))) (ty := (.object "com/example/annalist/annalist/BodyBudget")) (by decide)
  have f28 : Fld Z h24 b24 "com/example/annalist/annalist/BodyBudget$Reservation" "bytes" "J" (.long (0 : Int64)) := D24 (Or.inl (hw _ (List.mem_of_getElem? (i := 44) rfl))) (ty := .long) (by decide)
  have z24 : n0 ≤ h24.size := Nat.le_trans Z0 E24.1
  have K24 : Keep h0 h24 [] := (Keep.refl h0 []).ext E24
  refine own_step (T24.setTop (mkF m 3 #[.val (.ref a)] [(.ref b24)])) (fun t₀ k₀ => st24 t₀ k₀) ?_
  refine own_step (T24.setTop (mkF m 4 #[.val (.ref a)] [(.ref b24), (.ref b24)])) (fun t₀ k₀ => XS.dup X24.here hx rfl (hb hby d5_3) rfl rfl k₀) ?_
  refine own_step (T24.setTop (mkF m 5 #[.val (.ref a)] [(.ref a), (.ref b24), (.ref b24)])) (fun t₀ k₀ => XS.aloadN X24.here hx rfl (hb hby d5_4) rfl rfl k₀) ?_
  obtain ⟨_, _, ⟨T29, L29, k29, n29⟩, -, X29, ⟨Lc29, hQ29, l29, y29, z29⟩, st29⟩ := own_specialRef X24 hx hZ (y := (⟨"com/example/annalist/annalist/BodyBudget$Reservation", "<init>", "(Lcom/example/annalist/annalist/BodyBudget;)V"⟩ : MethodName)) rfl hown (hw _ (List.mem_of_getElem? (i := 32) rfl)) (mvT hZ (hw _ (List.mem_of_getElem? (i := 33) rfl))) (mvT hZ (hw _ (List.mem_of_getElem? (i := 34) rfl))) (by decide) (backOf (W := 1) (rm6 l Z a0 hw [] b24 a h24 n0 z24 A24 f27 f28 fr_b24) hZ (hw _ (List.mem_of_getElem? (i := 34) rfl)) (hw _ (List.mem_of_getElem? (i := 31) rfl)) (by decide) (by decide)) (g := (mkF m 5 #[.val (.ref a)] [(.ref a), (.ref b24), (.ref b24)])) rfl (by rw [hml]; rfl) (Steps.refl _) (a := b24) (argsL := [(.ref a)]) (rest := [(.ref b24)]) (lenOf pd_5 rfl) rfl (by show 2 * 0 + _ ≤ _; exact Nat.le_of_eq rfl) (hb hby d5_5) (fun _ _ => ⟨rfl, e24, (by decide : 1 + 0 ≤ _), (by decide : 2 + 0 ≤ _)⟩)
  dsimp only [Pt.U, Pt.locs, Pt.cells, Pt.slots] at X29 l29 y29 z29 st29 hQ29
  subst l29 y29 z29
  obtain ⟨rfl, N29q, K29, f30, f31⟩ := hQ29
  have N29 := Fr.app N0 N29q
  have f32 : Exa Z T29.heap a "com/example/annalist/annalist/BodyBudget" := f26.keep K29
  have f33 : Exa Z T29.heap b24 "com/example/annalist/annalist/BodyBudget$Reservation" := A24.keep K29
  have z29' : n0 ≤ T29.heap.size := Nat.le_trans z24 K29.1
  have K29' : Keep h0 T29.heap [] := K24.trans K29 (allS (Or.inr sz_b24) all0)
  refine own_comes (T29.setTop (mkF m 8 #[.val (.ref a)] [(.ref b24)])) st29 ?_
  obtain ⟨fs, hr, hrun, hended, hW, hsame⟩ := X29.leave (v := some (.ref b24)) (fun h => by rw [Bd.returns] at h; cases h)
  refine ⟨_, _, ?_, hrun, hended, _, _, rfl, ?_, ⟨_, rfl⟩, hW, hsame.mono (by decide) (by decide)⟩
  · jvm_step X29.here [X29.here.top, hx, (hb hby d5_8), X29.method', Bd.returns, Value.isRef, FieldType.isReference]
    first | (intro acts; rw [hr _ acts rfl rfl rfl]) | rw [hr _ _ rfl rfl rfl]
    exact Steps.refl _
  · show Q_rm5 Z a h0 n0 _ T29.heap _
    exact ⟨b24, rfl, N29, K29', fr_b24, sz_b24, f33, f30, f31⟩
theorem d8_0 : decode prog_1_method_4_code 0 = .ok (.aload_n 0, 1) := by decide +kernel
theorem d8_1 : decode prog_1_method_4_code 1 = .ok (.getfield 33, 3) := by decide +kernel
theorem d8_4 : decode prog_1_method_4_code 4 = .ok (.lload_n 1, 1) := by decide +kernel
theorem d8_5 : decode prog_1_method_4_code 5 = .ok (.lcmp, 1) := by decide +kernel
theorem d8_6 : decode prog_1_method_4_code 6 = .ok (.ifCond .ne 7, 3) := by decide +kernel
theorem d8_9 : decode prog_1_method_4_code 9 = .ok (.iconst 1, 1) := by decide +kernel
theorem d8_10 : decode prog_1_method_4_code 10 = .ok (.goto 4, 3) := by decide +kernel
theorem d8_13 : decode prog_1_method_4_code 13 = .ok (.iconst 0, 1) := by decide +kernel
theorem d8_14 : decode prog_1_method_4_code 14 = .ok (.istore 5, 2) := by decide +kernel
theorem d8_16 : decode prog_1_method_4_code 16 = .ok (.iload 5, 2) := by decide +kernel
theorem d8_18 : decode prog_1_method_4_code 18 = .ok (.ifCond .ne 19, 3) := by decide +kernel
theorem d8_21 : decode prog_1_method_4_code 21 = .ok (.aload_n 0, 1) := by decide +kernel
theorem d8_22 : decode prog_1_method_4_code 22 = .ok (.getfield 33, 3) := by decide +kernel
theorem d8_25 : decode prog_1_method_4_code 25 = .ok (.lload_n 3, 1) := by decide +kernel
theorem d8_26 : decode prog_1_method_4_code 26 = .ok (.ladd, 1) := by decide +kernel
theorem d8_27 : decode prog_1_method_4_code 27 = .ok (.aload_n 0, 1) := by decide +kernel
theorem d8_28 : decode prog_1_method_4_code 28 = .ok (.getfield 7, 3) := by decide +kernel
theorem d8_31 : decode prog_1_method_4_code 31 = .ok (.lcmp, 1) := by decide +kernel
theorem d8_32 : decode prog_1_method_4_code 32 = .ok (.ifCond .le 5, 3) := by decide +kernel
theorem d8_35 : decode prog_1_method_4_code 35 = .ok (.iconst 0, 1) := by decide +kernel
theorem d8_36 : decode prog_1_method_4_code 36 = .ok (.ireturn, 1) := by decide +kernel
theorem d8_37 : decode prog_1_method_4_code 37 = .ok (.aload_n 0, 1) := by decide +kernel
theorem d8_38 : decode prog_1_method_4_code 38 = .ok (.dup, 1) := by decide +kernel
theorem d8_39 : decode prog_1_method_4_code 39 = .ok (.getfield 33, 3) := by decide +kernel
theorem d8_42 : decode prog_1_method_4_code 42 = .ok (.lload_n 3, 1) := by decide +kernel
theorem d8_43 : decode prog_1_method_4_code 43 = .ok (.ladd, 1) := by decide +kernel
theorem d8_44 : decode prog_1_method_4_code 44 = .ok (.putfield 33, 3) := by decide +kernel
theorem d8_47 : decode prog_1_method_4_code 47 = .ok (.iconst 1, 1) := by decide +kernel
theorem d8_48 : decode prog_1_method_4_code 48 = .ok (.ireturn, 1) := by decide +kernel
theorem ef_rmtakeT (m : MethodId) (a : Addr) (held : Int64) (more : Int64) : entryFrameSync m #[(.ref a), (.long held), (.long more)] 6 a = mkL a m 0 #[.val (.ref a), .val (.long held), .second, .val (.long more), .second, .unset] [] := by first | (simp [entryFrame, mkF, argsToLocals, Value.category]; done) | rfl
def Q_rmtakeT (Z : State) (a : Addr) (held : Int64) (more : Int64) (cap : Int64) (rsv : Int64) (h0 : Heap) (n0 : Nat) (v : Option Value) (h : Heap) (L : List Loc) : Prop := v = some (.int 1) ∧ Fr n0 L ∧ Keep h0 h [a] ∧ Exa Z h a "com/example/annalist/annalist/BodyBudget" ∧ Fld Z h a "com/example/annalist/annalist/BodyBudget" "capacity" "J" (.long cap) ∧ Fld Z h a "com/example/annalist/annalist/BodyBudget" "reserved" "J" (.long (rsv + more)) ∧ Unt h a
set_option maxRecDepth 65536 in
set_option maxHeartbeats 40000000 in
theorem rmtakeT (l : Launch) (Z : State) (a0 : Array Value) (hw : ∀ d ∈ tables_1, d.before a0 Z = true) (ws : List Jvm.Cond) (a : Addr) (held : Int64) (more : Int64) (cap : Int64) (rsv : Int64) (h0 : Heap) (n0 : Nat) (Z0 : n0 ≤ h0.size) (Ea : Exa Z h0 a "com/example/annalist/annalist/BodyBudget") (Fc : Fld Z h0 a "com/example/annalist/annalist/BodyBudget" "capacity" "J" (.long cap)) (Fs : Fld Z h0 a "com/example/annalist/annalist/BodyBudget" "reserved" "J" (.long rsv)) (Ua : Unt h0 a) (ga : n0 ≤ a) (hok : rsv = held ∨ ¬ cap < (rsv + more)) :
    MetFree l (⟨"com/example/annalist/annalist/BodyBudget", "take", "(JJ)Z"⟩ : MethodName) (head1 [Jvm.Cond.codeSync (⟨"com/example/annalist/annalist/BodyBudget", "take", "(JJ)Z"⟩ : MethodName) prog_1_method_4_code 6 (some .boolean), Jvm.Cond.instanceMethod (⟨"com/example/annalist/annalist/BodyBudget", "take", "(JJ)Z"⟩ : MethodName)] ({ frames := 0, cells := 0, slots := 0, locals := 0 } : Room)) (fun as₉ U => as₉ = #[(.ref a), (.long held), (.long more)] ∧ Z.Warmed39 U.vm ∧ U.heap = h0 ∧ ∃ cell : Cell, h0[a]? = some cell ∧ cell.enterable U.cur) (fun _ _ _ _ _ => True) (fun _ U o₉ U' => ∃ v L, o₉ = .returned v ∧ Q_rmtakeT Z a held more cap rsv h0 n0 v U'.heap L ∧ FrameEnd U o₉ U' L ({ frames := 0, cells := 0, slots := 0, locals := 0 } : Room).cells ({ frames := 0, cells := 0, slots := 0, locals := 0 } : Room).slots) := by
  refine MetFree.of_bodySync (plainFor_of_name pn_3) (hisS (List.mem_cons_self ..)) (fun _ s _ ⟨h1, _, h2, cl, h3, h4⟩ => ⟨a, cl, by rw [h1]; rfl, by rw [h2]; exact h3, h4⟩) ?_
  intro p e s0 m args below meth c a' cell s₁ Bd hml0 hP hK
  obtain ⟨rfl, hZ0, hh0, -⟩ := hP
  cases Bd.receiver
  have hx := Bd.exec
  have hby : c.code = prog_1_method_4_code := Bd.bytes
  have hml : c.maxLocals = 6 := hml0
  have X0 : Stand p l e ({ frames := 0, cells := 0, slots := 0, locals := 0 } : Room) (s0.setCell a (cell.withEntry s0.cur)) m #[(.ref a), (.long held), (.long more)] below meth c s₁ [] 0 0 := Stand.of_bodySync Bd
  have hZ : Z.Warmed39 (s0.setCell a (cell.withEntry s0.cur)).vm := hZ0
  have hown : (s0.setCell a (cell.withEntry s0.cur)).vm.findClass "com/example/annalist/annalist/BodyBudget" = some m.cls := (findClass_of_methodNamed Bd.named :)
  have M0 : Mon h0 s₁.heap := by rw [Bd.state, ← hh0]; exact mon_set Bd.object _
  obtain ⟨hs, e0⟩ : ∃ z, s₁.heap = z := ⟨_, rfl⟩
  rw [e0] at M0
  have N0 := Fr.nil n0
  have Z1 : n0 ≤ hs.size := by rw [M0.1]; exact Z0
  have f36 : Exa Z hs a "com/example/annalist/annalist/BodyBudget" := Ea.mon M0
  have f37 : Fld Z hs a "com/example/annalist/annalist/BodyBudget" "capacity" "J" (.long cap) := Fc.mon M0
  have f38 : Fld Z hs a "com/example/annalist/annalist/BodyBudget" "reserved" "J" (.long rsv) := Fs.mon M0
  show own_Go p e below (fun s₂ o₉ => s₂.status = .running ∧ Ended s₂ below o₉ ∧ ∃ v L, o₉ = .returned v ∧ Q_rmtakeT Z a held more cap rsv h0 n0 v s₂.heap L ∧ FrameEnd s0 o₉ s₂ L ({ frames := 0, cells := 0, slots := 0, locals := 0 } : Room).cells ({ frames := 0, cells := 0, slots := 0, locals := 0 } : Room).slots) (s₁.setTop (entryFrameSync m #[(.ref a), (.long held), (.long more)] 6 a))
  rw [ef_rmtakeT m a held more]
  refine own_step (s₁.setTop (mkL a m 1 #[.val (.ref a), .val (.long held), .second, .val (.long more), .second, .unset] [(.ref a)])) (fun t₀ k₀ => XS.aloadN X0.here hx rfl (hb hby d8_0) rfl rfl k₀) ?_
  obtain ⟨T39, X39, e39, st39⟩ := getF X0 hx hZ hown (host := "") (Or.inl (hw _ (List.mem_of_getElem? (i := 49) rfl))) Via.refl e0 f38 (g := (mkL a m 1 #[.val (.ref a), .val (.long held), .second, .val (.long more), .second, .unset] [(.ref a)])) rfl rfl (hb hby d8_1)
  refine own_step (T39.setTop (mkL a m 4 #[.val (.ref a), .val (.long held), .second, .val (.long more), .second, .unset] [(.long rsv)])) (fun t₀ k₀ => st39 t₀ k₀) ?_
  refine own_step (T39.setTop (mkL a m 5 #[.val (.ref a), .val (.long held), .second, .val (.long more), .second, .unset] [(.long held), (.long rsv)])) (fun t₀ k₀ => XS.lloadN X39.here hx rfl (hb hby d8_4) rfl k₀) ?_
  refine own_step (T39.setTop (mkL a m 6 #[.val (.ref a), .val (.long held), .second, .val (.long more), .second, .unset] [(.int (lcmpW rsv held))])) (fun t₀ k₀ => XS.lcmp X39.here hx rfl (hb hby d8_5) rfl k₀) ?_
  by_cases hc6 : rsv = held
  · skip
    refine own_step (T39.setTop (mkL a m 9 #[.val (.ref a), .val (.long held), .second, .val (.long more), .second, .unset] [])) (fun t₀ k₀ => XS.ifNo X39.here hx rfl (hb hby d8_6) rfl (own_lneF hc6) k₀) ?_
    refine own_step (T39.setTop (mkL a m 10 #[.val (.ref a), .val (.long held), .second, .val (.long more), .second, .unset] [(.int (1 : Int32))])) (fun t₀ k₀ => XS.iconst X39.here hx rfl (hb hby d8_9) k₀) ?_
    refine own_step (T39.setTop (mkL a m 14 #[.val (.ref a), .val (.long held), .second, .val (.long more), .second, .unset] [(.int (1 : Int32))])) (fun t₀ k₀ => XS.goto X39.here hx rfl (pc0 := 10) (pc' := 14) rfl (hb hby d8_10) (by decide) (by decide) k₀) ?_
    refine own_step (T39.setTop (mkL a m 16 #[.val (.ref a), .val (.long held), .second, .val (.long more), .second, .val (.int (1 : Int32))] [])) (fun t₀ k₀ => XS.istore X39.here hx rfl (hb hby d8_14) rfl (l' := #[.val (.ref a), .val (.long held), .second, .val (.long more), .second, .val (.int (1 : Int32))]) rfl k₀) ?_
    refine own_step (T39.setTop (mkL a m 18 #[.val (.ref a), .val (.long held), .second, .val (.long more), .second, .val (.int (1 : Int32))] [(.int (1 : Int32))])) (fun t₀ k₀ => XS.iload X39.here hx rfl (hb hby d8_16) rfl k₀) ?_
    refine own_step (T39.setTop (mkL a m 37 #[.val (.ref a), .val (.long held), .second, .val (.long more), .second, .val (.int (1 : Int32))] [])) (fun t₀ k₀ => XS.ifYes X39.here hx rfl (pc0 := 18) (pc' := 37) rfl (hb hby d8_18) rfl (by decide) (by decide) (by decide) k₀) ?_
    refine own_step (T39.setTop (mkL a m 38 #[.val (.ref a), .val (.long held), .second, .val (.long more), .second, .val (.int (1 : Int32))] [(.ref a)])) (fun t₀ k₀ => XS.aloadN X39.here hx rfl (hb hby d8_37) rfl rfl k₀) ?_
    refine own_step (T39.setTop (mkL a m 39 #[.val (.ref a), .val (.long held), .second, .val (.long more), .second, .val (.int (1 : Int32))] [(.ref a), (.ref a)])) (fun t₀ k₀ => XS.dup X39.here hx rfl (hb hby d8_38) rfl rfl k₀) ?_
    obtain ⟨T40, X40, e40, st40⟩ := getF X39 hx hZ hown (host := "") (Or.inl (hw _ (List.mem_of_getElem? (i := 49) rfl))) Via.refl e39 f38 (g := (mkL a m 39 #[.val (.ref a), .val (.long held), .second, .val (.long more), .second, .val (.int (1 : Int32))] [(.ref a), (.ref a)])) rfl rfl (hb hby d8_39)
    refine own_step (T40.setTop (mkL a m 42 #[.val (.ref a), .val (.long held), .second, .val (.long more), .second, .val (.int (1 : Int32))] [(.long rsv), (.ref a)])) (fun t₀ k₀ => st40 t₀ k₀) ?_
    refine own_step (T40.setTop (mkL a m 43 #[.val (.ref a), .val (.long held), .second, .val (.long more), .second, .val (.int (1 : Int32))] [(.long more), (.long rsv), (.ref a)])) (fun t₀ k₀ => XS.lloadN X40.here hx rfl (hb hby d8_42) rfl k₀) ?_
    refine own_step (T40.setTop (mkL a m 44 #[.val (.ref a), .val (.long held), .second, .val (.long more), .second, .val (.int (1 : Int32))] [(.long (rsv + more)), (.ref a)])) (fun t₀ k₀ => XS.ladd X40.here hx rfl (hb hby d8_43) rfl k₀) ?_
    obtain ⟨T41, h41, X41, e41, W41, st41⟩ := putF X40 hx hZ hown (host := "") (Or.inl (hw _ (List.mem_of_getElem? (i := 49) rfl))) Via.refl e40 f38 f36 (Or.inl (hw _ (List.mem_of_getElem? (i := 50) rfl))) (hw _ (List.mem_of_getElem? (i := 11) rfl)) (ty := .long) (by decide) rfl rfl (g := (mkL a m 44 #[.val (.ref a), .val (.long held), .second, .val (.long more), .second, .val (.int (1 : Int32))] [(.long (rsv + more)), (.ref a)])) rfl rfl (hb hby d8_44)
    have f42 : Fld Z h41 a "com/example/annalist/annalist/BodyBudget" "reserved" "J" (.long (rsv + more)) := f38.same W41
    have f43 : Exa Z h41 a "com/example/annalist/annalist/BodyBudget" := f36.wr W41
    have f44 : Fld Z h41 a "com/example/annalist/annalist/BodyBudget" "capacity" "J" (.long cap) := f37.other W41 (Or.inr (slot_ne (Or.inr (hw _ (List.mem_of_getElem? (i := 23) rfl))) (Or.inl (hw _ (List.mem_of_getElem? (i := 50) rfl))) (by decide) (t := .long) (t' := .long) (by decide) (by decide)))
    have N41 := Fr.snoc X41 N0 ga
    have z41 : n0 ≤ h41.size := Nat.le_trans Z1 (Keep.of_wr W41).1
    refine own_step (T41.setTop (mkL a m 47 #[.val (.ref a), .val (.long held), .second, .val (.long more), .second, .val (.int (1 : Int32))] [])) (fun t₀ k₀ => st41 t₀ k₀) ?_
    refine own_step (T41.setTop (mkL a m 48 #[.val (.ref a), .val (.long held), .second, .val (.long more), .second, .val (.int (1 : Int32))] [(.int (1 : Int32))])) (fun t₀ k₀ => XS.iconst X41.here hx rfl (hb hby d8_47) k₀) ?_
    obtain ⟨V, hr, hrun, hended, M1, hW, hsame⟩ := leaveS X41 Bd.object Bd.enterable Bd.synchronized (v := some (.int (1 : Int32))) (fun h => by rw [Bd.returns] at h; cases h)
    refine ⟨V, _, ?_, hrun, hended, _, _, rfl, ?_, ⟨_, rfl⟩, hW, hsame⟩
    · exact retS X41 hx Bd.returns rfl (Or.inl ⟨rfl, Or.inr (Or.inl rfl), _, rfl⟩) (hb hby d8_48) hr
    · show Q_rmtakeT Z a held more cap rsv h0 n0 _ V.heap _
      rw [e41] at M1
      have KS := own_keepS hsame (own_in1 own_in0)
      have US := own_untS hsame (a := a) (by rw [hh0]; exact Ua)
      rw [hh0] at KS
      exact ⟨rfl, N41, KS, f43.mon M1, f44.mon M1, f42.mon M1, US⟩
  · skip
    refine own_step (T39.setTop (mkL a m 13 #[.val (.ref a), .val (.long held), .second, .val (.long more), .second, .unset] [])) (fun t₀ k₀ => XS.ifYes X39.here hx rfl (pc0 := 6) (pc' := 13) rfl (hb hby d8_6) rfl (own_lneT hc6) (by decide) (by decide) k₀) ?_
    refine own_step (T39.setTop (mkL a m 14 #[.val (.ref a), .val (.long held), .second, .val (.long more), .second, .unset] [(.int (0 : Int32))])) (fun t₀ k₀ => XS.iconst X39.here hx rfl (hb hby d8_13) k₀) ?_
    refine own_step (T39.setTop (mkL a m 16 #[.val (.ref a), .val (.long held), .second, .val (.long more), .second, .val (.int (0 : Int32))] [])) (fun t₀ k₀ => XS.istore X39.here hx rfl (hb hby d8_14) rfl (l' := #[.val (.ref a), .val (.long held), .second, .val (.long more), .second, .val (.int (0 : Int32))]) rfl k₀) ?_
    refine own_step (T39.setTop (mkL a m 18 #[.val (.ref a), .val (.long held), .second, .val (.long more), .second, .val (.int (0 : Int32))] [(.int (0 : Int32))])) (fun t₀ k₀ => XS.iload X39.here hx rfl (hb hby d8_16) rfl k₀) ?_
    refine own_step (T39.setTop (mkL a m 21 #[.val (.ref a), .val (.long held), .second, .val (.long more), .second, .val (.int (0 : Int32))] [])) (fun t₀ k₀ => XS.ifNo X39.here hx rfl (hb hby d8_18) rfl (by decide) k₀) ?_
    refine own_step (T39.setTop (mkL a m 22 #[.val (.ref a), .val (.long held), .second, .val (.long more), .second, .val (.int (0 : Int32))] [(.ref a)])) (fun t₀ k₀ => XS.aloadN X39.here hx rfl (hb hby d8_21) rfl rfl k₀) ?_
    obtain ⟨T45, X45, e45, st45⟩ := getF X39 hx hZ hown (host := "") (Or.inl (hw _ (List.mem_of_getElem? (i := 49) rfl))) Via.refl e39 f38 (g := (mkL a m 22 #[.val (.ref a), .val (.long held), .second, .val (.long more), .second, .val (.int (0 : Int32))] [(.ref a)])) rfl rfl (hb hby d8_22)
    refine own_step (T45.setTop (mkL a m 25 #[.val (.ref a), .val (.long held), .second, .val (.long more), .second, .val (.int (0 : Int32))] [(.long rsv)])) (fun t₀ k₀ => st45 t₀ k₀) ?_
    refine own_step (T45.setTop (mkL a m 26 #[.val (.ref a), .val (.long held), .second, .val (.long more), .second, .val (.int (0 : Int32))] [(.long more), (.long rsv)])) (fun t₀ k₀ => XS.lloadN X45.here hx rfl (hb hby d8_25) rfl k₀) ?_
    refine own_step (T45.setTop (mkL a m 27 #[.val (.ref a), .val (.long held), .second, .val (.long more), .second, .val (.int (0 : Int32))] [(.long (rsv + more))])) (fun t₀ k₀ => XS.ladd X45.here hx rfl (hb hby d8_26) rfl k₀) ?_
    refine own_step (T45.setTop (mkL a m 28 #[.val (.ref a), .val (.long held), .second, .val (.long more), .second, .val (.int (0 : Int32))] [(.ref a), (.long (rsv + more))])) (fun t₀ k₀ => XS.aloadN X45.here hx rfl (hb hby d8_27) rfl rfl k₀) ?_
    obtain ⟨T46, X46, e46, st46⟩ := getF X45 hx hZ hown (host := "") (Or.inl (hw _ (List.mem_of_getElem? (i := 22) rfl))) Via.refl e45 f37 (g := (mkL a m 28 #[.val (.ref a), .val (.long held), .second, .val (.long more), .second, .val (.int (0 : Int32))] [(.ref a), (.long (rsv + more))])) rfl rfl (hb hby d8_28)
    refine own_step (T46.setTop (mkL a m 31 #[.val (.ref a), .val (.long held), .second, .val (.long more), .second, .val (.int (0 : Int32))] [(.long cap), (.long (rsv + more))])) (fun t₀ k₀ => st46 t₀ k₀) ?_
    refine own_step (T46.setTop (mkL a m 32 #[.val (.ref a), .val (.long held), .second, .val (.long more), .second, .val (.int (0 : Int32))] [(.int (lcmpW (rsv + more) cap))])) (fun t₀ k₀ => XS.lcmp X46.here hx rfl (hb hby d8_31) rfl k₀) ?_
    have hk47 : ¬ (cap < (rsv + more)) := hok.resolve_left hc6
    refine own_step (T46.setTop (mkL a m 37 #[.val (.ref a), .val (.long held), .second, .val (.long more), .second, .val (.int (0 : Int32))] [])) (fun t₀ k₀ => XS.ifYes X46.here hx rfl (pc0 := 32) (pc' := 37) rfl (hb hby d8_32) rfl (own_lleT hk47) (by decide) (by decide) k₀) ?_
    refine own_step (T46.setTop (mkL a m 38 #[.val (.ref a), .val (.long held), .second, .val (.long more), .second, .val (.int (0 : Int32))] [(.ref a)])) (fun t₀ k₀ => XS.aloadN X46.here hx rfl (hb hby d8_37) rfl rfl k₀) ?_
    refine own_step (T46.setTop (mkL a m 39 #[.val (.ref a), .val (.long held), .second, .val (.long more), .second, .val (.int (0 : Int32))] [(.ref a), (.ref a)])) (fun t₀ k₀ => XS.dup X46.here hx rfl (hb hby d8_38) rfl rfl k₀) ?_
    obtain ⟨T48, X48, e48, st48⟩ := getF X46 hx hZ hown (host := "") (Or.inl (hw _ (List.mem_of_getElem? (i := 49) rfl))) Via.refl e46 f38 (g := (mkL a m 39 #[.val (.ref a), .val (.long held), .second, .val (.long more), .second, .val (.int (0 : Int32))] [(.ref a), (.ref a)])) rfl rfl (hb hby d8_39)
    refine own_step (T48.setTop (mkL a m 42 #[.val (.ref a), .val (.long held), .second, .val (.long more), .second, .val (.int (0 : Int32))] [(.long rsv), (.ref a)])) (fun t₀ k₀ => st48 t₀ k₀) ?_
    refine own_step (T48.setTop (mkL a m 43 #[.val (.ref a), .val (.long held), .second, .val (.long more), .second, .val (.int (0 : Int32))] [(.long more), (.long rsv), (.ref a)])) (fun t₀ k₀ => XS.lloadN X48.here hx rfl (hb hby d8_42) rfl k₀) ?_
    refine own_step (T48.setTop (mkL a m 44 #[.val (.ref a), .val (.long held), .second, .val (.long more), .second, .val (.int (0 : Int32))] [(.long (rsv + more)), (.ref a)])) (fun t₀ k₀ => XS.ladd X48.here hx rfl (hb hby d8_43) rfl k₀) ?_
    obtain ⟨T49, h49, X49, e49, W49, st49⟩ := putF X48 hx hZ hown (host := "") (Or.inl (hw _ (List.mem_of_getElem? (i := 49) rfl))) Via.refl e48 f38 f36 (Or.inl (hw _ (List.mem_of_getElem? (i := 50) rfl))) (hw _ (List.mem_of_getElem? (i := 11) rfl)) (ty := .long) (by decide) rfl rfl (g := (mkL a m 44 #[.val (.ref a), .val (.long held), .second, .val (.long more), .second, .val (.int (0 : Int32))] [(.long (rsv + more)), (.ref a)])) rfl rfl (hb hby d8_44)
    have f50 : Fld Z h49 a "com/example/annalist/annalist/BodyBudget" "reserved" "J" (.long (rsv + more)) := f38.same W49
    have f51 : Exa Z h49 a "com/example/annalist/annalist/BodyBudget" := f36.wr W49
    have f52 : Fld Z h49 a "com/example/annalist/annalist/BodyBudget" "capacity" "J" (.long cap) := f37.other W49 (Or.inr (slot_ne (Or.inr (hw _ (List.mem_of_getElem? (i := 23) rfl))) (Or.inl (hw _ (List.mem_of_getElem? (i := 50) rfl))) (by decide) (t := .long) (t' := .long) (by decide) (by decide)))
    have N49 := Fr.snoc X49 N0 ga
    have z49 : n0 ≤ h49.size := Nat.le_trans Z1 (Keep.of_wr W49).1
    refine own_step (T49.setTop (mkL a m 47 #[.val (.ref a), .val (.long held), .second, .val (.long more), .second, .val (.int (0 : Int32))] [])) (fun t₀ k₀ => st49 t₀ k₀) ?_
    refine own_step (T49.setTop (mkL a m 48 #[.val (.ref a), .val (.long held), .second, .val (.long more), .second, .val (.int (0 : Int32))] [(.int (1 : Int32))])) (fun t₀ k₀ => XS.iconst X49.here hx rfl (hb hby d8_47) k₀) ?_
    obtain ⟨V, hr, hrun, hended, M1, hW, hsame⟩ := leaveS X49 Bd.object Bd.enterable Bd.synchronized (v := some (.int (1 : Int32))) (fun h => by rw [Bd.returns] at h; cases h)
    refine ⟨V, _, ?_, hrun, hended, _, _, rfl, ?_, ⟨_, rfl⟩, hW, hsame⟩
    · exact retS X49 hx Bd.returns rfl (Or.inl ⟨rfl, Or.inr (Or.inl rfl), _, rfl⟩) (hb hby d8_48) hr
    · show Q_rmtakeT Z a held more cap rsv h0 n0 _ V.heap _
      rw [e49] at M1
      have KS := own_keepS hsame (own_in1 own_in0)
      have US := own_untS hsame (a := a) (by rw [hh0]; exact Ua)
      rw [hh0] at KS
      exact ⟨rfl, N49, KS, f51.mon M1, f52.mon M1, f50.mon M1, US⟩
theorem ef_rmtakeF (m : MethodId) (a : Addr) (held : Int64) (more : Int64) : entryFrameSync m #[(.ref a), (.long held), (.long more)] 6 a = mkL a m 0 #[.val (.ref a), .val (.long held), .second, .val (.long more), .second, .unset] [] := by first | (simp [entryFrame, mkF, argsToLocals, Value.category]; done) | rfl
def Q_rmtakeF (Z : State) (a : Addr) (held : Int64) (more : Int64) (cap : Int64) (rsv : Int64) (h0 : Heap) (n0 : Nat) (v : Option Value) (h : Heap) (L : List Loc) : Prop := v = some (.int 0) ∧ Fr n0 L ∧ Keep h0 h [a] ∧ Exa Z h a "com/example/annalist/annalist/BodyBudget" ∧ Fld Z h a "com/example/annalist/annalist/BodyBudget" "capacity" "J" (.long cap) ∧ Fld Z h a "com/example/annalist/annalist/BodyBudget" "reserved" "J" (.long rsv) ∧ Unt h a
set_option maxRecDepth 65536 in
set_option maxHeartbeats 40000000 in
theorem rmtakeF (l : Launch) (Z : State) (a0 : Array Value) (hw : ∀ d ∈ tables_1, d.before a0 Z = true) (ws : List Jvm.Cond) (a : Addr) (held : Int64) (more : Int64) (cap : Int64) (rsv : Int64) (h0 : Heap) (n0 : Nat) (Z0 : n0 ≤ h0.size) (Ea : Exa Z h0 a "com/example/annalist/annalist/BodyBudget") (Fc : Fld Z h0 a "com/example/annalist/annalist/BodyBudget" "capacity" "J" (.long cap)) (Fs : Fld Z h0 a "com/example/annalist/annalist/BodyBudget" "reserved" "J" (.long rsv)) (Ua : Unt h0 a) (ga : n0 ≤ a) (hno : ¬ rsv = held ∧ cap < (rsv + more)) :
    MetFree l (⟨"com/example/annalist/annalist/BodyBudget", "take", "(JJ)Z"⟩ : MethodName) (head1 [Jvm.Cond.codeSync (⟨"com/example/annalist/annalist/BodyBudget", "take", "(JJ)Z"⟩ : MethodName) prog_1_method_4_code 6 (some .boolean), Jvm.Cond.instanceMethod (⟨"com/example/annalist/annalist/BodyBudget", "take", "(JJ)Z"⟩ : MethodName)] ({ frames := 0, cells := 0, slots := 0, locals := 0 } : Room)) (fun as₉ U => as₉ = #[(.ref a), (.long held), (.long more)] ∧ Z.Warmed39 U.vm ∧ U.heap = h0 ∧ ∃ cell : Cell, h0[a]? = some cell ∧ cell.enterable U.cur) (fun _ _ _ _ _ => True) (fun _ U o₉ U' => ∃ v L, o₉ = .returned v ∧ Q_rmtakeF Z a held more cap rsv h0 n0 v U'.heap L ∧ FrameEnd U o₉ U' L ({ frames := 0, cells := 0, slots := 0, locals := 0 } : Room).cells ({ frames := 0, cells := 0, slots := 0, locals := 0 } : Room).slots) := by
  refine MetFree.of_bodySync (plainFor_of_name pn_3) (hisS (List.mem_cons_self ..)) (fun _ s _ ⟨h1, _, h2, cl, h3, h4⟩ => ⟨a, cl, by rw [h1]; rfl, by rw [h2]; exact h3, h4⟩) ?_
  intro p e s0 m args below meth c a' cell s₁ Bd hml0 hP hK
  obtain ⟨rfl, hZ0, hh0, -⟩ := hP
  cases Bd.receiver
  have hx := Bd.exec
  have hby : c.code = prog_1_method_4_code := Bd.bytes
  have hml : c.maxLocals = 6 := hml0
  have X0 : Stand p l e ({ frames := 0, cells := 0, slots := 0, locals := 0 } : Room) (s0.setCell a (cell.withEntry s0.cur)) m #[(.ref a), (.long held), (.long more)] below meth c s₁ [] 0 0 := Stand.of_bodySync Bd
  have hZ : Z.Warmed39 (s0.setCell a (cell.withEntry s0.cur)).vm := hZ0
  have hown : (s0.setCell a (cell.withEntry s0.cur)).vm.findClass "com/example/annalist/annalist/BodyBudget" = some m.cls := (findClass_of_methodNamed Bd.named :)
  have M0 : Mon h0 s₁.heap := by rw [Bd.state, ← hh0]; exact mon_set Bd.object _
  obtain ⟨hs, e0⟩ : ∃ z, s₁.heap = z := ⟨_, rfl⟩
  rw [e0] at M0
  have N0 := Fr.nil n0
  have Z1 : n0 ≤ hs.size := by rw [M0.1]; exact Z0
  have f53 : Exa Z hs a "com/example/annalist/annalist/BodyBudget" := Ea.mon M0
  have f54 : Fld Z hs a "com/example/annalist/annalist/BodyBudget" "capacity" "J" (.long cap) := Fc.mon M0
  have f55 : Fld Z hs a "com/example/annalist/annalist/BodyBudget" "reserved" "J" (.long rsv) := Fs.mon M0
  show own_Go p e below (fun s₂ o₉ => s₂.status = .running ∧ Ended s₂ below o₉ ∧ ∃ v L, o₉ = .returned v ∧ Q_rmtakeF Z a held more cap rsv h0 n0 v s₂.heap L ∧ FrameEnd s0 o₉ s₂ L ({ frames := 0, cells := 0, slots := 0, locals := 0 } : Room).cells ({ frames := 0, cells := 0, slots := 0, locals := 0 } : Room).slots) (s₁.setTop (entryFrameSync m #[(.ref a), (.long held), (.long more)] 6 a))
  rw [ef_rmtakeF m a held more]
  refine own_step (s₁.setTop (mkL a m 1 #[.val (.ref a), .val (.long held), .second, .val (.long more), .second, .unset] [(.ref a)])) (fun t₀ k₀ => XS.aloadN X0.here hx rfl (hb hby d8_0) rfl rfl k₀) ?_
  obtain ⟨T56, X56, e56, st56⟩ := getF X0 hx hZ hown (host := "") (Or.inl (hw _ (List.mem_of_getElem? (i := 49) rfl))) Via.refl e0 f55 (g := (mkL a m 1 #[.val (.ref a), .val (.long held), .second, .val (.long more), .second, .unset] [(.ref a)])) rfl rfl (hb hby d8_1)
  refine own_step (T56.setTop (mkL a m 4 #[.val (.ref a), .val (.long held), .second, .val (.long more), .second, .unset] [(.long rsv)])) (fun t₀ k₀ => st56 t₀ k₀) ?_
  refine own_step (T56.setTop (mkL a m 5 #[.val (.ref a), .val (.long held), .second, .val (.long more), .second, .unset] [(.long held), (.long rsv)])) (fun t₀ k₀ => XS.lloadN X56.here hx rfl (hb hby d8_4) rfl k₀) ?_
  refine own_step (T56.setTop (mkL a m 6 #[.val (.ref a), .val (.long held), .second, .val (.long more), .second, .unset] [(.int (lcmpW rsv held))])) (fun t₀ k₀ => XS.lcmp X56.here hx rfl (hb hby d8_5) rfl k₀) ?_
  have hk57 : ¬ (rsv = held) := hno.1
  refine own_step (T56.setTop (mkL a m 13 #[.val (.ref a), .val (.long held), .second, .val (.long more), .second, .unset] [])) (fun t₀ k₀ => XS.ifYes X56.here hx rfl (pc0 := 6) (pc' := 13) rfl (hb hby d8_6) rfl (own_lneT hk57) (by decide) (by decide) k₀) ?_
  refine own_step (T56.setTop (mkL a m 14 #[.val (.ref a), .val (.long held), .second, .val (.long more), .second, .unset] [(.int (0 : Int32))])) (fun t₀ k₀ => XS.iconst X56.here hx rfl (hb hby d8_13) k₀) ?_
  refine own_step (T56.setTop (mkL a m 16 #[.val (.ref a), .val (.long held), .second, .val (.long more), .second, .val (.int (0 : Int32))] [])) (fun t₀ k₀ => XS.istore X56.here hx rfl (hb hby d8_14) rfl (l' := #[.val (.ref a), .val (.long held), .second, .val (.long more), .second, .val (.int (0 : Int32))]) rfl k₀) ?_
  refine own_step (T56.setTop (mkL a m 18 #[.val (.ref a), .val (.long held), .second, .val (.long more), .second, .val (.int (0 : Int32))] [(.int (0 : Int32))])) (fun t₀ k₀ => XS.iload X56.here hx rfl (hb hby d8_16) rfl k₀) ?_
  refine own_step (T56.setTop (mkL a m 21 #[.val (.ref a), .val (.long held), .second, .val (.long more), .second, .val (.int (0 : Int32))] [])) (fun t₀ k₀ => XS.ifNo X56.here hx rfl (hb hby d8_18) rfl (by decide) k₀) ?_
  refine own_step (T56.setTop (mkL a m 22 #[.val (.ref a), .val (.long held), .second, .val (.long more), .second, .val (.int (0 : Int32))] [(.ref a)])) (fun t₀ k₀ => XS.aloadN X56.here hx rfl (hb hby d8_21) rfl rfl k₀) ?_
  obtain ⟨T58, X58, e58, st58⟩ := getF X56 hx hZ hown (host := "") (Or.inl (hw _ (List.mem_of_getElem? (i := 49) rfl))) Via.refl e56 f55 (g := (mkL a m 22 #[.val (.ref a), .val (.long held), .second, .val (.long more), .second, .val (.int (0 : Int32))] [(.ref a)])) rfl rfl (hb hby d8_22)
  refine own_step (T58.setTop (mkL a m 25 #[.val (.ref a), .val (.long held), .second, .val (.long more), .second, .val (.int (0 : Int32))] [(.long rsv)])) (fun t₀ k₀ => st58 t₀ k₀) ?_
  refine own_step (T58.setTop (mkL a m 26 #[.val (.ref a), .val (.long held), .second, .val (.long more), .second, .val (.int (0 : Int32))] [(.long more), (.long rsv)])) (fun t₀ k₀ => XS.lloadN X58.here hx rfl (hb hby d8_25) rfl k₀) ?_
  refine own_step (T58.setTop (mkL a m 27 #[.val (.ref a), .val (.long held), .second, .val (.long more), .second, .val (.int (0 : Int32))] [(.long (rsv + more))])) (fun t₀ k₀ => XS.ladd X58.here hx rfl (hb hby d8_26) rfl k₀) ?_
  refine own_step (T58.setTop (mkL a m 28 #[.val (.ref a), .val (.long held), .second, .val (.long more), .second, .val (.int (0 : Int32))] [(.ref a), (.long (rsv + more))])) (fun t₀ k₀ => XS.aloadN X58.here hx rfl (hb hby d8_27) rfl rfl k₀) ?_
  obtain ⟨T59, X59, e59, st59⟩ := getF X58 hx hZ hown (host := "") (Or.inl (hw _ (List.mem_of_getElem? (i := 22) rfl))) Via.refl e58 f54 (g := (mkL a m 28 #[.val (.ref a), .val (.long held), .second, .val (.long more), .second, .val (.int (0 : Int32))] [(.ref a), (.long (rsv + more))])) rfl rfl (hb hby d8_28)
  refine own_step (T59.setTop (mkL a m 31 #[.val (.ref a), .val (.long held), .second, .val (.long more), .second, .val (.int (0 : Int32))] [(.long cap), (.long (rsv + more))])) (fun t₀ k₀ => st59 t₀ k₀) ?_
  refine own_step (T59.setTop (mkL a m 32 #[.val (.ref a), .val (.long held), .second, .val (.long more), .second, .val (.int (0 : Int32))] [(.int (lcmpW (rsv + more) cap))])) (fun t₀ k₀ => XS.lcmp X59.here hx rfl (hb hby d8_31) rfl k₀) ?_
  have hk60 : cap < (rsv + more) := hno.2
  refine own_step (T59.setTop (mkL a m 35 #[.val (.ref a), .val (.long held), .second, .val (.long more), .second, .val (.int (0 : Int32))] [])) (fun t₀ k₀ => XS.ifNo X59.here hx rfl (hb hby d8_32) rfl (own_lleF hk60) k₀) ?_
  refine own_step (T59.setTop (mkL a m 36 #[.val (.ref a), .val (.long held), .second, .val (.long more), .second, .val (.int (0 : Int32))] [(.int (0 : Int32))])) (fun t₀ k₀ => XS.iconst X59.here hx rfl (hb hby d8_35) k₀) ?_
  obtain ⟨V, hr, hrun, hended, M1, hW, hsame⟩ := leaveS X59 Bd.object Bd.enterable Bd.synchronized (v := some (.int (0 : Int32))) (fun h => by rw [Bd.returns] at h; cases h)
  refine ⟨V, _, ?_, hrun, hended, _, _, rfl, ?_, ⟨_, rfl⟩, hW, hsame⟩
  · exact retS X59 hx Bd.returns rfl (Or.inl ⟨rfl, Or.inr (Or.inl rfl), _, rfl⟩) (hb hby d8_36) hr
  · show Q_rmtakeF Z a held more cap rsv h0 n0 _ V.heap _
    rw [e59] at M1
    have KS := own_keepS hsame (ws := [a]) own_in0
    have US := own_untS hsame (a := a) (by rw [hh0]; exact Ua)
    rw [hh0] at KS
    exact ⟨rfl, N0, KS, f53.mon M1, f54.mon M1, f55.mon M1, US⟩
theorem d7_0 : decode prog_2_method_2_code 0 = .ok (.aload_n 0, 1) := by decide +kernel
theorem d7_1 : decode prog_2_method_2_code 1 = .ok (.getfield 1, 3) := by decide +kernel
theorem d7_4 : decode prog_2_method_2_code 4 = .ok (.aload_n 0, 1) := by decide +kernel
theorem d7_5 : decode prog_2_method_2_code 5 = .ok (.getfield 13, 3) := by decide +kernel
theorem d7_8 : decode prog_2_method_2_code 8 = .ok (.lload_n 1, 1) := by decide +kernel
theorem d7_9 : decode prog_2_method_2_code 9 = .ok (.aload_n 0, 1) := by decide +kernel
theorem d7_10 : decode prog_2_method_2_code 10 = .ok (.getfield 13, 3) := by decide +kernel
theorem d7_13 : decode prog_2_method_2_code 13 = .ok (.lsub, 1) := by decide +kernel
theorem d7_14 : decode prog_2_method_2_code 14 = .ok (.invokevirtual 17, 3) := by decide +kernel
theorem d7_17 : decode prog_2_method_2_code 17 = .ok (.istore_n 3, 1) := by decide +kernel
theorem d7_18 : decode prog_2_method_2_code 18 = .ok (.iload_n 3, 1) := by decide +kernel
theorem d7_19 : decode prog_2_method_2_code 19 = .ok (.ifCond .eq 8, 3) := by decide +kernel
theorem d7_22 : decode prog_2_method_2_code 22 = .ok (.aload_n 0, 1) := by decide +kernel
theorem d7_23 : decode prog_2_method_2_code 23 = .ok (.lload_n 1, 1) := by decide +kernel
theorem d7_24 : decode prog_2_method_2_code 24 = .ok (.putfield 13, 3) := by decide +kernel
theorem d7_27 : decode prog_2_method_2_code 27 = .ok (.iload_n 3, 1) := by decide +kernel
theorem d7_28 : decode prog_2_method_2_code 28 = .ok (.ireturn, 1) := by decide +kernel
theorem ef_rmgrowT (m : MethodId) (rv : Addr) (gt : Int64) : entryFrame m #[(.ref rv), (.long gt)] 4 = mkF m 0 #[.val (.ref rv), .val (.long gt), .second, .unset] [] := by first | (simp [entryFrame, mkF, argsToLocals, Value.category]; done) | rfl
def Q_rmgrowT (Z : State) (rv : Addr) (gt : Int64) (a : Addr) (by0 : Int64) (cap : Int64) (rsv : Int64) (h0 : Heap) (n0 : Nat) (v : Option Value) (h : Heap) (L : List Loc) : Prop := v = some (.int 1) ∧ Fr n0 L ∧ Keep h0 h [rv, a] ∧ Exa Z h rv "com/example/annalist/annalist/BodyBudget$Reservation" ∧ Fld Z h rv "com/example/annalist/annalist/BodyBudget$Reservation" "this$0" "Lcom/example/annalist/annalist/BodyBudget;" (.ref a) ∧ Fld Z h rv "com/example/annalist/annalist/BodyBudget$Reservation" "bytes" "J" (.long gt) ∧ Exa Z h a "com/example/annalist/annalist/BodyBudget" ∧ Fld Z h a "com/example/annalist/annalist/BodyBudget" "capacity" "J" (.long cap) ∧ Fld Z h a "com/example/annalist/annalist/BodyBudget" "reserved" "J" (.long (rsv + (gt - by0))) ∧ Unt h a
set_option maxRecDepth 65536 in
set_option maxHeartbeats 40000000 in
theorem rmgrowT (l : Launch) (Z : State) (a0 : Array Value) (hw : ∀ d ∈ tables_1, d.before a0 Z = true) (ws : List Jvm.Cond) (rv : Addr) (gt : Int64) (a : Addr) (by0 : Int64) (cap : Int64) (rsv : Int64) (h0 : Heap) (n0 : Nat) (Z0 : n0 ≤ h0.size) (Er : Exa Z h0 rv "com/example/annalist/annalist/BodyBudget$Reservation") (Ft : Fld Z h0 rv "com/example/annalist/annalist/BodyBudget$Reservation" "this$0" "Lcom/example/annalist/annalist/BodyBudget;" (.ref a)) (Fb : Fld Z h0 rv "com/example/annalist/annalist/BodyBudget$Reservation" "bytes" "J" (.long by0)) (Ea : Exa Z h0 a "com/example/annalist/annalist/BodyBudget") (Fc : Fld Z h0 a "com/example/annalist/annalist/BodyBudget" "capacity" "J" (.long cap)) (Fs : Fld Z h0 a "com/example/annalist/annalist/BodyBudget" "reserved" "J" (.long rsv)) (Ua : Unt h0 a) (gr : n0 ≤ rv) (ga : n0 ≤ a) (hne : rv ≠ a) (hok : rsv = by0 ∨ ¬ cap < (rsv + (gt - by0))) :
    MetFree l (⟨"com/example/annalist/annalist/BodyBudget$Reservation", "growTo", "(J)Z"⟩ : MethodName) (head1 (Jvm.Cond.code (⟨"com/example/annalist/annalist/BodyBudget$Reservation", "growTo", "(J)Z"⟩ : MethodName) prog_2_method_2_code 4 (some .boolean) :: ws) ({ frames := 1, cells := 0, slots := 0, locals := 40 } : Room)) (fun as₉ U => as₉ = #[(.ref rv), (.long gt)] ∧ Z.Warmed39 U.vm ∧ U.heap = h0) (fun _ _ _ _ _ => True) (fun _ U o₉ U' => ∃ v L, o₉ = .returned v ∧ Q_rmgrowT Z rv gt a by0 cap rsv h0 n0 v U'.heap L ∧ FrameEnd U o₉ U' L ({ frames := 1, cells := 0, slots := 0, locals := 40 } : Room).cells ({ frames := 1, cells := 0, slots := 0, locals := 40 } : Room).slots) := by
  refine MetFree.of_bodySF (plainFor_of_name pn_6) hisR ?_
  intro p e s m args below meth c s₁ Bd hml0 hP hK
  obtain ⟨rfl, hZ, hh⟩ := hP
  have hx := Bd.exec
  have hby := Bd.bytes
  have hml : c.maxLocals = 4 := hml0
  have hown : s.vm.findClass "com/example/annalist/annalist/BodyBudget$Reservation" = some m.cls := findClass_of_methodNamed Bd.named
  have hnm := (name_of_methodNamed Bd.named Bd.method).1
  have X0 : Stand p l e ({ frames := 1, cells := 0, slots := 0, locals := 40 } : Room) s m #[(.ref rv), (.long gt)] below meth c s₁ [] 0 0 := Stand.of_body Bd
  have e0 : s₁.heap = h0 := by rw [← hh, Bd.state]; rfl
  have N0 := Fr.nil n0
  show own_Go p e below (fun s₂ o₉ => s₂.status = .running ∧ Ended s₂ below o₉ ∧ ∃ v L, o₉ = .returned v ∧ Q_rmgrowT Z rv gt a by0 cap rsv h0 n0 v s₂.heap L ∧ FrameEnd s o₉ s₂ L ({ frames := 1, cells := 0, slots := 0, locals := 40 } : Room).cells ({ frames := 1, cells := 0, slots := 0, locals := 40 } : Room).slots) (s₁.setTop (entryFrame m #[(.ref rv), (.long gt)] 4))
  rw [ef_rmgrowT m rv gt]
  refine own_step (s₁.setTop (mkF m 1 #[.val (.ref rv), .val (.long gt), .second, .unset] [(.ref rv)])) (fun t₀ k₀ => XS.aloadN X0.here hx rfl (hb hby d7_0) rfl rfl k₀) ?_
  obtain ⟨T61, X61, e61, st61⟩ := getF X0 hx hZ hown (host := "") (Or.inl (hw _ (List.mem_of_getElem? (i := 35) rfl))) Via.refl e0 Ft (g := (mkF m 1 #[.val (.ref rv), .val (.long gt), .second, .unset] [(.ref rv)])) rfl rfl (hb hby d7_1)
  refine own_step (T61.setTop (mkF m 4 #[.val (.ref rv), .val (.long gt), .second, .unset] [(.ref a)])) (fun t₀ k₀ => st61 t₀ k₀) ?_
  refine own_step (T61.setTop (mkF m 5 #[.val (.ref rv), .val (.long gt), .second, .unset] [(.ref rv), (.ref a)])) (fun t₀ k₀ => XS.aloadN X61.here hx rfl (hb hby d7_4) rfl rfl k₀) ?_
  obtain ⟨T62, X62, e62, st62⟩ := getF X61 hx hZ hown (host := "") (Or.inl (hw _ (List.mem_of_getElem? (i := 43) rfl))) Via.refl e61 Fb (g := (mkF m 5 #[.val (.ref rv), .val (.long gt), .second, .unset] [(.ref rv), (.ref a)])) rfl rfl (hb hby d7_5)
  refine own_step (T62.setTop (mkF m 8 #[.val (.ref rv), .val (.long gt), .second, .unset] [(.long by0), (.ref a)])) (fun t₀ k₀ => st62 t₀ k₀) ?_
  refine own_step (T62.setTop (mkF m 9 #[.val (.ref rv), .val (.long gt), .second, .unset] [(.long gt), (.long by0), (.ref a)])) (fun t₀ k₀ => XS.lloadN X62.here hx rfl (hb hby d7_8) rfl k₀) ?_
  refine own_step (T62.setTop (mkF m 10 #[.val (.ref rv), .val (.long gt), .second, .unset] [(.ref rv), (.long gt), (.long by0), (.ref a)])) (fun t₀ k₀ => XS.aloadN X62.here hx rfl (hb hby d7_9) rfl rfl k₀) ?_
  obtain ⟨T63, X63, e63, st63⟩ := getF X62 hx hZ hown (host := "") (Or.inl (hw _ (List.mem_of_getElem? (i := 43) rfl))) Via.refl e62 Fb (g := (mkF m 10 #[.val (.ref rv), .val (.long gt), .second, .unset] [(.ref rv), (.long gt), (.long by0), (.ref a)])) rfl rfl (hb hby d7_10)
  refine own_step (T63.setTop (mkF m 13 #[.val (.ref rv), .val (.long gt), .second, .unset] [(.long by0), (.long gt), (.long by0), (.ref a)])) (fun t₀ k₀ => st63 t₀ k₀) ?_
  refine own_step (T63.setTop (mkF m 14 #[.val (.ref rv), .val (.long gt), .second, .unset] [(.long (gt - by0)), (.long by0), (.ref a)])) (fun t₀ k₀ => XS.lsub X63.here hx rfl (hb hby d7_13) rfl k₀) ?_
  obtain ⟨cq64, q64, q64'⟩ := Ea.cell
  obtain ⟨_, _, ⟨T64, L64, k64, n64⟩, -, X64, ⟨Lc64, hQ64, l64, y64, z64⟩, st64⟩ := own_nestBack X63 hx (y := (⟨"com/example/annalist/annalist/BodyBudget", "take", "(JJ)Z"⟩ : MethodName)) hown (own_mvNest hZ (hw _ (List.mem_of_getElem? (i := 45) rfl))) (mvT hZ (hw _ (List.mem_of_getElem? (i := 46) rfl))) (own_sel (y := (⟨"com/example/annalist/annalist/BodyBudget", "take", "(JJ)Z"⟩ : MethodName)) (mvT hZ (hw _ (List.mem_of_getElem? (i := 11) rfl))) (mvP hZ (hw _ (List.mem_of_getElem? (i := 47) rfl))) (mvT hZ (hw _ (List.mem_of_getElem? (i := 46) rfl))) (by decide)) (Cond.privateMethod_at (mvP hZ (hw _ (List.mem_of_getElem? (i := 47) rfl)) (args := #[]))) (mvT hZ (hw _ (List.mem_of_getElem? (i := 48) rfl))) (by decide) (own_backSync (W := 0) (rmtakeT l Z a0 hw [] a by0 (gt - by0) cap rsv h0 n0 Z0 Ea Fc Fs Ua ga hok) hZ (hw _ (List.mem_of_getElem? (i := 48) rfl)) (hw _ (List.mem_of_getElem? (i := 46) rfl)) (hw _ (List.mem_of_getElem? (i := 8) rfl)) Ua (by decide) (by decide)) (g := (mkF m 14 #[.val (.ref rv), .val (.long gt), .second, .unset] [(.long (gt - by0)), (.long by0), (.ref a)])) rfl (by rw [hml]; rfl) (Steps.refl _) (a := a) (by rw [e63]; exact q64) q64' (argsL := [(.long by0), (.long (gt - by0))]) (rest := []) (lenOf pd_7 rfl) rfl (by show 2 * 0 + _ ≤ _; exact Nat.le_of_eq rfl) (hb hby d7_14) (fun _ _ => ⟨rfl, e63, (by decide : 0 + 0 ≤ _), (by decide : 0 + 0 ≤ _)⟩)
  dsimp only [Pt.U, Pt.locs, Pt.cells, Pt.slots] at X64 l64 y64 z64 st64 hQ64
  subst l64 y64 z64
  obtain ⟨rfl, N64q, K64, f65, f66, f67, f68⟩ := hQ64
  have N64 := Fr.app N0 N64q
  have f69 : Exa Z T64.heap rv "com/example/annalist/annalist/BodyBudget$Reservation" := Er.keep K64
  have f70 : Fld Z T64.heap rv "com/example/annalist/annalist/BodyBudget$Reservation" "this$0" "Lcom/example/annalist/annalist/BodyBudget;" (.ref a) := Ft.keep K64 (ninS hne nin0)
  have f71 : Fld Z T64.heap rv "com/example/annalist/annalist/BodyBudget$Reservation" "bytes" "J" (.long by0) := Fb.keep K64 (ninS hne nin0)
  have f72 : Exa Z T64.heap a "com/example/annalist/annalist/BodyBudget" := Ea.keep K64
  have z64' : n0 ≤ T64.heap.size := Nat.le_trans Z0 K64.1
  have K64' : Keep h0 T64.heap [rv, a] := (Keep.refl h0 [rv, a]).trans K64 (allS (Or.inl (List.mem_of_getElem? (i := 1) rfl)) all0)
  refine own_comes (T64.setTop (mkF m 17 #[.val (.ref rv), .val (.long gt), .second, .unset] [(.int (1 : Int32))])) st64 ?_
  refine own_step (T64.setTop (mkF m 18 #[.val (.ref rv), .val (.long gt), .second, .val (.int (1 : Int32))] [])) (fun t₀ k₀ => XS.istoreN X64.here hx rfl (hb hby d7_17) rfl (l' := #[.val (.ref rv), .val (.long gt), .second, .val (.int (1 : Int32))]) rfl k₀) ?_
  refine own_step (T64.setTop (mkF m 19 #[.val (.ref rv), .val (.long gt), .second, .val (.int (1 : Int32))] [(.int (1 : Int32))])) (fun t₀ k₀ => XS.iloadN X64.here hx rfl (hb hby d7_18) rfl k₀) ?_
  refine own_step (T64.setTop (mkF m 22 #[.val (.ref rv), .val (.long gt), .second, .val (.int (1 : Int32))] [])) (fun t₀ k₀ => XS.ifNo X64.here hx rfl (hb hby d7_19) rfl (by decide) k₀) ?_
  refine own_step (T64.setTop (mkF m 23 #[.val (.ref rv), .val (.long gt), .second, .val (.int (1 : Int32))] [(.ref rv)])) (fun t₀ k₀ => XS.aloadN X64.here hx rfl (hb hby d7_22) rfl rfl k₀) ?_
  refine own_step (T64.setTop (mkF m 24 #[.val (.ref rv), .val (.long gt), .second, .val (.int (1 : Int32))] [(.long gt), (.ref rv)])) (fun t₀ k₀ => XS.lloadN X64.here hx rfl (hb hby d7_23) rfl k₀) ?_
  obtain ⟨T76, h76, X76, e76, W76, st76⟩ := putF X64 hx hZ hown (host := "") (Or.inl (hw _ (List.mem_of_getElem? (i := 43) rfl))) Via.refl rfl f71 f69 (Or.inl (hw _ (List.mem_of_getElem? (i := 44) rfl))) (hw _ (List.mem_of_getElem? (i := 30) rfl)) (ty := .long) (by decide) rfl rfl (g := (mkF m 24 #[.val (.ref rv), .val (.long gt), .second, .val (.int (1 : Int32))] [(.long gt), (.ref rv)])) rfl rfl (hb hby d7_24)
  have f77 : Fld Z h76 rv "com/example/annalist/annalist/BodyBudget$Reservation" "bytes" "J" (.long gt) := f71.same W76
  have f78 : Exa Z h76 rv "com/example/annalist/annalist/BodyBudget$Reservation" := f69.wr W76
  have f79 : Fld Z h76 rv "com/example/annalist/annalist/BodyBudget$Reservation" "this$0" "Lcom/example/annalist/annalist/BodyBudget;" (.ref a) := f70.other W76 (Or.inr (slot_ne (Or.inr (hw _ (List.mem_of_getElem? (i := 36) rfl))) (Or.inl (hw _ (List.mem_of_getElem? (i := 44) rfl))) (by decide) (t := (.object "com/example/annalist/annalist/BodyBudget")) (t' := .long) (by decide) (by decide)))
  have f80 : Exa Z h76 a "com/example/annalist/annalist/BodyBudget" := f65.wr W76
  have f81 : Fld Z h76 a "com/example/annalist/annalist/BodyBudget" "capacity" "J" (.long cap) := f66.other W76 (Or.inl (Ne.symm hne))
  have f82 : Fld Z h76 a "com/example/annalist/annalist/BodyBudget" "reserved" "J" (.long (rsv + (gt - by0))) := f67.other W76 (Or.inl (Ne.symm hne))
  have f83 : Unt h76 a := f68.wr W76
  have N76 := Fr.snoc X76 N64 gr
  have z76 : n0 ≤ h76.size := Nat.le_trans z64' (Keep.of_wr W76).1
  have K76 : Keep h0 h76 [rv, a] := K64'.wr W76 (Or.inl (List.mem_of_getElem? (i := 0) rfl))
  refine own_step (T76.setTop (mkF m 27 #[.val (.ref rv), .val (.long gt), .second, .val (.int (1 : Int32))] [])) (fun t₀ k₀ => st76 t₀ k₀) ?_
  refine own_step (T76.setTop (mkF m 28 #[.val (.ref rv), .val (.long gt), .second, .val (.int (1 : Int32))] [(.int (1 : Int32))])) (fun t₀ k₀ => XS.iloadN X76.here hx rfl (hb hby d7_27) rfl k₀) ?_
  obtain ⟨fs, hr, hrun, hended, hW, hsame⟩ := X76.leave (v := some (.int (1 : Int32))) (fun h => by rw [Bd.returns] at h; cases h)
  refine ⟨_, _, ?_, hrun, hended, _, _, rfl, ?_, ⟨_, rfl⟩, hW, hsame.mono (by decide) (by decide)⟩
  · exact retN X76 hx (t := .boolean) Bd.returns (by simp) (hb hby d7_28) hr
  · show Q_rmgrowT Z rv gt a by0 cap rsv h0 n0 _ T76.heap _
    rw [e76]
    exact ⟨rfl, N76, K76, f78, f79, f77, f80, f81, f82, f83⟩
theorem ef_rmgrowF (m : MethodId) (rv : Addr) (gt : Int64) : entryFrame m #[(.ref rv), (.long gt)] 4 = mkF m 0 #[.val (.ref rv), .val (.long gt), .second, .unset] [] := by first | (simp [entryFrame, mkF, argsToLocals, Value.category]; done) | rfl
def Q_rmgrowF (Z : State) (rv : Addr) (gt : Int64) (a : Addr) (by0 : Int64) (cap : Int64) (rsv : Int64) (h0 : Heap) (n0 : Nat) (v : Option Value) (h : Heap) (L : List Loc) : Prop := v = some (.int 0) ∧ Fr n0 L ∧ Keep h0 h [rv, a] ∧ Exa Z h rv "com/example/annalist/annalist/BodyBudget$Reservation" ∧ Fld Z h rv "com/example/annalist/annalist/BodyBudget$Reservation" "this$0" "Lcom/example/annalist/annalist/BodyBudget;" (.ref a) ∧ Fld Z h rv "com/example/annalist/annalist/BodyBudget$Reservation" "bytes" "J" (.long by0) ∧ Exa Z h a "com/example/annalist/annalist/BodyBudget" ∧ Fld Z h a "com/example/annalist/annalist/BodyBudget" "capacity" "J" (.long cap) ∧ Fld Z h a "com/example/annalist/annalist/BodyBudget" "reserved" "J" (.long rsv) ∧ Unt h a
set_option maxRecDepth 65536 in
set_option maxHeartbeats 40000000 in
theorem rmgrowF (l : Launch) (Z : State) (a0 : Array Value) (hw : ∀ d ∈ tables_1, d.before a0 Z = true) (ws : List Jvm.Cond) (rv : Addr) (gt : Int64) (a : Addr) (by0 : Int64) (cap : Int64) (rsv : Int64) (h0 : Heap) (n0 : Nat) (Z0 : n0 ≤ h0.size) (Er : Exa Z h0 rv "com/example/annalist/annalist/BodyBudget$Reservation") (Ft : Fld Z h0 rv "com/example/annalist/annalist/BodyBudget$Reservation" "this$0" "Lcom/example/annalist/annalist/BodyBudget;" (.ref a)) (Fb : Fld Z h0 rv "com/example/annalist/annalist/BodyBudget$Reservation" "bytes" "J" (.long by0)) (Ea : Exa Z h0 a "com/example/annalist/annalist/BodyBudget") (Fc : Fld Z h0 a "com/example/annalist/annalist/BodyBudget" "capacity" "J" (.long cap)) (Fs : Fld Z h0 a "com/example/annalist/annalist/BodyBudget" "reserved" "J" (.long rsv)) (Ua : Unt h0 a) (gr : n0 ≤ rv) (ga : n0 ≤ a) (hne : rv ≠ a) (hno : ¬ rsv = by0 ∧ cap < (rsv + (gt - by0))) :
    MetFree l (⟨"com/example/annalist/annalist/BodyBudget$Reservation", "growTo", "(J)Z"⟩ : MethodName) (head1 (Jvm.Cond.code (⟨"com/example/annalist/annalist/BodyBudget$Reservation", "growTo", "(J)Z"⟩ : MethodName) prog_2_method_2_code 4 (some .boolean) :: ws) ({ frames := 1, cells := 0, slots := 0, locals := 40 } : Room)) (fun as₉ U => as₉ = #[(.ref rv), (.long gt)] ∧ Z.Warmed39 U.vm ∧ U.heap = h0) (fun _ _ _ _ _ => True) (fun _ U o₉ U' => ∃ v L, o₉ = .returned v ∧ Q_rmgrowF Z rv gt a by0 cap rsv h0 n0 v U'.heap L ∧ FrameEnd U o₉ U' L ({ frames := 1, cells := 0, slots := 0, locals := 40 } : Room).cells ({ frames := 1, cells := 0, slots := 0, locals := 40 } : Room).slots) := by
  refine MetFree.of_bodySF (plainFor_of_name pn_6) hisR ?_
  intro p e s m args below meth c s₁ Bd hml0 hP hK
  obtain ⟨rfl, hZ, hh⟩ := hP
  have hx := Bd.exec
  have hby := Bd.bytes
  have hml : c.maxLocals = 4 := hml0
  have hown : s.vm.findClass "com/example/annalist/annalist/BodyBudget$Reservation" = some m.cls := findClass_of_methodNamed Bd.named
  have hnm := (name_of_methodNamed Bd.named Bd.method).1
  have X0 : Stand p l e ({ frames := 1, cells := 0, slots := 0, locals := 40 } : Room) s m #[(.ref rv), (.long gt)] below meth c s₁ [] 0 0 := Stand.of_body Bd
  have e0 : s₁.heap = h0 := by rw [← hh, Bd.state]; rfl
  have N0 := Fr.nil n0
  show own_Go p e below (fun s₂ o₉ => s₂.status = .running ∧ Ended s₂ below o₉ ∧ ∃ v L, o₉ = .returned v ∧ Q_rmgrowF Z rv gt a by0 cap rsv h0 n0 v s₂.heap L ∧ FrameEnd s o₉ s₂ L ({ frames := 1, cells := 0, slots := 0, locals := 40 } : Room).cells ({ frames := 1, cells := 0, slots := 0, locals := 40 } : Room).slots) (s₁.setTop (entryFrame m #[(.ref rv), (.long gt)] 4))
  rw [ef_rmgrowF m rv gt]
  refine own_step (s₁.setTop (mkF m 1 #[.val (.ref rv), .val (.long gt), .second, .unset] [(.ref rv)])) (fun t₀ k₀ => XS.aloadN X0.here hx rfl (hb hby d7_0) rfl rfl k₀) ?_
  obtain ⟨T84, X84, e84, st84⟩ := getF X0 hx hZ hown (host := "") (Or.inl (hw _ (List.mem_of_getElem? (i := 35) rfl))) Via.refl e0 Ft (g := (mkF m 1 #[.val (.ref rv), .val (.long gt), .second, .unset] [(.ref rv)])) rfl rfl (hb hby d7_1)
  refine own_step (T84.setTop (mkF m 4 #[.val (.ref rv), .val (.long gt), .second, .unset] [(.ref a)])) (fun t₀ k₀ => st84 t₀ k₀) ?_
  refine own_step (T84.setTop (mkF m 5 #[.val (.ref rv), .val (.long gt), .second, .unset] [(.ref rv), (.ref a)])) (fun t₀ k₀ => XS.aloadN X84.here hx rfl (hb hby d7_4) rfl rfl k₀) ?_
  obtain ⟨T85, X85, e85, st85⟩ := getF X84 hx hZ hown (host := "") (Or.inl (hw _ (List.mem_of_getElem? (i := 43) rfl))) Via.refl e84 Fb (g := (mkF m 5 #[.val (.ref rv), .val (.long gt), .second, .unset] [(.ref rv), (.ref a)])) rfl rfl (hb hby d7_5)
  refine own_step (T85.setTop (mkF m 8 #[.val (.ref rv), .val (.long gt), .second, .unset] [(.long by0), (.ref a)])) (fun t₀ k₀ => st85 t₀ k₀) ?_
  refine own_step (T85.setTop (mkF m 9 #[.val (.ref rv), .val (.long gt), .second, .unset] [(.long gt), (.long by0), (.ref a)])) (fun t₀ k₀ => XS.lloadN X85.here hx rfl (hb hby d7_8) rfl k₀) ?_
  refine own_step (T85.setTop (mkF m 10 #[.val (.ref rv), .val (.long gt), .second, .unset] [(.ref rv), (.long gt), (.long by0), (.ref a)])) (fun t₀ k₀ => XS.aloadN X85.here hx rfl (hb hby d7_9) rfl rfl k₀) ?_
  obtain ⟨T86, X86, e86, st86⟩ := getF X85 hx hZ hown (host := "") (Or.inl (hw _ (List.mem_of_getElem? (i := 43) rfl))) Via.refl e85 Fb (g := (mkF m 10 #[.val (.ref rv), .val (.long gt), .second, .unset] [(.ref rv), (.long gt), (.long by0), (.ref a)])) rfl rfl (hb hby d7_10)
  refine own_step (T86.setTop (mkF m 13 #[.val (.ref rv), .val (.long gt), .second, .unset] [(.long by0), (.long gt), (.long by0), (.ref a)])) (fun t₀ k₀ => st86 t₀ k₀) ?_
  refine own_step (T86.setTop (mkF m 14 #[.val (.ref rv), .val (.long gt), .second, .unset] [(.long (gt - by0)), (.long by0), (.ref a)])) (fun t₀ k₀ => XS.lsub X86.here hx rfl (hb hby d7_13) rfl k₀) ?_
  obtain ⟨cq87, q87, q87'⟩ := Ea.cell
  obtain ⟨_, _, ⟨T87, L87, k87, n87⟩, -, X87, ⟨Lc87, hQ87, l87, y87, z87⟩, st87⟩ := own_nestBack X86 hx (y := (⟨"com/example/annalist/annalist/BodyBudget", "take", "(JJ)Z"⟩ : MethodName)) hown (own_mvNest hZ (hw _ (List.mem_of_getElem? (i := 45) rfl))) (mvT hZ (hw _ (List.mem_of_getElem? (i := 46) rfl))) (own_sel (y := (⟨"com/example/annalist/annalist/BodyBudget", "take", "(JJ)Z"⟩ : MethodName)) (mvT hZ (hw _ (List.mem_of_getElem? (i := 11) rfl))) (mvP hZ (hw _ (List.mem_of_getElem? (i := 47) rfl))) (mvT hZ (hw _ (List.mem_of_getElem? (i := 46) rfl))) (by decide)) (Cond.privateMethod_at (mvP hZ (hw _ (List.mem_of_getElem? (i := 47) rfl)) (args := #[]))) (mvT hZ (hw _ (List.mem_of_getElem? (i := 48) rfl))) (by decide) (own_backSync (W := 0) (rmtakeF l Z a0 hw [] a by0 (gt - by0) cap rsv h0 n0 Z0 Ea Fc Fs Ua ga hno) hZ (hw _ (List.mem_of_getElem? (i := 48) rfl)) (hw _ (List.mem_of_getElem? (i := 46) rfl)) (hw _ (List.mem_of_getElem? (i := 8) rfl)) Ua (by decide) (by decide)) (g := (mkF m 14 #[.val (.ref rv), .val (.long gt), .second, .unset] [(.long (gt - by0)), (.long by0), (.ref a)])) rfl (by rw [hml]; rfl) (Steps.refl _) (a := a) (by rw [e86]; exact q87) q87' (argsL := [(.long by0), (.long (gt - by0))]) (rest := []) (lenOf pd_7 rfl) rfl (by show 2 * 0 + _ ≤ _; exact Nat.le_of_eq rfl) (hb hby d7_14) (fun _ _ => ⟨rfl, e86, (by decide : 0 + 0 ≤ _), (by decide : 0 + 0 ≤ _)⟩)
  dsimp only [Pt.U, Pt.locs, Pt.cells, Pt.slots] at X87 l87 y87 z87 st87 hQ87
  subst l87 y87 z87
  obtain ⟨rfl, N87q, K87, f88, f89, f90, f91⟩ := hQ87
  have N87 := Fr.app N0 N87q
  have f92 : Exa Z T87.heap rv "com/example/annalist/annalist/BodyBudget$Reservation" := Er.keep K87
  have f93 : Fld Z T87.heap rv "com/example/annalist/annalist/BodyBudget$Reservation" "this$0" "Lcom/example/annalist/annalist/BodyBudget;" (.ref a) := Ft.keep K87 (ninS hne nin0)
  have f94 : Fld Z T87.heap rv "com/example/annalist/annalist/BodyBudget$Reservation" "bytes" "J" (.long by0) := Fb.keep K87 (ninS hne nin0)
  have f95 : Exa Z T87.heap a "com/example/annalist/annalist/BodyBudget" := Ea.keep K87
  have z87' : n0 ≤ T87.heap.size := Nat.le_trans Z0 K87.1
  have K87' : Keep h0 T87.heap [rv, a] := (Keep.refl h0 [rv, a]).trans K87 (allS (Or.inl (List.mem_of_getElem? (i := 1) rfl)) all0)
  refine own_comes (T87.setTop (mkF m 17 #[.val (.ref rv), .val (.long gt), .second, .unset] [(.int (0 : Int32))])) st87 ?_
  refine own_step (T87.setTop (mkF m 18 #[.val (.ref rv), .val (.long gt), .second, .val (.int (0 : Int32))] [])) (fun t₀ k₀ => XS.istoreN X87.here hx rfl (hb hby d7_17) rfl (l' := #[.val (.ref rv), .val (.long gt), .second, .val (.int (0 : Int32))]) rfl k₀) ?_
  refine own_step (T87.setTop (mkF m 19 #[.val (.ref rv), .val (.long gt), .second, .val (.int (0 : Int32))] [(.int (0 : Int32))])) (fun t₀ k₀ => XS.iloadN X87.here hx rfl (hb hby d7_18) rfl k₀) ?_
  refine own_step (T87.setTop (mkF m 27 #[.val (.ref rv), .val (.long gt), .second, .val (.int (0 : Int32))] [])) (fun t₀ k₀ => XS.ifYes X87.here hx rfl (pc0 := 19) (pc' := 27) rfl (hb hby d7_19) rfl (by decide) (by decide) (by decide) k₀) ?_
  refine own_step (T87.setTop (mkF m 28 #[.val (.ref rv), .val (.long gt), .second, .val (.int (0 : Int32))] [(.int (0 : Int32))])) (fun t₀ k₀ => XS.iloadN X87.here hx rfl (hb hby d7_27) rfl k₀) ?_
  obtain ⟨fs, hr, hrun, hended, hW, hsame⟩ := X87.leave (v := some (.int (0 : Int32))) (fun h => by rw [Bd.returns] at h; cases h)
  refine ⟨_, _, ?_, hrun, hended, _, _, rfl, ?_, ⟨_, rfl⟩, hW, hsame.mono (by decide) (by decide)⟩
  · exact retN X87 hx (t := .boolean) Bd.returns (by simp) (hb hby d7_28) hr
  · show Q_rmgrowF Z rv gt a by0 cap rsv h0 n0 _ T87.heap _
    exact ⟨rfl, N87, K87', f92, f93, f94, f88, f89, f90, f91⟩
theorem pn_0 : plainName "com/example/annalist/annalist/BodyBudgetForHeapPinLaw" = true := by first | (simp [plainName, overriddenIn]; done) | decide +kernel
theorem ef_rm0 (m : MethodId) (pa : Int64) (pb : Int32) : entryFrame m #[(.long pa), (.int pb)] maxLocals = mkF m 0 #[.val (.long pa), .second, .val (.int pb), .unset, .unset, .unset, .unset, .unset, .unset, .unset, .unset, .unset, .unset] [] := by first | (simp [entryFrame, mkF, argsToLocals, Value.category, maxLocals]; done) | rfl
def Q_rm0 (Z : State) (pa : Int64) (pb : Int32) (h0 : Heap) (n0 : Nat) (v : Option Value) (h : Heap) (L : List Loc) : Prop := v = some (.int 1) ∧ Fr n0 L
set_option maxRecDepth 65536 in
set_option maxHeartbeats 40000000 in
theorem rm0 (l : Launch) (Z : State) (a0 : Array Value) (hw : ∀ d ∈ tables_1, d.before a0 Z = true) (ws : List Jvm.Cond) (pa : Int64) (pb : Int32) (h0 : Heap) (n0 : Nat) (Z0 : n0 ≤ h0.size) :
    MetFree l x (head1 (Jvm.Cond.code x code maxLocals ret :: ws) room_1) (fun as₉ U => as₉ = #[(.long pa), (.int pb)] ∧ Z.Warmed39 U.vm ∧ U.heap = h0) (fun _ _ _ _ _ => True) (fun _ U o₉ U' => ∃ v L, o₉ = .returned v ∧ Q_rm0 Z pa pb h0 n0 v U'.heap L ∧ FrameEnd U o₉ U' L room_1.cells room_1.slots) := by
  refine MetFree.of_bodySF (plainFor_of_name pn_0) hisR ?_
  intro p e s m args below meth c s₁ Bd hml0 hP hK
  obtain ⟨rfl, hZ, hh⟩ := hP
  have hx := Bd.exec
  have hby := Bd.bytes
  have hml : c.maxLocals = 13 := hml0
  have hown : s.vm.findClass "com/example/annalist/annalist/BodyBudgetForHeapPinLaw" = some m.cls := findClass_of_methodNamed Bd.named
  have hnm := (name_of_methodNamed Bd.named Bd.method).1
  have X0 : Stand p l e room_1 s m #[(.long pa), (.int pb)] below meth c s₁ [] 0 0 := Stand.of_body Bd
  have e0 : s₁.heap = h0 := by rw [← hh, Bd.state]; rfl
  have N0 := Fr.nil n0
  have cut12 : ∀ (hp : Int64) (Tc12 : State) (Xc12 : Stand p l e room_1 s m #[(.long pa), (.int pb)] below meth c Tc12 [] 0 0) (ec12 : Tc12.heap = h0), own_Go p e below (fun s₂ o₉ => s₂.status = .running ∧ Ended s₂ below o₉ ∧ ∃ v L, o₉ = .returned v ∧ Q_rm0 Z pa pb h0 n0 v s₂.heap L ∧ FrameEnd s o₉ s₂ L room_1.cells room_1.slots) (Tc12.setTop (mkF m 12 #[.val (.long pa), .second, .val (.int pb), .unset, .unset, .unset, .unset, .unset, .unset, .unset, .unset, .unset, .unset] [(.long hp)])) := by
    intro hp Tc12 Xc12 ec12
    refine own_step (Tc12.setTop (mkF m 13 #[.val (.long pa), .second, .val (.int pb), .val (.long hp), .second, .unset, .unset, .unset, .unset, .unset, .unset, .unset, .unset] [])) (fun t₀ k₀ => XS.lstoreN Xc12.here hx rfl (hb hby at_12) rfl (l' := #[.val (.long pa), .second, .val (.int pb), .val (.long hp), .second, .unset, .unset, .unset, .unset, .unset, .unset, .unset, .unset]) rfl k₀) ?_
    refine own_step (Tc12.setTop (mkF m 14 #[.val (.long pa), .second, .val (.int pb), .val (.long hp), .second, .unset, .unset, .unset, .unset, .unset, .unset, .unset, .unset] [(.long hp)])) (fun t₀ k₀ => XS.lloadN Xc12.here hx rfl (hb hby at_13) rfl k₀) ?_
    refine own_step (Tc12.setTop (mkF m 17 #[.val (.long pa), .second, .val (.int pb), .val (.long hp), .second, .unset, .unset, .unset, .unset, .unset, .unset, .unset, .unset] [(.long (12 : Int64)), (.long hp)])) (fun t₀ k₀ => Xc12.ldc2Long hx hown (mvT hZ (hw _ (List.mem_of_getElem? (i := 0) rfl))) (g := (mkF m 14 #[.val (.long pa), .second, .val (.int pb), .val (.long hp), .second, .unset, .unset, .unset, .unset, .unset, .unset, .unset, .unset] [(.long hp)])) rfl (hb hby at_14) _ k₀) ?_
    refine own_step (Tc12.setTop (mkF m 18 #[.val (.long pa), .second, .val (.int pb), .val (.long hp), .second, .unset, .unset, .unset, .unset, .unset, .unset, .unset, .unset] [(.long (hp / (12 : Int64)))])) (fun t₀ k₀ => XS.ldiv Xc12.here hx rfl (hb hby at_17) rfl (by decide) k₀) ?_
    refine own_step (Tc12.setTop (mkF m 21 #[.val (.long pa), .second, .val (.int pb), .val (.long hp), .second, .unset, .unset, .unset, .unset, .unset, .unset, .unset, .unset] [(.long (67108864 : Int64)), (.long (hp / (12 : Int64)))])) (fun t₀ k₀ => Xc12.ldc2Long hx hown (mvT hZ (hw _ (List.mem_of_getElem? (i := 1) rfl))) (g := (mkF m 18 #[.val (.long pa), .second, .val (.int pb), .val (.long hp), .second, .unset, .unset, .unset, .unset, .unset, .unset, .unset, .unset] [(.long (hp / (12 : Int64)))])) rfl (hb hby at_18) _ k₀) ?_
    obtain ⟨_, _, ⟨T99, L99, k99, n99⟩, -, X99, ⟨Lc99, hQ99, l99, y99, z99⟩, st99⟩ := Jvm.LawKit.callS Xc12 hx (y := (⟨"java/lang/Math", "min", "(JJ)J"⟩ : MethodName)) hown (mvT hZ (hw _ (List.mem_of_getElem? (i := 2) rfl))) (mvT hZ (hw _ (List.mem_of_getElem? (i := 3) rfl))) (mvT hZ (hw _ (List.mem_of_getElem? (i := 4) rfl))) (mvT hZ (hw _ (List.mem_of_getElem? (i := 5) rfl))) (by decide) (backOf (W := 0) (rm1 l Z a0 hw [] (hp / (12 : Int64)) (67108864 : Int64) h0 n0 Z0) hZ (hw _ (List.mem_of_getElem? (i := 5) rfl)) (hw _ (List.mem_of_getElem? (i := 4) rfl)) (by decide) (by decide)) (g := (mkF m 21 #[.val (.long pa), .second, .val (.int pb), .val (.long hp), .second, .unset, .unset, .unset, .unset, .unset, .unset, .unset, .unset] [(.long (67108864 : Int64)), (.long (hp / (12 : Int64)))])) rfl (by rw [hml]; rfl) (argsL := [(.long (hp / (12 : Int64))), (.long (67108864 : Int64))]) (rest := []) (lenOf pd_0 rfl) rfl (by show 2 * 0 + _ ≤ _; exact Nat.le_of_eq rfl) (hb hby at_21) (fun _ _ => ⟨rfl, ec12, (by decide : 0 + 0 ≤ _), (by decide : 0 + 0 ≤ _)⟩)
    dsimp only [Pt.U, Pt.locs, Pt.cells, Pt.slots] at X99 l99 y99 z99 st99 hQ99
    subst l99 y99 z99
    obtain ⟨rfl, N99q, e99⟩ := hQ99
    have N99 := Fr.app N0 N99q
    refine own_step (T99.setTop (mkF m 24 #[.val (.long pa), .second, .val (.int pb), .val (.long hp), .second, .unset, .unset, .unset, .unset, .unset, .unset, .unset, .unset] [(.long (own_minj (hp / (12 : Int64)) (67108864 : Int64)))])) (fun t₀ k₀ => st99 t₀ k₀) ?_
    refine own_step (T99.setTop (mkF m 26 #[.val (.long pa), .second, .val (.int pb), .val (.long hp), .second, .val (.long (own_minj (hp / (12 : Int64)) (67108864 : Int64))), .second, .unset, .unset, .unset, .unset, .unset, .unset] [])) (fun t₀ k₀ => XS.lstore X99.here hx rfl (hb hby at_24) rfl (l' := #[.val (.long pa), .second, .val (.int pb), .val (.long hp), .second, .val (.long (own_minj (hp / (12 : Int64)) (67108864 : Int64))), .second, .unset, .unset, .unset, .unset, .unset, .unset]) rfl k₀) ?_
    refine own_step (T99.setTop (mkF m 27 #[.val (.long pa), .second, .val (.int pb), .val (.long hp), .second, .val (.long (own_minj (hp / (12 : Int64)) (67108864 : Int64))), .second, .unset, .unset, .unset, .unset, .unset, .unset] [(.long hp)])) (fun t₀ k₀ => XS.lloadN X99.here hx rfl (hb hby at_26) rfl k₀) ?_
    obtain ⟨_, _, ⟨T100, L100, k100, n100⟩, -, X100, ⟨Lc100, hQ100, l100, y100, z100⟩, st100⟩ := Jvm.LawKit.callS X99 hx (y := (⟨"com/example/annalist/annalist/BodyBudget", "forHeap", "(J)Lcom/example/annalist/annalist/BodyBudget;"⟩ : MethodName)) hown (mvT hZ (hw _ (List.mem_of_getElem? (i := 6) rfl))) (mvT hZ (hw _ (List.mem_of_getElem? (i := 7) rfl))) (mvT hZ (hw _ (List.mem_of_getElem? (i := 8) rfl))) (mvT hZ (hw _ (List.mem_of_getElem? (i := 9) rfl))) (by decide) (backOf (W := 0) (rm2 l Z a0 hw [] hp h0 n0 Z0) hZ (hw _ (List.mem_of_getElem? (i := 9) rfl)) (hw _ (List.mem_of_getElem? (i := 8) rfl)) (by decide) (by decide)) (g := (mkF m 27 #[.val (.long pa), .second, .val (.int pb), .val (.long hp), .second, .val (.long (own_minj (hp / (12 : Int64)) (67108864 : Int64))), .second, .unset, .unset, .unset, .unset, .unset, .unset] [(.long hp)])) rfl (by rw [hml]; rfl) (argsL := [(.long hp)]) (rest := []) (lenOf pd_1 rfl) rfl (by show 2 * 0 + _ ≤ _; exact Nat.le_of_eq rfl) (hb hby at_27) (fun _ _ => ⟨rfl, e99, (by decide : 0 + 1 ≤ _), (by decide : 0 + 2 ≤ _)⟩)
    dsimp only [Pt.U, Pt.locs, Pt.cells, Pt.slots] at X100 l100 y100 z100 st100 hQ100
    subst l100 y100 z100
    obtain ⟨nb101, rfl, N100q, K100, f102, f103, f104, f105, f106⟩ := hQ100
    have N100 := Fr.app N99 N100q
    have z100' : n0 ≤ T100.heap.size := Nat.le_trans Z0 K100.1
    refine own_step (T100.setTop (mkF m 30 #[.val (.long pa), .second, .val (.int pb), .val (.long hp), .second, .val (.long (own_minj (hp / (12 : Int64)) (67108864 : Int64))), .second, .unset, .unset, .unset, .unset, .unset, .unset] [(.ref nb101)])) (fun t₀ k₀ => st100 t₀ k₀) ?_
    have fc107 : Fld Z T100.heap nb101 "com/example/annalist/annalist/BodyBudget" "capacity" "J" (.long (own_minj (hp / (12 : Int64)) (67108864 : Int64))) := by rw [← own_div hp]; exact f104
    refine own_step (T100.setTop (mkF m 32 #[.val (.long pa), .second, .val (.int pb), .val (.long hp), .second, .val (.long (own_minj (hp / (12 : Int64)) (67108864 : Int64))), .second, .val (.ref nb101), .unset, .unset, .unset, .unset, .unset] [])) (fun t₀ k₀ => XS.astore X100.here hx rfl (hb hby at_30) rfl rfl (l' := #[.val (.long pa), .second, .val (.int pb), .val (.long hp), .second, .val (.long (own_minj (hp / (12 : Int64)) (67108864 : Int64))), .second, .val (.ref nb101), .unset, .unset, .unset, .unset, .unset]) rfl k₀) ?_
    refine own_step (T100.setTop (mkF m 34 #[.val (.long pa), .second, .val (.int pb), .val (.long hp), .second, .val (.long (own_minj (hp / (12 : Int64)) (67108864 : Int64))), .second, .val (.ref nb101), .unset, .unset, .unset, .unset, .unset] [(.ref nb101)])) (fun t₀ k₀ => XS.aload X100.here hx rfl (hb hby at_32) rfl rfl k₀) ?_
    obtain ⟨cq108, kq108, q108a, q108b, q108c⟩ := isOf hZ rfl f103
    obtain ⟨_, _, ⟨T108, L108, k108, n108⟩, -, X108, ⟨Lc108, hQ108, l108, y108, z108⟩, st108⟩ := X100.virtualBack hx (y := (⟨"com/example/annalist/annalist/BodyBudget", "reserve", "()Lcom/example/annalist/annalist/BodyBudget$Reservation;"⟩ : MethodName)) (z := (⟨"com/example/annalist/annalist/BodyBudget", "reserve", "()Lcom/example/annalist/annalist/BodyBudget$Reservation;"⟩ : MethodName)) hown (mvT hZ (hw _ (List.mem_of_getElem? (i := 24) rfl))) (mvT hZ (hw _ (List.mem_of_getElem? (i := 25) rfl))) (notFace_of_selects (args := #[]) (mvT hZ (hw _ (List.mem_of_getElem? (i := 27) rfl)))) (mvT hZ (hw _ (List.mem_of_getElem? (i := 27) rfl))) (mvT hZ (hw _ (List.mem_of_getElem? (i := 26) rfl))) (by decide) (backOf (W := 0) (rm5 l Z a0 hw [] nb101 T100.heap n0 z100' f103) hZ (hw _ (List.mem_of_getElem? (i := 28) rfl)) (hw _ (List.mem_of_getElem? (i := 8) rfl)) (by decide) (by decide)) q108a q108c (g := (mkF m 34 #[.val (.long pa), .second, .val (.int pb), .val (.long hp), .second, .val (.long (own_minj (hp / (12 : Int64)) (67108864 : Int64))), .second, .val (.ref nb101), .unset, .unset, .unset, .unset, .unset] [(.ref nb101)])) rfl (by rw [hml]; rfl) (Steps.refl _) (argsL := []) (rest := []) (lenOf pd_4 rfl) rfl (by show 2 * 0 + _ ≤ _; exact Nat.le_of_eq rfl) (hb hby at_34) (fun _ _ => ⟨rfl, rfl, (by decide : 1 + 1 ≤ _), (by decide : 2 + 2 ≤ _)⟩)
    dsimp only [Pt.U, Pt.locs, Pt.cells, Pt.slots] at X108 l108 y108 z108 st108 hQ108
    subst l108 y108 z108
    obtain ⟨nb109, rfl, N108q, K108, f110, f111, f112, f113, f114⟩ := hQ108
    have N108 := Fr.app N100 N108q
    have f115 : Exa Z T108.heap nb101 "com/example/annalist/annalist/BodyBudget" := f103.keep K108
    have f116 : Fld Z T108.heap nb101 "com/example/annalist/annalist/BodyBudget" "capacity" "J" (.long (own_minj (hp / (12 : Int64)) (67108864 : Int64))) := fc107.keep K108 nin0
    have f117 : Fld Z T108.heap nb101 "com/example/annalist/annalist/BodyBudget" "reserved" "J" (.long (0 : Int64)) := f105.keep K108 nin0
    have f118 : Unt T108.heap nb101 := f106.keep K108 nin0
    have z108' : n0 ≤ T108.heap.size := Nat.le_trans z100' K108.1
    refine own_comes (T108.setTop (mkF m 37 #[.val (.long pa), .second, .val (.int pb), .val (.long hp), .second, .val (.long (own_minj (hp / (12 : Int64)) (67108864 : Int64))), .second, .val (.ref nb101), .unset, .unset, .unset, .unset, .unset] [(.ref nb109)])) st108 ?_
    have ne119 : nb101 ≠ nb109 := Nat.ne_of_lt (Nat.lt_of_lt_of_le f103.lt f111)
    refine own_step (T108.setTop (mkF m 39 #[.val (.long pa), .second, .val (.int pb), .val (.long hp), .second, .val (.long (own_minj (hp / (12 : Int64)) (67108864 : Int64))), .second, .val (.ref nb101), .val (.ref nb109), .unset, .unset, .unset, .unset] [])) (fun t₀ k₀ => XS.astore X108.here hx rfl (hb hby at_37) rfl rfl (l' := #[.val (.long pa), .second, .val (.int pb), .val (.long hp), .second, .val (.long (own_minj (hp / (12 : Int64)) (67108864 : Int64))), .second, .val (.ref nb101), .val (.ref nb109), .unset, .unset, .unset, .unset]) rfl k₀) ?_
    refine own_step (T108.setTop (mkF m 41 #[.val (.long pa), .second, .val (.int pb), .val (.long hp), .second, .val (.long (own_minj (hp / (12 : Int64)) (67108864 : Int64))), .second, .val (.ref nb101), .val (.ref nb109), .unset, .unset, .unset, .unset] [(.ref nb101)])) (fun t₀ k₀ => XS.aload X108.here hx rfl (hb hby at_39) rfl rfl k₀) ?_
    obtain ⟨cq120, kq120, q120a, q120b, q120c⟩ := isOf hZ rfl f115
    obtain ⟨_, _, ⟨T120, L120, k120, n120⟩, -, X120, ⟨Lc120, hQ120, l120, y120, z120⟩, st120⟩ := X108.virtualBack hx (y := (⟨"com/example/annalist/annalist/BodyBudget", "reserve", "()Lcom/example/annalist/annalist/BodyBudget$Reservation;"⟩ : MethodName)) (z := (⟨"com/example/annalist/annalist/BodyBudget", "reserve", "()Lcom/example/annalist/annalist/BodyBudget$Reservation;"⟩ : MethodName)) hown (mvT hZ (hw _ (List.mem_of_getElem? (i := 24) rfl))) (mvT hZ (hw _ (List.mem_of_getElem? (i := 25) rfl))) (notFace_of_selects (args := #[]) (mvT hZ (hw _ (List.mem_of_getElem? (i := 27) rfl)))) (mvT hZ (hw _ (List.mem_of_getElem? (i := 27) rfl))) (mvT hZ (hw _ (List.mem_of_getElem? (i := 26) rfl))) (by decide) (backOf (W := 0) (rm5 l Z a0 hw [] nb101 T108.heap n0 z108' f115) hZ (hw _ (List.mem_of_getElem? (i := 28) rfl)) (hw _ (List.mem_of_getElem? (i := 8) rfl)) (by decide) (by decide)) q120a q120c (g := (mkF m 41 #[.val (.long pa), .second, .val (.int pb), .val (.long hp), .second, .val (.long (own_minj (hp / (12 : Int64)) (67108864 : Int64))), .second, .val (.ref nb101), .val (.ref nb109), .unset, .unset, .unset, .unset] [(.ref nb101)])) rfl (by rw [hml]; rfl) (Steps.refl _) (argsL := []) (rest := []) (lenOf pd_4 rfl) rfl (by show 2 * 0 + _ ≤ _; exact Nat.le_of_eq rfl) (hb hby at_41) (fun _ _ => ⟨rfl, rfl, (by decide : 2 + 1 ≤ _), (by decide : 4 + 2 ≤ _)⟩)
    dsimp only [Pt.U, Pt.locs, Pt.cells, Pt.slots] at X120 l120 y120 z120 st120 hQ120
    subst l120 y120 z120
    obtain ⟨nb121, rfl, N120q, K120, f122, f123, f124, f125, f126⟩ := hQ120
    have N120 := Fr.app N108 N120q
    have f127 : Exa Z T120.heap nb101 "com/example/annalist/annalist/BodyBudget" := f115.keep K120
    have f128 : Fld Z T120.heap nb101 "com/example/annalist/annalist/BodyBudget" "capacity" "J" (.long (own_minj (hp / (12 : Int64)) (67108864 : Int64))) := f116.keep K120 nin0
    have f129 : Fld Z T120.heap nb101 "com/example/annalist/annalist/BodyBudget" "reserved" "J" (.long (0 : Int64)) := f117.keep K120 nin0
    have f130 : Unt T120.heap nb101 := f118.keep K120 nin0
    have f131 : Exa Z T120.heap nb109 "com/example/annalist/annalist/BodyBudget$Reservation" := f112.keep K120
    have f132 : Fld Z T120.heap nb109 "com/example/annalist/annalist/BodyBudget$Reservation" "this$0" "Lcom/example/annalist/annalist/BodyBudget;" (.ref nb101) := f113.keep K120 nin0
    have f133 : Fld Z T120.heap nb109 "com/example/annalist/annalist/BodyBudget$Reservation" "bytes" "J" (.long (0 : Int64)) := f114.keep K120 nin0
    have z120' : n0 ≤ T120.heap.size := Nat.le_trans z108' K120.1
    refine own_comes (T120.setTop (mkF m 44 #[.val (.long pa), .second, .val (.int pb), .val (.long hp), .second, .val (.long (own_minj (hp / (12 : Int64)) (67108864 : Int64))), .second, .val (.ref nb101), .val (.ref nb109), .unset, .unset, .unset, .unset] [(.ref nb121)])) st120 ?_
    have ne134 : nb101 ≠ nb121 := Nat.ne_of_lt (Nat.lt_of_lt_of_le f115.lt f123)
    have ne135 : nb109 ≠ nb121 := Nat.ne_of_lt (Nat.lt_of_lt_of_le f112.lt f123)
    refine own_step (T120.setTop (mkF m 46 #[.val (.long pa), .second, .val (.int pb), .val (.long hp), .second, .val (.long (own_minj (hp / (12 : Int64)) (67108864 : Int64))), .second, .val (.ref nb101), .val (.ref nb109), .val (.ref nb121), .unset, .unset, .unset] [])) (fun t₀ k₀ => XS.astore X120.here hx rfl (hb hby at_44) rfl rfl (l' := #[.val (.long pa), .second, .val (.int pb), .val (.long hp), .second, .val (.long (own_minj (hp / (12 : Int64)) (67108864 : Int64))), .second, .val (.ref nb101), .val (.ref nb109), .val (.ref nb121), .unset, .unset, .unset]) rfl k₀) ?_
    refine own_step (T120.setTop (mkF m 48 #[.val (.long pa), .second, .val (.int pb), .val (.long hp), .second, .val (.long (own_minj (hp / (12 : Int64)) (67108864 : Int64))), .second, .val (.ref nb101), .val (.ref nb109), .val (.ref nb121), .unset, .unset, .unset] [(.ref nb109)])) (fun t₀ k₀ => XS.aload X120.here hx rfl (hb hby at_46) rfl rfl k₀) ?_
    refine own_step (T120.setTop (mkF m 49 #[.val (.long pa), .second, .val (.int pb), .val (.long hp), .second, .val (.long (own_minj (hp / (12 : Int64)) (67108864 : Int64))), .second, .val (.ref nb101), .val (.ref nb109), .val (.ref nb121), .unset, .unset, .unset] [(.long (1 : Int64)), (.ref nb109)])) (fun t₀ k₀ => XS.lconst X120.here hx rfl (hb hby at_48) k₀) ?_
    obtain ⟨cq136, kq136, q136a, q136b, q136c⟩ := isOf hZ rfl f131
    obtain ⟨_, _, ⟨T136, L136, k136, n136⟩, -, X136, ⟨Lc136, hQ136, l136, y136, z136⟩, st136⟩ := X120.virtualBack hx (y := (⟨"com/example/annalist/annalist/BodyBudget$Reservation", "growTo", "(J)Z"⟩ : MethodName)) (z := (⟨"com/example/annalist/annalist/BodyBudget$Reservation", "growTo", "(J)Z"⟩ : MethodName)) hown (mvT hZ (hw _ (List.mem_of_getElem? (i := 38) rfl))) (mvT hZ (hw _ (List.mem_of_getElem? (i := 39) rfl))) (notFace_of_selects (args := #[]) (mvT hZ (hw _ (List.mem_of_getElem? (i := 41) rfl)))) (mvT hZ (hw _ (List.mem_of_getElem? (i := 41) rfl))) (mvT hZ (hw _ (List.mem_of_getElem? (i := 40) rfl))) (by decide) (backOf (W := 0) (rmgrowT l Z a0 hw [] nb109 (1 : Int64) nb101 (0 : Int64) (own_minj (hp / (12 : Int64)) (67108864 : Int64)) (0 : Int64) T120.heap n0 z120' f131 f132 f133 f127 f128 f129 f130 f110 f102 (Ne.symm ne119) (Or.inl rfl)) hZ (hw _ (List.mem_of_getElem? (i := 42) rfl)) (hw _ (List.mem_of_getElem? (i := 31) rfl)) (by decide) (by decide)) q136a q136c (g := (mkF m 49 #[.val (.long pa), .second, .val (.int pb), .val (.long hp), .second, .val (.long (own_minj (hp / (12 : Int64)) (67108864 : Int64))), .second, .val (.ref nb101), .val (.ref nb109), .val (.ref nb121), .unset, .unset, .unset] [(.long (1 : Int64)), (.ref nb109)])) rfl (by rw [hml]; rfl) (Steps.refl _) (argsL := [(.long (1 : Int64))]) (rest := []) (lenOf pd_6 rfl) rfl (by show 2 * 0 + _ ≤ _; exact Nat.le_of_eq rfl) (hb hby at_49) (fun _ _ => ⟨rfl, rfl, (by decide : 3 + 0 ≤ _), (by decide : 6 + 0 ≤ _)⟩)
    dsimp only [Pt.U, Pt.locs, Pt.cells, Pt.slots] at X136 l136 y136 z136 st136 hQ136
    subst l136 y136 z136
    obtain ⟨rfl, N136q, K136, f137, f138, f139, f140, f141, f142, f143⟩ := hQ136
    have N136 := Fr.app N120 N136q
    have f144 : Exa Z T136.heap nb101 "com/example/annalist/annalist/BodyBudget" := f127.keep K136
    have f148 : Exa Z T136.heap nb109 "com/example/annalist/annalist/BodyBudget$Reservation" := f131.keep K136
    have f151 : Exa Z T136.heap nb121 "com/example/annalist/annalist/BodyBudget$Reservation" := f124.keep K136
    have f152 : Fld Z T136.heap nb121 "com/example/annalist/annalist/BodyBudget$Reservation" "this$0" "Lcom/example/annalist/annalist/BodyBudget;" (.ref nb101) := f125.keep K136 (ninS (Ne.symm ne135) (ninS (Ne.symm ne134) nin0))
    have f153 : Fld Z T136.heap nb121 "com/example/annalist/annalist/BodyBudget$Reservation" "bytes" "J" (.long (0 : Int64)) := f126.keep K136 (ninS (Ne.symm ne135) (ninS (Ne.symm ne134) nin0))
    have z136' : n0 ≤ T136.heap.size := Nat.le_trans z120' K136.1
    refine own_comes (T136.setTop (mkF m 52 #[.val (.long pa), .second, .val (.int pb), .val (.long hp), .second, .val (.long (own_minj (hp / (12 : Int64)) (67108864 : Int64))), .second, .val (.ref nb101), .val (.ref nb109), .val (.ref nb121), .unset, .unset, .unset] [(.int (1 : Int32))])) st136 ?_
    refine own_step (T136.setTop (mkF m 54 #[.val (.long pa), .second, .val (.int pb), .val (.long hp), .second, .val (.long (own_minj (hp / (12 : Int64)) (67108864 : Int64))), .second, .val (.ref nb101), .val (.ref nb109), .val (.ref nb121), .val (.int (1 : Int32)), .unset, .unset] [])) (fun t₀ k₀ => XS.istore X136.here hx rfl (hb hby at_52) rfl (l' := #[.val (.long pa), .second, .val (.int pb), .val (.long hp), .second, .val (.long (own_minj (hp / (12 : Int64)) (67108864 : Int64))), .second, .val (.ref nb101), .val (.ref nb109), .val (.ref nb121), .val (.int (1 : Int32)), .unset, .unset]) rfl k₀) ?_
    refine own_step (T136.setTop (mkF m 56 #[.val (.long pa), .second, .val (.int pb), .val (.long hp), .second, .val (.long (own_minj (hp / (12 : Int64)) (67108864 : Int64))), .second, .val (.ref nb101), .val (.ref nb109), .val (.ref nb121), .val (.int (1 : Int32)), .unset, .unset] [(.ref nb121)])) (fun t₀ k₀ => XS.aload X136.here hx rfl (hb hby at_54) rfl rfl k₀) ?_
    refine own_step (T136.setTop (mkF m 58 #[.val (.long pa), .second, .val (.int pb), .val (.long hp), .second, .val (.long (own_minj (hp / (12 : Int64)) (67108864 : Int64))), .second, .val (.ref nb101), .val (.ref nb109), .val (.ref nb121), .val (.int (1 : Int32)), .unset, .unset] [(.long (own_minj (hp / (12 : Int64)) (67108864 : Int64))), (.ref nb121)])) (fun t₀ k₀ => XS.lload X136.here hx rfl (hb hby at_56) rfl k₀) ?_
    obtain ⟨cq154, kq154, q154a, q154b, q154c⟩ := isOf hZ rfl f151
    obtain ⟨_, _, ⟨T154, L154, k154, n154⟩, -, X154, ⟨Lc154, hQ154, l154, y154, z154⟩, st154⟩ := X136.virtualBack hx (y := (⟨"com/example/annalist/annalist/BodyBudget$Reservation", "growTo", "(J)Z"⟩ : MethodName)) (z := (⟨"com/example/annalist/annalist/BodyBudget$Reservation", "growTo", "(J)Z"⟩ : MethodName)) hown (mvT hZ (hw _ (List.mem_of_getElem? (i := 38) rfl))) (mvT hZ (hw _ (List.mem_of_getElem? (i := 39) rfl))) (notFace_of_selects (args := #[]) (mvT hZ (hw _ (List.mem_of_getElem? (i := 41) rfl)))) (mvT hZ (hw _ (List.mem_of_getElem? (i := 41) rfl))) (mvT hZ (hw _ (List.mem_of_getElem? (i := 40) rfl))) (by decide) (backOf (W := 0) (rmgrowF l Z a0 hw [] nb121 (own_minj (hp / (12 : Int64)) (67108864 : Int64)) nb101 (0 : Int64) (own_minj (hp / (12 : Int64)) (67108864 : Int64)) ((0 : Int64) + ((1 : Int64) - (0 : Int64))) T136.heap n0 z136' f151 f152 f153 f140 f141 f142 f143 f122 f102 (Ne.symm ne134) (own_f2 hp)) hZ (hw _ (List.mem_of_getElem? (i := 42) rfl)) (hw _ (List.mem_of_getElem? (i := 31) rfl)) (by decide) (by decide)) q154a q154c (g := (mkF m 58 #[.val (.long pa), .second, .val (.int pb), .val (.long hp), .second, .val (.long (own_minj (hp / (12 : Int64)) (67108864 : Int64))), .second, .val (.ref nb101), .val (.ref nb109), .val (.ref nb121), .val (.int (1 : Int32)), .unset, .unset] [(.long (own_minj (hp / (12 : Int64)) (67108864 : Int64))), (.ref nb121)])) rfl (by rw [hml]; rfl) (Steps.refl _) (argsL := [(.long (own_minj (hp / (12 : Int64)) (67108864 : Int64)))]) (rest := []) (lenOf pd_6 rfl) rfl (by show 2 * 0 + _ ≤ _; exact Nat.le_of_eq rfl) (hb hby at_58) (fun _ _ => ⟨rfl, rfl, (by decide : 3 + 0 ≤ _), (by decide : 6 + 0 ≤ _)⟩)
    dsimp only [Pt.U, Pt.locs, Pt.cells, Pt.slots] at X154 l154 y154 z154 st154 hQ154
    subst l154 y154 z154
    obtain ⟨rfl, N154q, K154, f155, f156, f157, f158, f159, f160, f161⟩ := hQ154
    have N154 := Fr.app N136 N154q
    have f162 : Exa Z T154.heap nb101 "com/example/annalist/annalist/BodyBudget" := f140.keep K154
    have f163 : Exa Z T154.heap nb109 "com/example/annalist/annalist/BodyBudget$Reservation" := f137.keep K154
    have f164 : Exa Z T154.heap nb121 "com/example/annalist/annalist/BodyBudget$Reservation" := f151.keep K154
    have f167 : Fld Z T154.heap nb109 "com/example/annalist/annalist/BodyBudget$Reservation" "this$0" "Lcom/example/annalist/annalist/BodyBudget;" (.ref nb101) := f138.keep K154 (ninS ne135 (ninS (Ne.symm ne119) nin0))
    have f168 : Fld Z T154.heap nb109 "com/example/annalist/annalist/BodyBudget$Reservation" "bytes" "J" (.long (1 : Int64)) := f139.keep K154 (ninS ne135 (ninS (Ne.symm ne119) nin0))
    have z154' : n0 ≤ T154.heap.size := Nat.le_trans z136' K154.1
    refine own_comes (T154.setTop (mkF m 61 #[.val (.long pa), .second, .val (.int pb), .val (.long hp), .second, .val (.long (own_minj (hp / (12 : Int64)) (67108864 : Int64))), .second, .val (.ref nb101), .val (.ref nb109), .val (.ref nb121), .val (.int (1 : Int32)), .unset, .unset] [(.int (0 : Int32))])) st154 ?_
    refine own_step (T154.setTop (mkF m 63 #[.val (.long pa), .second, .val (.int pb), .val (.long hp), .second, .val (.long (own_minj (hp / (12 : Int64)) (67108864 : Int64))), .second, .val (.ref nb101), .val (.ref nb109), .val (.ref nb121), .val (.int (1 : Int32)), .val (.int (0 : Int32)), .unset] [])) (fun t₀ k₀ => XS.istore X154.here hx rfl (hb hby at_61) rfl (l' := #[.val (.long pa), .second, .val (.int pb), .val (.long hp), .second, .val (.long (own_minj (hp / (12 : Int64)) (67108864 : Int64))), .second, .val (.ref nb101), .val (.ref nb109), .val (.ref nb121), .val (.int (1 : Int32)), .val (.int (0 : Int32)), .unset]) rfl k₀) ?_
    refine own_step (T154.setTop (mkF m 65 #[.val (.long pa), .second, .val (.int pb), .val (.long hp), .second, .val (.long (own_minj (hp / (12 : Int64)) (67108864 : Int64))), .second, .val (.ref nb101), .val (.ref nb109), .val (.ref nb121), .val (.int (1 : Int32)), .val (.int (0 : Int32)), .unset] [(.ref nb121)])) (fun t₀ k₀ => XS.aload X154.here hx rfl (hb hby at_63) rfl rfl k₀) ?_
    refine own_step (T154.setTop (mkF m 67 #[.val (.long pa), .second, .val (.int pb), .val (.long hp), .second, .val (.long (own_minj (hp / (12 : Int64)) (67108864 : Int64))), .second, .val (.ref nb101), .val (.ref nb109), .val (.ref nb121), .val (.int (1 : Int32)), .val (.int (0 : Int32)), .unset] [(.long (own_minj (hp / (12 : Int64)) (67108864 : Int64))), (.ref nb121)])) (fun t₀ k₀ => XS.lload X154.here hx rfl (hb hby at_65) rfl k₀) ?_
    refine own_step (T154.setTop (mkF m 68 #[.val (.long pa), .second, .val (.int pb), .val (.long hp), .second, .val (.long (own_minj (hp / (12 : Int64)) (67108864 : Int64))), .second, .val (.ref nb101), .val (.ref nb109), .val (.ref nb121), .val (.int (1 : Int32)), .val (.int (0 : Int32)), .unset] [(.long (1 : Int64)), (.long (own_minj (hp / (12 : Int64)) (67108864 : Int64))), (.ref nb121)])) (fun t₀ k₀ => XS.lconst X154.here hx rfl (hb hby at_67) k₀) ?_
    refine own_step (T154.setTop (mkF m 69 #[.val (.long pa), .second, .val (.int pb), .val (.long hp), .second, .val (.long (own_minj (hp / (12 : Int64)) (67108864 : Int64))), .second, .val (.ref nb101), .val (.ref nb109), .val (.ref nb121), .val (.int (1 : Int32)), .val (.int (0 : Int32)), .unset] [(.long ((own_minj (hp / (12 : Int64)) (67108864 : Int64)) - (1 : Int64))), (.ref nb121)])) (fun t₀ k₀ => XS.lsub X154.here hx rfl (hb hby at_68) rfl k₀) ?_
    obtain ⟨cq172, kq172, q172a, q172b, q172c⟩ := isOf hZ rfl f155
    obtain ⟨_, _, ⟨T172, L172, k172, n172⟩, -, X172, ⟨Lc172, hQ172, l172, y172, z172⟩, st172⟩ := X154.virtualBack hx (y := (⟨"com/example/annalist/annalist/BodyBudget$Reservation", "growTo", "(J)Z"⟩ : MethodName)) (z := (⟨"com/example/annalist/annalist/BodyBudget$Reservation", "growTo", "(J)Z"⟩ : MethodName)) hown (mvT hZ (hw _ (List.mem_of_getElem? (i := 38) rfl))) (mvT hZ (hw _ (List.mem_of_getElem? (i := 39) rfl))) (notFace_of_selects (args := #[]) (mvT hZ (hw _ (List.mem_of_getElem? (i := 41) rfl)))) (mvT hZ (hw _ (List.mem_of_getElem? (i := 41) rfl))) (mvT hZ (hw _ (List.mem_of_getElem? (i := 40) rfl))) (by decide) (backOf (W := 0) (rmgrowT l Z a0 hw [] nb121 ((own_minj (hp / (12 : Int64)) (67108864 : Int64)) - (1 : Int64)) nb101 (0 : Int64) (own_minj (hp / (12 : Int64)) (67108864 : Int64)) ((0 : Int64) + ((1 : Int64) - (0 : Int64))) T154.heap n0 z154' f155 f156 f157 f158 f159 f160 f161 f122 f102 (Ne.symm ne134) (Or.inr (own_f3 hp))) hZ (hw _ (List.mem_of_getElem? (i := 42) rfl)) (hw _ (List.mem_of_getElem? (i := 31) rfl)) (by decide) (by decide)) q172a q172c (g := (mkF m 69 #[.val (.long pa), .second, .val (.int pb), .val (.long hp), .second, .val (.long (own_minj (hp / (12 : Int64)) (67108864 : Int64))), .second, .val (.ref nb101), .val (.ref nb109), .val (.ref nb121), .val (.int (1 : Int32)), .val (.int (0 : Int32)), .unset] [(.long ((own_minj (hp / (12 : Int64)) (67108864 : Int64)) - (1 : Int64))), (.ref nb121)])) rfl (by rw [hml]; rfl) (Steps.refl _) (argsL := [(.long ((own_minj (hp / (12 : Int64)) (67108864 : Int64)) - (1 : Int64)))]) (rest := []) (lenOf pd_6 rfl) rfl (by show 2 * 0 + _ ≤ _; exact Nat.le_of_eq rfl) (hb hby at_69) (fun _ _ => ⟨rfl, rfl, (by decide : 3 + 0 ≤ _), (by decide : 6 + 0 ≤ _)⟩)
    dsimp only [Pt.U, Pt.locs, Pt.cells, Pt.slots] at X172 l172 y172 z172 st172 hQ172
    subst l172 y172 z172
    obtain ⟨rfl, N172q, K172, f173, f174, f175, f176, f177, f178, f179⟩ := hQ172
    have N172 := Fr.app N154 N172q
    have f180 : Exa Z T172.heap nb101 "com/example/annalist/annalist/BodyBudget" := f158.keep K172
    have f181 : Exa Z T172.heap nb109 "com/example/annalist/annalist/BodyBudget$Reservation" := f163.keep K172
    have f182 : Exa Z T172.heap nb121 "com/example/annalist/annalist/BodyBudget$Reservation" := f155.keep K172
    have f183 : Fld Z T172.heap nb109 "com/example/annalist/annalist/BodyBudget$Reservation" "this$0" "Lcom/example/annalist/annalist/BodyBudget;" (.ref nb101) := f167.keep K172 (ninS ne135 (ninS (Ne.symm ne119) nin0))
    have f184 : Fld Z T172.heap nb109 "com/example/annalist/annalist/BodyBudget$Reservation" "bytes" "J" (.long (1 : Int64)) := f168.keep K172 (ninS ne135 (ninS (Ne.symm ne119) nin0))
    have z172' : n0 ≤ T172.heap.size := Nat.le_trans z154' K172.1
    refine own_comes (T172.setTop (mkF m 72 #[.val (.long pa), .second, .val (.int pb), .val (.long hp), .second, .val (.long (own_minj (hp / (12 : Int64)) (67108864 : Int64))), .second, .val (.ref nb101), .val (.ref nb109), .val (.ref nb121), .val (.int (1 : Int32)), .val (.int (0 : Int32)), .unset] [(.int (1 : Int32))])) st172 ?_
    refine own_step (T172.setTop (mkF m 74 #[.val (.long pa), .second, .val (.int pb), .val (.long hp), .second, .val (.long (own_minj (hp / (12 : Int64)) (67108864 : Int64))), .second, .val (.ref nb101), .val (.ref nb109), .val (.ref nb121), .val (.int (1 : Int32)), .val (.int (0 : Int32)), .val (.int (1 : Int32))] [])) (fun t₀ k₀ => XS.istore X172.here hx rfl (hb hby at_72) rfl (l' := #[.val (.long pa), .second, .val (.int pb), .val (.long hp), .second, .val (.long (own_minj (hp / (12 : Int64)) (67108864 : Int64))), .second, .val (.ref nb101), .val (.ref nb109), .val (.ref nb121), .val (.int (1 : Int32)), .val (.int (0 : Int32)), .val (.int (1 : Int32))]) rfl k₀) ?_
    refine own_step (T172.setTop (mkF m 76 #[.val (.long pa), .second, .val (.int pb), .val (.long hp), .second, .val (.long (own_minj (hp / (12 : Int64)) (67108864 : Int64))), .second, .val (.ref nb101), .val (.ref nb109), .val (.ref nb121), .val (.int (1 : Int32)), .val (.int (0 : Int32)), .val (.int (1 : Int32))] [(.int (1 : Int32))])) (fun t₀ k₀ => XS.iload X172.here hx rfl (hb hby at_74) rfl k₀) ?_
    refine own_step (T172.setTop (mkF m 79 #[.val (.long pa), .second, .val (.int pb), .val (.long hp), .second, .val (.long (own_minj (hp / (12 : Int64)) (67108864 : Int64))), .second, .val (.ref nb101), .val (.ref nb109), .val (.ref nb121), .val (.int (1 : Int32)), .val (.int (0 : Int32)), .val (.int (1 : Int32))] [])) (fun t₀ k₀ => XS.ifNo X172.here hx rfl (hb hby at_76) rfl (by decide) k₀) ?_
    refine own_step (T172.setTop (mkF m 81 #[.val (.long pa), .second, .val (.int pb), .val (.long hp), .second, .val (.long (own_minj (hp / (12 : Int64)) (67108864 : Int64))), .second, .val (.ref nb101), .val (.ref nb109), .val (.ref nb121), .val (.int (1 : Int32)), .val (.int (0 : Int32)), .val (.int (1 : Int32))] [(.int (0 : Int32))])) (fun t₀ k₀ => XS.iload X172.here hx rfl (hb hby at_79) rfl k₀) ?_
    refine own_step (T172.setTop (mkF m 84 #[.val (.long pa), .second, .val (.int pb), .val (.long hp), .second, .val (.long (own_minj (hp / (12 : Int64)) (67108864 : Int64))), .second, .val (.ref nb101), .val (.ref nb109), .val (.ref nb121), .val (.int (1 : Int32)), .val (.int (0 : Int32)), .val (.int (1 : Int32))] [])) (fun t₀ k₀ => XS.ifNo X172.here hx rfl (hb hby at_81) rfl (by decide) k₀) ?_
    refine own_step (T172.setTop (mkF m 86 #[.val (.long pa), .second, .val (.int pb), .val (.long hp), .second, .val (.long (own_minj (hp / (12 : Int64)) (67108864 : Int64))), .second, .val (.ref nb101), .val (.ref nb109), .val (.ref nb121), .val (.int (1 : Int32)), .val (.int (0 : Int32)), .val (.int (1 : Int32))] [(.int (1 : Int32))])) (fun t₀ k₀ => XS.iload X172.here hx rfl (hb hby at_84) rfl k₀) ?_
    refine own_step (T172.setTop (mkF m 89 #[.val (.long pa), .second, .val (.int pb), .val (.long hp), .second, .val (.long (own_minj (hp / (12 : Int64)) (67108864 : Int64))), .second, .val (.ref nb101), .val (.ref nb109), .val (.ref nb121), .val (.int (1 : Int32)), .val (.int (0 : Int32)), .val (.int (1 : Int32))] [])) (fun t₀ k₀ => XS.ifNo X172.here hx rfl (hb hby at_86) rfl (by decide) k₀) ?_
    refine own_step (T172.setTop (mkF m 90 #[.val (.long pa), .second, .val (.int pb), .val (.long hp), .second, .val (.long (own_minj (hp / (12 : Int64)) (67108864 : Int64))), .second, .val (.ref nb101), .val (.ref nb109), .val (.ref nb121), .val (.int (1 : Int32)), .val (.int (0 : Int32)), .val (.int (1 : Int32))] [(.int (1 : Int32))])) (fun t₀ k₀ => XS.iconst X172.here hx rfl (hb hby at_89) k₀) ?_
    refine own_step (T172.setTop (mkF m 94 #[.val (.long pa), .second, .val (.int pb), .val (.long hp), .second, .val (.long (own_minj (hp / (12 : Int64)) (67108864 : Int64))), .second, .val (.ref nb101), .val (.ref nb109), .val (.ref nb121), .val (.int (1 : Int32)), .val (.int (0 : Int32)), .val (.int (1 : Int32))] [(.int (1 : Int32))])) (fun t₀ k₀ => XS.goto X172.here hx rfl (pc0 := 90) (pc' := 94) rfl (hb hby at_90) (by decide) (by decide) k₀) ?_
    obtain ⟨fs, hr, hrun, hended, hW, hsame⟩ := X172.leave (v := some (.int (1 : Int32))) (fun h => by rw [Bd.returns] at h; cases h)
    refine ⟨_, _, ?_, hrun, hended, _, _, rfl, ?_, ⟨_, rfl⟩, hW, hsame.mono (by decide) (by decide)⟩
    · exact retN X172 hx (t := .boolean) Bd.returns (by simp) (hb hby at_94) hr
    · show Q_rm0 Z pa pb h0 n0 _ T172.heap _
      exact ⟨rfl, N172⟩
  show own_Go p e below (fun s₂ o₉ => s₂.status = .running ∧ Ended s₂ below o₉ ∧ ∃ v L, o₉ = .returned v ∧ Q_rm0 Z pa pb h0 n0 v s₂.heap L ∧ FrameEnd s o₉ s₂ L room_1.cells room_1.slots) (s₁.setTop (entryFrame m #[(.long pa), (.int pb)] maxLocals))
  rw [ef_rm0 m pa pb]
  refine own_step (s₁.setTop (mkF m 1 #[.val (.long pa), .second, .val (.int pb), .unset, .unset, .unset, .unset, .unset, .unset, .unset, .unset, .unset, .unset] [(.int pb)])) (fun t₀ k₀ => XS.iloadN X0.here hx rfl (hb hby at_0) rfl k₀) ?_
  refine own_step (s₁.setTop (mkF m 2 #[.val (.long pa), .second, .val (.int pb), .unset, .unset, .unset, .unset, .unset, .unset, .unset, .unset, .unset, .unset] [(.int (1 : Int32)), (.int pb)])) (fun t₀ k₀ => XS.iconst X0.here hx rfl (hb hby at_1) k₀) ?_
  refine own_step (s₁.setTop (mkF m 3 #[.val (.long pa), .second, .val (.int pb), .unset, .unset, .unset, .unset, .unset, .unset, .unset, .unset, .unset, .unset] [(.int (pb &&& (1 : Int32)))])) (fun t₀ k₀ => XS.iand X0.here hx rfl (hb hby at_2) rfl k₀) ?_
  by_cases hc3 : (pb &&& (1 : Int32)) = (0 : Int32)
  · skip
    refine own_step (s₁.setTop (mkF m 10 #[.val (.long pa), .second, .val (.int pb), .unset, .unset, .unset, .unset, .unset, .unset, .unset, .unset, .unset, .unset] [])) (fun t₀ k₀ => XS.ifYes X0.here hx rfl (pc0 := 3) (pc' := 10) rfl (hb hby at_3) rfl ((if0 _ _).trans (teq hc3).1) (by decide) (by decide) k₀) ?_
    refine own_step (s₁.setTop (mkF m 11 #[.val (.long pa), .second, .val (.int pb), .unset, .unset, .unset, .unset, .unset, .unset, .unset, .unset, .unset, .unset] [(.int pb)])) (fun t₀ k₀ => XS.iloadN X0.here hx rfl (hb hby at_10) rfl k₀) ?_
    refine own_step (s₁.setTop (mkF m 12 #[.val (.long pa), .second, .val (.int pb), .unset, .unset, .unset, .unset, .unset, .unset, .unset, .unset, .unset, .unset] [(.long (pb.toInt64))])) (fun t₀ k₀ => XS.i2l X0.here hx rfl (hb hby at_11) rfl k₀) ?_
    exact cut12 (pb.toInt64) _ X0 e0
  · skip
    refine own_step (s₁.setTop (mkF m 6 #[.val (.long pa), .second, .val (.int pb), .unset, .unset, .unset, .unset, .unset, .unset, .unset, .unset, .unset, .unset] [])) (fun t₀ k₀ => XS.ifNo X0.here hx rfl (hb hby at_3) rfl ((if0 _ _).trans (feq hc3).1) k₀) ?_
    refine own_step (s₁.setTop (mkF m 7 #[.val (.long pa), .second, .val (.int pb), .unset, .unset, .unset, .unset, .unset, .unset, .unset, .unset, .unset, .unset] [(.long pa)])) (fun t₀ k₀ => XS.lloadN X0.here hx rfl (hb hby at_6) rfl k₀) ?_
    refine own_step (s₁.setTop (mkF m 12 #[.val (.long pa), .second, .val (.int pb), .unset, .unset, .unset, .unset, .unset, .unset, .unset, .unset, .unset, .unset] [(.long pa)])) (fun t₀ k₀ => XS.goto X0.here hx rfl (pc0 := 7) (pc' := 12) rfl (hb hby at_7) (by decide) (by decide) k₀) ?_
    exact cut12 pa _ X0 e0
set_option maxRecDepth 65536 in
set_option maxHeartbeats 40000000 in
theorem comes_1 {Post : Tables → Env → Array Value → State → Outcome → State → Prop} (hpost : ∀ tb e args s v u, (limb_1_1.after args s (.returned v) u = true ∧ limb_1_2.after args s (.returned v) u = true ∧ True) → FrameEnd s (.returned v) u (Jvm.fieldLocs frame_1_writes args s ++ Jvm.arrayLocs frame_1_arrays args s ++ Jvm.staticLocs frame_1_statics s) 16 128 → Post tb e args s (.returned v) u) :
    ArmFor flags0 classFile x code maxLocals ret World_1 tables_1 room_1 Calls_1 rest_1 Pre_1 Post := by
  intro l hfl _ _ p e ha hc hk s m args below hf hA hF happ hP
  obtain ⟨hcalls, hrest, hpre⟩ := hP
  obtain ⟨-, -, -, hnamed, -, -, -, hat⟩ := (Spec.applies_iff hf).mp happ
  obtain ⟨hg, hn⟩ := and_e (Cond.before_iff.mp (show (Jvm.Cond.and given_1 narrow_1).before args s = true from hpre))
  obtain ⟨hcount, hg0⟩ := and_e hg
  obtain ⟨ga0, hg1⟩ := and_e hg0
  have ga1 := hg1
  obtain ⟨w0, w1, rfl⟩ : ∃ w0 w1 : Value, args = #[w0, w1] := by
    have hs : args.size = 2 := by simpa [Cond.value, given_1] using hcount
    obtain ⟨L⟩ := args
    match L, hs with
    | [w0, w1], _ => exact ⟨w0, w1, rfl⟩
  have hw := fun d (hd : d ∈ tables_1) => atoms_spec (ws := Jvm.Cond.code x code maxLocals ret :: tables_1) hat d (List.mem_cons_of_mem _ hd)
  have hfit : Fit s := fun {y c} hc i hi => by
    obtain ⟨ha, rfl⟩ := Array.getElem?_eq_some_iff.mp hc
    have q := List.all_eq_true.mp ((Array.all_eq_true_iff_forall_mem.mp hF) _ (Array.getElem_mem ha)) i (List.mem_range.mpr hi)
    simpa [Array.getElem?_eq_getElem hi] using q
  obtain ⟨i0, ei0⟩ := isL_v ga0
  obtain rfl : w0 = (.long i0) := Option.some.inj ei0
  obtain ⟨i1, ei1⟩ := is_v ga1
  obtain rfl : w1 = (.int i1) := Option.some.inj ei1
  obtain ⟨n, o, h1, h2, h3, _, L, rfl, ⟨rfl, N⟩, hq⟩ := rm0 l s _ hw tables_1 i0 i1 s.heap s.heap.size (Nat.le_refl _) p e ha hc hk s m _ below hf ((Spec.applies_iff_loose hf).mp happ).1 ⟨rfl, State.Warmed39.refl s, rfl⟩ trivial
  refine ⟨n, _, h1, h2, h3, hpost _ _ _ _ _ _ ⟨Cond.after_iff.mpr rfl, Cond.after_iff.mpr (eq_i res_at (Term.int_eval (1)) rfl), trivial⟩ ⟨hq.1, hq.2.1, (hq.2.2.sift fun y hy => Or.inr (N y hy)).mono (by decide) (by decide)⟩⟩
theorem main_1_1 : Claimed_1_1 := comes_1 fun _ _ _ _ _ _ h hF => ⟨h.1, hF⟩
theorem main_1_2 : Claimed_1_2 := comes_1 fun _ _ _ _ _ _ h hF => ⟨h.2.1, hF⟩
end Jvm.Pilot.@@N@@
namespace Jvm.Pilot.@@N@@
open Jvm Jvm.ClassFile Sem Op Lib Jvm.Free Jvm.Stand Jvm.Pilot.@@N@@.Jvm.D
/-! MADE BY PROGRAM (witnessworld.py) out of the Statement's table words and the real class files: 12 classes; the members and pool entries that the words name. The judged class is class 1, her method 1. -/
namespace start1
open Jvm.ClassFile
def u (s : String) : CpInfo := .utf8 (stringToUtf16 s)
/-- a pool by its gaps: so many unusable entries, then the entry; so many at the end -/
def gap : Nat → List CpInfo → List CpInfo
  | 0, r => r
  | n + 1, r => .unusable :: gap n r
def poolList (es : List (Nat × CpInfo)) (last : Nat) : List CpInfo := es.foldr (fun e r => gap e.1 (e.2 :: r)) (gap last [])
def pool (es : List (Nat × CpInfo)) (last : Nat) : Array CpInfo := ⟨poolList es last⟩
def fileOf (pool : Array CpInfo) (this : Nat) (attrs : Array Attribute := #[]) (ms : Array MethodInfo := #[]) (fl : Nat := 33) (sup : Nat := 0) (ifs : Array Nat := #[]) (fds : Array FieldInfo := #[]) : ClassFile where
  minorVersion := 0
  majorVersion := 65
  constantPool := pool
  accessFlags := fl
  thisClass := this
  superClass := sup
  interfaces := ifs
  fields := fds
  methods := ms
  attributes := attrs
def plain (name : String) (sup : Option ClassId) : Class where
  name := name
  kind := .ordinary
  loader := none
  accessFlags := 33
  super := sup
  interfaces := #[]
  cf := none
  fields := #[]
  methods := #[]
  instanceTypes := #[]
  staticTypes := #[]
  resolved := #[]
  callSites := []
  init := .initialized
  statics := none
  mirror := none

def pool0 : Array CpInfo := pool [(5, u "<init>"), (0, u "()V"), (1, .class_ 10), (1, u "java/lang/Object")] 113

def k0c0 : Code := { maxStack := 0, maxLocals := 1, code := object_method_1_code, exceptionTable := #[], attributes := #[] }
def k0m0 : Method := { name := "<init>", desc := "()V", sig := { parameters := [], returnType := none }, accessFlags := 1, code := some k0c0 }
/-- java/lang/Object -/
def k0 : Class := { plain "java/lang/Object" none with
  accessFlags := 33
  interfaces := #[]
  cf := some (fileOf pool0 8 #[] #[{ accessFlags := 1, nameIndex := 5, descriptorIndex := 6, attributes := #[] }] 33 0 #[] #[])
  fields := #[]
  methods := #[k0m0]
  instanceTypes := #[]
  staticTypes := #[]
  resolved := Array.replicate 124 none
  statics := none }

def pool1 : Array CpInfo := pool [(2, .class_ 4), (1, u "java/lang/Object"), (0, u "<init>"), (0, u "()V"), (0, .long 12), (1, .long 67108864), (1, .methodref 12 13), (0, .class_ 14), (0, .nameAndType 15 16), (0, u "java/lang/Math"), (0, u "min"), (0, u "(JJ)J"), (0, .methodref 18 19), (0, .class_ 20), (0, .nameAndType 21 22), (0, u "com/example/annalist/annalist/BodyBudget"), (0, u "forHeap"), (0, u "(J)Lcom/example/annalist/annalist/BodyBudget;"), (0, .methodref 18 24), (0, .nameAndType 25 26), (0, u "reserve"), (0, u "()Lcom/example/annalist/annalist/BodyBudget$Reservation;"), (0, .methodref 28 29), (0, .class_ 30), (0, .nameAndType 31 32), (0, u "com/example/annalist/annalist/BodyBudget$Reservation"), (0, u "growTo"), (0, u "(J)Z"), (0, .class_ 34), (0, u "com/example/annalist/annalist/BodyBudgetForHeapPinLaw"), (2, u "law"), (0, u "(JI)Z")] 5

def k1m0 : Method := { name := "<init>", desc := "()V", sig := { parameters := [], returnType := none }, accessFlags := 1, code := none }
def k1c1 : Code := { maxStack := 5, maxLocals := 13, code := code, exceptionTable := #[], attributes := #[] }
def k1m1 : Method := { name := "law", desc := "(JI)Z", sig := { parameters := [.long, .int], returnType := some .boolean }, accessFlags := 9, code := some k1c1 }
/-- com/example/annalist/annalist/BodyBudgetForHeapPinLaw -/
def k1 : Class := { plain "com/example/annalist/annalist/BodyBudgetForHeapPinLaw" (some 0) with
  accessFlags := 49
  interfaces := #[]
  cf := some (fileOf pool1 33 #[] #[{ accessFlags := 1, nameIndex := 5, descriptorIndex := 6, attributes := #[] }, { accessFlags := 9, nameIndex := 37, descriptorIndex := 38, attributes := #[] }] 49 2 #[] #[])
  fields := #[]
  methods := #[k1m0, k1m1]
  instanceTypes := #[]
  staticTypes := #[]
  resolved := Array.replicate 44 none
  statics := none }

def pool2 : Array CpInfo := pool [(1, .class_ 2), (0, u "java/lang/Math"), (1, .class_ 6), (1, u "java/lang/Object"), (0, u "<init>"), (0, u "()V"), (89, .class_ 100), (1, u "java/lang/Math$RandomNumberGeneratorHolder"), (20, u "(JJ)J"), (50, u "negativeZeroFloatBits"), (0, u "J"), (2, u "negativeZeroDoubleBits"), (24, u "min"), (43, u "$assertionsDisabled"), (0, u "Z"), (91, u "twoToTheDoubleScaleDown"), (0, u "D"), (4, u "twoToTheDoubleScaleUp"), (9, u "E"), (3, u "PI"), (2, u "TAU"), (2, u "DEGREES_TO_RADIANS"), (0, u "RADIANS_TO_DEGREES")] 94

def k2m0 : Method := { name := "<init>", desc := "()V", sig := { parameters := [], returnType := none }, accessFlags := 2, code := none }
def k2c1 : Code := { maxStack := 4, maxLocals := 4, code := jdk_29_method_70_code, exceptionTable := #[], attributes := #[] }
def k2m1 : Method := { name := "min", desc := "(JJ)J", sig := { parameters := [.long, .long], returnType := some .long }, accessFlags := 9, code := some k2c1 }
/-- java/lang/Math -/
def k2 : Class := { plain "java/lang/Math" (some 0) with
  accessFlags := 49
  interfaces := #[]
  cf := some (fileOf pool2 1 #[.nestMembers #[98]] #[{ accessFlags := 2, nameIndex := 7, descriptorIndex := 8, attributes := #[] }, { accessFlags := 9, nameIndex := 201, descriptorIndex := 121, attributes := #[] }] 49 4 #[] #[{ accessFlags := 25, nameIndex := 354, descriptorIndex := 339, attributes := #[] }, { accessFlags := 25, nameIndex := 358, descriptorIndex := 339, attributes := #[] }, { accessFlags := 25, nameIndex := 361, descriptorIndex := 339, attributes := #[] }, { accessFlags := 26, nameIndex := 364, descriptorIndex := 339, attributes := #[] }, { accessFlags := 26, nameIndex := 365, descriptorIndex := 339, attributes := #[] }, { accessFlags := 26, nameIndex := 172, descriptorIndex := 173, attributes := #[] }, { accessFlags := 26, nameIndex := 176, descriptorIndex := 173, attributes := #[] }, { accessFlags := 8, nameIndex := 344, descriptorIndex := 339, attributes := #[] }, { accessFlags := 8, nameIndex := 338, descriptorIndex := 339, attributes := #[] }, { accessFlags := 4120, nameIndex := 245, descriptorIndex := 246, attributes := #[] }])
  fields := #[{ name := "E", type := .double, accessFlags := 25, slot := 0, constantValue := 0 }, { name := "PI", type := .double, accessFlags := 25, slot := 1, constantValue := 0 }, { name := "TAU", type := .double, accessFlags := 25, slot := 2, constantValue := 0 }, { name := "DEGREES_TO_RADIANS", type := .double, accessFlags := 26, slot := 3, constantValue := 0 }, { name := "RADIANS_TO_DEGREES", type := .double, accessFlags := 26, slot := 4, constantValue := 0 }, { name := "negativeZeroFloatBits", type := .long, accessFlags := 26, slot := 5, constantValue := 0 }, { name := "negativeZeroDoubleBits", type := .long, accessFlags := 26, slot := 6, constantValue := 0 }, { name := "twoToTheDoubleScaleUp", type := .double, accessFlags := 8, slot := 7, constantValue := 0 }, { name := "twoToTheDoubleScaleDown", type := .double, accessFlags := 8, slot := 8, constantValue := 0 }, { name := "$assertionsDisabled", type := .boolean, accessFlags := 4120, slot := 9, constantValue := 0 }]
  methods := #[k2m0, k2m1]
  instanceTypes := #[]
  staticTypes := #[.double, .double, .double, .double, .double, .long, .long, .double, .double, .boolean]
  resolved := Array.replicate 460 none
  statics := none }

def pool3 : Array CpInfo := pool [(1, .methodref 2 3), (0, .class_ 4), (0, .nameAndType 5 6), (0, u "java/lang/Object"), (0, u "<init>"), (0, u "()V"), (0, .fieldref 8 9), (0, .class_ 10), (0, .nameAndType 11 12), (0, u "com/example/annalist/annalist/BodyBudget"), (0, u "capacity"), (0, u "J"), (0, .long 2), (1, .long 6), (1, .long 67108864), (1, .methodref 20 21), (0, .class_ 22), (0, .nameAndType 23 24), (0, u "java/lang/Math"), (0, u "min"), (0, u "(JJ)J"), (0, .methodref 8 26), (0, .nameAndType 5 27), (0, u "(J)V"), (0, .class_ 29), (0, u "com/example/annalist/annalist/BodyBudget$Reservation"), (0, .methodref 28 31), (0, .nameAndType 5 32), (0, u "(Lcom/example/annalist/annalist/BodyBudget;)V"), (0, .fieldref 8 34), (0, .nameAndType 35 12), (0, u "reserved"), (0, u "HEAP_PER_BODY_BYTE"), (0, u "I"), (2, u "MOST_BYTES"), (2, u "forHeap"), (0, u "(J)Lcom/example/annalist/annalist/BodyBudget;"), (0, u "reserve"), (0, u "()Lcom/example/annalist/annalist/BodyBudget$Reservation;"), (0, u "take"), (0, u "(JJ)Z")] 7

def k3c0 : Code := { maxStack := 3, maxLocals := 3, code := prog_1_method_1_code, exceptionTable := #[], attributes := #[] }
def k3m0 : Method := { name := "<init>", desc := "(J)V", sig := { parameters := [.long], returnType := none }, accessFlags := 0, code := some k3c0 }
def k3c1 : Code := { maxStack := 6, maxLocals := 2, code := prog_1_method_2_code, exceptionTable := #[], attributes := #[] }
def k3m1 : Method := { name := "forHeap", desc := "(J)Lcom/example/annalist/annalist/BodyBudget;", sig := { parameters := [.long], returnType := some (.object "com/example/annalist/annalist/BodyBudget") }, accessFlags := 8, code := some k3c1 }
def k3c2 : Code := { maxStack := 3, maxLocals := 1, code := prog_1_method_3_code, exceptionTable := #[], attributes := #[] }
def k3m2 : Method := { name := "reserve", desc := "()Lcom/example/annalist/annalist/BodyBudget$Reservation;", sig := { parameters := [], returnType := some (.object "com/example/annalist/annalist/BodyBudget$Reservation") }, accessFlags := 0, code := some k3c2 }
def k3c3 : Code := { maxStack := 5, maxLocals := 6, code := ⟨#[0x2a, 0xb4, 0x00, 0x21, 0x1f, 0x94, 0x9a, 0x00, 0x07, 0x04, 0xa7, 0x00, 0x04, 0x03, 0x36, 0x05, 0x15, 0x05, 0x9a, 0x00, 0x13, 0x2a, 0xb4, 0x00, 0x21, 0x21, 0x61, 0x2a, 0xb4, 0x00, 0x07, 0x94, 0x9e, 0x00, 0x05, 0x03, 0xac, 0x2a, 0x59, 0xb4, 0x00, 0x21, 0x21, 0x61, 0xb5, 0x00, 0x21, 0x04, 0xac]⟩, exceptionTable := #[], attributes := #[] }
def k3m3 : Method := { name := "take", desc := "(JJ)Z", sig := { parameters := [.long, .long], returnType := some .boolean }, accessFlags := 34, code := some k3c3 }
/-- com/example/annalist/annalist/BodyBudget -/
def k3 : Class := { plain "com/example/annalist/annalist/BodyBudget" (some 0) with
  accessFlags := 48
  interfaces := #[]
  cf := some (fileOf pool3 8 #[.nestMembers #[28]] #[{ accessFlags := 0, nameIndex := 5, descriptorIndex := 27, attributes := #[] }, { accessFlags := 8, nameIndex := 43, descriptorIndex := 44, attributes := #[] }, { accessFlags := 0, nameIndex := 45, descriptorIndex := 46, attributes := #[] }, { accessFlags := 34, nameIndex := 47, descriptorIndex := 48, attributes := #[] }] 48 2 #[] #[{ accessFlags := 24, nameIndex := 36, descriptorIndex := 37, attributes := #[] }, { accessFlags := 24, nameIndex := 40, descriptorIndex := 12, attributes := #[] }, { accessFlags := 18, nameIndex := 11, descriptorIndex := 12, attributes := #[] }, { accessFlags := 2, nameIndex := 35, descriptorIndex := 12, attributes := #[] }])
  fields := #[{ name := "HEAP_PER_BODY_BYTE", type := .int, accessFlags := 24, slot := 0, constantValue := 0 }, { name := "MOST_BYTES", type := .long, accessFlags := 24, slot := 1, constantValue := 0 }, { name := "capacity", type := .long, accessFlags := 18, slot := 0, constantValue := 0 }, { name := "reserved", type := .long, accessFlags := 2, slot := 1, constantValue := 0 }]
  methods := #[k3m0, k3m1, k3m2, k3m3]
  instanceTypes := #[.long, .long]
  staticTypes := #[.int, .long]
  resolved := (((Array.replicate 56 none).setIfInBounds 28 (some (.cls 5))).setIfInBounds 30 (some (.method ⟨5, 0⟩)))
  statics := none }

def pool4 : Array CpInfo := pool [(1, .class_ 2), (0, u "java/lang/AutoCloseable"), (0, .class_ 4), (0, u "java/lang/Object")] 7

/-- java/lang/AutoCloseable -/
def k4 : Class := { plain "java/lang/AutoCloseable" (some 0) with
  accessFlags := 1537
  interfaces := #[]
  cf := some (fileOf pool4 1 #[] #[] 1537 3 #[] #[])
  fields := #[]
  methods := #[]
  instanceTypes := #[]
  staticTypes := #[]
  resolved := Array.replicate 12 none
  statics := none }

def pool5 : Array CpInfo := pool [(1, .fieldref 2 3), (0, .class_ 4), (0, .nameAndType 5 6), (0, u "com/example/annalist/annalist/BodyBudget$Reservation"), (0, u "this$0"), (0, u "Lcom/example/annalist/annalist/BodyBudget;"), (0, .methodref 8 9), (0, .class_ 10), (0, .nameAndType 11 12), (0, u "java/lang/Object"), (0, u "<init>"), (0, u "()V"), (0, .fieldref 2 14), (0, .nameAndType 15 16), (0, u "bytes"), (0, u "J"), (0, .methodref 18 19), (0, .class_ 20), (0, .nameAndType 21 22), (0, u "com/example/annalist/annalist/BodyBudget"), (0, u "take"), (0, u "(JJ)Z"), (4, .class_ 28), (0, u "java/lang/AutoCloseable"), (0, u "(Lcom/example/annalist/annalist/BodyBudget;)V"), (3, u "growTo"), (0, u "(J)Z")] 7

def k5c0 : Code := { maxStack := 2, maxLocals := 2, code := prog_2_method_1_code, exceptionTable := #[], attributes := #[] }
def k5m0 : Method := { name := "<init>", desc := "(Lcom/example/annalist/annalist/BodyBudget;)V", sig := { parameters := [(.object "com/example/annalist/annalist/BodyBudget")], returnType := none }, accessFlags := 2, code := some k5c0 }
def k5c1 : Code := { maxStack := 7, maxLocals := 4, code := prog_2_method_2_code, exceptionTable := #[], attributes := #[] }
def k5m1 : Method := { name := "growTo", desc := "(J)Z", sig := { parameters := [.long], returnType := some .boolean }, accessFlags := 0, code := some k5c1 }
/-- com/example/annalist/annalist/BodyBudget$Reservation -/
def k5 : Class := { plain "com/example/annalist/annalist/BodyBudget$Reservation" (some 0) with
  accessFlags := 48
  interfaces := #[4]
  cf := some (fileOf pool5 2 #[.nestHost 18] #[{ accessFlags := 2, nameIndex := 11, descriptorIndex := 29, attributes := #[] }, { accessFlags := 0, nameIndex := 33, descriptorIndex := 34, attributes := #[] }] 48 8 #[27] #[{ accessFlags := 2, nameIndex := 15, descriptorIndex := 16, attributes := #[] }, { accessFlags := 4112, nameIndex := 5, descriptorIndex := 6, attributes := #[] }])
  fields := #[{ name := "bytes", type := .long, accessFlags := 2, slot := 0, constantValue := 0 }, { name := "this$0", type := (.object "com/example/annalist/annalist/BodyBudget"), accessFlags := 4112, slot := 1, constantValue := 0 }]
  methods := #[k5m0, k5m1]
  instanceTypes := #[.long, (.object "com/example/annalist/annalist/BodyBudget")]
  staticTypes := #[]
  resolved := Array.replicate 42 none
  statics := none }

def pool6 : Array CpInfo := pool [(1, u "java/lang/Cloneable"), (0, .class_ 1), (0, u "java/lang/Object"), (0, .class_ 3)] 3

/-- java/lang/Cloneable -/
def k6 : Class := { plain "java/lang/Cloneable" (some 0) with
  accessFlags := 1537
  interfaces := #[]
  cf := some (fileOf pool6 2 #[] #[] 1537 4 #[] #[])
  fields := #[]
  methods := #[]
  instanceTypes := #[]
  staticTypes := #[]
  resolved := Array.replicate 8 none
  statics := none }

def pool7 : Array CpInfo := pool [(1, u "java/io/Serializable"), (0, .class_ 1), (0, u "java/lang/Object"), (0, .class_ 3)] 3

/-- java/io/Serializable -/
def k7 : Class := { plain "java/io/Serializable" (some 0) with
  accessFlags := 1537
  interfaces := #[]
  cf := some (fileOf pool7 2 #[] #[] 1537 4 #[] #[])
  fields := #[]
  methods := #[]
  instanceTypes := #[]
  staticTypes := #[]
  resolved := Array.replicate 8 none
  statics := none }

/-- the primitive byte -/
def k8 : Class := { plain "byte" none with kind := .primitive 'B', accessFlags := 0x411 }
/-- [B -/
def k9 : Class := { plain "[B" (some 0) with kind := .array 8 .byte, interfaces := #[6, 7], accessFlags := 1041 }

/-- the primitive int -/
def k10 : Class := { plain "int" none with kind := .primitive 'I', accessFlags := 0x411 }
/-- [I -/
def k11 : Class := { plain "[I" (some 0) with kind := .array 10 .int, interfaces := #[6, 7], accessFlags := 1041 }

def heap : Heap := #[]
def classes : Array Class := #[k0, k1, k2, k3, k4, k5, k6, k7, k8, k9, k10, k11]
def interned : List (Array UInt16 × Addr) := []
def slotsUsed : Nat := 0
def theMethod : MethodId := ⟨1, 1⟩
def args0 : Array Value := #[.long 5, .int 7]
def aboutOver (below : List Frame) : State where
  vm := { classes := classes, interned := interned.toArray }
  heap := heap
  slotsUsed := slotsUsed
  threads := #[{ frames := .invoking theMethod args0 :: below }]
def below0 : List Frame := [.native { method := ⟨0, 0⟩, args := #[] }]
def about1 : State := aboutOver below0
def p0 : Program := .bare "" "" ""
def e0 : Env := launch0.env 0 0 0
theorem w_frames : about1.frames = Frame.invoking theMethod args0 :: below0 := rfl
set_option maxRecDepth 65536 in
theorem w_args : argsFit about1.vm theMethod args0 = true := by decide +kernel
set_option maxRecDepth 65536 in
theorem w_heap : heapFits about1 = true := by decide +kernel
set_option maxRecDepth 65536 in
theorem w_runnable : about1.curStatus? = some .runnable := by decide +kernel
set_option maxRecDepth 65536 in
theorem w_alone : about1.alone = true := by decide +kernel
set_option maxRecDepth 65536 in
theorem w_named : about1.methodNamed? x = some theMethod := by decide +kernel
set_option maxRecDepth 65536 in
theorem w_hears : about1.hears theMethod below0 = true := by decide +kernel
set_option maxRecDepth 65536 in
theorem w_ripe : about1.ripe theMethod args0 below0 = true := by decide +kernel
theorem w_running : about1.status = .running := rfl
set_option maxRecDepth 65536 in
theorem w_room : about1.hasRoom e0.platform room_1 = true :=
  launch0.hasRoom_least _ room_1 (by decide +kernel) (by decide +kernel) (by decide +kernel) (by decide +kernel) (by decide +kernel) (by decide +kernel)
theorem allAtoms_all (ts : List Jvm.Cond) (a : Array Jvm.Value) (st : Jvm.State) : (allAtoms ts).before a st = ts.all (fun c => c.before a st) := by
  induction ts with
  | nil => rfl
  | cons c t ih =>
    show (Jvm.Cond.and c (allAtoms t)).before a st = _
    rw [Jvm.Cond.before_and, ih, List.all_cons]
def words1 : List Jvm.Cond := Jvm.Cond.code x code maxLocals ret :: tables_1
/-- a 'code' word, met by the world's own term for the bytes: nothing is compared byte by byte -/
theorem code_word {y : MethodName} {bytes : ByteArray} {mx : Nat} {rt : Option FieldType} {a : Array Value} {s : State} {m : MethodId} {meth : Method} {c : Code} (h1 : s.methodNamed? y = some m) (h2 : s.vm.method? m = some meth) (h3 : meth.code = some c) (h4 : c.code = bytes)
    (h5 : (c.maxLocals == mx && c.exceptionTable.isEmpty && decide (c.maxStack ≤ mostOperands) && decide (meth.sig.returnType = rt) && !meth.locks && decide (parseMethodDescriptor y.desc = some meth.sig)) = true) : (Jvm.Cond.code y bytes mx rt).before a s = true := by
  simp only [Bool.and_eq_true, beq_iff_eq, Bool.not_eq_true', decide_eq_true_eq] at h5
  obtain ⟨⟨⟨⟨⟨g1, g2⟩, g3⟩, g4⟩, g5⟩, g6⟩ := h5
  simp [Cond.before, Cond.holds, Cond.value, h1, h2, h3, h4, g1, g2, g3, g4, g5, g6]
def isCode : Jvm.Cond → Bool
  | .code _ _ _ _ => true
  | _ => false
theorem all_split {L : List Jvm.Cond} {P : Jvm.Cond → Bool} (h1 : L.all (fun c => isCode c || P c) = true) (h2 : ∀ c ∈ L.filter isCode, P c = true) : L.all P = true := by
  refine List.all_eq_true.mpr fun c hc => ?_
  have h := List.all_eq_true.mp h1 c hc
  rcases Bool.eq_false_or_eq_true (isCode c) with hi | hi
  · exact h2 c (List.mem_filter.mpr ⟨hc, hi⟩)
  · simpa [hi] using h
set_option maxRecDepth 65536 in
theorem w_c0 : (Jvm.Cond.code x code maxLocals ret).before args0 about1 = true := code_word (m := ⟨1, 1⟩) (meth := k1m1) (c := k1c1) (by decide +kernel) rfl rfl rfl (by decide +kernel)
set_option maxRecDepth 65536 in
theorem w_c1 : (Jvm.Cond.code ({ cls := "java/lang/Math", name := "min", desc := "(JJ)J" } : Jvm.MethodName) jdk_29_method_70_code (4 : Nat) (Option.some Jvm.ClassFile.FieldType.long)).before args0 about1 = true := code_word (m := ⟨2, 1⟩) (meth := k2m1) (c := k2c1) (by decide +kernel) rfl rfl rfl (by decide +kernel)
set_option maxRecDepth 65536 in
theorem w_c2 : (Jvm.Cond.code ({ cls := "com/example/annalist/annalist/BodyBudget", name := "forHeap", desc := "(J)Lcom/example/annalist/annalist/BodyBudget;" } : Jvm.MethodName) prog_1_method_2_code (2 : Nat) (Option.some (Jvm.ClassFile.FieldType.object "com/example/annalist/annalist/BodyBudget"))).before args0 about1 = true := code_word (m := ⟨3, 1⟩) (meth := k3m1) (c := k3c1) (by decide +kernel) rfl rfl rfl (by decide +kernel)
set_option maxRecDepth 65536 in
theorem w_c3 : (Jvm.Cond.code ({ cls := "com/example/annalist/annalist/BodyBudget", name := "<init>", desc := "(J)V" } : Jvm.MethodName) prog_1_method_1_code (3 : Nat) (Option.none : Option Jvm.ClassFile.FieldType)).before args0 about1 = true := code_word (m := ⟨3, 0⟩) (meth := k3m0) (c := k3c0) (by decide +kernel) rfl rfl rfl (by decide +kernel)
set_option maxRecDepth 65536 in
theorem w_c4 : (Jvm.Cond.code ({ cls := "java/lang/Object", name := "<init>", desc := "()V" } : Jvm.MethodName) object_method_1_code (1 : Nat) (Option.none : Option Jvm.ClassFile.FieldType)).before args0 about1 = true := code_word (m := ⟨0, 0⟩) (meth := k0m0) (c := k0c0) (by decide +kernel) rfl rfl rfl (by decide +kernel)
set_option maxRecDepth 65536 in
theorem w_c5 : (Jvm.Cond.code ({ cls := "com/example/annalist/annalist/BodyBudget", name := "reserve", desc := "()Lcom/example/annalist/annalist/BodyBudget$Reservation;" } : Jvm.MethodName) prog_1_method_3_code (1 : Nat) (Option.some (Jvm.ClassFile.FieldType.object "com/example/annalist/annalist/BodyBudget$Reservation"))).before args0 about1 = true := code_word (m := ⟨3, 2⟩) (meth := k3m2) (c := k3c2) (by decide +kernel) rfl rfl rfl (by decide +kernel)
set_option maxRecDepth 65536 in
theorem w_c6 : (Jvm.Cond.code ({ cls := "com/example/annalist/annalist/BodyBudget$Reservation", name := "<init>", desc := "(Lcom/example/annalist/annalist/BodyBudget;)V" } : Jvm.MethodName) prog_2_method_1_code (2 : Nat) (Option.none : Option Jvm.ClassFile.FieldType)).before args0 about1 = true := code_word (m := ⟨5, 0⟩) (meth := k5m0) (c := k5c0) (by decide +kernel) rfl rfl rfl (by decide +kernel)
set_option maxRecDepth 65536 in
theorem w_c7 : (Jvm.Cond.code ({ cls := "com/example/annalist/annalist/BodyBudget$Reservation", name := "growTo", desc := "(J)Z" } : Jvm.MethodName) prog_2_method_2_code (4 : Nat) (Option.some Jvm.ClassFile.FieldType.boolean)).before args0 about1 = true := code_word (m := ⟨5, 1⟩) (meth := k5m1) (c := k5c1) (by decide +kernel) rfl rfl rfl (by decide +kernel)
def codes1 : List Jvm.Cond := [Jvm.Cond.code x code maxLocals ret, Jvm.Cond.code ({ cls := "java/lang/Math", name := "min", desc := "(JJ)J" } : Jvm.MethodName) jdk_29_method_70_code (4 : Nat) (Option.some Jvm.ClassFile.FieldType.long), Jvm.Cond.code ({ cls := "com/example/annalist/annalist/BodyBudget", name := "forHeap", desc := "(J)Lcom/example/annalist/annalist/BodyBudget;" } : Jvm.MethodName) prog_1_method_2_code (2 : Nat) (Option.some (Jvm.ClassFile.FieldType.object "com/example/annalist/annalist/BodyBudget")), Jvm.Cond.code ({ cls := "com/example/annalist/annalist/BodyBudget", name := "<init>", desc := "(J)V" } : Jvm.MethodName) prog_1_method_1_code (3 : Nat) (Option.none : Option Jvm.ClassFile.FieldType), Jvm.Cond.code ({ cls := "java/lang/Object", name := "<init>", desc := "()V" } : Jvm.MethodName) object_method_1_code (1 : Nat) (Option.none : Option Jvm.ClassFile.FieldType), Jvm.Cond.code ({ cls := "com/example/annalist/annalist/BodyBudget", name := "reserve", desc := "()Lcom/example/annalist/annalist/BodyBudget$Reservation;" } : Jvm.MethodName) prog_1_method_3_code (1 : Nat) (Option.some (Jvm.ClassFile.FieldType.object "com/example/annalist/annalist/BodyBudget$Reservation")), Jvm.Cond.code ({ cls := "com/example/annalist/annalist/BodyBudget$Reservation", name := "<init>", desc := "(Lcom/example/annalist/annalist/BodyBudget;)V" } : Jvm.MethodName) prog_2_method_1_code (2 : Nat) (Option.none : Option Jvm.ClassFile.FieldType), Jvm.Cond.code ({ cls := "com/example/annalist/annalist/BodyBudget$Reservation", name := "growTo", desc := "(J)Z" } : Jvm.MethodName) prog_2_method_2_code (4 : Nat) (Option.some Jvm.ClassFile.FieldType.boolean)]
set_option maxRecDepth 65536 in
theorem codes_eq : words1.filter isCode = codes1 := rfl
theorem w_codes : ∀ c ∈ words1.filter isCode, c.before args0 about1 = true := by
  rw [codes_eq]
  intro c hc
  simp only [codes1, List.mem_cons, List.not_mem_nil, or_false] at hc
  rcases hc with rfl | rfl | rfl | rfl | rfl | rfl | rfl | rfl
  · exact w_c0
  · exact w_c1
  · exact w_c2
  · exact w_c3
  · exact w_c4
  · exact w_c5
  · exact w_c6
  · exact w_c7
set_option maxRecDepth 65536 in
theorem w_t1 : (words1.take 24).all (fun c => isCode c || c.before args0 about1) = true := by decide +kernel
set_option maxRecDepth 65536 in
theorem w_t2 : ((words1.drop 24).take 24).all (fun c => isCode c || c.before args0 about1) = true := by decide +kernel
set_option maxRecDepth 65536 in
theorem w_t3 : ((words1.drop 24).drop 24).all (fun c => isCode c || c.before args0 about1) = true := by decide +kernel
theorem w_tables : (allAtoms (Jvm.Cond.code x code maxLocals ret :: tables_1)).before args0 about1 = true := by
  rw [allAtoms_all]
  show words1.all (fun c => c.before args0 about1) = true
  refine all_split ?_ w_codes
  rw [← List.take_append_drop 24 words1, List.all_append, w_t1, ← List.take_append_drop 24 (words1.drop 24), List.all_append, w_t2, w_t3]
  rfl
set_option maxRecDepth 65536 in
theorem w_case : (Jvm.Cond.and given_1 narrow_1).before args0 about1 = true := by decide +kernel
theorem w_applies : (headSpec (Jvm.Cond.code x code maxLocals ret :: tables_1) room_1).applies x e0.platform about1 = true :=
  (Spec.applies_iff w_frames).mpr ⟨w_running, w_runnable, w_alone, w_named, w_hears, w_ripe, w_room, w_tables⟩
theorem atStart : AtStart classFile x code maxLocals ret World_1 tables_1 room_1 Calls_1 rest_1 Pre_1 launch0 p0 e0 about1 theMethod args0 below0 :=
  ⟨lists_1, trivial, launch0.admits_env _ _ _, launch0.least_env, fairChoices_fair.cas, fairChoices_fair.clock, w_frames, w_args, w_heap, w_applies, trivial, trivial, w_case⟩
end start1
theorem witness_1 : WitnessClaimed_1 := ⟨start1.p0, start1.e0, start1.about1, start1.theMethod, start1.args0, start1.below0, start1.atStart⟩
end Jvm.Pilot.@@N@@
