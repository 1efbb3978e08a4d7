import JvmDerived
import JvmDerived.Pilot.@@N@@Statement
import JvmDerived.Pilot.@@N@@Code
set_option linter.unusedVariables false
set_option linter.unusedSimpArgs false
namespace Jvm.RoadKit
open Sem ClassFile Op Lib Jvm.Stand Jvm.Free Jvm.LawKit
section New
variable {p : Program} {l : Launch} {e : Env} {R : Room} {s : State} {m : MethodId} {args : Array Value} {below : List Frame} {meth : Method} {c : Code} {T : State} {locs : List Loc} {cells slots : Nat}
theorem retI (X : Stand p l e R s m args below meth c T locs cells slots) (hx : p.tables.exec = Jvm.exec) {pc : Nat} {Ls : Array Slot} {z : Int32} {rest : List Value} (hret : meth.sig.returnType = some .int) (hd : decode c.code pc = .ok (.ireturn, 1)) {fs : List Frame}
    (hl : ∀ (f : JFrame) (acts : List Action), f.method = m → f.locked = none → f.entered = [] → (doReturn e (T.setTop f) acts (some (.int z))).1 = T.setFrames fs) : Steps p.tables e below (T.setTop (mkF m pc Ls (.int z :: rest))) (T.setFrames fs) := by
  have hm' : T.vm.method? m = some meth := X.method'
  have hn : narrow .int (.int z) = .int z := rfl
  show Steps p.tables e below (T.setTop { method := m, pc := pc, locals := Ls, stack := _ :: rest, locked := none }) _
  jvm_step X.here [X.here.top, hx, hd, hm', hret, hn]
  first | (intro acts; rw [hl _ acts rfl rfl rfl]) | rw [hl _ _ rfl rfl rfl]
  exact Steps.refl _
abbrev Sq (p : Program) (e : Env) (below : List Frame) (m : MethodId) (T : State) (pc : Nat) (L : Array Slot) (S : List Value) (t : State) : Prop := Steps p.tables e below (T.setTop (mkF m pc L S)) t
abbrev Ctr (l : Launch) (Z : State) (y : MethodName) (b : ByteArray) (ml : Nat) (rt : Option FieldType) (ws : List Cond) (rm : Room) (as' : Array Value) (h0 : Heap) (Q : Option Value → Heap → List Loc → Prop) : Prop :=
  MetFree l y (head1 (Cond.code y b ml rt :: ws) rm) (fun a U => a = as' ∧ Z.Warmed39 U.vm ∧ U.heap = h0) (fun _ _ _ _ _ => True) (fun _ U o U' => ∃ v L, o = .returned v ∧ Q v U'.heap L ∧ FrameEnd U o U' L rm.cells rm.slots)
theorem own_sz {Z : State} {n0 : Nat} {h : Heap} (O : Old Z n0 h) : n0 ≤ h.size := O.1 ▸ O.2.1
theorem own_selpriv {Z s : State} {a0 args : Array Value} {y : MethodName} {n : Nat} (hZ : Z.Warmed39 s.vm) (wi : (Cond.instantiable y.cls n).before a0 Z = true) (wm : (Cond.instanceMethod y).before a0 Z = true) (wp : (Cond.privateMethod y).before a0 Z = true) (hy : y.cls ≠ "java/lang/invoke/MethodHandle" ∧ y.cls ≠ "java/lang/invoke/VarHandle") : (Cond.selects y.cls y y).before args s = true := by
  obtain ⟨c, k, h1, h2, -, h4, -⟩ := Cond.instantiable_spec (mv (args := args) hZ wi)
  have hk : k.isInterface = false := by cases h : k.isInterface <;> simp_all
  exact selects_self_of_private h1 h2 hk (Cond.privateMethod_at (mvP hZ wp (args := args))) (mv hZ wm) hy
theorem own_fldinj {Z : State} {h : Heap} {a : Addr} {C n d : String} {v w : Value} (F : Fld Z h a C n d v) (G : Fld Z h a C n d w) : v = w := by
  obtain ⟨c1, cf, k, i, f, h1, h2, -, -, -, -, h3⟩ := F
  obtain ⟨c2, cf2, k2, i2, f2, g1, g2, -, -, -, -, g3⟩ := G
  cases h1.symm.trans g1
  cases h2.symm.trans g2
  exact Option.some.inj (h3.symm.trans g3)
theorem own_ne {Z : State} {h : Heap} {a b : Addr} {C n d : String} {v w : Value} (F : Fld Z h a C n d v) (G : Fld Z h b C n d w) (q : v ≠ w) : a ≠ b := fun e => by
  subst e; exact q (own_fldinj F G)
theorem own_static {s : State} {args : Array Value} {C f d K : String} (h : (Cond.exactly (Term.static C f d) K).value args s none s [] = some true) (hi : (Cond.initializedFor C f d).before args s = true ∨ ((Cond.initialized C).before args s = true ∧ (Cond.laysStatic C f d).before args s = true)) :
    ∃ w, Sta s s.heap C f d (.ref w) ∧ Exa s s.heap w K ∧ (Term.static C f d).eval args s none [] s = some (.ref w) := by
  obtain ⟨w, ev⟩ := exa_v h
  exact ⟨w, Sta.start ev hi, Exa.start ev h, ev⟩
theorem own_field {s : State} {args : Array Value} {t : Term} {w : Addr} {O f d : String} {n : Int32} (ev : t.eval args s none [] s = some (.ref w)) (h : (Cond.eq (Term.field t O f d) (Term.int n)).value args s none s [] = some true) : Fld s s.heap w O f d (.int n) := by
  have q := eqv_i (Term.int_eval n) h
  rw [fld_at ev] at q
  exact Fld.start q
theorem own_fldR {s : State} {args : Array Value} {t : Term} {w : Addr} {O f d : String} {v : Value} (ev : t.eval args s none [] s = some (.ref w)) (h : (Term.field t O f d).eval args s none [] s = some v) : Fld s s.heap w O f d v := Fld.start ((fld_at ev).symm.trans h)
theorem own_eqR {s : State} {args : Array Value} {a b : Term} {y : Addr} (hb : b.eval args s none [] s = some (.ref y)) (h : (Cond.eq a b).value args s none s [] = some true) : a.eval args s none [] s = some (.ref y) :=
  Cond.eq_refs (by simp [Cond.holds, h]) hb rfl
theorem own_len {s : State} {args : Array Value} {t : Term} {a : Addr} {c : Cell} {ty : FieldType} {n : Int32} (ev : t.eval args s none [] s = some (.ref a)) (A : Arr s s.heap a c ty) (h : (Cond.eq (Term.length t) (Term.int n)).value args s none s [] = some true) :
    c.slots.size < 2 ^ 31 ∧ c.slots.size.toInt32 = n := by
  have q := eqv_i (Term.int_eval n) h
  have f := A.fin (Vm.Alike.refl _)
  simp [Term.eval, ev, f] at q
  exact ⟨by simpa using q.1, q.2⟩
def Mirr (Z : State) (C : String) (m : Addr) : Prop := ∃ (c : ClassId) (k : Class), Z.vm.findClass C = some c ∧ Z.vm.classes[c]? = some k ∧ k.mirror = some m
theorem own_gcls {Z : State} {h : Heap} {a : Addr} (X : Stand p l e R s m args below meth c T locs cells slots) (hx : p.tables.exec = Jvm.exec) (hZ : Z.Warmed39 s.vm) {a0 : Array Value} {own C : String} {index : Nat} (hown : s.vm.findClass own = some m.cls)
    (w1 : (Cond.methodLink own index ⟨"java/lang/Object", "getClass", "()Ljava/lang/Class;"⟩).before a0 Z = true) (w2 : (Cond.declares ⟨"java/lang/Object", "getClass", "()Ljava/lang/Class;"⟩).before a0 Z = true) (w4 : (Cond.selects C ⟨"java/lang/Object", "getClass", "()Ljava/lang/Class;"⟩ ⟨"java/lang/Object", "getClass", "()Ljava/lang/Class;"⟩).before a0 Z = true)
    (w5 : (Cond.instanceMethod ⟨"java/lang/Object", "getClass", "()Ljava/lang/Class;"⟩).before a0 Z = true) (w6 : (Cond.native ⟨"java/lang/Object", "getClass", "()Ljava/lang/Class;"⟩).before a0 Z = true) (eT : T.heap = h) (E : Exa Z h a C) {mr : Addr} (M : Mirr Z C mr)
    {g : JFrame} (hg : g.method = m) (hsize : g.locals.size = c.maxLocals) {rest : List Value} (hs : g.stack = .ref a :: rest) (hd : decode c.code g.pc = .ok (.invokevirtual index, 3)) (hf : 1 ≤ R.frames) {W : Nat} (hW : 2 * g.monitorRoom + (rest.map fun v => v.category).sum ≤ W) (hl : W + (nativeFrameWords "java/lang/Object" "getClass" 1 + 11) ≤ R.locals) :
    ∃ T', Stand p l e R s m args below meth c T' locs cells slots ∧ T'.heap = h ∧ ∀ target, Steps p.tables e below (T'.setTop { g with pc := g.pc + 3, stack := .ref mr :: rest }) target → Steps p.tables e below (T.setTop g) target := by
  obtain ⟨cB, kB, i1, i2, i3⟩ := isOf hZ eT E
  obtain ⟨cc, kc, m1, m2, m3⟩ := M
  rw [hZ.alike.findClass] at i1
  cases i1.symm.trans m1
  obtain ⟨k', q, ek⟩ := hZ.alike.2.2 _ _ m2
  have hsel := mvT (args := args) hZ w4
  obtain ⟨vm', X', st⟩ := X.getClassOf hx hown (mvT hZ w1) (mvT hZ w2) (notFace_of_selects (args := args) hsel) hsel (mvT hZ w5) (mvT hZ w6) (by rw [hZ.alike.findClass]; exact m1) i3 q (by rw [ek]; exact m3) hg hsize hs hd hf (by omega)
  exact ⟨_, X', eT, st⟩
theorem own_ldcM {Z : State} {h : Heap} (X : Stand p l e R s m args below meth c T locs cells slots) (hx : p.tables.exec = Jvm.exec) (hZ : Z.Warmed39 s.vm) {a0 : Array Value} {own C : String} {index : Nat} (hown : s.vm.findClass own = some m.cls) (w : (Cond.classLink own index C).before a0 Z = true) (eT : T.heap = h) {mr : Addr} (M : Mirr Z C mr)
    {g : JFrame} (hg : g.method = m) (hd : decode c.code g.pc = .ok (.ldc index, 2)) : ∃ T', Stand p l e R s m args below meth c T' locs cells slots ∧ T'.heap = h ∧ ∀ target, Steps p.tables e below (T'.setTop { g with pc := g.pc + 2, stack := .ref mr :: g.stack }) target → Steps p.tables e below (T.setTop g) target := by
  obtain ⟨cc, kc, m1, m2, m3⟩ := M
  obtain ⟨k', q, ek⟩ := hZ.alike.2.2 _ _ m2
  have ev : (Term.mirror C).eval args s none [] s = some (.ref mr) := by
    have f1 : s.vm.findClass C = some cc := by rw [hZ.alike.findClass]; exact m1
    have f3 : k'.mirror = some mr := by rw [ek]; exact m3
    simp [Term.eval, f1, q, f3]
  obtain ⟨vm', X', st⟩ := X.ldcMirror hx hown (mvT hZ w) ev hg hd
  exact ⟨_, X', eT, st⟩
def own_ev (k p : Int32) : Int32 := if k = (0 : Int32) then p else if k = (1 : Int32) then p else (-1 : Int32)
theorem own_le5 {m N : Int32} (h0 : ¬ m < 0) (h : ¬ (N < m)) : (0 : Int32).toNatClampNeg + m.toNatClampNeg ≤ N.toNatClampNeg := by
  rw [Int32.lt_iff_toInt_lt] at h
  show 0 + m.toInt.toNat ≤ N.toInt.toNat
  omega
theorem own_le6 {m : Int32} {k : Nat} (e : k = 6) (h : m.toNatClampNeg ≤ 6) : (0 : Int32).toNatClampNeg + m.toNatClampNeg ≤ k := by
  rw [show (0 : Int32).toNatClampNeg = 0 from rfl]; omega
theorem own_stoln {Z : State} {h : Heap} {a : Addr} : ∀ us : List Value, (∀ v ∈ us, v = Value.null) → StoL Z h a us
  | [], _ => trivial
  | v :: r, H => ⟨Or.inl (H v (List.mem_cons_self ..)), own_stoln r fun u hu => H u (List.mem_cons_of_mem _ hu)⟩
theorem own_nul {n : Nat} : ∀ v ∈ List.replicate n Value.null, v = Value.null := fun v hv => List.eq_of_mem_replicate hv
theorem own_2I {n : Int32} (h : 0 ≤ n.toInt ∧ n.toInt ≤ 16) : ((2 : Int32) * n).toInt = 2 * n.toInt := by
  have a := c_imul 2 n
  have b := rng32 ((2 : Int32) * n)
  have e : (2 : Int32).toInt = 2 := by decide
  rw [e] at a
  omega
theorem own_cap1 {n : Int32} (h : 0 ≤ n.toInt ∧ n.toInt ≤ 3) : n.toNatClampNeg ≤ 3 := by
  show n.toInt.toNat ≤ 3
  omega
theorem own_cap2 {n : Int32} (h : 0 ≤ n.toInt ∧ n.toInt ≤ 3) : ((2 : Int32) * n).toNatClampNeg ≤ 6 := by
  have a := own_2I ⟨h.1, by omega⟩
  show ((2 : Int32) * n).toInt.toNat ≤ 6
  omega
theorem own_cap1n {n : Int32} (h : 0 ≤ n.toInt ∧ n.toInt ≤ 3) : ¬ n < 0 := by
  rw [Int32.lt_iff_toInt_lt]
  have : (0 : Int32).toInt = 0 := by decide
  omega
theorem own_cap2n {n : Int32} (h : 0 ≤ n.toInt ∧ n.toInt ≤ 3) : ¬ ((2 : Int32) * n) < 0 := by
  have a := own_2I ⟨h.1, by omega⟩
  rw [Int32.lt_iff_toInt_lt]
  have : (0 : Int32).toInt = 0 := by decide
  omega
theorem own_sp {n k : Int32} {a : Int} (h : a ≤ n.toInt ∧ n.toInt ≤ 16) (e : k.toInt = a) : n = k ∨ k < n := by
  by_cases q : n.toInt = k.toInt
  · exact Or.inl (Int32.toInt_inj.mp q)
  · refine Or.inr ?_
    rw [Int32.lt_iff_toInt_lt]
    omega
theorem own_neq {n k : Int32} (h : k < n) : ¬ (k = n) := fun e => by
  subst e
  rw [Int32.lt_iff_toInt_lt] at h
  omega
theorem own_nx {n k : Int32} {a b : Int} (h : k < n) (hn : a ≤ n.toInt ∧ n.toInt ≤ 16) (e : b = k.toInt + 1) : b ≤ n.toInt ∧ n.toInt ≤ 16 := by
  rw [Int32.lt_iff_toInt_lt] at h
  omega
theorem own_i2 {n k j : Int32} {a : Int} (h : k < n) (hn : a ≤ n.toInt ∧ n.toInt ≤ 16) (h0 : ¬ j < 0) (h1 : j.toInt ≤ 2 * k.toInt + 1) (h2 : 0 ≤ k.toInt) : ¬ j < 0 ∧ j < ((2 : Int32) * n) := by
  refine ⟨h0, ?_⟩
  rw [Int32.lt_iff_toInt_lt] at h ⊢
  have b := own_2I (n := n) ⟨by omega, hn.2⟩
  omega
theorem own_j1 {n j : Int32} (hn : 3 ≤ n.toInt ∧ n.toInt ≤ 16) (h0 : ¬ j < 0) (h1 : j.toInt ≤ 2) : ¬ j < 0 ∧ j < n := by
  refine ⟨h0, ?_⟩
  rw [Int32.lt_iff_toInt_lt]
  omega
theorem own_j2 {n j : Int32} (hn : 3 ≤ n.toInt ∧ n.toInt ≤ 16) (h0 : ¬ j < 0) (h1 : j.toInt ≤ 5) : ¬ j < 0 ∧ j < ((2 : Int32) * n) := by
  refine ⟨h0, ?_⟩
  rw [Int32.lt_iff_toInt_lt]
  have b := own_2I (n := n) ⟨by omega, hn.2⟩
  omega
theorem own_c03 {x c : Int32} (h : (x &&& (3 : Int32)) = c) : 0 ≤ c.toInt ∧ c.toInt ≤ 3 := by
  have a := c_mask x 3 2 (by decide) (by decide)
  rw [h] at a
  omega
theorem own_c03' {x c : Int32} (h : (x &&& (3 : Int32)) = c) : 0 ≤ c.toInt ∧ c.toInt ≤ 16 := by
  have a := own_c03 h
  omega
theorem own_e1 {P : Prop} [Decidable P] {e : Int32} (h : (if P then (-1 : Int32) else (0 : Int32)) = e) : e = (-1 : Int32) ∨ e = (0 : Int32) := by
  by_cases p : P
  · rw [if_pos p] at h; exact Or.inl h.symm
  · rw [if_neg p] at h; exact Or.inr h.symm
theorem own_e2 {P Q : Prop} [Decidable P] [Decidable Q] {e : Int32} (h : (if P then (-1 : Int32) else (if Q then (0 : Int32) else (1 : Int32))) = e) : e = (-1 : Int32) ∨ e = (0 : Int32) ∨ e = (1 : Int32) := by
  by_cases p : P
  · rw [if_pos p] at h; exact Or.inl h.symm
  · by_cases q : Q
    · rw [if_neg p, if_pos q] at h; exact Or.inr (Or.inl h.symm)
    · rw [if_neg p, if_neg q] at h; exact Or.inr (Or.inr h.symm)
theorem own_q {P Q R : Prop} [Decidable P] [Decidable Q] [Decidable R] {e : Int32} (h : (if P then (2 : Int32) else (if Q then (1 : Int32) else (if R then (0 : Int32) else (-1 : Int32)))) = e) : e = (2 : Int32) ∨ e = (1 : Int32) ∨ e = (0 : Int32) ∨ e = (-1 : Int32) := by
  by_cases p : P
  · rw [if_pos p] at h; exact Or.inl h.symm
  · by_cases q : Q
    · rw [if_neg p, if_pos q] at h; exact Or.inr (Or.inl h.symm)
    · by_cases r : R
      · rw [if_neg p, if_neg q, if_pos r] at h; exact Or.inr (Or.inr (Or.inl h.symm))
      · rw [if_neg p, if_neg q, if_neg r] at h; exact Or.inr (Or.inr (Or.inr h.symm))
end New
end Jvm.RoadKit
namespace Jvm.Pilot.@@N@@
open Jvm Jvm.ClassFile Sem Op Lib Jvm.Free Jvm.Stand Jvm.LawKit Jvm.RoadKit Bundle Jvm.Pilot.@@N@@.Jvm.D
theorem d5_0 : decode jdk_29_method_65_code 0 = .ok (.iload_n 0, 1) := by decide +kernel
theorem d5_1 : decode jdk_29_method_65_code 1 = .ok (.iload_n 1, 1) := by decide +kernel
theorem d5_2 : decode jdk_29_method_65_code 2 = .ok (.if_icmp .lt 7, 3) := by decide +kernel
theorem d5_9 : decode jdk_29_method_65_code 9 = .ok (.iload_n 1, 1) := by decide +kernel
theorem d5_10 : decode jdk_29_method_65_code 10 = .ok (.ireturn, 1) := by decide +kernel
def Q_max0 (Z : State) (h0 : Heap) (n0 : Nat) (v : Option Value) (h : Heap) (L : List Loc) : Prop := v = some (.int (16 : Int32)) ∧ Fr n0 L ∧ h = h0
theorem ef_0 (m : MethodId) (x0 : Int32) (x1 : Int32) : entryFrame m #[(.int x0), (.int x1)] 2 = mkF m 0 #[.val (.int x0), .val (.int x1)] [] := by first | (simp [entryFrame, mkF, argsToLocals, Value.category]; done) | rfl
abbrev y_0 : MethodName := ⟨"java/lang/Math", "max", "(II)I"⟩
set_option maxRecDepth 65536 in
set_option maxHeartbeats 40000000 in
theorem max0 (l : Launch) (Z : State) (a0 : Array Value) (hw : ∀ d ∈ tables_1, d.before a0 Z = true) (ws : List Jvm.Cond) (h0 : Heap) (n0 : Nat) (O : Old Z n0 h0) :
    Ctr l Z y_0 jdk_29_method_65_code 2 (some .int) ws ({ frames := 0, cells := 0, slots := 0, locals := 0 } : Room) #[(.int (0 : Int32)), (.int (16 : Int32))] h0 (Q_max0 Z  h0 n0) := by
  refine MetFree.of_bodySF (Jvm.Free.JP.mathPlain rfl (by decide +kernel)) hisR ?_
  intro p e s m args below meth c s₁ Bd hml0 hP hK
  obtain ⟨rfl, hZ, hh⟩ := hP
  have W := fun (i : Nat) {d : Jvm.Cond} (h : tables_1[i]? = some d) => hw d (List.mem_of_getElem? h)
  have hx := Bd.exec
  have hby := Bd.bytes
  have hml : c.maxLocals = 2 := hml0
  have hown : s.vm.findClass "java/lang/Math" = some m.cls := findClass_of_methodNamed Bd.named
  have hnm := (name_of_methodNamed Bd.named Bd.method).1
  have X0 : Stand p l e ({ frames := 0, cells := 0, slots := 0, locals := 0 } : Room) s m #[(.int (0 : Int32)), (.int (16 : Int32))] below meth c s₁ [] 0 0 := Stand.of_body Bd
  have e0 : s₁.heap = h0 := by rw [← hh, Bd.state]; rfl
  have N0 := Fr.nil n0
  have pre0 : ∀ t, Steps p.tables e below (s₁.setTop (mkF m 0 #[.val (.int (0 : Int32)), .val (.int (16 : Int32))] [])) t → Steps p.tables e below (s₁.setTop (entryFrame m #[(.int (0 : Int32)), (.int (16 : Int32))] 2)) t := fun t kk_ => castTop (ef_0 m (0 : Int32) (16 : Int32)) kk_
  obtain ⟨fs, hr, hrun, hended, hW, hsame⟩ := X0.leave (v := some (.int (16 : Int32))) (fun h => by rw [Bd.returns] at h; cases h)
  refine ⟨_, _, pre0 _ ?_, hrun, hended, _, _, rfl, ?_, ⟨_, rfl⟩, hW, hsame.mono (by decide) (by decide)⟩
  · show Sq p e below m s₁ 0 #[iv 0, iv 16] [] _
    refine XS.iloadN X0.here hx rfl (hb hby d5_0) rfl ?_
    refine XS.iloadN X0.here hx rfl (hb hby d5_1) rfl ?_
    show Sq p e below m s₁ 2 #[iv 0, iv 16] [.int 16, .int 0] _
    refine XS.icmpYes X0.here hx rfl (pc0 := 2) (pc' := 9) rfl (hb hby d5_2) rfl (tlt (by decide)).1 (by decide) (by decide) ?_
    refine XS.iloadN X0.here hx rfl (hb hby d5_9) rfl ?_
    show Sq p e below m s₁ 10 #[iv 0, iv 16] [.int 16] _
    exact retI X0 hx Bd.returns (hb hby d5_10) hr
  · show Q_max0 Z  h0 n0 _ s₁.heap _
    rw [e0]
    exact ⟨rfl, N0, rfl⟩
def Q_max1 (Z : State) (h0 : Heap) (n0 : Nat) (v : Option Value) (h : Heap) (L : List Loc) : Prop := v = some (.int (16 : Int32)) ∧ Fr n0 L ∧ h = h0
theorem ef_1 (m : MethodId) (x0 : Int32) (x1 : Int32) : entryFrame m #[(.int x0), (.int x1)] 2 = mkF m 0 #[.val (.int x0), .val (.int x1)] [] := by first | (simp [entryFrame, mkF, argsToLocals, Value.category]; done) | rfl
set_option maxRecDepth 65536 in
set_option maxHeartbeats 40000000 in
theorem max1 (l : Launch) (Z : State) (a0 : Array Value) (hw : ∀ d ∈ tables_1, d.before a0 Z = true) (ws : List Jvm.Cond) (h0 : Heap) (n0 : Nat) (O : Old Z n0 h0) :
    Ctr l Z y_0 jdk_29_method_65_code 2 (some .int) ws ({ frames := 0, cells := 0, slots := 0, locals := 0 } : Room) #[(.int (2 : Int32)), (.int (16 : Int32))] h0 (Q_max1 Z  h0 n0) := by
  refine MetFree.of_bodySF (Jvm.Free.JP.mathPlain rfl (by decide +kernel)) hisR ?_
  intro p e s m args below meth c s₁ Bd hml0 hP hK
  obtain ⟨rfl, hZ, hh⟩ := hP
  have W := fun (i : Nat) {d : Jvm.Cond} (h : tables_1[i]? = some d) => hw d (List.mem_of_getElem? h)
  have hx := Bd.exec
  have hby := Bd.bytes
  have hml : c.maxLocals = 2 := hml0
  have hown : s.vm.findClass "java/lang/Math" = some m.cls := findClass_of_methodNamed Bd.named
  have hnm := (name_of_methodNamed Bd.named Bd.method).1
  have X0 : Stand p l e ({ frames := 0, cells := 0, slots := 0, locals := 0 } : Room) s m #[(.int (2 : Int32)), (.int (16 : Int32))] below meth c s₁ [] 0 0 := Stand.of_body Bd
  have e0 : s₁.heap = h0 := by rw [← hh, Bd.state]; rfl
  have N0 := Fr.nil n0
  have pre0 : ∀ t, Steps p.tables e below (s₁.setTop (mkF m 0 #[.val (.int (2 : Int32)), .val (.int (16 : Int32))] [])) t → Steps p.tables e below (s₁.setTop (entryFrame m #[(.int (2 : Int32)), (.int (16 : Int32))] 2)) t := fun t kk_ => castTop (ef_1 m (2 : Int32) (16 : Int32)) kk_
  obtain ⟨fs, hr, hrun, hended, hW, hsame⟩ := X0.leave (v := some (.int (16 : Int32))) (fun h => by rw [Bd.returns] at h; cases h)
  refine ⟨_, _, pre0 _ ?_, hrun, hended, _, _, rfl, ?_, ⟨_, rfl⟩, hW, hsame.mono (by decide) (by decide)⟩
  · show Sq p e below m s₁ 0 #[iv 2, iv 16] [] _
    refine XS.iloadN X0.here hx rfl (hb hby d5_0) rfl ?_
    refine XS.iloadN X0.here hx rfl (hb hby d5_1) rfl ?_
    show Sq p e below m s₁ 2 #[iv 2, iv 16] [.int 16, .int 2] _
    refine XS.icmpYes X0.here hx rfl (pc0 := 2) (pc' := 9) rfl (hb hby d5_2) rfl (tlt (by decide)).1 (by decide) (by decide) ?_
    refine XS.iloadN X0.here hx rfl (hb hby d5_9) rfl ?_
    show Sq p e below m s₁ 10 #[iv 2, iv 16] [.int 16] _
    exact retI X0 hx Bd.returns (hb hby d5_10) hr
  · show Q_max1 Z  h0 n0 _ s₁.heap _
    rw [e0]
    exact ⟨rfl, N0, rfl⟩
def Q_max2 (Z : State) (h0 : Heap) (n0 : Nat) (v : Option Value) (h : Heap) (L : List Loc) : Prop := v = some (.int (16 : Int32)) ∧ Fr n0 L ∧ h = h0
theorem ef_2 (m : MethodId) (x0 : Int32) (x1 : Int32) : entryFrame m #[(.int x0), (.int x1)] 2 = mkF m 0 #[.val (.int x0), .val (.int x1)] [] := by first | (simp [entryFrame, mkF, argsToLocals, Value.category]; done) | rfl
set_option maxRecDepth 65536 in
set_option maxHeartbeats 40000000 in
theorem max2 (l : Launch) (Z : State) (a0 : Array Value) (hw : ∀ d ∈ tables_1, d.before a0 Z = true) (ws : List Jvm.Cond) (h0 : Heap) (n0 : Nat) (O : Old Z n0 h0) :
    Ctr l Z y_0 jdk_29_method_65_code 2 (some .int) ws ({ frames := 0, cells := 0, slots := 0, locals := 0 } : Room) #[(.int (4 : Int32)), (.int (16 : Int32))] h0 (Q_max2 Z  h0 n0) := by
  refine MetFree.of_bodySF (Jvm.Free.JP.mathPlain rfl (by decide +kernel)) hisR ?_
  intro p e s m args below meth c s₁ Bd hml0 hP hK
  obtain ⟨rfl, hZ, hh⟩ := hP
  have W := fun (i : Nat) {d : Jvm.Cond} (h : tables_1[i]? = some d) => hw d (List.mem_of_getElem? h)
  have hx := Bd.exec
  have hby := Bd.bytes
  have hml : c.maxLocals = 2 := hml0
  have hown : s.vm.findClass "java/lang/Math" = some m.cls := findClass_of_methodNamed Bd.named
  have hnm := (name_of_methodNamed Bd.named Bd.method).1
  have X0 : Stand p l e ({ frames := 0, cells := 0, slots := 0, locals := 0 } : Room) s m #[(.int (4 : Int32)), (.int (16 : Int32))] below meth c s₁ [] 0 0 := Stand.of_body Bd
  have e0 : s₁.heap = h0 := by rw [← hh, Bd.state]; rfl
  have N0 := Fr.nil n0
  have pre0 : ∀ t, Steps p.tables e below (s₁.setTop (mkF m 0 #[.val (.int (4 : Int32)), .val (.int (16 : Int32))] [])) t → Steps p.tables e below (s₁.setTop (entryFrame m #[(.int (4 : Int32)), (.int (16 : Int32))] 2)) t := fun t kk_ => castTop (ef_2 m (4 : Int32) (16 : Int32)) kk_
  obtain ⟨fs, hr, hrun, hended, hW, hsame⟩ := X0.leave (v := some (.int (16 : Int32))) (fun h => by rw [Bd.returns] at h; cases h)
  refine ⟨_, _, pre0 _ ?_, hrun, hended, _, _, rfl, ?_, ⟨_, rfl⟩, hW, hsame.mono (by decide) (by decide)⟩
  · show Sq p e below m s₁ 0 #[iv 4, iv 16] [] _
    refine XS.iloadN X0.here hx rfl (hb hby d5_0) rfl ?_
    refine XS.iloadN X0.here hx rfl (hb hby d5_1) rfl ?_
    show Sq p e below m s₁ 2 #[iv 4, iv 16] [.int 16, .int 4] _
    refine XS.icmpYes X0.here hx rfl (pc0 := 2) (pc' := 9) rfl (hb hby d5_2) rfl (tlt (by decide)).1 (by decide) (by decide) ?_
    refine XS.iloadN X0.here hx rfl (hb hby d5_9) rfl ?_
    show Sq p e below m s₁ 10 #[iv 4, iv 16] [.int 16] _
    exact retI X0 hx Bd.returns (hb hby d5_10) hr
  · show Q_max2 Z  h0 n0 _ s₁.heap _
    rw [e0]
    exact ⟨rfl, N0, rfl⟩
theorem d7_0 : decode jdk_29_method_69_code 0 = .ok (.iload_n 0, 1) := by decide +kernel
theorem d7_1 : decode jdk_29_method_69_code 1 = .ok (.iload_n 1, 1) := by decide +kernel
theorem d7_2 : decode jdk_29_method_69_code 2 = .ok (.if_icmp .gt 7, 3) := by decide +kernel
theorem d7_5 : decode jdk_29_method_69_code 5 = .ok (.iload_n 0, 1) := by decide +kernel
theorem d7_6 : decode jdk_29_method_69_code 6 = .ok (.goto 4, 3) := by decide +kernel
theorem d7_10 : decode jdk_29_method_69_code 10 = .ok (.ireturn, 1) := by decide +kernel
def Q_minA (Z : State) (m1 : Int32) (N : Int32) (h0 : Heap) (n0 : Nat) (v : Option Value) (h : Heap) (L : List Loc) : Prop := v = some (.int m1) ∧ Fr n0 L ∧ h = h0
theorem ef_3 (m : MethodId) (x0 : Int32) (x1 : Int32) : entryFrame m #[(.int x0), (.int x1)] 2 = mkF m 0 #[.val (.int x0), .val (.int x1)] [] := by first | (simp [entryFrame, mkF, argsToLocals, Value.category]; done) | rfl
abbrev y_1 : MethodName := ⟨"java/lang/Math", "min", "(II)I"⟩
set_option maxRecDepth 65536 in
set_option maxHeartbeats 40000000 in
theorem minA (l : Launch) (Z : State) (a0 : Array Value) (hw : ∀ d ∈ tables_1, d.before a0 Z = true) (ws : List Jvm.Cond) (m1 : Int32) (N : Int32) (h0 : Heap) (n0 : Nat) (O : Old Z n0 h0) (hmin : ¬ (N < m1)) :
    Ctr l Z y_1 jdk_29_method_69_code 2 (some .int) ws ({ frames := 0, cells := 0, slots := 0, locals := 0 } : Room) #[(.int m1), (.int N)] h0 (Q_minA Z m1 N h0 n0) := by
  refine MetFree.of_bodySF (Jvm.Free.JP.mathPlain rfl (by decide +kernel)) hisR ?_
  intro p e s m args below meth c s₁ Bd hml0 hP hK
  obtain ⟨rfl, hZ, hh⟩ := hP
  have W := fun (i : Nat) {d : Jvm.Cond} (h : tables_1[i]? = some d) => hw d (List.mem_of_getElem? h)
  have hx := Bd.exec
  have hby := Bd.bytes
  have hml : c.maxLocals = 2 := hml0
  have hown : s.vm.findClass "java/lang/Math" = some m.cls := findClass_of_methodNamed Bd.named
  have hnm := (name_of_methodNamed Bd.named Bd.method).1
  have X0 : Stand p l e ({ frames := 0, cells := 0, slots := 0, locals := 0 } : Room) s m #[(.int m1), (.int N)] below meth c s₁ [] 0 0 := Stand.of_body Bd
  have e0 : s₁.heap = h0 := by rw [← hh, Bd.state]; rfl
  have N0 := Fr.nil n0
  have pre0 : ∀ t, Steps p.tables e below (s₁.setTop (mkF m 0 #[.val (.int m1), .val (.int N)] [])) t → Steps p.tables e below (s₁.setTop (entryFrame m #[(.int m1), (.int N)] 2)) t := fun t kk_ => castTop (ef_3 m m1 N) kk_
  obtain ⟨fs, hr, hrun, hended, hW, hsame⟩ := X0.leave (v := some (.int m1)) (fun h => by rw [Bd.returns] at h; cases h)
  refine ⟨_, _, pre0 _ ?_, hrun, hended, _, _, rfl, ?_, ⟨_, rfl⟩, hW, hsame.mono (by decide) (by decide)⟩
  · show Sq p e below m s₁ 0 #[iv m1, iv N] [] _
    refine XS.iloadN X0.here hx rfl (hb hby d7_0) rfl ?_
    refine XS.iloadN X0.here hx rfl (hb hby d7_1) rfl ?_
    show Sq p e below m s₁ 2 #[iv m1, iv N] [.int N, .int m1] _
    refine XS.icmpNo X0.here hx rfl (hb hby d7_2) rfl (flt (hmin : ¬ (N < m1))).2.2.1 ?_
    refine XS.iloadN X0.here hx rfl (hb hby d7_5) rfl ?_
    show Sq p e below m s₁ 6 #[iv m1, iv N] [.int m1] _
    refine XS.goto X0.here hx rfl (pc0 := 6) (pc' := 10) rfl (hb hby d7_6) (by decide) (by decide) ?_
    show Sq p e below m s₁ 10 #[iv m1, iv N] [.int m1] _
    exact retI X0 hx Bd.returns (hb hby d7_10) hr
  · show Q_minA Z m1 N h0 n0 _ s₁.heap _
    rw [e0]
    exact ⟨rfl, N0, rfl⟩
theorem d6_0 : decode jdk_65_method_123_code 0 = .ok (.iload_n 1, 1) := by decide +kernel
theorem d6_1 : decode jdk_65_method_123_code 1 = .ok (.aload_n 0, 1) := by decide +kernel
theorem d6_2 : decode jdk_65_method_123_code 2 = .ok (.arraylength, 1) := by decide +kernel
theorem d6_3 : decode jdk_65_method_123_code 3 = .ok (.if_icmp .ne 11, 3) := by decide +kernel
theorem d6_14 : decode jdk_65_method_123_code 14 = .ok (.iload_n 1, 1) := by decide +kernel
theorem d6_15 : decode jdk_65_method_123_code 15 = .ok (.newarray .int, 2) := by decide +kernel
theorem d6_17 : decode jdk_65_method_123_code 17 = .ok (.astore_n 2, 1) := by decide +kernel
theorem d6_18 : decode jdk_65_method_123_code 18 = .ok (.aload_n 0, 1) := by decide +kernel
theorem d6_19 : decode jdk_65_method_123_code 19 = .ok (.iconst 0, 1) := by decide +kernel
theorem d6_20 : decode jdk_65_method_123_code 20 = .ok (.aload_n 2, 1) := by decide +kernel
theorem d6_21 : decode jdk_65_method_123_code 21 = .ok (.iconst 0, 1) := by decide +kernel
theorem d6_22 : decode jdk_65_method_123_code 22 = .ok (.aload_n 0, 1) := by decide +kernel
theorem d6_23 : decode jdk_65_method_123_code 23 = .ok (.arraylength, 1) := by decide +kernel
theorem d6_24 : decode jdk_65_method_123_code 24 = .ok (.iload_n 1, 1) := by decide +kernel
theorem d6_25 : decode jdk_65_method_123_code 25 = .ok (.invokestatic 304, 3) := by decide +kernel
theorem pd_0 : parseMethodDescriptor "(II)I" = some ⟨[.int, .int], some .int⟩ := by decide +kernel
theorem d6_28 : decode jdk_65_method_123_code 28 = .ok (.invokestatic 150, 3) := by decide +kernel
theorem d6_31 : decode jdk_65_method_123_code 31 = .ok (.aload_n 2, 1) := by decide +kernel
theorem d6_32 : decode jdk_65_method_123_code 32 = .ok (.areturn, 1) := by decide +kernel
def Q_cpI16 (Z : State) (src : Addr) (ks : ClassId) (m1 : Int32) (vs : List Value) (N : Int32) (us : List Value) (vd : List Value) (h0 : Heap) (n0 : Nat) (v : Option Value) (h : Heap) (L : List Loc) : Prop := ∃ b : Addr, ∃ kb : ClassId, v = some (.ref b) ∧ Fr n0 L ∧ Keep h0 h [] ∧ h0.size ≤ b ∧ Arv Z h b kb .int N vd (.int (0 : Int32))
theorem ef_4 (m : MethodId) (x0 : Addr) (x1 : Int32) : entryFrame m #[(.ref x0), (.int x1)] 3 = mkF m 0 #[.val (.ref x0), .val (.int x1), .unset] [] := by first | (simp [entryFrame, mkF, argsToLocals, Value.category]; done) | rfl
theorem pn_0 : plainName "java/util/Arrays" = true := by first | (simp [plainName, overriddenIn]; done) | decide +kernel
abbrev y_2 : MethodName := ⟨"java/util/Arrays", "copyOf", "([II)[I"⟩
set_option maxRecDepth 65536 in
set_option maxHeartbeats 40000000 in
theorem cpI16 (l : Launch) (Z : State) (a0 : Array Value) (hw : ∀ d ∈ tables_1, d.before a0 Z = true) (ws : List Jvm.Cond) (src : Addr) (ks : ClassId) (m1 : Int32) (vs : List Value) (N : Int32) (us : List Value) (vd : List Value) (h0 : Heap) (n0 : Nat) (O : Old Z n0 h0) (Vs : Arv Z h0 src ks .int m1 vs (.int (0 : Int32))) (hne : ¬ (N = m1)) (hN0 : ¬ N < 0) (hNc : N.toNatClampNeg ≤ 16) (hmin : ¬ (N < m1)) (hm0 : ¬ m1 < 0) (hus : us = (List.range m1.toNatClampNeg).map fun i => vs.getD ((0 : Int32).toNatClampNeg + i) (.int (0 : Int32))) (hvd : ((List.replicate 6 (Value.int (0 : Int32))).take (0 : Int32).toNatClampNeg ++ us ++ (List.replicate 6 (Value.int (0 : Int32))).drop ((0 : Int32).toNatClampNeg + m1.toNatClampNeg)) = vd) (hm6 : m1.toNatClampNeg ≤ 6) :
    Ctr l Z y_2 jdk_65_method_123_code 3 (some (.array .int)) ws ({ frames := 1, cells := 1, slots := 16, locals := 18 } : Room) #[(.ref src), (.int N)] h0 (Q_cpI16 Z src ks m1 vs N us vd h0 n0) := by
  refine MetFree.of_bodySF (plainFor_of_name pn_0) hisR ?_
  intro p e s m args below meth c s₁ Bd hml0 hP hK
  obtain ⟨rfl, hZ, hh⟩ := hP
  have W := fun (i : Nat) {d : Jvm.Cond} (h : tables_1[i]? = some d) => hw d (List.mem_of_getElem? h)
  have hx := Bd.exec
  have hby := Bd.bytes
  have hml : c.maxLocals = 3 := hml0
  have hown : s.vm.findClass "java/util/Arrays" = some m.cls := findClass_of_methodNamed Bd.named
  have hnm := (name_of_methodNamed Bd.named Bd.method).1
  have X0 : Stand p l e ({ frames := 1, cells := 1, slots := 16, locals := 18 } : Room) s m #[(.ref src), (.int N)] below meth c s₁ [] 0 0 := Stand.of_body Bd
  have e0 : s₁.heap = h0 := by rw [← hh, Bd.state]; rfl
  have N0 := Fr.nil n0
  have pre0 : ∀ t, Steps p.tables e below (s₁.setTop (mkF m 0 #[.val (.ref src), .val (.int N), .unset] [])) t → Steps p.tables e below (s₁.setTop (entryFrame m #[(.ref src), (.int N)] 3)) t := fun t kk_ => castTop (ef_4 m src N) kk_
  have K0 := Keep.refl h0 []
  obtain ⟨cl1, Ar1, -, S1, Ng1, -, -⟩ := id Vs
  have st1 := X0.arraylength hx (by rw [e0]; exact Ar1.1) (State.isArrayOf_alike hZ.alike Ar1.2.1) (g := (mkF m 2 #[rv src, iv N, .unset] [.ref src, .int N])) rfl rfl (hb hby d6_2)
  rw [len_of S1 Ng1] at st1
  obtain ⟨T2, h2, k2, X2, e2, E2, A2, A2x, st2⟩ := newPE X0 hx hZ (W 9 rfl) e0 (g := (mkF m 15 #[rv src, iv N, .unset] [.int N])) rfl (hb hby d6_15) rfl (hN0 : ¬ N < 0) (cap := 16) hNc (by decide) (by decide) (by decide) (ad := "[I") (by decide)
  obtain ⟨b2, g2⟩ : ∃ z, z = h0.size := ⟨_, rfl⟩
  rw [← g2] at A2 A2x st2
  have g_b2 : n0 ≤ b2 := Nat.le_trans (own_sz O) (Nat.le_of_eq g2.symm)
  have sz_b2 : h0.size ≤ b2 := Nat.le_trans K0.1 (Nat.le_of_eq g2.symm)
  have Vs := Vs.ext E2
  have O3 := O.ext E2
  have K4 := K0.ext E2
  have V2 : Arv Z h2 b2 k2 .int N (List.replicate 6 (Value.int (0 : Int32))) (.int (0 : Int32)) := (Arv.new A2 (hN0 : ¬ N < 0)).pad (pad_rep [] (.int (0 : Int32)) 6)
  obtain ⟨cl5, Ar5, -, S5, Ng5, -, -⟩ := id Vs
  have st5 := X2.arraylength hx (by rw [e2]; exact Ar5.1) (State.isArrayOf_alike hZ.alike Ar5.2.1) (g := (mkF m 23 #[rv src, iv N, rv b2] [.ref src, .int 0, .ref b2, .int 0, .ref src])) rfl rfl (hb hby d6_23)
  rw [len_of S5 Ng5] at st5
  obtain ⟨_, _, ⟨T6, L6, k6, n6⟩, -, X6, ⟨Lc6, hQ6, l6, y6, z6⟩, st6⟩ := Jvm.LawKit.callS X2 hx (y := y_1) hown (mvT hZ (W 46 rfl)) (mvT hZ (W 47 rfl)) (mvT hZ (W 40 rfl)) (mvT hZ (W 48 rfl)) (by decide) (backOf (W := 4) (minA l Z a0 hw [] m1 N h2 n0 O3 hmin) hZ (W 48 rfl) (W 40 rfl) (by decide) (by decide)) (g := (mkF m 25 #[rv src, iv N, rv b2] [.int N, .int m1, .int 0, .ref b2, .int 0, .ref src])) rfl (by rw [hml]; rfl) (argsL := [.int m1, .int N]) (rest := [.int 0, .ref b2, .int 0, .ref src]) (lenOf pd_0 rfl) rfl (by show 2 * 0 + _ ≤ _; exact Nat.le_of_eq rfl) (hb hby d6_25) (fun _ _ => ⟨rfl, e2, (by decide : 1 + 0 ≤ _), (by decide : 16 + 0 ≤ _)⟩)
  dsimp only [Pt.U, Pt.locs, Pt.cells, Pt.slots] at X6 l6 y6 z6 st6 hQ6
  subst l6 y6 z6
  obtain ⟨h6, e6⟩ : ∃ z, T6.heap = z := ⟨_, rfl⟩
  rw [e6] at hQ6
  obtain ⟨rfl, N6q, p6_0⟩ := hQ6
  have N6 := Fr.app N0 N6q
  rw [p6_0] at e6
  obtain ⟨T7, h7, L7, X7, e7, N7, K7q, V7, st7⟩ := cpA X6 hx hZ hown (W 49 rfl) (W 52 rfl) (W 50 rfl) (W 51 rfl) e6 (us := us) Vs V2 (Or.inl ⟨rfl, rfl⟩) (by decide) (by decide) hm0 (Nat.le_of_eq (Nat.zero_add _)) (own_le5 hm0 hmin) hus (own_le6 (by rw [List.length_replicate]) hm6) N6 g_b2 (g := (mkF m 28 #[rv src, iv N, rv b2] [.int m1, .int 0, .ref b2, .int 0, .ref src])) rfl (by rw [hml]; rfl) rfl (hb hby d6_28) (by decide) (W := 0) (by show 2 * 0 + _ ≤ _; exact Nat.le_of_eq rfl) (by decide)
  have V7 : Arv Z h7 b2 k2 .int N vd (.int (0 : Int32)) := hvd ▸ V7
  have K9 := K4.trans K7q (allS (Or.inr sz_b2) all0)
  obtain ⟨fs, hr, hrun, hended, hW, hsame⟩ := X7.leave (v := some (.ref b2)) (fun h => by rw [Bd.returns] at h; cases h)
  refine ⟨_, _, pre0 _ ?_, hrun, hended, _, _, rfl, ?_, ⟨_, rfl⟩, hW, hsame.mono (by decide) (by decide)⟩
  · show Sq p e below m s₁ 0 #[rv src, iv N, .unset] [] _
    refine XS.iloadN X0.here hx rfl (hb hby d6_0) rfl ?_
    refine XS.aloadN X0.here hx rfl (hb hby d6_1) rfl rfl ?_
    show Sq p e below m s₁ 2 #[rv src, iv N, .unset] [.ref src, .int N] _
    refine st1 _ ?_
    show Sq p e below m s₁ 3 #[rv src, iv N, .unset] [.int m1, .int N] _
    refine XS.icmpYes X0.here hx rfl (pc0 := 3) (pc' := 14) rfl (hb hby d6_3) rfl (feq (hne : ¬ (N = m1))).2 (by decide) (by decide) ?_
    refine XS.iloadN X0.here hx rfl (hb hby d6_14) rfl ?_
    show Sq p e below m s₁ 15 #[rv src, iv N, .unset] [.int N] _
    refine st2 _ ?_
    show Sq p e below m T2 17 #[rv src, iv N, .unset] [.ref b2] _
    refine XS.astoreN X2.here hx rfl (hb hby d6_17) rfl rfl rfl ?_
    refine XS.aloadN X2.here hx rfl (hb hby d6_18) rfl rfl ?_
    show Sq p e below m T2 19 #[rv src, iv N, rv b2] [.ref src] _
    refine XS.iconst X2.here hx rfl (hb hby d6_19) ?_
    refine XS.aloadN X2.here hx rfl (hb hby d6_20) rfl rfl ?_
    show Sq p e below m T2 21 #[rv src, iv N, rv b2] [.ref b2, .int 0, .ref src] _
    refine XS.iconst X2.here hx rfl (hb hby d6_21) ?_
    refine XS.aloadN X2.here hx rfl (hb hby d6_22) rfl rfl ?_
    show Sq p e below m T2 23 #[rv src, iv N, rv b2] [.ref src, .int 0, .ref b2, .int 0, .ref src] _
    refine st5 _ ?_
    show Sq p e below m T2 24 #[rv src, iv N, rv b2] [.int m1, .int 0, .ref b2, .int 0, .ref src] _
    refine XS.iloadN X2.here hx rfl (hb hby d6_24) rfl ?_
    show Sq p e below m T2 25 #[rv src, iv N, rv b2] [.int N, .int m1, .int 0, .ref b2, .int 0, .ref src] _
    refine st6 _ ?_
    show Sq p e below m T6 28 #[rv src, iv N, rv b2] [.int m1, .int 0, .ref b2, .int 0, .ref src] _
    refine st7 _ ?_
    show Sq p e below m T7 31 #[rv src, iv N, rv b2] [] _
    refine XS.aloadN X7.here hx rfl (hb hby d6_31) rfl rfl ?_
    show Sq p e below m T7 32 #[rv src, iv N, rv b2] [.ref b2] _
    jvm_step X7.here [X7.here.top, hx, (hb hby d6_32), X7.method', Bd.returns, Value.isRef, FieldType.isReference]
    first | (intro acts; rw [hr _ acts rfl rfl rfl]) | rw [hr _ _ rfl rfl rfl]
    exact Steps.refl _
  · show Q_cpI16 Z src ks m1 vs N us vd h0 n0 _ T7.heap _
    rw [e7]
    exact ⟨b2, k2, rfl, N7, K9, sz_b2, V7⟩
def Q_cpI32 (Z : State) (src : Addr) (ks : ClassId) (m1 : Int32) (vs : List Value) (N : Int32) (us : List Value) (vd : List Value) (h0 : Heap) (n0 : Nat) (v : Option Value) (h : Heap) (L : List Loc) : Prop := ∃ b : Addr, ∃ kb : ClassId, v = some (.ref b) ∧ Fr n0 L ∧ Keep h0 h [] ∧ h0.size ≤ b ∧ Arv Z h b kb .int N vd (.int (0 : Int32))
set_option maxRecDepth 65536 in
set_option maxHeartbeats 40000000 in
theorem cpI32 (l : Launch) (Z : State) (a0 : Array Value) (hw : ∀ d ∈ tables_1, d.before a0 Z = true) (ws : List Jvm.Cond) (src : Addr) (ks : ClassId) (m1 : Int32) (vs : List Value) (N : Int32) (us : List Value) (vd : List Value) (h0 : Heap) (n0 : Nat) (O : Old Z n0 h0) (Vs : Arv Z h0 src ks .int m1 vs (.int (0 : Int32))) (hne : ¬ (N = m1)) (hN0 : ¬ N < 0) (hNc : N.toNatClampNeg ≤ 32) (hmin : ¬ (N < m1)) (hm0 : ¬ m1 < 0) (hus : us = (List.range m1.toNatClampNeg).map fun i => vs.getD ((0 : Int32).toNatClampNeg + i) (.int (0 : Int32))) (hvd : ((List.replicate 6 (Value.int (0 : Int32))).take (0 : Int32).toNatClampNeg ++ us ++ (List.replicate 6 (Value.int (0 : Int32))).drop ((0 : Int32).toNatClampNeg + m1.toNatClampNeg)) = vd) (hm6 : m1.toNatClampNeg ≤ 6) :
    Ctr l Z y_2 jdk_65_method_123_code 3 (some (.array .int)) ws ({ frames := 1, cells := 1, slots := 32, locals := 18 } : Room) #[(.ref src), (.int N)] h0 (Q_cpI32 Z src ks m1 vs N us vd h0 n0) := by
  refine MetFree.of_bodySF (plainFor_of_name pn_0) hisR ?_
  intro p e s m args below meth c s₁ Bd hml0 hP hK
  obtain ⟨rfl, hZ, hh⟩ := hP
  have W := fun (i : Nat) {d : Jvm.Cond} (h : tables_1[i]? = some d) => hw d (List.mem_of_getElem? h)
  have hx := Bd.exec
  have hby := Bd.bytes
  have hml : c.maxLocals = 3 := hml0
  have hown : s.vm.findClass "java/util/Arrays" = some m.cls := findClass_of_methodNamed Bd.named
  have hnm := (name_of_methodNamed Bd.named Bd.method).1
  have X0 : Stand p l e ({ frames := 1, cells := 1, slots := 32, locals := 18 } : Room) s m #[(.ref src), (.int N)] below meth c s₁ [] 0 0 := Stand.of_body Bd
  have e0 : s₁.heap = h0 := by rw [← hh, Bd.state]; rfl
  have N0 := Fr.nil n0
  have pre0 : ∀ t, Steps p.tables e below (s₁.setTop (mkF m 0 #[.val (.ref src), .val (.int N), .unset] [])) t → Steps p.tables e below (s₁.setTop (entryFrame m #[(.ref src), (.int N)] 3)) t := fun t kk_ => castTop (ef_4 m src N) kk_
  have K0 := Keep.refl h0 []
  obtain ⟨cl1, Ar1, -, S1, Ng1, -, -⟩ := id Vs
  have st1 := X0.arraylength hx (by rw [e0]; exact Ar1.1) (State.isArrayOf_alike hZ.alike Ar1.2.1) (g := (mkF m 2 #[rv src, iv N, .unset] [.ref src, .int N])) rfl rfl (hb hby d6_2)
  rw [len_of S1 Ng1] at st1
  obtain ⟨T2, h2, k2, X2, e2, E2, A2, A2x, st2⟩ := newPE X0 hx hZ (W 9 rfl) e0 (g := (mkF m 15 #[rv src, iv N, .unset] [.int N])) rfl (hb hby d6_15) rfl (hN0 : ¬ N < 0) (cap := 32) hNc (by decide) (by decide) (by decide) (ad := "[I") (by decide)
  obtain ⟨b2, g2⟩ : ∃ z, z = h0.size := ⟨_, rfl⟩
  rw [← g2] at A2 A2x st2
  have g_b2 : n0 ≤ b2 := Nat.le_trans (own_sz O) (Nat.le_of_eq g2.symm)
  have sz_b2 : h0.size ≤ b2 := Nat.le_trans K0.1 (Nat.le_of_eq g2.symm)
  have Vs := Vs.ext E2
  have O3 := O.ext E2
  have K4 := K0.ext E2
  have V2 : Arv Z h2 b2 k2 .int N (List.replicate 6 (Value.int (0 : Int32))) (.int (0 : Int32)) := (Arv.new A2 (hN0 : ¬ N < 0)).pad (pad_rep [] (.int (0 : Int32)) 6)
  obtain ⟨cl5, Ar5, -, S5, Ng5, -, -⟩ := id Vs
  have st5 := X2.arraylength hx (by rw [e2]; exact Ar5.1) (State.isArrayOf_alike hZ.alike Ar5.2.1) (g := (mkF m 23 #[rv src, iv N, rv b2] [.ref src, .int 0, .ref b2, .int 0, .ref src])) rfl rfl (hb hby d6_23)
  rw [len_of S5 Ng5] at st5
  obtain ⟨_, _, ⟨T6, L6, k6, n6⟩, -, X6, ⟨Lc6, hQ6, l6, y6, z6⟩, st6⟩ := Jvm.LawKit.callS X2 hx (y := y_1) hown (mvT hZ (W 46 rfl)) (mvT hZ (W 47 rfl)) (mvT hZ (W 40 rfl)) (mvT hZ (W 48 rfl)) (by decide) (backOf (W := 4) (minA l Z a0 hw [] m1 N h2 n0 O3 hmin) hZ (W 48 rfl) (W 40 rfl) (by decide) (by decide)) (g := (mkF m 25 #[rv src, iv N, rv b2] [.int N, .int m1, .int 0, .ref b2, .int 0, .ref src])) rfl (by rw [hml]; rfl) (argsL := [.int m1, .int N]) (rest := [.int 0, .ref b2, .int 0, .ref src]) (lenOf pd_0 rfl) rfl (by show 2 * 0 + _ ≤ _; exact Nat.le_of_eq rfl) (hb hby d6_25) (fun _ _ => ⟨rfl, e2, (by decide : 1 + 0 ≤ _), (by decide : 32 + 0 ≤ _)⟩)
  dsimp only [Pt.U, Pt.locs, Pt.cells, Pt.slots] at X6 l6 y6 z6 st6 hQ6
  subst l6 y6 z6
  obtain ⟨h6, e6⟩ : ∃ z, T6.heap = z := ⟨_, rfl⟩
  rw [e6] at hQ6
  obtain ⟨rfl, N6q, p6_0⟩ := hQ6
  have N6 := Fr.app N0 N6q
  rw [p6_0] at e6
  obtain ⟨T7, h7, L7, X7, e7, N7, K7q, V7, st7⟩ := cpA X6 hx hZ hown (W 49 rfl) (W 52 rfl) (W 50 rfl) (W 51 rfl) e6 (us := us) Vs V2 (Or.inl ⟨rfl, rfl⟩) (by decide) (by decide) hm0 (Nat.le_of_eq (Nat.zero_add _)) (own_le5 hm0 hmin) hus (own_le6 (by rw [List.length_replicate]) hm6) N6 g_b2 (g := (mkF m 28 #[rv src, iv N, rv b2] [.int m1, .int 0, .ref b2, .int 0, .ref src])) rfl (by rw [hml]; rfl) rfl (hb hby d6_28) (by decide) (W := 0) (by show 2 * 0 + _ ≤ _; exact Nat.le_of_eq rfl) (by decide)
  have V7 : Arv Z h7 b2 k2 .int N vd (.int (0 : Int32)) := hvd ▸ V7
  have K9 := K4.trans K7q (allS (Or.inr sz_b2) all0)
  obtain ⟨fs, hr, hrun, hended, hW, hsame⟩ := X7.leave (v := some (.ref b2)) (fun h => by rw [Bd.returns] at h; cases h)
  refine ⟨_, _, pre0 _ ?_, hrun, hended, _, _, rfl, ?_, ⟨_, rfl⟩, hW, hsame.mono (by decide) (by decide)⟩
  · show Sq p e below m s₁ 0 #[rv src, iv N, .unset] [] _
    refine XS.iloadN X0.here hx rfl (hb hby d6_0) rfl ?_
    refine XS.aloadN X0.here hx rfl (hb hby d6_1) rfl rfl ?_
    show Sq p e below m s₁ 2 #[rv src, iv N, .unset] [.ref src, .int N] _
    refine st1 _ ?_
    show Sq p e below m s₁ 3 #[rv src, iv N, .unset] [.int m1, .int N] _
    refine XS.icmpYes X0.here hx rfl (pc0 := 3) (pc' := 14) rfl (hb hby d6_3) rfl (feq (hne : ¬ (N = m1))).2 (by decide) (by decide) ?_
    refine XS.iloadN X0.here hx rfl (hb hby d6_14) rfl ?_
    show Sq p e below m s₁ 15 #[rv src, iv N, .unset] [.int N] _
    refine st2 _ ?_
    show Sq p e below m T2 17 #[rv src, iv N, .unset] [.ref b2] _
    refine XS.astoreN X2.here hx rfl (hb hby d6_17) rfl rfl rfl ?_
    refine XS.aloadN X2.here hx rfl (hb hby d6_18) rfl rfl ?_
    show Sq p e below m T2 19 #[rv src, iv N, rv b2] [.ref src] _
    refine XS.iconst X2.here hx rfl (hb hby d6_19) ?_
    refine XS.aloadN X2.here hx rfl (hb hby d6_20) rfl rfl ?_
    show Sq p e below m T2 21 #[rv src, iv N, rv b2] [.ref b2, .int 0, .ref src] _
    refine XS.iconst X2.here hx rfl (hb hby d6_21) ?_
    refine XS.aloadN X2.here hx rfl (hb hby d6_22) rfl rfl ?_
    show Sq p e below m T2 23 #[rv src, iv N, rv b2] [.ref src, .int 0, .ref b2, .int 0, .ref src] _
    refine st5 _ ?_
    show Sq p e below m T2 24 #[rv src, iv N, rv b2] [.int m1, .int 0, .ref b2, .int 0, .ref src] _
    refine XS.iloadN X2.here hx rfl (hb hby d6_24) rfl ?_
    show Sq p e below m T2 25 #[rv src, iv N, rv b2] [.int N, .int m1, .int 0, .ref b2, .int 0, .ref src] _
    refine st6 _ ?_
    show Sq p e below m T6 28 #[rv src, iv N, rv b2] [.int m1, .int 0, .ref b2, .int 0, .ref src] _
    refine st7 _ ?_
    show Sq p e below m T7 31 #[rv src, iv N, rv b2] [] _
    refine XS.aloadN X7.here hx rfl (hb hby d6_31) rfl rfl ?_
    show Sq p e below m T7 32 #[rv src, iv N, rv b2] [.ref b2] _
    jvm_step X7.here [X7.here.top, hx, (hb hby d6_32), X7.method', Bd.returns, Value.isRef, FieldType.isReference]
    first | (intro acts; rw [hr _ acts rfl rfl rfl]) | rw [hr _ _ rfl rfl rfl]
    exact Steps.refl _
  · show Q_cpI32 Z src ks m1 vs N us vd h0 n0 _ T7.heap _
    rw [e7]
    exact ⟨b2, k2, rfl, N7, K9, sz_b2, V7⟩
theorem d9_0 : decode jdk_65_method_120_code 0 = .ok (.aload_n 2, 1) := by decide +kernel
theorem d9_1 : decode jdk_65_method_120_code 1 = .ok (.ldc 110, 2) := by decide +kernel
theorem d9_3 : decode jdk_65_method_120_code 3 = .ok (.if_acmp .ne 10, 3) := by decide +kernel
theorem d9_6 : decode jdk_65_method_120_code 6 = .ok (.iload_n 1, 1) := by decide +kernel
theorem d9_7 : decode jdk_65_method_120_code 7 = .ok (.anewarray 2, 3) := by decide +kernel
theorem d9_10 : decode jdk_65_method_120_code 10 = .ok (.goto 14, 3) := by decide +kernel
theorem d9_24 : decode jdk_65_method_120_code 24 = .ok (.astore_n 3, 1) := by decide +kernel
theorem d9_25 : decode jdk_65_method_120_code 25 = .ok (.aload_n 0, 1) := by decide +kernel
theorem d9_26 : decode jdk_65_method_120_code 26 = .ok (.iconst 0, 1) := by decide +kernel
theorem d9_27 : decode jdk_65_method_120_code 27 = .ok (.aload_n 3, 1) := by decide +kernel
theorem d9_28 : decode jdk_65_method_120_code 28 = .ok (.iconst 0, 1) := by decide +kernel
theorem d9_29 : decode jdk_65_method_120_code 29 = .ok (.aload_n 0, 1) := by decide +kernel
theorem d9_30 : decode jdk_65_method_120_code 30 = .ok (.arraylength, 1) := by decide +kernel
theorem d9_31 : decode jdk_65_method_120_code 31 = .ok (.iload_n 1, 1) := by decide +kernel
theorem d9_32 : decode jdk_65_method_120_code 32 = .ok (.invokestatic 304, 3) := by decide +kernel
theorem d9_35 : decode jdk_65_method_120_code 35 = .ok (.invokestatic 150, 3) := by decide +kernel
theorem d9_38 : decode jdk_65_method_120_code 38 = .ok (.aload_n 3, 1) := by decide +kernel
theorem d9_39 : decode jdk_65_method_120_code 39 = .ok (.areturn, 1) := by decide +kernel
def Q_cpO3 (Z : State) (src : Addr) (ks : ClassId) (m1 : Int32) (vs : List Value) (N : Int32) (us : List Value) (vd : List Value) (w_MIR : Addr) (h0 : Heap) (n0 : Nat) (v : Option Value) (h : Heap) (L : List Loc) : Prop := ∃ b : Addr, ∃ kb : ClassId, v = some (.ref b) ∧ Fr n0 L ∧ Keep h0 h [] ∧ h0.size ≤ b ∧ Arv Z h b kb (.object "java/lang/Object") N vd .null ∧ Exa Z h b "[Ljava/lang/Object;"
theorem ef_5 (m : MethodId) (x0 : Addr) (x1 : Int32) (x2 : Addr) : entryFrame m #[(.ref x0), (.int x1), (.ref x2)] 4 = mkF m 0 #[.val (.ref x0), .val (.int x1), .val (.ref x2), .unset] [] := by first | (simp [entryFrame, mkF, argsToLocals, Value.category]; done) | rfl
abbrev y_3 : MethodName := ⟨"java/util/Arrays", "copyOf", "([Ljava/lang/Object;ILjava/lang/Class;)[Ljava/lang/Object;"⟩
set_option maxRecDepth 65536 in
set_option maxHeartbeats 40000000 in
theorem cpO3 (l : Launch) (Z : State) (a0 : Array Value) (hw : ∀ d ∈ tables_1, d.before a0 Z = true) (ws : List Jvm.Cond) (src : Addr) (ks : ClassId) (m1 : Int32) (vs : List Value) (N : Int32) (us : List Value) (vd : List Value) (w_MIR : Addr) (h0 : Heap) (n0 : Nat) (O : Old Z n0 h0) (Vs : Arv Z h0 src ks (.object "java/lang/Object") m1 vs .null) (Mo : Mirr Z "[Ljava/lang/Object;" w_MIR) (hne : ¬ (N = m1)) (hN0 : ¬ N < 0) (hNc : N.toNatClampNeg ≤ 16) (hmin : ¬ (N < m1)) (hm0 : ¬ m1 < 0) (hus : us = (List.range m1.toNatClampNeg).map fun i => vs.getD ((0 : Int32).toNatClampNeg + i) .null) (hvd : ((List.replicate 6 Value.null).take (0 : Int32).toNatClampNeg ++ us ++ (List.replicate 6 Value.null).drop ((0 : Int32).toNatClampNeg + m1.toNatClampNeg)) = vd) (hm6 : m1.toNatClampNeg ≤ 6) (hnu : ∀ v ∈ us, v = Value.null) :
    Ctr l Z y_3 jdk_65_method_120_code 4 (some (.array (.object "java/lang/Object"))) ws ({ frames := 1, cells := 1, slots := 16, locals := 18 } : Room) #[(.ref src), (.int N), (.ref w_MIR)] h0 (Q_cpO3 Z src ks m1 vs N us vd w_MIR h0 n0) := by
  refine MetFree.of_bodySF (plainFor_of_name pn_0) hisR ?_
  intro p e s m args below meth c s₁ Bd hml0 hP hK
  obtain ⟨rfl, hZ, hh⟩ := hP
  have W := fun (i : Nat) {d : Jvm.Cond} (h : tables_1[i]? = some d) => hw d (List.mem_of_getElem? h)
  have hx := Bd.exec
  have hby := Bd.bytes
  have hml : c.maxLocals = 4 := hml0
  have hown : s.vm.findClass "java/util/Arrays" = some m.cls := findClass_of_methodNamed Bd.named
  have hnm := (name_of_methodNamed Bd.named Bd.method).1
  have X0 : Stand p l e ({ frames := 1, cells := 1, slots := 16, locals := 18 } : Room) s m #[(.ref src), (.int N), (.ref w_MIR)] below meth c s₁ [] 0 0 := Stand.of_body Bd
  have e0 : s₁.heap = h0 := by rw [← hh, Bd.state]; rfl
  have N0 := Fr.nil n0
  have pre0 : ∀ t, Steps p.tables e below (s₁.setTop (mkF m 0 #[.val (.ref src), .val (.int N), .val (.ref w_MIR), .unset] [])) t → Steps p.tables e below (s₁.setTop (entryFrame m #[(.ref src), (.int N), (.ref w_MIR)] 4)) t := fun t kk_ => castTop (ef_5 m src N w_MIR) kk_
  have K0 := Keep.refl h0 []
  obtain ⟨T1, X1, e1, st1⟩ := own_ldcM X0 hx hZ hown (W 65 rfl) e0 Mo (g := (mkF m 1 #[rv src, iv N, rv w_MIR, .unset] [.ref w_MIR])) rfl (hb hby d9_1)
  obtain ⟨T2, h2, k2, X2, e2, E2, A2, A2x, Ov2, st2⟩ := newRE X1 hx hZ hown (W 66 rfl) (W 17 rfl) e1 (g := (mkF m 7 #[rv src, iv N, rv w_MIR, .unset] [.int N])) rfl (hb hby d9_7) rfl (hN0 : ¬ N < 0) (cap := 16) hNc (by decide) (by decide) (by decide) (ad := "[Ljava/lang/Object;") (by decide)
  obtain ⟨b2, g2⟩ : ∃ z, z = h0.size := ⟨_, rfl⟩
  rw [← g2] at A2 A2x st2
  have g_b2 : n0 ≤ b2 := Nat.le_trans (own_sz O) (Nat.le_of_eq g2.symm)
  have sz_b2 : h0.size ≤ b2 := Nat.le_trans K0.1 (Nat.le_of_eq g2.symm)
  have Vs := Vs.ext E2
  have O3 := O.ext E2
  have K4 := K0.ext E2
  have V2 : Arv Z h2 b2 k2 (.object "java/lang/Object") N (List.replicate 6 Value.null) .null := (Arv.new A2 (hN0 : ¬ N < 0)).pad (pad_rep [] .null 6)
  obtain ⟨cl5, Ar5, -, S5, Ng5, -, -⟩ := id Vs
  have st5 := X2.arraylength hx (by rw [e2]; exact Ar5.1) (State.isArrayOf_alike hZ.alike Ar5.2.1) (g := (mkF m 30 #[rv src, iv N, rv w_MIR, rv b2] [.ref src, .int 0, .ref b2, .int 0, .ref src])) rfl rfl (hb hby d9_30)
  rw [len_of S5 Ng5] at st5
  obtain ⟨_, _, ⟨T6, L6, k6, n6⟩, -, X6, ⟨Lc6, hQ6, l6, y6, z6⟩, st6⟩ := Jvm.LawKit.callS X2 hx (y := y_1) hown (mvT hZ (W 46 rfl)) (mvT hZ (W 47 rfl)) (mvT hZ (W 40 rfl)) (mvT hZ (W 48 rfl)) (by decide) (backOf (W := 4) (minA l Z a0 hw [] m1 N h2 n0 O3 hmin) hZ (W 48 rfl) (W 40 rfl) (by decide) (by decide)) (g := (mkF m 32 #[rv src, iv N, rv w_MIR, rv b2] [.int N, .int m1, .int 0, .ref b2, .int 0, .ref src])) rfl (by rw [hml]; rfl) (argsL := [.int m1, .int N]) (rest := [.int 0, .ref b2, .int 0, .ref src]) (lenOf pd_0 rfl) rfl (by show 2 * 0 + _ ≤ _; exact Nat.le_of_eq rfl) (hb hby d9_32) (fun _ _ => ⟨rfl, e2, (by decide : 1 + 0 ≤ _), (by decide : 16 + 0 ≤ _)⟩)
  dsimp only [Pt.U, Pt.locs, Pt.cells, Pt.slots] at X6 l6 y6 z6 st6 hQ6
  subst l6 y6 z6
  obtain ⟨h6, e6⟩ : ∃ z, T6.heap = z := ⟨_, rfl⟩
  rw [e6] at hQ6
  obtain ⟨rfl, N6q, p6_0⟩ := hQ6
  have N6 := Fr.app N0 N6q
  rw [p6_0] at e6
  obtain ⟨T7, h7, L7, X7, e7, N7, K7q, V7, st7⟩ := cpA X6 hx hZ hown (W 49 rfl) (W 52 rfl) (W 50 rfl) (W 51 rfl) e6 (us := us) Vs V2 (Or.inr ⟨rfl, rfl, own_stoln us hnu⟩) (by decide) (by decide) hm0 (Nat.le_of_eq (Nat.zero_add _)) (own_le5 hm0 hmin) hus (own_le6 (by rw [List.length_replicate]) hm6) N6 g_b2 (g := (mkF m 35 #[rv src, iv N, rv w_MIR, rv b2] [.int m1, .int 0, .ref b2, .int 0, .ref src])) rfl (by rw [hml]; rfl) rfl (hb hby d9_35) (by decide) (W := 0) (by show 2 * 0 + _ ≤ _; exact Nat.le_of_eq rfl) (by decide)
  have V7 : Arv Z h7 b2 k2 (.object "java/lang/Object") N vd .null := hvd ▸ V7
  have A2x := A2x.keep K7q
  have K9 := K4.trans K7q (allS (Or.inr sz_b2) all0)
  obtain ⟨fs, hr, hrun, hended, hW, hsame⟩ := X7.leave (v := some (.ref b2)) (fun h => by rw [Bd.returns] at h; cases h)
  refine ⟨_, _, pre0 _ ?_, hrun, hended, _, _, rfl, ?_, ⟨_, rfl⟩, hW, hsame.mono (by decide) (by decide)⟩
  · show Sq p e below m s₁ 0 #[rv src, iv N, rv w_MIR, .unset] [] _
    refine XS.aloadN X0.here hx rfl (hb hby d9_0) rfl rfl ?_
    show Sq p e below m s₁ 1 #[rv src, iv N, rv w_MIR, .unset] [.ref w_MIR] _
    refine st1 _ ?_
    show Sq p e below m T1 3 #[rv src, iv N, rv w_MIR, .unset] [.ref w_MIR, .ref w_MIR] _
    refine Jvm.RoadKit.acmp (g := (mkF m 3 #[rv src, iv N, rv w_MIR, .unset] [.ref w_MIR, .ref w_MIR])) X1 hx rfl rfl rfl (pc0 := 3) (pc' := 6) (same := true) rfl (hb hby d9_3) rfl (decide_eq_true rfl) (by decide) (by decide) ?_
    show Sq p e below m T1 6 #[rv src, iv N, rv w_MIR, .unset] [] _
    refine XS.iloadN X1.here hx rfl (hb hby d9_6) rfl ?_
    show Sq p e below m T1 7 #[rv src, iv N, rv w_MIR, .unset] [.int N] _
    refine st2 _ ?_
    show Sq p e below m T2 10 #[rv src, iv N, rv w_MIR, .unset] [.ref b2] _
    refine XS.goto X2.here hx rfl (pc0 := 10) (pc' := 24) rfl (hb hby d9_10) (by decide) (by decide) ?_
    refine XS.astoreN X2.here hx rfl (hb hby d9_24) rfl rfl rfl ?_
    show Sq p e below m T2 25 #[rv src, iv N, rv w_MIR, rv b2] [] _
    refine XS.aloadN X2.here hx rfl (hb hby d9_25) rfl rfl ?_
    refine XS.iconst X2.here hx rfl (hb hby d9_26) ?_
    show Sq p e below m T2 27 #[rv src, iv N, rv w_MIR, rv b2] [.int 0, .ref src] _
    refine XS.aloadN X2.here hx rfl (hb hby d9_27) rfl rfl ?_
    refine XS.iconst X2.here hx rfl (hb hby d9_28) ?_
    show Sq p e below m T2 29 #[rv src, iv N, rv w_MIR, rv b2] [.int 0, .ref b2, .int 0, .ref src] _
    refine XS.aloadN X2.here hx rfl (hb hby d9_29) rfl rfl ?_
    show Sq p e below m T2 30 #[rv src, iv N, rv w_MIR, rv b2] [.ref src, .int 0, .ref b2, .int 0, .ref src] _
    refine st5 _ ?_
    show Sq p e below m T2 31 #[rv src, iv N, rv w_MIR, rv b2] [.int m1, .int 0, .ref b2, .int 0, .ref src] _
    refine XS.iloadN X2.here hx rfl (hb hby d9_31) rfl ?_
    show Sq p e below m T2 32 #[rv src, iv N, rv w_MIR, rv b2] [.int N, .int m1, .int 0, .ref b2, .int 0, .ref src] _
    refine st6 _ ?_
    show Sq p e below m T6 35 #[rv src, iv N, rv w_MIR, rv b2] [.int m1, .int 0, .ref b2, .int 0, .ref src] _
    refine st7 _ ?_
    show Sq p e below m T7 38 #[rv src, iv N, rv w_MIR, rv b2] [] _
    refine XS.aloadN X7.here hx rfl (hb hby d9_38) rfl rfl ?_
    show Sq p e below m T7 39 #[rv src, iv N, rv w_MIR, rv b2] [.ref b2] _
    jvm_step X7.here [X7.here.top, hx, (hb hby d9_39), X7.method', Bd.returns, Value.isRef, FieldType.isReference]
    first | (intro acts; rw [hr _ acts rfl rfl rfl]) | rw [hr _ _ rfl rfl rfl]
    exact Steps.refl _
  · show Q_cpO3 Z src ks m1 vs N us vd w_MIR h0 n0 _ T7.heap _
    rw [e7]
    exact ⟨b2, k2, rfl, N7, K9, sz_b2, V7, A2x⟩
theorem d8_0 : decode jdk_65_method_119_code 0 = .ok (.aload_n 0, 1) := by decide +kernel
theorem d8_1 : decode jdk_65_method_119_code 1 = .ok (.iload_n 1, 1) := by decide +kernel
theorem d8_2 : decode jdk_65_method_119_code 2 = .ok (.aload_n 0, 1) := by decide +kernel
theorem d8_3 : decode jdk_65_method_119_code 3 = .ok (.invokevirtual 86, 3) := by decide +kernel
theorem d8_6 : decode jdk_65_method_119_code 6 = .ok (.invokestatic 300, 3) := by decide +kernel
theorem pd_1 : parseMethodDescriptor "([Ljava/lang/Object;ILjava/lang/Class;)[Ljava/lang/Object;" = some ⟨[(.array (.object "java/lang/Object")), .int, (.object "java/lang/Class")], some (.array (.object "java/lang/Object"))⟩ := by decide +kernel
theorem d8_9 : decode jdk_65_method_119_code 9 = .ok (.areturn, 1) := by decide +kernel
def Q_cpO2 (Z : State) (src : Addr) (ks : ClassId) (m1 : Int32) (vs : List Value) (N : Int32) (us : List Value) (vd : List Value) (w_MIR : Addr) (h0 : Heap) (n0 : Nat) (v : Option Value) (h : Heap) (L : List Loc) : Prop := ∃ b : Addr, ∃ kb : ClassId, v = some (.ref b) ∧ Fr n0 L ∧ Keep h0 h [] ∧ h0.size ≤ b ∧ Arv Z h b kb (.object "java/lang/Object") N vd .null ∧ Exa Z h b "[Ljava/lang/Object;"
theorem ef_6 (m : MethodId) (x0 : Addr) (x1 : Int32) : entryFrame m #[(.ref x0), (.int x1)] 2 = mkF m 0 #[.val (.ref x0), .val (.int x1)] [] := by first | (simp [entryFrame, mkF, argsToLocals, Value.category]; done) | rfl
abbrev y_4 : MethodName := ⟨"java/util/Arrays", "copyOf", "([Ljava/lang/Object;I)[Ljava/lang/Object;"⟩
set_option maxRecDepth 65536 in
set_option maxHeartbeats 40000000 in
theorem cpO2 (l : Launch) (Z : State) (a0 : Array Value) (hw : ∀ d ∈ tables_1, d.before a0 Z = true) (ws : List Jvm.Cond) (src : Addr) (ks : ClassId) (m1 : Int32) (vs : List Value) (N : Int32) (us : List Value) (vd : List Value) (w_MIR : Addr) (h0 : Heap) (n0 : Nat) (O : Old Z n0 h0) (Vs : Arv Z h0 src ks (.object "java/lang/Object") m1 vs .null) (Mo : Mirr Z "[Ljava/lang/Object;" w_MIR) (hne : ¬ (N = m1)) (hN0 : ¬ N < 0) (hNc : N.toNatClampNeg ≤ 16) (hmin : ¬ (N < m1)) (hm0 : ¬ m1 < 0) (hus : us = (List.range m1.toNatClampNeg).map fun i => vs.getD ((0 : Int32).toNatClampNeg + i) .null) (hvd : ((List.replicate 6 Value.null).take (0 : Int32).toNatClampNeg ++ us ++ (List.replicate 6 Value.null).drop ((0 : Int32).toNatClampNeg + m1.toNatClampNeg)) = vd) (hm6 : m1.toNatClampNeg ≤ 6) (hnu : ∀ v ∈ us, v = Value.null) (Es : Exa Z h0 src "[Ljava/lang/Object;") :
    Ctr l Z y_4 jdk_65_method_119_code 2 (some (.array (.object "java/lang/Object"))) ws ({ frames := 2, cells := 1, slots := 16, locals := 33 } : Room) #[(.ref src), (.int N)] h0 (Q_cpO2 Z src ks m1 vs N us vd w_MIR h0 n0) := by
  refine MetFree.of_bodySF (plainFor_of_name pn_0) hisR ?_
  intro p e s m args below meth c s₁ Bd hml0 hP hK
  obtain ⟨rfl, hZ, hh⟩ := hP
  have W := fun (i : Nat) {d : Jvm.Cond} (h : tables_1[i]? = some d) => hw d (List.mem_of_getElem? h)
  have hx := Bd.exec
  have hby := Bd.bytes
  have hml : c.maxLocals = 2 := hml0
  have hown : s.vm.findClass "java/util/Arrays" = some m.cls := findClass_of_methodNamed Bd.named
  have hnm := (name_of_methodNamed Bd.named Bd.method).1
  have X0 : Stand p l e ({ frames := 2, cells := 1, slots := 16, locals := 33 } : Room) s m #[(.ref src), (.int N)] below meth c s₁ [] 0 0 := Stand.of_body Bd
  have e0 : s₁.heap = h0 := by rw [← hh, Bd.state]; rfl
  have N0 := Fr.nil n0
  have pre0 : ∀ t, Steps p.tables e below (s₁.setTop (mkF m 0 #[.val (.ref src), .val (.int N)] [])) t → Steps p.tables e below (s₁.setTop (entryFrame m #[(.ref src), (.int N)] 2)) t := fun t kk_ => castTop (ef_6 m src N) kk_
  have K0 := Keep.refl h0 []
  obtain ⟨T1, X1, e1, st1⟩ := own_gcls X0 hx hZ hown (W 56 rfl) (W 57 rfl) (W 59 rfl) (W 58 rfl) (W 60 rfl) e0 Es Mo (g := (mkF m 3 #[rv src, iv N] [.ref src, .int N, .ref src])) rfl (by rw [hml]; rfl) rfl (hb hby d8_3) (by decide) (W := 2) (by show 2 * 0 + _ ≤ _; exact Nat.le_of_eq rfl) (by decide)
  obtain ⟨_, _, ⟨T2, L2, k2, n2⟩, -, X2, ⟨Lc2, hQ2, l2, y2, z2⟩, st2⟩ := Jvm.LawKit.callS X1 hx (y := y_3) hown (mvT hZ (W 62 rfl)) (mvT hZ (W 63 rfl)) (mvT hZ (W 44 rfl)) (mvT hZ (W 64 rfl)) (by decide) (backOf (W := 0) (cpO3 l Z a0 hw [] src ks m1 vs N us vd w_MIR h0 n0 O Vs Mo hne hN0 hNc hmin hm0 hus hvd hm6 hnu) hZ (W 64 rfl) (W 44 rfl) (by decide) (by decide)) (g := (mkF m 6 #[rv src, iv N] [.ref w_MIR, .int N, .ref src])) rfl (by rw [hml]; rfl) (argsL := [.ref src, .int N, .ref w_MIR]) (rest := []) (lenOf pd_1 rfl) rfl (by show 2 * 0 + _ ≤ _; exact Nat.le_of_eq rfl) (hb hby d8_6) (fun _ _ => ⟨rfl, e1, (by decide : 0 + 1 ≤ _), (by decide : 0 + 16 ≤ _)⟩)
  dsimp only [Pt.U, Pt.locs, Pt.cells, Pt.slots] at X2 l2 y2 z2 st2 hQ2
  subst l2 y2 z2
  obtain ⟨h2, e2⟩ : ∃ z, T2.heap = z := ⟨_, rfl⟩
  rw [e2] at hQ2
  obtain ⟨b2b, b2kb, rfl, N2q, p2_0, p2_1, p2_2, p2_3⟩ := hQ2
  have N2 := Fr.app N0 N2q
  have sz_b2b : h0.size ≤ b2b := Nat.le_trans K0.1 p2_1
  have K4 := K0.trans p2_0 all0
  obtain ⟨fs, hr, hrun, hended, hW, hsame⟩ := X2.leave (v := some (.ref b2b)) (fun h => by rw [Bd.returns] at h; cases h)
  refine ⟨_, _, pre0 _ ?_, hrun, hended, _, _, rfl, ?_, ⟨_, rfl⟩, hW, hsame.mono (by decide) (by decide)⟩
  · show Sq p e below m s₁ 0 #[rv src, iv N] [] _
    refine XS.aloadN X0.here hx rfl (hb hby d8_0) rfl rfl ?_
    refine XS.iloadN X0.here hx rfl (hb hby d8_1) rfl ?_
    show Sq p e below m s₁ 2 #[rv src, iv N] [.int N, .ref src] _
    refine XS.aloadN X0.here hx rfl (hb hby d8_2) rfl rfl ?_
    show Sq p e below m s₁ 3 #[rv src, iv N] [.ref src, .int N, .ref src] _
    refine st1 _ ?_
    show Sq p e below m T1 6 #[rv src, iv N] [.ref w_MIR, .int N, .ref src] _
    refine st2 _ ?_
    show Sq p e below m T2 9 #[rv src, iv N] [.ref b2b] _
    jvm_step X2.here [X2.here.top, hx, (hb hby d8_9), X2.method', Bd.returns, Value.isRef, FieldType.isReference]
    first | (intro acts; rw [hr _ acts rfl rfl rfl]) | rw [hr _ _ rfl rfl rfl]
    exact Steps.refl _
  · show Q_cpO2 Z src ks m1 vs N us vd w_MIR h0 n0 _ T2.heap _
    rw [e2]
    exact ⟨b2b, b2kb, rfl, N2, K4, sz_b2b, p2_2, p2_3⟩
theorem d1_0 : decode prog_20_method_1_code 0 = .ok (.aload_n 0, 1) := by decide +kernel
theorem d1_1 : decode prog_20_method_1_code 1 = .ok (.invokespecial 1, 3) := by decide +kernel
theorem d1_4 : decode prog_20_method_1_code 4 = .ok (.aload_n 0, 1) := by decide +kernel
theorem d1_5 : decode prog_20_method_1_code 5 = .ok (.bipush 64, 2) := by decide +kernel
theorem d1_7 : decode prog_20_method_1_code 7 = .ok (.newarray .int, 2) := by decide +kernel
theorem d1_9 : decode prog_20_method_1_code 9 = .ok (.putfield 9, 3) := by decide +kernel
theorem d1_12 : decode prog_20_method_1_code 12 = .ok (.aload_n 0, 1) := by decide +kernel
theorem d1_13 : decode prog_20_method_1_code 13 = .ok (.iconst 2, 1) := by decide +kernel
theorem d1_14 : decode prog_20_method_1_code 14 = .ok (.iload_n 1, 1) := by decide +kernel
theorem d1_15 : decode prog_20_method_1_code 15 = .ok (.imul, 1) := by decide +kernel
theorem d1_16 : decode prog_20_method_1_code 16 = .ok (.newarray .int, 2) := by decide +kernel
theorem d1_18 : decode prog_20_method_1_code 18 = .ok (.putfield 13, 3) := by decide +kernel
theorem d1_21 : decode prog_20_method_1_code 21 = .ok (.aload_n 0, 1) := by decide +kernel
theorem d1_22 : decode prog_20_method_1_code 22 = .ok (.iload_n 1, 1) := by decide +kernel
theorem d1_23 : decode prog_20_method_1_code 23 = .ok (.newarray .int, 2) := by decide +kernel
theorem d1_25 : decode prog_20_method_1_code 25 = .ok (.putfield 16, 3) := by decide +kernel
theorem d1_28 : decode prog_20_method_1_code 28 = .ok (.aload_n 0, 1) := by decide +kernel
theorem d1_29 : decode prog_20_method_1_code 29 = .ok (.iload_n 1, 1) := by decide +kernel
theorem d1_30 : decode prog_20_method_1_code 30 = .ok (.anewarray 2, 3) := by decide +kernel
theorem d1_33 : decode prog_20_method_1_code 33 = .ok (.putfield 19, 3) := by decide +kernel
theorem d1_36 : decode prog_20_method_1_code 36 = .ok (.aload_n 0, 1) := by decide +kernel
theorem d1_37 : decode prog_20_method_1_code 37 = .ok (.iload_n 1, 1) := by decide +kernel
theorem d1_38 : decode prog_20_method_1_code 38 = .ok (.newarray .int, 2) := by decide +kernel
theorem d1_40 : decode prog_20_method_1_code 40 = .ok (.putfield 23, 3) := by decide +kernel
theorem d1_43 : decode prog_20_method_1_code 43 = .ok (.aload_n 0, 1) := by decide +kernel
theorem d1_44 : decode prog_20_method_1_code 44 = .ok (.iconst 2, 1) := by decide +kernel
theorem d1_45 : decode prog_20_method_1_code 45 = .ok (.iload_n 1, 1) := by decide +kernel
theorem d1_46 : decode prog_20_method_1_code 46 = .ok (.imul, 1) := by decide +kernel
theorem d1_47 : decode prog_20_method_1_code 47 = .ok (.newarray .int, 2) := by decide +kernel
theorem d1_49 : decode prog_20_method_1_code 49 = .ok (.putfield 26, 3) := by decide +kernel
theorem d1_52 : decode prog_20_method_1_code 52 = .ok (.return_, 1) := by decide +kernel
def Q_pwinit (Z : State) (a : Addr) (cp : Int32) (h0 : Heap) (n0 : Nat) (v : Option Value) (h : Heap) (L : List Loc) : Prop := ∃ lo : Addr, ∃ ea : Addr, ∃ ma : Addr, ∃ un : Addr, ∃ li : Addr, ∃ kl : ClassId, ∃ ke : ClassId, ∃ km : ClassId, ∃ ku : ClassId, ∃ ki : ClassId, v = none ∧ Fr n0 L ∧ Keep h0 h [a] ∧ h0.size ≤ lo ∧ h0.size ≤ ea ∧ h0.size ≤ ma ∧ h0.size ≤ un ∧ h0.size ≤ li ∧ Fld Z h a "com/example/dodder/dodder/engine/PathWrites" "logged" "[I" (.ref lo) ∧ Fld Z h a "com/example/dodder/dodder/engine/PathWrites" "earlierWrites" "[I" (.ref ea) ∧ Fld Z h a "com/example/dodder/dodder/engine/PathWrites" "madeAfter" "[Ljava/lang/Object;" (.ref ma) ∧ Fld Z h a "com/example/dodder/dodder/engine/PathWrites" "unmade" "[I" (.ref un) ∧ Fld Z h a "com/example/dodder/dodder/engine/PathWrites" "listed" "[I" (.ref li) ∧ Fld Z h a "com/example/dodder/dodder/engine/PathWrites" "writes" "I" (.int (0 : Int32)) ∧ Fld Z h a "com/example/dodder/dodder/engine/PathWrites" "position" "I" (.int (0 : Int32)) ∧ Arv Z h lo kl .int ((2 : Int32) * cp) [(.int (0 : Int32)), (.int (0 : Int32)), (.int (0 : Int32)), (.int (0 : Int32)), (.int (0 : Int32)), (.int (0 : Int32))] (.int (0 : Int32)) ∧ Arv Z h ea ke .int cp [(.int (0 : Int32)), (.int (0 : Int32)), (.int (0 : Int32)), (.int (0 : Int32)), (.int (0 : Int32)), (.int (0 : Int32))] (.int (0 : Int32)) ∧ Arv Z h ma km (.object "java/lang/Object") cp [.null, .null, .null, .null, .null, .null] .null ∧ Arv Z h un ku .int cp [(.int (0 : Int32)), (.int (0 : Int32)), (.int (0 : Int32)), (.int (0 : Int32)), (.int (0 : Int32)), (.int (0 : Int32))] (.int (0 : Int32)) ∧ Arv Z h li ki .int ((2 : Int32) * cp) [(.int (0 : Int32)), (.int (0 : Int32)), (.int (0 : Int32)), (.int (0 : Int32)), (.int (0 : Int32)), (.int (0 : Int32))] (.int (0 : Int32)) ∧ Exa Z h ma "[Ljava/lang/Object;" ∧ lo ≠ ea ∧ lo ≠ ma ∧ lo ≠ un ∧ lo ≠ li ∧ ea ≠ ma ∧ ea ≠ un ∧ ea ≠ li ∧ ma ≠ un ∧ ma ≠ li ∧ un ≠ li
theorem ef_7 (m : MethodId) (x0 : Addr) (x1 : Int32) : entryFrame m #[(.ref x0), (.int x1)] 2 = mkF m 0 #[.val (.ref x0), .val (.int x1)] [] := by first | (simp [entryFrame, mkF, argsToLocals, Value.category]; done) | rfl
theorem pn_1 : plainName "com/example/dodder/dodder/engine/PathWrites" = true := by first | (simp [plainName, overriddenIn]; done) | decide +kernel
abbrev y_5 : MethodName := ⟨"com/example/dodder/dodder/engine/PathWrites", "<init>", "(I)V"⟩
set_option maxRecDepth 65536 in
set_option maxHeartbeats 40000000 in
theorem pwinit (l : Launch) (Z : State) (a0 : Array Value) (hw : ∀ d ∈ tables_1, d.before a0 Z = true) (ws : List Jvm.Cond) (a : Addr) (cp : Int32) (h0 : Heap) (n0 : Nat) (O : Old Z n0 h0) (Ea : Exa Z h0 a "com/example/dodder/dodder/engine/PathWrites") (f0 : Fld Z h0 a "com/example/dodder/dodder/engine/PathWrites" "run" "[I" .null) (f1 : Fld Z h0 a "com/example/dodder/dodder/engine/PathWrites" "writes" "I" (.int (0 : Int32))) (f2 : Fld Z h0 a "com/example/dodder/dodder/engine/PathWrites" "position" "I" (.int (0 : Int32))) (f3 : Fld Z h0 a "com/example/dodder/dodder/engine/PathWrites" "logged" "[I" .null) (f4 : Fld Z h0 a "com/example/dodder/dodder/engine/PathWrites" "earlierWrites" "[I" .null) (f5 : Fld Z h0 a "com/example/dodder/dodder/engine/PathWrites" "madeAfter" "[Ljava/lang/Object;" .null) (f6 : Fld Z h0 a "com/example/dodder/dodder/engine/PathWrites" "unmade" "[I" .null) (f7 : Fld Z h0 a "com/example/dodder/dodder/engine/PathWrites" "listed" "[I" .null) (ga : n0 ≤ a) (hcp : 0 ≤ cp.toInt ∧ cp.toInt ≤ 3) :
    Ctr l Z y_5 prog_20_method_1_code 2 none ws ({ frames := 1, cells := 6, slots := 85, locals := 12 } : Room) #[(.ref a), (.int cp)] h0 (Q_pwinit Z a cp h0 n0) := by
  refine MetFree.of_bodySF (plainFor_of_name pn_1) hisR ?_
  intro p e s m args below meth c s₁ Bd hml0 hP hK
  obtain ⟨rfl, hZ, hh⟩ := hP
  have W := fun (i : Nat) {d : Jvm.Cond} (h : tables_1[i]? = some d) => hw d (List.mem_of_getElem? h)
  have hx := Bd.exec
  have hby := Bd.bytes
  have hml : c.maxLocals = 2 := hml0
  have hown : s.vm.findClass "com/example/dodder/dodder/engine/PathWrites" = some m.cls := findClass_of_methodNamed Bd.named
  have hnm := (name_of_methodNamed Bd.named Bd.method).1
  have X0 : Stand p l e ({ frames := 1, cells := 6, slots := 85, locals := 12 } : Room) s m #[(.ref a), (.int cp)] below meth c s₁ [] 0 0 := Stand.of_body Bd
  have e0 : s₁.heap = h0 := by rw [← hh, Bd.state]; rfl
  have N0 := Fr.nil n0
  have pre0 : ∀ t, Steps p.tables e below (s₁.setTop (mkF m 0 #[.val (.ref a), .val (.int cp)] [])) t → Steps p.tables e below (s₁.setTop (entryFrame m #[(.ref a), (.int cp)] 2)) t := fun t kk_ => castTop (ef_7 m a cp) kk_
  have K0 := Keep.refl h0 [a]
  obtain ⟨T1, X1, e1, st1⟩ := initO X0 hx hZ hown (W 6 rfl) (W 7 rfl) (W 8 rfl) e0 (g := (mkF m 1 #[rv a, iv cp] [.ref a])) rfl (by rw [hml]; rfl) rfl (hb hby d1_1) (by decide) (W := 0) (by show 2 * 0 + _ ≤ _; exact Nat.le_of_eq rfl) (by decide)
  obtain ⟨T2, h2, k2, X2, e2, E2, A2, A2x, st2⟩ := newPE X1 hx hZ (W 9 rfl) e1 (g := (mkF m 7 #[rv a, iv cp] [.int 64, .ref a])) rfl (hb hby d1_7) rfl (by decide) (cap := 64) (by decide) (by decide) (by decide) (by decide) (ad := "[I") (by decide)
  obtain ⟨b2, g2⟩ : ∃ z, z = h0.size := ⟨_, rfl⟩
  rw [← g2] at A2 A2x st2
  have Ea := Ea.ext E2
  have f0 := f0.ext E2
  have f1 := f1.ext E2
  have f2 := f2.ext E2
  have f3 := f3.ext E2
  have f4 := f4.ext E2
  have f5 := f5.ext E2
  have f6 := f6.ext E2
  have f7 := f7.ext E2
  have K4 := K0.ext E2
  obtain ⟨T5, h5, X5, e5, W5, st5⟩ := putF X2 hx hZ hown (host := "") (Or.inl (W 10 rfl)) Via.refl e2 f0 Ea (Or.inr ⟨(W 11 rfl), rfl, hnm⟩) (W 1 rfl) (ty := (.array .int)) (by decide) rfl rfl (g := (mkF m 9 #[rv a, iv cp] [.ref b2, .ref a])) rfl rfl (hb hby d1_9)
  have Ea := Ea.wr W5
  have f1 := f1.other W5 (Or.inr (slot_ne (Or.inl (W 30 rfl)) (Or.inr (W 11 rfl)) (by decide) (t := .int) (t' := (.array .int)) (by decide) (by decide)))
  have f2 := f2.other W5 (Or.inr (slot_ne (Or.inl (W 32 rfl)) (Or.inr (W 11 rfl)) (by decide) (t := .int) (t' := (.array .int)) (by decide) (by decide)))
  have f3 := f3.other W5 (Or.inr (slot_ne (Or.inl (W 13 rfl)) (Or.inr (W 11 rfl)) (by decide) (t := (.array .int)) (t' := (.array .int)) (by decide) (by decide)))
  have f4 := f4.other W5 (Or.inr (slot_ne (Or.inl (W 15 rfl)) (Or.inr (W 11 rfl)) (by decide) (t := (.array .int)) (t' := (.array .int)) (by decide) (by decide)))
  have f5 := f5.other W5 (Or.inr (slot_ne (Or.inl (W 19 rfl)) (Or.inr (W 11 rfl)) (by decide) (t := (.array (.object "java/lang/Object"))) (t' := (.array .int)) (by decide) (by decide)))
  have f6 := f6.other W5 (Or.inr (slot_ne (Or.inl (W 21 rfl)) (Or.inr (W 11 rfl)) (by decide) (t := (.array .int)) (t' := (.array .int)) (by decide) (by decide)))
  have f7 := f7.other W5 (Or.inr (slot_ne (Or.inl (W 23 rfl)) (Or.inr (W 11 rfl)) (by decide) (t := (.array .int)) (t' := (.array .int)) (by decide) (by decide)))
  have K7 := K4.wr W5 (Or.inl (List.mem_of_getElem? (i := 0) rfl))
  have N8 := Fr.snoc X5 N0 ga
  obtain ⟨T9, h9, k9, X9, e9, E9, A9, A9x, st9⟩ := newPE X5 hx hZ (W 9 rfl) e5 (g := (mkF m 16 #[rv a, iv cp] [.int ((2 : Int32) * cp), .ref a])) rfl (hb hby d1_16) rfl ((own_cap2n hcp) : ¬ ((2 : Int32) * cp) < 0) (cap := 6) (own_cap2 hcp) (by decide) (by decide) (by decide) (ad := "[I") (by decide)
  obtain ⟨b9, g9⟩ : ∃ z, z = h5.size := ⟨_, rfl⟩
  rw [← g9] at A9 A9x st9
  have sz_b9 : h0.size ≤ b9 := Nat.le_trans K7.1 (Nat.le_of_eq g9.symm)
  have ne_a_b9 : a ≠ b9 := Nat.ne_of_lt (Nat.lt_of_lt_of_le Ea.lt (Nat.le_of_eq g9.symm))
  have Ea := Ea.ext E9
  have f1 := f1.ext E9
  have f2 := f2.ext E9
  have f3 := f3.ext E9
  have f4 := f4.ext E9
  have f5 := f5.ext E9
  have f6 := f6.ext E9
  have f7 := f7.ext E9
  have K11 := K7.ext E9
  have V9 : Arv Z h9 b9 k9 .int ((2 : Int32) * cp) [(.int (0 : Int32)), (.int (0 : Int32)), (.int (0 : Int32)), (.int (0 : Int32)), (.int (0 : Int32)), (.int (0 : Int32))] (.int (0 : Int32)) := (Arv.new A9 ((own_cap2n hcp) : ¬ ((2 : Int32) * cp) < 0)).pad (pad_rep [] (.int (0 : Int32)) 6)
  obtain ⟨T12, h12, X12, e12, W12, st12⟩ := putF X9 hx hZ hown (host := "") (Or.inl (W 12 rfl)) Via.refl e9 f3 Ea (Or.inl (W 13 rfl)) (W 1 rfl) (ty := (.array .int)) (by decide) rfl rfl (g := (mkF m 18 #[rv a, iv cp] [.ref b9, .ref a])) rfl rfl (hb hby d1_18)
  have Fz12 := f3.same W12
  have Ea := Ea.wr W12
  have f1 := f1.other W12 (Or.inr (slot_ne (Or.inl (W 30 rfl)) (Or.inl (W 13 rfl)) (by decide) (t := .int) (t' := (.array .int)) (by decide) (by decide)))
  have f2 := f2.other W12 (Or.inr (slot_ne (Or.inl (W 32 rfl)) (Or.inl (W 13 rfl)) (by decide) (t := .int) (t' := (.array .int)) (by decide) (by decide)))
  have f4 := f4.other W12 (Or.inr (slot_ne (Or.inl (W 15 rfl)) (Or.inl (W 13 rfl)) (by decide) (t := (.array .int)) (t' := (.array .int)) (by decide) (by decide)))
  have f5 := f5.other W12 (Or.inr (slot_ne (Or.inl (W 19 rfl)) (Or.inl (W 13 rfl)) (by decide) (t := (.array (.object "java/lang/Object"))) (t' := (.array .int)) (by decide) (by decide)))
  have f6 := f6.other W12 (Or.inr (slot_ne (Or.inl (W 21 rfl)) (Or.inl (W 13 rfl)) (by decide) (t := (.array .int)) (t' := (.array .int)) (by decide) (by decide)))
  have f7 := f7.other W12 (Or.inr (slot_ne (Or.inl (W 23 rfl)) (Or.inl (W 13 rfl)) (by decide) (t := (.array .int)) (t' := (.array .int)) (by decide) (by decide)))
  have V9 := V9.other W12 (Ne.symm ne_a_b9)
  have A9x := A9x.wr W12
  have K14 := K11.wr W12 (Or.inl (List.mem_of_getElem? (i := 0) rfl))
  have N15 := Fr.snoc X12 N8 ga
  obtain ⟨T16, h16, k16, X16, e16, E16, A16, A16x, st16⟩ := newPE X12 hx hZ (W 9 rfl) e12 (g := (mkF m 23 #[rv a, iv cp] [.int cp, .ref a])) rfl (hb hby d1_23) rfl ((own_cap1n hcp) : ¬ cp < 0) (cap := 3) (own_cap1 hcp) (by decide) (by decide) (by decide) (ad := "[I") (by decide)
  obtain ⟨b16, g16⟩ : ∃ z, z = h12.size := ⟨_, rfl⟩
  rw [← g16] at A16 A16x st16
  have sz_b16 : h0.size ≤ b16 := Nat.le_trans K14.1 (Nat.le_of_eq g16.symm)
  have ne_a_b16 : a ≠ b16 := Nat.ne_of_lt (Nat.lt_of_lt_of_le Ea.lt (Nat.le_of_eq g16.symm))
  have ne_b9_b16 : b9 ≠ b16 := Nat.ne_of_lt (Nat.lt_of_lt_of_le A9x.lt (Nat.le_of_eq g16.symm))
  have Ea := Ea.ext E16
  have f1 := f1.ext E16
  have f2 := f2.ext E16
  have f4 := f4.ext E16
  have f5 := f5.ext E16
  have f6 := f6.ext E16
  have f7 := f7.ext E16
  have V9 := V9.ext E16
  have A9x := A9x.ext E16
  have Fz12 := Fz12.ext E16
  have K18 := K14.ext E16
  have V16 : Arv Z h16 b16 k16 .int cp [(.int (0 : Int32)), (.int (0 : Int32)), (.int (0 : Int32)), (.int (0 : Int32)), (.int (0 : Int32)), (.int (0 : Int32))] (.int (0 : Int32)) := (Arv.new A16 ((own_cap1n hcp) : ¬ cp < 0)).pad (pad_rep [] (.int (0 : Int32)) 6)
  obtain ⟨T19, h19, X19, e19, W19, st19⟩ := putF X16 hx hZ hown (host := "") (Or.inl (W 14 rfl)) Via.refl e16 f4 Ea (Or.inl (W 15 rfl)) (W 1 rfl) (ty := (.array .int)) (by decide) rfl rfl (g := (mkF m 25 #[rv a, iv cp] [.ref b16, .ref a])) rfl rfl (hb hby d1_25)
  have Fz19 := f4.same W19
  have Ea := Ea.wr W19
  have f1 := f1.other W19 (Or.inr (slot_ne (Or.inl (W 30 rfl)) (Or.inl (W 15 rfl)) (by decide) (t := .int) (t' := (.array .int)) (by decide) (by decide)))
  have f2 := f2.other W19 (Or.inr (slot_ne (Or.inl (W 32 rfl)) (Or.inl (W 15 rfl)) (by decide) (t := .int) (t' := (.array .int)) (by decide) (by decide)))
  have f5 := f5.other W19 (Or.inr (slot_ne (Or.inl (W 19 rfl)) (Or.inl (W 15 rfl)) (by decide) (t := (.array (.object "java/lang/Object"))) (t' := (.array .int)) (by decide) (by decide)))
  have f6 := f6.other W19 (Or.inr (slot_ne (Or.inl (W 21 rfl)) (Or.inl (W 15 rfl)) (by decide) (t := (.array .int)) (t' := (.array .int)) (by decide) (by decide)))
  have f7 := f7.other W19 (Or.inr (slot_ne (Or.inl (W 23 rfl)) (Or.inl (W 15 rfl)) (by decide) (t := (.array .int)) (t' := (.array .int)) (by decide) (by decide)))
  have V9 := V9.other W19 (Ne.symm ne_a_b9)
  have A9x := A9x.wr W19
  have Fz12 := Fz12.other W19 (Or.inr (slot_ne (Or.inl (W 13 rfl)) (Or.inl (W 15 rfl)) (by decide) (t := (.array .int)) (t' := (.array .int)) (by decide) (by decide)))
  have V16 := V16.other W19 (Ne.symm ne_a_b16)
  have A16x := A16x.wr W19
  have K21 := K18.wr W19 (Or.inl (List.mem_of_getElem? (i := 0) rfl))
  have N22 := Fr.snoc X19 N15 ga
  obtain ⟨T23, h23, k23, X23, e23, E23, A23, A23x, Ov23, st23⟩ := newRE X19 hx hZ hown (W 16 rfl) (W 17 rfl) e19 (g := (mkF m 30 #[rv a, iv cp] [.int cp, .ref a])) rfl (hb hby d1_30) rfl ((own_cap1n hcp) : ¬ cp < 0) (cap := 3) (own_cap1 hcp) (by decide) (by decide) (by decide) (ad := "[Ljava/lang/Object;") (by decide)
  obtain ⟨b23, g23⟩ : ∃ z, z = h19.size := ⟨_, rfl⟩
  rw [← g23] at A23 A23x st23
  have sz_b23 : h0.size ≤ b23 := Nat.le_trans K21.1 (Nat.le_of_eq g23.symm)
  have ne_a_b23 : a ≠ b23 := Nat.ne_of_lt (Nat.lt_of_lt_of_le Ea.lt (Nat.le_of_eq g23.symm))
  have ne_b9_b23 : b9 ≠ b23 := Nat.ne_of_lt (Nat.lt_of_lt_of_le A9x.lt (Nat.le_of_eq g23.symm))
  have ne_b16_b23 : b16 ≠ b23 := Nat.ne_of_lt (Nat.lt_of_lt_of_le A16x.lt (Nat.le_of_eq g23.symm))
  have Ea := Ea.ext E23
  have f1 := f1.ext E23
  have f2 := f2.ext E23
  have f5 := f5.ext E23
  have f6 := f6.ext E23
  have f7 := f7.ext E23
  have V9 := V9.ext E23
  have A9x := A9x.ext E23
  have Fz12 := Fz12.ext E23
  have V16 := V16.ext E23
  have A16x := A16x.ext E23
  have Fz19 := Fz19.ext E23
  have K25 := K21.ext E23
  have V23 : Arv Z h23 b23 k23 (.object "java/lang/Object") cp [.null, .null, .null, .null, .null, .null] .null := (Arv.new A23 ((own_cap1n hcp) : ¬ cp < 0)).pad (pad_rep [] .null 6)
  obtain ⟨T26, h26, X26, e26, W26, st26⟩ := putF X23 hx hZ hown (host := "") (Or.inl (W 18 rfl)) Via.refl e23 f5 Ea (Or.inl (W 19 rfl)) (W 1 rfl) (ty := (.array (.object "java/lang/Object"))) (by decide) rfl rfl (g := (mkF m 33 #[rv a, iv cp] [.ref b23, .ref a])) rfl rfl (hb hby d1_33)
  have Fz26 := f5.same W26
  have Ea := Ea.wr W26
  have f1 := f1.other W26 (Or.inr (slot_ne (Or.inl (W 30 rfl)) (Or.inl (W 19 rfl)) (by decide) (t := .int) (t' := (.array (.object "java/lang/Object"))) (by decide) (by decide)))
  have f2 := f2.other W26 (Or.inr (slot_ne (Or.inl (W 32 rfl)) (Or.inl (W 19 rfl)) (by decide) (t := .int) (t' := (.array (.object "java/lang/Object"))) (by decide) (by decide)))
  have f6 := f6.other W26 (Or.inr (slot_ne (Or.inl (W 21 rfl)) (Or.inl (W 19 rfl)) (by decide) (t := (.array .int)) (t' := (.array (.object "java/lang/Object"))) (by decide) (by decide)))
  have f7 := f7.other W26 (Or.inr (slot_ne (Or.inl (W 23 rfl)) (Or.inl (W 19 rfl)) (by decide) (t := (.array .int)) (t' := (.array (.object "java/lang/Object"))) (by decide) (by decide)))
  have V9 := V9.other W26 (Ne.symm ne_a_b9)
  have A9x := A9x.wr W26
  have Fz12 := Fz12.other W26 (Or.inr (slot_ne (Or.inl (W 13 rfl)) (Or.inl (W 19 rfl)) (by decide) (t := (.array .int)) (t' := (.array (.object "java/lang/Object"))) (by decide) (by decide)))
  have V16 := V16.other W26 (Ne.symm ne_a_b16)
  have A16x := A16x.wr W26
  have Fz19 := Fz19.other W26 (Or.inr (slot_ne (Or.inl (W 15 rfl)) (Or.inl (W 19 rfl)) (by decide) (t := (.array .int)) (t' := (.array (.object "java/lang/Object"))) (by decide) (by decide)))
  have V23 := V23.other W26 (Ne.symm ne_a_b23)
  have A23x := A23x.wr W26
  have K28 := K25.wr W26 (Or.inl (List.mem_of_getElem? (i := 0) rfl))
  have N29 := Fr.snoc X26 N22 ga
  obtain ⟨T30, h30, k30, X30, e30, E30, A30, A30x, st30⟩ := newPE X26 hx hZ (W 9 rfl) e26 (g := (mkF m 38 #[rv a, iv cp] [.int cp, .ref a])) rfl (hb hby d1_38) rfl ((own_cap1n hcp) : ¬ cp < 0) (cap := 3) (own_cap1 hcp) (by decide) (by decide) (by decide) (ad := "[I") (by decide)
  obtain ⟨b30, g30⟩ : ∃ z, z = h26.size := ⟨_, rfl⟩
  rw [← g30] at A30 A30x st30
  have sz_b30 : h0.size ≤ b30 := Nat.le_trans K28.1 (Nat.le_of_eq g30.symm)
  have ne_a_b30 : a ≠ b30 := Nat.ne_of_lt (Nat.lt_of_lt_of_le Ea.lt (Nat.le_of_eq g30.symm))
  have ne_b9_b30 : b9 ≠ b30 := Nat.ne_of_lt (Nat.lt_of_lt_of_le A9x.lt (Nat.le_of_eq g30.symm))
  have ne_b16_b30 : b16 ≠ b30 := Nat.ne_of_lt (Nat.lt_of_lt_of_le A16x.lt (Nat.le_of_eq g30.symm))
  have ne_b23_b30 : b23 ≠ b30 := Nat.ne_of_lt (Nat.lt_of_lt_of_le A23x.lt (Nat.le_of_eq g30.symm))
  have Ea := Ea.ext E30
  have f1 := f1.ext E30
  have f2 := f2.ext E30
  have f6 := f6.ext E30
  have f7 := f7.ext E30
  have V9 := V9.ext E30
  have A9x := A9x.ext E30
  have Fz12 := Fz12.ext E30
  have V16 := V16.ext E30
  have A16x := A16x.ext E30
  have Fz19 := Fz19.ext E30
  have V23 := V23.ext E30
  have A23x := A23x.ext E30
  have Fz26 := Fz26.ext E30
  have K32 := K28.ext E30
  have V30 : Arv Z h30 b30 k30 .int cp [(.int (0 : Int32)), (.int (0 : Int32)), (.int (0 : Int32)), (.int (0 : Int32)), (.int (0 : Int32)), (.int (0 : Int32))] (.int (0 : Int32)) := (Arv.new A30 ((own_cap1n hcp) : ¬ cp < 0)).pad (pad_rep [] (.int (0 : Int32)) 6)
  obtain ⟨T33, h33, X33, e33, W33, st33⟩ := putF X30 hx hZ hown (host := "") (Or.inl (W 20 rfl)) Via.refl e30 f6 Ea (Or.inl (W 21 rfl)) (W 1 rfl) (ty := (.array .int)) (by decide) rfl rfl (g := (mkF m 40 #[rv a, iv cp] [.ref b30, .ref a])) rfl rfl (hb hby d1_40)
  have Fz33 := f6.same W33
  have Ea := Ea.wr W33
  have f1 := f1.other W33 (Or.inr (slot_ne (Or.inl (W 30 rfl)) (Or.inl (W 21 rfl)) (by decide) (t := .int) (t' := (.array .int)) (by decide) (by decide)))
  have f2 := f2.other W33 (Or.inr (slot_ne (Or.inl (W 32 rfl)) (Or.inl (W 21 rfl)) (by decide) (t := .int) (t' := (.array .int)) (by decide) (by decide)))
  have f7 := f7.other W33 (Or.inr (slot_ne (Or.inl (W 23 rfl)) (Or.inl (W 21 rfl)) (by decide) (t := (.array .int)) (t' := (.array .int)) (by decide) (by decide)))
  have V9 := V9.other W33 (Ne.symm ne_a_b9)
  have A9x := A9x.wr W33
  have Fz12 := Fz12.other W33 (Or.inr (slot_ne (Or.inl (W 13 rfl)) (Or.inl (W 21 rfl)) (by decide) (t := (.array .int)) (t' := (.array .int)) (by decide) (by decide)))
  have V16 := V16.other W33 (Ne.symm ne_a_b16)
  have A16x := A16x.wr W33
  have Fz19 := Fz19.other W33 (Or.inr (slot_ne (Or.inl (W 15 rfl)) (Or.inl (W 21 rfl)) (by decide) (t := (.array .int)) (t' := (.array .int)) (by decide) (by decide)))
  have V23 := V23.other W33 (Ne.symm ne_a_b23)
  have A23x := A23x.wr W33
  have Fz26 := Fz26.other W33 (Or.inr (slot_ne (Or.inl (W 19 rfl)) (Or.inl (W 21 rfl)) (by decide) (t := (.array (.object "java/lang/Object"))) (t' := (.array .int)) (by decide) (by decide)))
  have V30 := V30.other W33 (Ne.symm ne_a_b30)
  have A30x := A30x.wr W33
  have K35 := K32.wr W33 (Or.inl (List.mem_of_getElem? (i := 0) rfl))
  have N36 := Fr.snoc X33 N29 ga
  obtain ⟨T37, h37, k37, X37, e37, E37, A37, A37x, st37⟩ := newPE X33 hx hZ (W 9 rfl) e33 (g := (mkF m 47 #[rv a, iv cp] [.int ((2 : Int32) * cp), .ref a])) rfl (hb hby d1_47) rfl ((own_cap2n hcp) : ¬ ((2 : Int32) * cp) < 0) (cap := 6) (own_cap2 hcp) (by decide) (by decide) (by decide) (ad := "[I") (by decide)
  obtain ⟨b37, g37⟩ : ∃ z, z = h33.size := ⟨_, rfl⟩
  rw [← g37] at A37 A37x st37
  have sz_b37 : h0.size ≤ b37 := Nat.le_trans K35.1 (Nat.le_of_eq g37.symm)
  have ne_a_b37 : a ≠ b37 := Nat.ne_of_lt (Nat.lt_of_lt_of_le Ea.lt (Nat.le_of_eq g37.symm))
  have ne_b9_b37 : b9 ≠ b37 := Nat.ne_of_lt (Nat.lt_of_lt_of_le A9x.lt (Nat.le_of_eq g37.symm))
  have ne_b16_b37 : b16 ≠ b37 := Nat.ne_of_lt (Nat.lt_of_lt_of_le A16x.lt (Nat.le_of_eq g37.symm))
  have ne_b23_b37 : b23 ≠ b37 := Nat.ne_of_lt (Nat.lt_of_lt_of_le A23x.lt (Nat.le_of_eq g37.symm))
  have ne_b30_b37 : b30 ≠ b37 := Nat.ne_of_lt (Nat.lt_of_lt_of_le A30x.lt (Nat.le_of_eq g37.symm))
  have Ea := Ea.ext E37
  have f1 := f1.ext E37
  have f2 := f2.ext E37
  have f7 := f7.ext E37
  have V9 := V9.ext E37
  have Fz12 := Fz12.ext E37
  have V16 := V16.ext E37
  have Fz19 := Fz19.ext E37
  have V23 := V23.ext E37
  have A23x := A23x.ext E37
  have Fz26 := Fz26.ext E37
  have V30 := V30.ext E37
  have Fz33 := Fz33.ext E37
  have K39 := K35.ext E37
  have V37 : Arv Z h37 b37 k37 .int ((2 : Int32) * cp) [(.int (0 : Int32)), (.int (0 : Int32)), (.int (0 : Int32)), (.int (0 : Int32)), (.int (0 : Int32)), (.int (0 : Int32))] (.int (0 : Int32)) := (Arv.new A37 ((own_cap2n hcp) : ¬ ((2 : Int32) * cp) < 0)).pad (pad_rep [] (.int (0 : Int32)) 6)
  obtain ⟨T40, h40, X40, e40, W40, st40⟩ := putF X37 hx hZ hown (host := "") (Or.inl (W 22 rfl)) Via.refl e37 f7 Ea (Or.inl (W 23 rfl)) (W 1 rfl) (ty := (.array .int)) (by decide) rfl rfl (g := (mkF m 49 #[rv a, iv cp] [.ref b37, .ref a])) rfl rfl (hb hby d1_49)
  have Fz40 := f7.same W40
  have f1 := f1.other W40 (Or.inr (slot_ne (Or.inl (W 30 rfl)) (Or.inl (W 23 rfl)) (by decide) (t := .int) (t' := (.array .int)) (by decide) (by decide)))
  have f2 := f2.other W40 (Or.inr (slot_ne (Or.inl (W 32 rfl)) (Or.inl (W 23 rfl)) (by decide) (t := .int) (t' := (.array .int)) (by decide) (by decide)))
  have V9 := V9.other W40 (Ne.symm ne_a_b9)
  have Fz12 := Fz12.other W40 (Or.inr (slot_ne (Or.inl (W 13 rfl)) (Or.inl (W 23 rfl)) (by decide) (t := (.array .int)) (t' := (.array .int)) (by decide) (by decide)))
  have V16 := V16.other W40 (Ne.symm ne_a_b16)
  have Fz19 := Fz19.other W40 (Or.inr (slot_ne (Or.inl (W 15 rfl)) (Or.inl (W 23 rfl)) (by decide) (t := (.array .int)) (t' := (.array .int)) (by decide) (by decide)))
  have V23 := V23.other W40 (Ne.symm ne_a_b23)
  have A23x := A23x.wr W40
  have Fz26 := Fz26.other W40 (Or.inr (slot_ne (Or.inl (W 19 rfl)) (Or.inl (W 23 rfl)) (by decide) (t := (.array (.object "java/lang/Object"))) (t' := (.array .int)) (by decide) (by decide)))
  have V30 := V30.other W40 (Ne.symm ne_a_b30)
  have Fz33 := Fz33.other W40 (Or.inr (slot_ne (Or.inl (W 21 rfl)) (Or.inl (W 23 rfl)) (by decide) (t := (.array .int)) (t' := (.array .int)) (by decide) (by decide)))
  have V37 := V37.other W40 (Ne.symm ne_a_b37)
  have K42 := K39.wr W40 (Or.inl (List.mem_of_getElem? (i := 0) rfl))
  have N43 := Fr.snoc X40 N36 ga
  obtain ⟨fs, hr, hrun, hended, hW, hsame⟩ := X40.leave (v := none) (fun _ => rfl)
  refine ⟨_, _, pre0 _ ?_, hrun, hended, _, _, rfl, ?_, ⟨_, rfl⟩, hW, hsame.mono (by decide) (by decide)⟩
  · show Sq p e below m s₁ 0 #[rv a, iv cp] [] _
    refine XS.aloadN X0.here hx rfl (hb hby d1_0) rfl rfl ?_
    show Sq p e below m s₁ 1 #[rv a, iv cp] [.ref a] _
    refine st1 _ ?_
    show Sq p e below m T1 4 #[rv a, iv cp] [] _
    refine XS.aloadN X1.here hx rfl (hb hby d1_4) rfl rfl ?_
    refine XS.bipush X1.here hx rfl (hb hby d1_5) ?_
    show Sq p e below m T1 7 #[rv a, iv cp] [.int 64, .ref a] _
    refine st2 _ ?_
    show Sq p e below m T2 9 #[rv a, iv cp] [.ref b2, .ref a] _
    refine st5 _ ?_
    show Sq p e below m T5 12 #[rv a, iv cp] [] _
    refine XS.aloadN X5.here hx rfl (hb hby d1_12) rfl rfl ?_
    refine XS.iconst X5.here hx rfl (hb hby d1_13) ?_
    show Sq p e below m T5 14 #[rv a, iv cp] [.int 2, .ref a] _
    refine XS.iloadN X5.here hx rfl (hb hby d1_14) rfl ?_
    refine XS.imul X5.here hx rfl (hb hby d1_15) rfl ?_
    show Sq p e below m T5 16 #[rv a, iv cp] [.int ((2 : Int32) * cp), .ref a] _
    refine st9 _ ?_
    show Sq p e below m T9 18 #[rv a, iv cp] [.ref b9, .ref a] _
    refine st12 _ ?_
    show Sq p e below m T12 21 #[rv a, iv cp] [] _
    refine XS.aloadN X12.here hx rfl (hb hby d1_21) rfl rfl ?_
    refine XS.iloadN X12.here hx rfl (hb hby d1_22) rfl ?_
    show Sq p e below m T12 23 #[rv a, iv cp] [.int cp, .ref a] _
    refine st16 _ ?_
    show Sq p e below m T16 25 #[rv a, iv cp] [.ref b16, .ref a] _
    refine st19 _ ?_
    show Sq p e below m T19 28 #[rv a, iv cp] [] _
    refine XS.aloadN X19.here hx rfl (hb hby d1_28) rfl rfl ?_
    refine XS.iloadN X19.here hx rfl (hb hby d1_29) rfl ?_
    show Sq p e below m T19 30 #[rv a, iv cp] [.int cp, .ref a] _
    refine st23 _ ?_
    show Sq p e below m T23 33 #[rv a, iv cp] [.ref b23, .ref a] _
    refine st26 _ ?_
    show Sq p e below m T26 36 #[rv a, iv cp] [] _
    refine XS.aloadN X26.here hx rfl (hb hby d1_36) rfl rfl ?_
    refine XS.iloadN X26.here hx rfl (hb hby d1_37) rfl ?_
    show Sq p e below m T26 38 #[rv a, iv cp] [.int cp, .ref a] _
    refine st30 _ ?_
    show Sq p e below m T30 40 #[rv a, iv cp] [.ref b30, .ref a] _
    refine st33 _ ?_
    show Sq p e below m T33 43 #[rv a, iv cp] [] _
    refine XS.aloadN X33.here hx rfl (hb hby d1_43) rfl rfl ?_
    refine XS.iconst X33.here hx rfl (hb hby d1_44) ?_
    show Sq p e below m T33 45 #[rv a, iv cp] [.int 2, .ref a] _
    refine XS.iloadN X33.here hx rfl (hb hby d1_45) rfl ?_
    refine XS.imul X33.here hx rfl (hb hby d1_46) rfl ?_
    show Sq p e below m T33 47 #[rv a, iv cp] [.int ((2 : Int32) * cp), .ref a] _
    refine st37 _ ?_
    show Sq p e below m T37 49 #[rv a, iv cp] [.ref b37, .ref a] _
    refine st40 _ ?_
    show Sq p e below m T40 52 #[rv a, iv cp] [] _
    exact X40.returnOut hx Bd.returns (hb hby d1_52) hr
  · show Q_pwinit Z a cp h0 n0 _ T40.heap _
    rw [e40]
    exact ⟨b9, b16, b23, b30, b37, k9, k16, k23, k30, k37, rfl, N43, K42, sz_b9, sz_b16, sz_b23, sz_b30, sz_b37, Fz12, Fz19, Fz26, Fz33, Fz40, f1, f2, V9, V16, V23, V30, V37, A23x, ne_b9_b16, ne_b9_b23, ne_b9_b30, ne_b9_b37, ne_b16_b23, ne_b16_b30, ne_b16_b37, ne_b23_b30, ne_b23_b37, ne_b30_b37⟩
theorem d3_0 : decode prog_20_method_2_code 0 = .ok (.aload_n 0, 1) := by decide +kernel
theorem d3_1 : decode prog_20_method_2_code 1 = .ok (.iconst 0, 1) := by decide +kernel
theorem d3_2 : decode prog_20_method_2_code 2 = .ok (.putfield 29, 3) := by decide +kernel
theorem d3_5 : decode prog_20_method_2_code 5 = .ok (.aload_n 0, 1) := by decide +kernel
theorem d3_6 : decode prog_20_method_2_code 6 = .ok (.iload_n 1, 1) := by decide +kernel
theorem d3_7 : decode prog_20_method_2_code 7 = .ok (.putfield 33, 3) := by decide +kernel
theorem d3_10 : decode prog_20_method_2_code 10 = .ok (.return_, 1) := by decide +kernel
def Q_pwclear (Z : State) (a : Addr) (ps : Int32) (lo : Addr) (ea : Addr) (ma : Addr) (un : Addr) (li : Addr) (h0 : Heap) (n0 : Nat) (v : Option Value) (h : Heap) (L : List Loc) : Prop := v = none ∧ Fr n0 L ∧ Keep h0 h [a] ∧ Fld Z h a "com/example/dodder/dodder/engine/PathWrites" "logged" "[I" (.ref lo) ∧ Fld Z h a "com/example/dodder/dodder/engine/PathWrites" "earlierWrites" "[I" (.ref ea) ∧ Fld Z h a "com/example/dodder/dodder/engine/PathWrites" "madeAfter" "[Ljava/lang/Object;" (.ref ma) ∧ Fld Z h a "com/example/dodder/dodder/engine/PathWrites" "unmade" "[I" (.ref un) ∧ Fld Z h a "com/example/dodder/dodder/engine/PathWrites" "listed" "[I" (.ref li) ∧ Fld Z h a "com/example/dodder/dodder/engine/PathWrites" "writes" "I" (.int (0 : Int32)) ∧ Fld Z h a "com/example/dodder/dodder/engine/PathWrites" "position" "I" (.int ps)
theorem ef_8 (m : MethodId) (x0 : Addr) (x1 : Int32) : entryFrame m #[(.ref x0), (.int x1)] 2 = mkF m 0 #[.val (.ref x0), .val (.int x1)] [] := by first | (simp [entryFrame, mkF, argsToLocals, Value.category]; done) | rfl
abbrev y_6 : MethodName := ⟨"com/example/dodder/dodder/engine/PathWrites", "clear", "(I)V"⟩
set_option maxRecDepth 65536 in
set_option maxHeartbeats 40000000 in
theorem pwclear (l : Launch) (Z : State) (a0 : Array Value) (hw : ∀ d ∈ tables_1, d.before a0 Z = true) (ws : List Jvm.Cond) (a : Addr) (ps : Int32) (lo : Addr) (ea : Addr) (ma : Addr) (un : Addr) (li : Addr) (h0 : Heap) (n0 : Nat) (O : Old Z n0 h0) (Ea : Exa Z h0 a "com/example/dodder/dodder/engine/PathWrites") (f0 : Fld Z h0 a "com/example/dodder/dodder/engine/PathWrites" "logged" "[I" (.ref lo)) (f1 : Fld Z h0 a "com/example/dodder/dodder/engine/PathWrites" "earlierWrites" "[I" (.ref ea)) (f2 : Fld Z h0 a "com/example/dodder/dodder/engine/PathWrites" "madeAfter" "[Ljava/lang/Object;" (.ref ma)) (f3 : Fld Z h0 a "com/example/dodder/dodder/engine/PathWrites" "unmade" "[I" (.ref un)) (f4 : Fld Z h0 a "com/example/dodder/dodder/engine/PathWrites" "listed" "[I" (.ref li)) (fw : Fld Z h0 a "com/example/dodder/dodder/engine/PathWrites" "writes" "I" (.int (0 : Int32))) (fp : Fld Z h0 a "com/example/dodder/dodder/engine/PathWrites" "position" "I" (.int (0 : Int32))) (ga : n0 ≤ a) :
    Ctr l Z y_6 prog_20_method_2_code 2 none ws ({ frames := 0, cells := 0, slots := 0, locals := 0 } : Room) #[(.ref a), (.int ps)] h0 (Q_pwclear Z a ps lo ea ma un li h0 n0) := by
  refine MetFree.of_bodySF (plainFor_of_name pn_1) hisR ?_
  intro p e s m args below meth c s₁ Bd hml0 hP hK
  obtain ⟨rfl, hZ, hh⟩ := hP
  have W := fun (i : Nat) {d : Jvm.Cond} (h : tables_1[i]? = some d) => hw d (List.mem_of_getElem? h)
  have hx := Bd.exec
  have hby := Bd.bytes
  have hml : c.maxLocals = 2 := hml0
  have hown : s.vm.findClass "com/example/dodder/dodder/engine/PathWrites" = some m.cls := findClass_of_methodNamed Bd.named
  have hnm := (name_of_methodNamed Bd.named Bd.method).1
  have X0 : Stand p l e ({ frames := 0, cells := 0, slots := 0, locals := 0 } : Room) s m #[(.ref a), (.int ps)] below meth c s₁ [] 0 0 := Stand.of_body Bd
  have e0 : s₁.heap = h0 := by rw [← hh, Bd.state]; rfl
  have N0 := Fr.nil n0
  have pre0 : ∀ t, Steps p.tables e below (s₁.setTop (mkF m 0 #[.val (.ref a), .val (.int ps)] [])) t → Steps p.tables e below (s₁.setTop (entryFrame m #[(.ref a), (.int ps)] 2)) t := fun t kk_ => castTop (ef_8 m a ps) kk_
  have K0 := Keep.refl h0 [a]
  obtain ⟨T1, h1, X1, e1, W1, st1⟩ := putF X0 hx hZ hown (host := "") (Or.inl (W 29 rfl)) Via.refl e0 fw Ea (Or.inl (W 30 rfl)) (W 1 rfl) (ty := .int) (by decide) rfl rfl (g := (mkF m 2 #[rv a, iv ps] [.int 0, .ref a])) rfl rfl (hb hby d3_2)
  have Fz1 := fw.same W1
  have Ea := Ea.wr W1
  have f0 := f0.other W1 (Or.inr (slot_ne (Or.inl (W 13 rfl)) (Or.inl (W 30 rfl)) (by decide) (t := (.array .int)) (t' := .int) (by decide) (by decide)))
  have f1 := f1.other W1 (Or.inr (slot_ne (Or.inl (W 15 rfl)) (Or.inl (W 30 rfl)) (by decide) (t := (.array .int)) (t' := .int) (by decide) (by decide)))
  have f2 := f2.other W1 (Or.inr (slot_ne (Or.inl (W 19 rfl)) (Or.inl (W 30 rfl)) (by decide) (t := (.array (.object "java/lang/Object"))) (t' := .int) (by decide) (by decide)))
  have f3 := f3.other W1 (Or.inr (slot_ne (Or.inl (W 21 rfl)) (Or.inl (W 30 rfl)) (by decide) (t := (.array .int)) (t' := .int) (by decide) (by decide)))
  have f4 := f4.other W1 (Or.inr (slot_ne (Or.inl (W 23 rfl)) (Or.inl (W 30 rfl)) (by decide) (t := (.array .int)) (t' := .int) (by decide) (by decide)))
  have fp := fp.other W1 (Or.inr (slot_ne (Or.inl (W 32 rfl)) (Or.inl (W 30 rfl)) (by decide) (t := .int) (t' := .int) (by decide) (by decide)))
  have K3 := K0.wr W1 (Or.inl (List.mem_of_getElem? (i := 0) rfl))
  have N4 := Fr.snoc X1 N0 ga
  obtain ⟨T5, h5, X5, e5, W5, st5⟩ := putF X1 hx hZ hown (host := "") (Or.inl (W 31 rfl)) Via.refl e1 fp Ea (Or.inl (W 32 rfl)) (W 1 rfl) (ty := .int) (by decide) rfl rfl (g := (mkF m 7 #[rv a, iv ps] [.int ps, .ref a])) rfl rfl (hb hby d3_7)
  have Fz5 := fp.same W5
  have f0 := f0.other W5 (Or.inr (slot_ne (Or.inl (W 13 rfl)) (Or.inl (W 32 rfl)) (by decide) (t := (.array .int)) (t' := .int) (by decide) (by decide)))
  have f1 := f1.other W5 (Or.inr (slot_ne (Or.inl (W 15 rfl)) (Or.inl (W 32 rfl)) (by decide) (t := (.array .int)) (t' := .int) (by decide) (by decide)))
  have f2 := f2.other W5 (Or.inr (slot_ne (Or.inl (W 19 rfl)) (Or.inl (W 32 rfl)) (by decide) (t := (.array (.object "java/lang/Object"))) (t' := .int) (by decide) (by decide)))
  have f3 := f3.other W5 (Or.inr (slot_ne (Or.inl (W 21 rfl)) (Or.inl (W 32 rfl)) (by decide) (t := (.array .int)) (t' := .int) (by decide) (by decide)))
  have f4 := f4.other W5 (Or.inr (slot_ne (Or.inl (W 23 rfl)) (Or.inl (W 32 rfl)) (by decide) (t := (.array .int)) (t' := .int) (by decide) (by decide)))
  have Fz1 := Fz1.other W5 (Or.inr (slot_ne (Or.inl (W 30 rfl)) (Or.inl (W 32 rfl)) (by decide) (t := .int) (t' := .int) (by decide) (by decide)))
  have K7 := K3.wr W5 (Or.inl (List.mem_of_getElem? (i := 0) rfl))
  have N8 := Fr.snoc X5 N4 ga
  obtain ⟨fs, hr, hrun, hended, hW, hsame⟩ := X5.leave (v := none) (fun _ => rfl)
  refine ⟨_, _, pre0 _ ?_, hrun, hended, _, _, rfl, ?_, ⟨_, rfl⟩, hW, hsame.mono (by decide) (by decide)⟩
  · show Sq p e below m s₁ 0 #[rv a, iv ps] [] _
    refine XS.aloadN X0.here hx rfl (hb hby d3_0) rfl rfl ?_
    refine XS.iconst X0.here hx rfl (hb hby d3_1) ?_
    show Sq p e below m s₁ 2 #[rv a, iv ps] [.int 0, .ref a] _
    refine st1 _ ?_
    show Sq p e below m T1 5 #[rv a, iv ps] [] _
    refine XS.aloadN X1.here hx rfl (hb hby d3_5) rfl rfl ?_
    refine XS.iloadN X1.here hx rfl (hb hby d3_6) rfl ?_
    show Sq p e below m T1 7 #[rv a, iv ps] [.int ps, .ref a] _
    refine st5 _ ?_
    show Sq p e below m T5 10 #[rv a, iv ps] [] _
    exact X5.returnOut hx Bd.returns (hb hby d3_10) hr
  · show Q_pwclear Z a ps lo ea ma un li h0 n0 _ T5.heap _
    rw [e5]
    exact ⟨rfl, N8, K7, f0, f1, f2, f3, f4, Fz1, Fz5⟩
theorem d4_0 : decode prog_20_method_3_code 0 = .ok (.aload_n 0, 1) := by decide +kernel
theorem d4_1 : decode prog_20_method_3_code 1 = .ok (.getfield 29, 3) := by decide +kernel
theorem d4_4 : decode prog_20_method_3_code 4 = .ok (.aload_n 0, 1) := by decide +kernel
theorem d4_5 : decode prog_20_method_3_code 5 = .ok (.getfield 16, 3) := by decide +kernel
theorem d4_8 : decode prog_20_method_3_code 8 = .ok (.arraylength, 1) := by decide +kernel
theorem d4_9 : decode prog_20_method_3_code 9 = .ok (.if_icmp .ne 85, 3) := by decide +kernel
theorem d4_12 : decode prog_20_method_3_code 12 = .ok (.iconst 2, 1) := by decide +kernel
theorem d4_13 : decode prog_20_method_3_code 13 = .ok (.aload_n 0, 1) := by decide +kernel
theorem d4_14 : decode prog_20_method_3_code 14 = .ok (.getfield 29, 3) := by decide +kernel
theorem d4_17 : decode prog_20_method_3_code 17 = .ok (.imul, 1) := by decide +kernel
theorem d4_18 : decode prog_20_method_3_code 18 = .ok (.bipush 16, 2) := by decide +kernel
theorem d4_20 : decode prog_20_method_3_code 20 = .ok (.invokestatic 36, 3) := by decide +kernel
theorem d4_23 : decode prog_20_method_3_code 23 = .ok (.istore 4, 2) := by decide +kernel
theorem d4_25 : decode prog_20_method_3_code 25 = .ok (.aload_n 0, 1) := by decide +kernel
theorem d4_26 : decode prog_20_method_3_code 26 = .ok (.aload_n 0, 1) := by decide +kernel
theorem d4_27 : decode prog_20_method_3_code 27 = .ok (.getfield 13, 3) := by decide +kernel
theorem d4_30 : decode prog_20_method_3_code 30 = .ok (.iconst 2, 1) := by decide +kernel
theorem d4_31 : decode prog_20_method_3_code 31 = .ok (.iload 4, 2) := by decide +kernel
theorem d4_33 : decode prog_20_method_3_code 33 = .ok (.imul, 1) := by decide +kernel
theorem d4_34 : decode prog_20_method_3_code 34 = .ok (.invokestatic 42, 3) := by decide +kernel
theorem pd_2 : parseMethodDescriptor "([II)[I" = some ⟨[(.array .int), .int], some (.array .int)⟩ := by decide +kernel
theorem d4_37 : decode prog_20_method_3_code 37 = .ok (.putfield 13, 3) := by decide +kernel
theorem d4_40 : decode prog_20_method_3_code 40 = .ok (.aload_n 0, 1) := by decide +kernel
theorem d4_41 : decode prog_20_method_3_code 41 = .ok (.aload_n 0, 1) := by decide +kernel
theorem d4_42 : decode prog_20_method_3_code 42 = .ok (.getfield 16, 3) := by decide +kernel
theorem d4_45 : decode prog_20_method_3_code 45 = .ok (.iload 4, 2) := by decide +kernel
theorem d4_47 : decode prog_20_method_3_code 47 = .ok (.invokestatic 42, 3) := by decide +kernel
theorem d4_50 : decode prog_20_method_3_code 50 = .ok (.putfield 16, 3) := by decide +kernel
theorem d4_53 : decode prog_20_method_3_code 53 = .ok (.aload_n 0, 1) := by decide +kernel
theorem d4_54 : decode prog_20_method_3_code 54 = .ok (.aload_n 0, 1) := by decide +kernel
theorem d4_55 : decode prog_20_method_3_code 55 = .ok (.getfield 19, 3) := by decide +kernel
theorem d4_58 : decode prog_20_method_3_code 58 = .ok (.iload 4, 2) := by decide +kernel
theorem d4_60 : decode prog_20_method_3_code 60 = .ok (.invokestatic 48, 3) := by decide +kernel
theorem pd_3 : parseMethodDescriptor "([Ljava/lang/Object;I)[Ljava/lang/Object;" = some ⟨[(.array (.object "java/lang/Object")), .int], some (.array (.object "java/lang/Object"))⟩ := by decide +kernel
theorem d4_63 : decode prog_20_method_3_code 63 = .ok (.putfield 19, 3) := by decide +kernel
theorem d4_66 : decode prog_20_method_3_code 66 = .ok (.aload_n 0, 1) := by decide +kernel
theorem d4_67 : decode prog_20_method_3_code 67 = .ok (.aload_n 0, 1) := by decide +kernel
theorem d4_68 : decode prog_20_method_3_code 68 = .ok (.getfield 23, 3) := by decide +kernel
theorem d4_71 : decode prog_20_method_3_code 71 = .ok (.iload 4, 2) := by decide +kernel
theorem d4_73 : decode prog_20_method_3_code 73 = .ok (.invokestatic 42, 3) := by decide +kernel
theorem d4_76 : decode prog_20_method_3_code 76 = .ok (.putfield 23, 3) := by decide +kernel
theorem d4_79 : decode prog_20_method_3_code 79 = .ok (.aload_n 0, 1) := by decide +kernel
theorem d4_80 : decode prog_20_method_3_code 80 = .ok (.aload_n 0, 1) := by decide +kernel
theorem d4_81 : decode prog_20_method_3_code 81 = .ok (.getfield 26, 3) := by decide +kernel
theorem d4_84 : decode prog_20_method_3_code 84 = .ok (.iconst 2, 1) := by decide +kernel
theorem d4_85 : decode prog_20_method_3_code 85 = .ok (.iload 4, 2) := by decide +kernel
theorem d4_87 : decode prog_20_method_3_code 87 = .ok (.imul, 1) := by decide +kernel
theorem d4_88 : decode prog_20_method_3_code 88 = .ok (.invokestatic 42, 3) := by decide +kernel
theorem d4_91 : decode prog_20_method_3_code 91 = .ok (.putfield 26, 3) := by decide +kernel
theorem d4_94 : decode prog_20_method_3_code 94 = .ok (.aload_n 0, 1) := by decide +kernel
theorem d4_95 : decode prog_20_method_3_code 95 = .ok (.getfield 13, 3) := by decide +kernel
theorem d4_98 : decode prog_20_method_3_code 98 = .ok (.iconst 2, 1) := by decide +kernel
theorem d4_99 : decode prog_20_method_3_code 99 = .ok (.aload_n 0, 1) := by decide +kernel
theorem d4_100 : decode prog_20_method_3_code 100 = .ok (.getfield 29, 3) := by decide +kernel
theorem d4_103 : decode prog_20_method_3_code 103 = .ok (.imul, 1) := by decide +kernel
theorem d4_104 : decode prog_20_method_3_code 104 = .ok (.iload_n 1, 1) := by decide +kernel
theorem d4_105 : decode prog_20_method_3_code 105 = .ok (.iastore, 1) := by decide +kernel
theorem d4_106 : decode prog_20_method_3_code 106 = .ok (.aload_n 0, 1) := by decide +kernel
theorem d4_107 : decode prog_20_method_3_code 107 = .ok (.getfield 13, 3) := by decide +kernel
theorem d4_110 : decode prog_20_method_3_code 110 = .ok (.iconst 2, 1) := by decide +kernel
theorem d4_111 : decode prog_20_method_3_code 111 = .ok (.aload_n 0, 1) := by decide +kernel
theorem d4_112 : decode prog_20_method_3_code 112 = .ok (.getfield 29, 3) := by decide +kernel
theorem d4_115 : decode prog_20_method_3_code 115 = .ok (.imul, 1) := by decide +kernel
theorem d4_116 : decode prog_20_method_3_code 116 = .ok (.iconst 1, 1) := by decide +kernel
theorem d4_117 : decode prog_20_method_3_code 117 = .ok (.iadd, 1) := by decide +kernel
theorem d4_118 : decode prog_20_method_3_code 118 = .ok (.iload_n 2, 1) := by decide +kernel
theorem d4_119 : decode prog_20_method_3_code 119 = .ok (.iastore, 1) := by decide +kernel
theorem d4_120 : decode prog_20_method_3_code 120 = .ok (.aload_n 0, 1) := by decide +kernel
theorem d4_121 : decode prog_20_method_3_code 121 = .ok (.getfield 16, 3) := by decide +kernel
theorem d4_124 : decode prog_20_method_3_code 124 = .ok (.aload_n 0, 1) := by decide +kernel
theorem d4_125 : decode prog_20_method_3_code 125 = .ok (.getfield 29, 3) := by decide +kernel
theorem d4_128 : decode prog_20_method_3_code 128 = .ok (.iload_n 3, 1) := by decide +kernel
theorem d4_129 : decode prog_20_method_3_code 129 = .ok (.iastore, 1) := by decide +kernel
theorem d4_130 : decode prog_20_method_3_code 130 = .ok (.aload_n 0, 1) := by decide +kernel
theorem d4_131 : decode prog_20_method_3_code 131 = .ok (.getfield 19, 3) := by decide +kernel
theorem d4_134 : decode prog_20_method_3_code 134 = .ok (.aload_n 0, 1) := by decide +kernel
theorem d4_135 : decode prog_20_method_3_code 135 = .ok (.getfield 29, 3) := by decide +kernel
theorem d4_138 : decode prog_20_method_3_code 138 = .ok (.aconst_null, 1) := by decide +kernel
theorem d4_139 : decode prog_20_method_3_code 139 = .ok (.aastore, 1) := by decide +kernel
theorem d4_140 : decode prog_20_method_3_code 140 = .ok (.aload_n 0, 1) := by decide +kernel
theorem d4_141 : decode prog_20_method_3_code 141 = .ok (.dup, 1) := by decide +kernel
theorem d4_142 : decode prog_20_method_3_code 142 = .ok (.getfield 29, 3) := by decide +kernel
theorem d4_145 : decode prog_20_method_3_code 145 = .ok (.iconst 1, 1) := by decide +kernel
theorem d4_146 : decode prog_20_method_3_code 146 = .ok (.iadd, 1) := by decide +kernel
theorem d4_147 : decode prog_20_method_3_code 147 = .ok (.putfield 29, 3) := by decide +kernel
theorem d4_150 : decode prog_20_method_3_code 150 = .ok (.aload_n 0, 1) := by decide +kernel
theorem d4_151 : decode prog_20_method_3_code 151 = .ok (.getfield 29, 3) := by decide +kernel
theorem d4_154 : decode prog_20_method_3_code 154 = .ok (.iconst 1, 1) := by decide +kernel
theorem d4_155 : decode prog_20_method_3_code 155 = .ok (.isub, 1) := by decide +kernel
theorem d4_156 : decode prog_20_method_3_code 156 = .ok (.ireturn, 1) := by decide +kernel
def Q_write0 (Z : State) (a : Addr) (sl : Int32) (kd : Int32) (er : Int32) (n : Int32) (ps : Int32) (w_MIR : Addr) (lo : Addr) (ea : Addr) (ma : Addr) (un : Addr) (li : Addr) (kl : ClassId) (ke : ClassId) (km : ClassId) (ku : ClassId) (ki : ClassId) (h0 : Heap) (n0 : Nat) (v : Option Value) (h : Heap) (L : List Loc) : Prop := ∃ lo' : Addr, ∃ ea' : Addr, ∃ ma' : Addr, ∃ un' : Addr, ∃ li' : Addr, ∃ kl' : ClassId, ∃ ke' : ClassId, ∃ km' : ClassId, ∃ ku' : ClassId, ∃ ki' : ClassId, ∃ n' : Int32, v = some (.int (0 : Int32)) ∧ Fr n0 L ∧ Keep h0 h [a, lo, ea, ma] ∧ Fld Z h a "com/example/dodder/dodder/engine/PathWrites" "logged" "[I" (.ref lo') ∧ Fld Z h a "com/example/dodder/dodder/engine/PathWrites" "earlierWrites" "[I" (.ref ea') ∧ Fld Z h a "com/example/dodder/dodder/engine/PathWrites" "madeAfter" "[Ljava/lang/Object;" (.ref ma') ∧ Fld Z h a "com/example/dodder/dodder/engine/PathWrites" "unmade" "[I" (.ref un') ∧ Fld Z h a "com/example/dodder/dodder/engine/PathWrites" "listed" "[I" (.ref li') ∧ Fld Z h a "com/example/dodder/dodder/engine/PathWrites" "writes" "I" (.int (1 : Int32)) ∧ Fld Z h a "com/example/dodder/dodder/engine/PathWrites" "position" "I" (.int ps) ∧ Arv Z h lo' kl' .int ((2 : Int32) * n') [(.int sl), (.int kd), (.int (0 : Int32)), (.int (0 : Int32)), (.int (0 : Int32)), (.int (0 : Int32))] (.int (0 : Int32)) ∧ Arv Z h ea' ke' .int n' [(.int er), (.int (0 : Int32)), (.int (0 : Int32)), (.int (0 : Int32)), (.int (0 : Int32)), (.int (0 : Int32))] (.int (0 : Int32)) ∧ Arv Z h ma' km' (.object "java/lang/Object") n' [.null, .null, .null, .null, .null, .null] .null ∧ Arv Z h un' ku' .int n' [(.int (0 : Int32)), (.int (0 : Int32)), (.int (0 : Int32)), (.int (0 : Int32)), (.int (0 : Int32)), (.int (0 : Int32))] (.int (0 : Int32)) ∧ Arv Z h li' ki' .int ((2 : Int32) * n') [(.int (0 : Int32)), (.int (0 : Int32)), (.int (0 : Int32)), (.int (0 : Int32)), (.int (0 : Int32)), (.int (0 : Int32))] (.int (0 : Int32)) ∧ Exa Z h ma' "[Ljava/lang/Object;" ∧ n0 ≤ lo' ∧ n0 ≤ ea' ∧ n0 ≤ ma' ∧ n0 ≤ un' ∧ n0 ≤ li' ∧ lo' ≠ ea' ∧ lo' ≠ ma' ∧ lo' ≠ un' ∧ lo' ≠ li' ∧ ea' ≠ ma' ∧ ea' ≠ un' ∧ ea' ≠ li' ∧ ma' ≠ un' ∧ ma' ≠ li' ∧ un' ≠ li' ∧ a ≠ lo' ∧ a ≠ ea' ∧ a ≠ ma' ∧ a ≠ un' ∧ a ≠ li' ∧ 1 ≤ n'.toInt ∧ n'.toInt ≤ 16
theorem ef_9 (m : MethodId) (x0 : Addr) (x1 : Int32) (x2 : Int32) (x3 : Int32) : entryFrame m #[(.ref x0), (.int x1), (.int x2), (.int x3)] 5 = mkF m 0 #[.val (.ref x0), .val (.int x1), .val (.int x2), .val (.int x3), .unset] [] := by first | (simp [entryFrame, mkF, argsToLocals, Value.category]; done) | rfl
abbrev y_7 : MethodName := ⟨"com/example/dodder/dodder/engine/PathWrites", "write", "(III)I"⟩
set_option maxRecDepth 65536 in
set_option maxHeartbeats 40000000 in
theorem write0 (l : Launch) (Z : State) (a0 : Array Value) (hw : ∀ d ∈ tables_1, d.before a0 Z = true) (ws : List Jvm.Cond) (a : Addr) (sl : Int32) (kd : Int32) (er : Int32) (n : Int32) (ps : Int32) (w_MIR : Addr) (lo : Addr) (ea : Addr) (ma : Addr) (un : Addr) (li : Addr) (kl : ClassId) (ke : ClassId) (km : ClassId) (ku : ClassId) (ki : ClassId) (h0 : Heap) (n0 : Nat) (O : Old Z n0 h0) (Ea : Exa Z h0 a "com/example/dodder/dodder/engine/PathWrites") (Em : Exa Z h0 ma "[Ljava/lang/Object;") (Mo : Mirr Z "[Ljava/lang/Object;" w_MIR) (f0 : Fld Z h0 a "com/example/dodder/dodder/engine/PathWrites" "logged" "[I" (.ref lo)) (f1 : Fld Z h0 a "com/example/dodder/dodder/engine/PathWrites" "earlierWrites" "[I" (.ref ea)) (f2 : Fld Z h0 a "com/example/dodder/dodder/engine/PathWrites" "madeAfter" "[Ljava/lang/Object;" (.ref ma)) (f3 : Fld Z h0 a "com/example/dodder/dodder/engine/PathWrites" "unmade" "[I" (.ref un)) (f4 : Fld Z h0 a "com/example/dodder/dodder/engine/PathWrites" "listed" "[I" (.ref li)) (fw : Fld Z h0 a "com/example/dodder/dodder/engine/PathWrites" "writes" "I" (.int (0 : Int32))) (fp : Fld Z h0 a "com/example/dodder/dodder/engine/PathWrites" "position" "I" (.int ps)) (v0 : Arv Z h0 lo kl .int ((2 : Int32) * n) [(.int (0 : Int32)), (.int (0 : Int32)), (.int (0 : Int32)), (.int (0 : Int32)), (.int (0 : Int32)), (.int (0 : Int32))] (.int (0 : Int32))) (v1 : Arv Z h0 ea ke .int n [(.int (0 : Int32)), (.int (0 : Int32)), (.int (0 : Int32)), (.int (0 : Int32)), (.int (0 : Int32)), (.int (0 : Int32))] (.int (0 : Int32))) (v2 : Arv Z h0 ma km (.object "java/lang/Object") n [.null, .null, .null, .null, .null, .null] .null) (v3 : Arv Z h0 un ku .int n [(.int (0 : Int32)), (.int (0 : Int32)), (.int (0 : Int32)), (.int (0 : Int32)), (.int (0 : Int32)), (.int (0 : Int32))] (.int (0 : Int32))) (v4 : Arv Z h0 li ki .int ((2 : Int32) * n) [(.int (0 : Int32)), (.int (0 : Int32)), (.int (0 : Int32)), (.int (0 : Int32)), (.int (0 : Int32)), (.int (0 : Int32))] (.int (0 : Int32))) (ga : n0 ≤ a) (g0 : n0 ≤ lo) (g1 : n0 ≤ ea) (g2 : n0 ≤ ma) (g3 : n0 ≤ un) (g4 : n0 ≤ li) (ne0 : lo ≠ ea) (ne1 : lo ≠ ma) (ne2 : lo ≠ un) (ne3 : lo ≠ li) (ne4 : ea ≠ ma) (ne5 : ea ≠ un) (ne6 : ea ≠ li) (ne7 : ma ≠ un) (ne8 : ma ≠ li) (ne9 : un ≠ li) (na0 : a ≠ lo) (na1 : a ≠ ea) (na2 : a ≠ ma) (na3 : a ≠ un) (na4 : a ≠ li) (hn : 0 ≤ n.toInt ∧ n.toInt ≤ 16) :
    Ctr l Z y_7 prog_20_method_3_code 5 (some .int) ws ({ frames := 3, cells := 5, slots := 112, locals := 47 } : Room) #[(.ref a), (.int sl), (.int kd), (.int er)] h0 (Q_write0 Z a sl kd er n ps w_MIR lo ea ma un li kl ke km ku ki h0 n0) := by
  refine MetFree.of_bodySF (plainFor_of_name pn_1) hisR ?_
  intro p e s m args below meth c s₁ Bd hml0 hP hK
  obtain ⟨rfl, hZ, hh⟩ := hP
  have W := fun (i : Nat) {d : Jvm.Cond} (h : tables_1[i]? = some d) => hw d (List.mem_of_getElem? h)
  have hx := Bd.exec
  have hby := Bd.bytes
  have hml : c.maxLocals = 5 := hml0
  have hown : s.vm.findClass "com/example/dodder/dodder/engine/PathWrites" = some m.cls := findClass_of_methodNamed Bd.named
  have hnm := (name_of_methodNamed Bd.named Bd.method).1
  have X0 : Stand p l e ({ frames := 3, cells := 5, slots := 112, locals := 47 } : Room) s m #[(.ref a), (.int sl), (.int kd), (.int er)] below meth c s₁ [] 0 0 := Stand.of_body Bd
  have e0 : s₁.heap = h0 := by rw [← hh, Bd.state]; rfl
  have N0 := Fr.nil n0
  have pre0 : ∀ t, Steps p.tables e below (s₁.setTop (mkF m 0 #[.val (.ref a), .val (.int sl), .val (.int kd), .val (.int er), .unset] [])) t → Steps p.tables e below (s₁.setTop (entryFrame m #[(.ref a), (.int sl), (.int kd), (.int er)] 5)) t := fun t kk_ => castTop (ef_9 m a sl kd er) kk_
  have K0 := Keep.refl h0 [a, lo, ea, ma]
  obtain ⟨T1, X1, e1, st1⟩ := getF X0 hx hZ hown (host := "") (Or.inl (W 29 rfl)) Via.refl e0 fw (g := (mkF m 1 #[rv a, iv sl, iv kd, iv er, .unset] [.ref a])) rfl rfl (hb hby d4_1)
  obtain ⟨T2, X2, e2, st2⟩ := getF X1 hx hZ hown (host := "") (Or.inl (W 14 rfl)) Via.refl e1 f1 (g := (mkF m 5 #[rv a, iv sl, iv kd, iv er, .unset] [.ref a, .int 0])) rfl rfl (hb hby d4_5)
  obtain ⟨cl3, Ar3, -, S3, Ng3, -, -⟩ := id v1
  have st3 := X2.arraylength hx (by rw [e2]; exact Ar3.1) (State.isArrayOf_alike hZ.alike Ar3.2.1) (g := (mkF m 8 #[rv a, iv sl, iv kd, iv er, .unset] [.ref ea, .int 0])) rfl rfl (hb hby d4_8)
  rw [len_of S3 Ng3] at st3
  have pre4 : ∀ t, Steps p.tables e below (T2.setTop (mkF m 9 #[rv a, iv sl, iv kd, iv er, .unset] [.int n, .int 0])) t → Steps p.tables e below (s₁.setTop (entryFrame m #[(.ref a), (.int sl), (.int kd), (.int er)] 5)) t := by
    intro t kt
    refine pre0 _ ?_
    show Sq p e below m s₁ 0 #[rv a, iv sl, iv kd, iv er, .unset] [] _
    refine XS.aloadN X0.here hx rfl (hb hby d4_0) rfl rfl ?_
    show Sq p e below m s₁ 1 #[rv a, iv sl, iv kd, iv er, .unset] [.ref a] _
    refine st1 _ ?_
    show Sq p e below m T1 4 #[rv a, iv sl, iv kd, iv er, .unset] [.int 0] _
    refine XS.aloadN X1.here hx rfl (hb hby d4_4) rfl rfl ?_
    show Sq p e below m T1 5 #[rv a, iv sl, iv kd, iv er, .unset] [.ref a, .int 0] _
    refine st2 _ ?_
    show Sq p e below m T2 8 #[rv a, iv sl, iv kd, iv er, .unset] [.ref ea, .int 0] _
    refine st3 _ ?_
    exact kt
  rcases own_sp (k := (0 : Int32)) hn (by decide) with rfl | hlt
  · obtain ⟨T5, X5, e5, st5⟩ := getF X2 hx hZ hown (host := "") (Or.inl (W 29 rfl)) Via.refl e2 fw (g := (mkF m 14 #[rv a, iv sl, iv kd, iv er, .unset] [.ref a, .int 2])) rfl rfl (hb hby d4_14)
    obtain ⟨_, _, ⟨T6, L6, k6, n6⟩, -, X6, ⟨Lc6, hQ6, l6, y6, z6⟩, st6⟩ := Jvm.LawKit.callS X5 hx (y := y_0) hown (mvT hZ (W 38 rfl)) (mvT hZ (W 39 rfl)) (mvT hZ (W 40 rfl)) (mvT hZ (W 41 rfl)) (by decide) (backOf (W := 0) (max0 l Z a0 hw []  h0 n0 O ) hZ (W 41 rfl) (W 40 rfl) (by decide) (by decide)) (g := (mkF m 20 #[rv a, iv sl, iv kd, iv er, .unset] [.int 16, .int 0])) rfl (by rw [hml]; rfl) (argsL := [.int 0, .int 16]) (rest := []) (lenOf pd_0 rfl) rfl (by show 2 * 0 + _ ≤ _; exact Nat.le_of_eq rfl) (hb hby d4_20) (fun _ _ => ⟨rfl, e5, (by decide : 0 + 0 ≤ _), (by decide : 0 + 0 ≤ _)⟩)
    dsimp only [Pt.U, Pt.locs, Pt.cells, Pt.slots] at X6 l6 y6 z6 st6 hQ6
    subst l6 y6 z6
    obtain ⟨h6, e6⟩ : ∃ z, T6.heap = z := ⟨_, rfl⟩
    rw [e6] at hQ6
    obtain ⟨rfl, N6q, p6_0⟩ := hQ6
    have N6 := Fr.app N0 N6q
    rw [p6_0] at e6
    obtain ⟨T7, X7, e7, st7⟩ := getF X6 hx hZ hown (host := "") (Or.inl (W 12 rfl)) Via.refl e6 f0 (g := (mkF m 27 #[rv a, iv sl, iv kd, iv er, iv 16] [.ref a, .ref a])) rfl rfl (hb hby d4_27)
    obtain ⟨_, _, ⟨T8, L8, k8, n8⟩, -, X8, ⟨Lc8, hQ8, l8, y8, z8⟩, st8⟩ := Jvm.LawKit.callS X7 hx (y := y_2) hown (mvT hZ (W 42 rfl)) (mvT hZ (W 43 rfl)) (mvT hZ (W 44 rfl)) (mvT hZ (W 45 rfl)) (by decide) (backOf (W := 1) (cpI32 l Z a0 hw [] lo kl ((2 : Int32) * (0 : Int32)) [(.int (0 : Int32)), (.int (0 : Int32)), (.int (0 : Int32)), (.int (0 : Int32)), (.int (0 : Int32)), (.int (0 : Int32))] (32 : Int32) [] [(.int (0 : Int32)), (.int (0 : Int32)), (.int (0 : Int32)), (.int (0 : Int32)), (.int (0 : Int32)), (.int (0 : Int32))] h0 n0 O v0 (by decide) (by decide) (Nat.le_of_ble_eq_true rfl) (by decide) (by decide) rfl rfl (Nat.le_of_ble_eq_true rfl)) hZ (W 45 rfl) (W 44 rfl) (by decide) (by decide)) (g := (mkF m 34 #[rv a, iv sl, iv kd, iv er, iv 16] [.int 32, .ref lo, .ref a])) rfl (by rw [hml]; rfl) (argsL := [.ref lo, .int 32]) (rest := [.ref a]) (lenOf pd_2 rfl) rfl (by show 2 * 0 + _ ≤ _; exact Nat.le_of_eq rfl) (hb hby d4_34) (fun _ _ => ⟨rfl, e7, (by decide : 0 + 1 ≤ _), (by decide : 0 + 32 ≤ _)⟩)
    dsimp only [Pt.U, Pt.locs, Pt.cells, Pt.slots] at X8 l8 y8 z8 st8 hQ8
    subst l8 y8 z8
    obtain ⟨h8, e8⟩ : ∃ z, T8.heap = z := ⟨_, rfl⟩
    rw [e8] at hQ8
    obtain ⟨b8b, b8kb, rfl, N8q, p8_0, p8_1, p8_2⟩ := hQ8
    have N8 := Fr.app N6 N8q
    have g_b8b : n0 ≤ b8b := Nat.le_trans (own_sz O) p8_1
    have sz_b8b : h0.size ≤ b8b := Nat.le_trans K0.1 p8_1
    have ne_a_b8b : a ≠ b8b := Nat.ne_of_lt (Nat.lt_of_lt_of_le Ea.lt p8_1)
    have Ea := Ea.keep p8_0
    have Em := Em.keep p8_0
    have f0 := f0.keep p8_0 nin0
    have f1 := f1.keep p8_0 nin0
    have f2 := f2.keep p8_0 nin0
    have f3 := f3.keep p8_0 nin0
    have f4 := f4.keep p8_0 nin0
    have fw := fw.keep p8_0 nin0
    have fp := fp.keep p8_0 nin0
    have v1 := v1.keep p8_0 nin0
    have v2 := v2.keep p8_0 nin0
    have v3 := v3.keep p8_0 nin0
    have v4 := v4.keep p8_0 nin0
    have O9 := O.keep p8_0 all0
    have K10 := K0.trans p8_0 all0
    obtain ⟨T11, h11, X11, e11, W11, st11⟩ := putF X8 hx hZ hown (host := "") (Or.inl (W 12 rfl)) Via.refl e8 f0 Ea (Or.inl (W 13 rfl)) (W 1 rfl) (ty := (.array .int)) (by decide) rfl rfl (g := (mkF m 37 #[rv a, iv sl, iv kd, iv er, iv 16] [.ref b8b, .ref a])) rfl rfl (hb hby d4_37)
    have Fz11 := f0.same W11
    have Ea := Ea.wr W11
    have Em := Em.wr W11
    have f1 := f1.other W11 (Or.inr (slot_ne (Or.inl (W 15 rfl)) (Or.inl (W 13 rfl)) (by decide) (t := (.array .int)) (t' := (.array .int)) (by decide) (by decide)))
    have f2 := f2.other W11 (Or.inr (slot_ne (Or.inl (W 19 rfl)) (Or.inl (W 13 rfl)) (by decide) (t := (.array (.object "java/lang/Object"))) (t' := (.array .int)) (by decide) (by decide)))
    have f3 := f3.other W11 (Or.inr (slot_ne (Or.inl (W 21 rfl)) (Or.inl (W 13 rfl)) (by decide) (t := (.array .int)) (t' := (.array .int)) (by decide) (by decide)))
    have f4 := f4.other W11 (Or.inr (slot_ne (Or.inl (W 23 rfl)) (Or.inl (W 13 rfl)) (by decide) (t := (.array .int)) (t' := (.array .int)) (by decide) (by decide)))
    have fw := fw.other W11 (Or.inr (slot_ne (Or.inl (W 30 rfl)) (Or.inl (W 13 rfl)) (by decide) (t := .int) (t' := (.array .int)) (by decide) (by decide)))
    have fp := fp.other W11 (Or.inr (slot_ne (Or.inl (W 32 rfl)) (Or.inl (W 13 rfl)) (by decide) (t := .int) (t' := (.array .int)) (by decide) (by decide)))
    have v1 := v1.other W11 (Ne.symm na1)
    have v2 := v2.other W11 (Ne.symm na2)
    have v3 := v3.other W11 (Ne.symm na3)
    have v4 := v4.other W11 (Ne.symm na4)
    have p8_2 := p8_2.other W11 (Ne.symm ne_a_b8b)
    have O12 := O9.wr W11 ga
    have K13 := K10.wr W11 (Or.inl (List.mem_of_getElem? (i := 0) rfl))
    have N14 := Fr.snoc X11 N8 ga
    obtain ⟨T15, X15, e15, st15⟩ := getF X11 hx hZ hown (host := "") (Or.inl (W 14 rfl)) Via.refl e11 f1 (g := (mkF m 42 #[rv a, iv sl, iv kd, iv er, iv 16] [.ref a, .ref a])) rfl rfl (hb hby d4_42)
    obtain ⟨_, _, ⟨T16, L16, k16, n16⟩, -, X16, ⟨Lc16, hQ16, l16, y16, z16⟩, st16⟩ := Jvm.LawKit.callS X15 hx (y := y_2) hown (mvT hZ (W 42 rfl)) (mvT hZ (W 43 rfl)) (mvT hZ (W 44 rfl)) (mvT hZ (W 45 rfl)) (by decide) (backOf (W := 1) (cpI16 l Z a0 hw [] ea ke (0 : Int32) [(.int (0 : Int32)), (.int (0 : Int32)), (.int (0 : Int32)), (.int (0 : Int32)), (.int (0 : Int32)), (.int (0 : Int32))] (16 : Int32) [] [(.int (0 : Int32)), (.int (0 : Int32)), (.int (0 : Int32)), (.int (0 : Int32)), (.int (0 : Int32)), (.int (0 : Int32))] h11 n0 O12 v1 (by decide) (by decide) (Nat.le_of_ble_eq_true rfl) (by decide) (by decide) rfl rfl (Nat.le_of_ble_eq_true rfl)) hZ (W 45 rfl) (W 44 rfl) (by decide) (by decide)) (g := (mkF m 47 #[rv a, iv sl, iv kd, iv er, iv 16] [.int 16, .ref ea, .ref a])) rfl (by rw [hml]; rfl) (argsL := [.ref ea, .int 16]) (rest := [.ref a]) (lenOf pd_2 rfl) rfl (by show 2 * 0 + _ ≤ _; exact Nat.le_of_eq rfl) (hb hby d4_47) (fun _ _ => ⟨rfl, e15, (by decide : 1 + 1 ≤ _), (by decide : 32 + 16 ≤ _)⟩)
    dsimp only [Pt.U, Pt.locs, Pt.cells, Pt.slots] at X16 l16 y16 z16 st16 hQ16
    subst l16 y16 z16
    obtain ⟨h16, e16⟩ : ∃ z, T16.heap = z := ⟨_, rfl⟩
    rw [e16] at hQ16
    obtain ⟨b16b, b16kb, rfl, N16q, p16_0, p16_1, p16_2⟩ := hQ16
    have N16 := Fr.app N14 N16q
    have g_b16b : n0 ≤ b16b := Nat.le_trans (own_sz O12) p16_1
    have sz_b16b : h0.size ≤ b16b := Nat.le_trans K13.1 p16_1
    have ne_a_b16b : a ≠ b16b := Nat.ne_of_lt (Nat.lt_of_lt_of_le Ea.lt p16_1)
    have ne_b8b_b16b : b8b ≠ b16b := Nat.ne_of_lt (Nat.lt_of_lt_of_le p8_2.lt p16_1)
    have Ea := Ea.keep p16_0
    have Em := Em.keep p16_0
    have f1 := f1.keep p16_0 nin0
    have f2 := f2.keep p16_0 nin0
    have f3 := f3.keep p16_0 nin0
    have f4 := f4.keep p16_0 nin0
    have fw := fw.keep p16_0 nin0
    have fp := fp.keep p16_0 nin0
    have v2 := v2.keep p16_0 nin0
    have v3 := v3.keep p16_0 nin0
    have v4 := v4.keep p16_0 nin0
    have p8_2 := p8_2.keep p16_0 nin0
    have Fz11 := Fz11.keep p16_0 nin0
    have O17 := O12.keep p16_0 all0
    have K18 := K13.trans p16_0 all0
    obtain ⟨T19, h19, X19, e19, W19, st19⟩ := putF X16 hx hZ hown (host := "") (Or.inl (W 14 rfl)) Via.refl e16 f1 Ea (Or.inl (W 15 rfl)) (W 1 rfl) (ty := (.array .int)) (by decide) rfl rfl (g := (mkF m 50 #[rv a, iv sl, iv kd, iv er, iv 16] [.ref b16b, .ref a])) rfl rfl (hb hby d4_50)
    have Fz19 := f1.same W19
    have Ea := Ea.wr W19
    have Em := Em.wr W19
    have f2 := f2.other W19 (Or.inr (slot_ne (Or.inl (W 19 rfl)) (Or.inl (W 15 rfl)) (by decide) (t := (.array (.object "java/lang/Object"))) (t' := (.array .int)) (by decide) (by decide)))
    have f3 := f3.other W19 (Or.inr (slot_ne (Or.inl (W 21 rfl)) (Or.inl (W 15 rfl)) (by decide) (t := (.array .int)) (t' := (.array .int)) (by decide) (by decide)))
    have f4 := f4.other W19 (Or.inr (slot_ne (Or.inl (W 23 rfl)) (Or.inl (W 15 rfl)) (by decide) (t := (.array .int)) (t' := (.array .int)) (by decide) (by decide)))
    have fw := fw.other W19 (Or.inr (slot_ne (Or.inl (W 30 rfl)) (Or.inl (W 15 rfl)) (by decide) (t := .int) (t' := (.array .int)) (by decide) (by decide)))
    have fp := fp.other W19 (Or.inr (slot_ne (Or.inl (W 32 rfl)) (Or.inl (W 15 rfl)) (by decide) (t := .int) (t' := (.array .int)) (by decide) (by decide)))
    have v2 := v2.other W19 (Ne.symm na2)
    have v3 := v3.other W19 (Ne.symm na3)
    have v4 := v4.other W19 (Ne.symm na4)
    have p8_2 := p8_2.other W19 (Ne.symm ne_a_b8b)
    have Fz11 := Fz11.other W19 (Or.inr (slot_ne (Or.inl (W 13 rfl)) (Or.inl (W 15 rfl)) (by decide) (t := (.array .int)) (t' := (.array .int)) (by decide) (by decide)))
    have p16_2 := p16_2.other W19 (Ne.symm ne_a_b16b)
    have O20 := O17.wr W19 ga
    have K21 := K18.wr W19 (Or.inl (List.mem_of_getElem? (i := 0) rfl))
    have N22 := Fr.snoc X19 N16 ga
    obtain ⟨T23, X23, e23, st23⟩ := getF X19 hx hZ hown (host := "") (Or.inl (W 18 rfl)) Via.refl e19 f2 (g := (mkF m 55 #[rv a, iv sl, iv kd, iv er, iv 16] [.ref a, .ref a])) rfl rfl (hb hby d4_55)
    obtain ⟨_, _, ⟨T24, L24, k24, n24⟩, -, X24, ⟨Lc24, hQ24, l24, y24, z24⟩, st24⟩ := Jvm.LawKit.callS X23 hx (y := y_4) hown (mvT hZ (W 53 rfl)) (mvT hZ (W 54 rfl)) (mvT hZ (W 44 rfl)) (mvT hZ (W 55 rfl)) (by decide) (backOf (W := 1) (cpO2 l Z a0 hw [] ma km (0 : Int32) [.null, .null, .null, .null, .null, .null] (16 : Int32) [] [.null, .null, .null, .null, .null, .null] w_MIR h19 n0 O20 v2 Mo (by decide) (by decide) (Nat.le_of_ble_eq_true rfl) (by decide) (by decide) rfl rfl (Nat.le_of_ble_eq_true rfl) (own_nul (n := 0)) Em) hZ (W 55 rfl) (W 44 rfl) (by decide) (by decide)) (g := (mkF m 60 #[rv a, iv sl, iv kd, iv er, iv 16] [.int 16, .ref ma, .ref a])) rfl (by rw [hml]; rfl) (argsL := [.ref ma, .int 16]) (rest := [.ref a]) (lenOf pd_3 rfl) rfl (by show 2 * 0 + _ ≤ _; exact Nat.le_of_eq rfl) (hb hby d4_60) (fun _ _ => ⟨rfl, e23, (by decide : 2 + 1 ≤ _), (by decide : 48 + 16 ≤ _)⟩)
    dsimp only [Pt.U, Pt.locs, Pt.cells, Pt.slots] at X24 l24 y24 z24 st24 hQ24
    subst l24 y24 z24
    obtain ⟨h24, e24⟩ : ∃ z, T24.heap = z := ⟨_, rfl⟩
    rw [e24] at hQ24
    obtain ⟨b24b, b24kb, rfl, N24q, p24_0, p24_1, p24_2, p24_3⟩ := hQ24
    have N24 := Fr.app N22 N24q
    have g_b24b : n0 ≤ b24b := Nat.le_trans (own_sz O20) p24_1
    have sz_b24b : h0.size ≤ b24b := Nat.le_trans K21.1 p24_1
    have ne_a_b24b : a ≠ b24b := Nat.ne_of_lt (Nat.lt_of_lt_of_le Ea.lt p24_1)
    have ne_b8b_b24b : b8b ≠ b24b := Nat.ne_of_lt (Nat.lt_of_lt_of_le p8_2.lt p24_1)
    have ne_b16b_b24b : b16b ≠ b24b := Nat.ne_of_lt (Nat.lt_of_lt_of_le p16_2.lt p24_1)
    have Ea := Ea.keep p24_0
    have f2 := f2.keep p24_0 nin0
    have f3 := f3.keep p24_0 nin0
    have f4 := f4.keep p24_0 nin0
    have fw := fw.keep p24_0 nin0
    have fp := fp.keep p24_0 nin0
    have v3 := v3.keep p24_0 nin0
    have v4 := v4.keep p24_0 nin0
    have p8_2 := p8_2.keep p24_0 nin0
    have Fz11 := Fz11.keep p24_0 nin0
    have p16_2 := p16_2.keep p24_0 nin0
    have Fz19 := Fz19.keep p24_0 nin0
    have O25 := O20.keep p24_0 all0
    have K26 := K21.trans p24_0 all0
    obtain ⟨T27, h27, X27, e27, W27, st27⟩ := putF X24 hx hZ hown (host := "") (Or.inl (W 18 rfl)) Via.refl e24 f2 Ea (Or.inl (W 19 rfl)) (W 1 rfl) (ty := (.array (.object "java/lang/Object"))) (by decide) rfl rfl (g := (mkF m 63 #[rv a, iv sl, iv kd, iv er, iv 16] [.ref b24b, .ref a])) rfl rfl (hb hby d4_63)
    have Fz27 := f2.same W27
    have Ea := Ea.wr W27
    have f3 := f3.other W27 (Or.inr (slot_ne (Or.inl (W 21 rfl)) (Or.inl (W 19 rfl)) (by decide) (t := (.array .int)) (t' := (.array (.object "java/lang/Object"))) (by decide) (by decide)))
    have f4 := f4.other W27 (Or.inr (slot_ne (Or.inl (W 23 rfl)) (Or.inl (W 19 rfl)) (by decide) (t := (.array .int)) (t' := (.array (.object "java/lang/Object"))) (by decide) (by decide)))
    have fw := fw.other W27 (Or.inr (slot_ne (Or.inl (W 30 rfl)) (Or.inl (W 19 rfl)) (by decide) (t := .int) (t' := (.array (.object "java/lang/Object"))) (by decide) (by decide)))
    have fp := fp.other W27 (Or.inr (slot_ne (Or.inl (W 32 rfl)) (Or.inl (W 19 rfl)) (by decide) (t := .int) (t' := (.array (.object "java/lang/Object"))) (by decide) (by decide)))
    have v3 := v3.other W27 (Ne.symm na3)
    have v4 := v4.other W27 (Ne.symm na4)
    have p8_2 := p8_2.other W27 (Ne.symm ne_a_b8b)
    have Fz11 := Fz11.other W27 (Or.inr (slot_ne (Or.inl (W 13 rfl)) (Or.inl (W 19 rfl)) (by decide) (t := (.array .int)) (t' := (.array (.object "java/lang/Object"))) (by decide) (by decide)))
    have p16_2 := p16_2.other W27 (Ne.symm ne_a_b16b)
    have Fz19 := Fz19.other W27 (Or.inr (slot_ne (Or.inl (W 15 rfl)) (Or.inl (W 19 rfl)) (by decide) (t := (.array .int)) (t' := (.array (.object "java/lang/Object"))) (by decide) (by decide)))
    have p24_2 := p24_2.other W27 (Ne.symm ne_a_b24b)
    have p24_3 := p24_3.wr W27
    have O28 := O25.wr W27 ga
    have K29 := K26.wr W27 (Or.inl (List.mem_of_getElem? (i := 0) rfl))
    have N30 := Fr.snoc X27 N24 ga
    obtain ⟨T31, X31, e31, st31⟩ := getF X27 hx hZ hown (host := "") (Or.inl (W 20 rfl)) Via.refl e27 f3 (g := (mkF m 68 #[rv a, iv sl, iv kd, iv er, iv 16] [.ref a, .ref a])) rfl rfl (hb hby d4_68)
    obtain ⟨_, _, ⟨T32, L32, k32, n32⟩, -, X32, ⟨Lc32, hQ32, l32, y32, z32⟩, st32⟩ := Jvm.LawKit.callS X31 hx (y := y_2) hown (mvT hZ (W 42 rfl)) (mvT hZ (W 43 rfl)) (mvT hZ (W 44 rfl)) (mvT hZ (W 45 rfl)) (by decide) (backOf (W := 1) (cpI16 l Z a0 hw [] un ku (0 : Int32) [(.int (0 : Int32)), (.int (0 : Int32)), (.int (0 : Int32)), (.int (0 : Int32)), (.int (0 : Int32)), (.int (0 : Int32))] (16 : Int32) [] [(.int (0 : Int32)), (.int (0 : Int32)), (.int (0 : Int32)), (.int (0 : Int32)), (.int (0 : Int32)), (.int (0 : Int32))] h27 n0 O28 v3 (by decide) (by decide) (Nat.le_of_ble_eq_true rfl) (by decide) (by decide) rfl rfl (Nat.le_of_ble_eq_true rfl)) hZ (W 45 rfl) (W 44 rfl) (by decide) (by decide)) (g := (mkF m 73 #[rv a, iv sl, iv kd, iv er, iv 16] [.int 16, .ref un, .ref a])) rfl (by rw [hml]; rfl) (argsL := [.ref un, .int 16]) (rest := [.ref a]) (lenOf pd_2 rfl) rfl (by show 2 * 0 + _ ≤ _; exact Nat.le_of_eq rfl) (hb hby d4_73) (fun _ _ => ⟨rfl, e31, (by decide : 3 + 1 ≤ _), (by decide : 64 + 16 ≤ _)⟩)
    dsimp only [Pt.U, Pt.locs, Pt.cells, Pt.slots] at X32 l32 y32 z32 st32 hQ32
    subst l32 y32 z32
    obtain ⟨h32, e32⟩ : ∃ z, T32.heap = z := ⟨_, rfl⟩
    rw [e32] at hQ32
    obtain ⟨b32b, b32kb, rfl, N32q, p32_0, p32_1, p32_2⟩ := hQ32
    have N32 := Fr.app N30 N32q
    have g_b32b : n0 ≤ b32b := Nat.le_trans (own_sz O28) p32_1
    have ne_a_b32b : a ≠ b32b := Nat.ne_of_lt (Nat.lt_of_lt_of_le Ea.lt p32_1)
    have ne_b8b_b32b : b8b ≠ b32b := Nat.ne_of_lt (Nat.lt_of_lt_of_le p8_2.lt p32_1)
    have ne_b16b_b32b : b16b ≠ b32b := Nat.ne_of_lt (Nat.lt_of_lt_of_le p16_2.lt p32_1)
    have ne_b24b_b32b : b24b ≠ b32b := Nat.ne_of_lt (Nat.lt_of_lt_of_le p24_3.lt p32_1)
    have Ea := Ea.keep p32_0
    have f3 := f3.keep p32_0 nin0
    have f4 := f4.keep p32_0 nin0
    have fw := fw.keep p32_0 nin0
    have fp := fp.keep p32_0 nin0
    have v4 := v4.keep p32_0 nin0
    have p8_2 := p8_2.keep p32_0 nin0
    have Fz11 := Fz11.keep p32_0 nin0
    have p16_2 := p16_2.keep p32_0 nin0
    have Fz19 := Fz19.keep p32_0 nin0
    have p24_2 := p24_2.keep p32_0 nin0
    have p24_3 := p24_3.keep p32_0
    have Fz27 := Fz27.keep p32_0 nin0
    have O33 := O28.keep p32_0 all0
    have K34 := K29.trans p32_0 all0
    obtain ⟨T35, h35, X35, e35, W35, st35⟩ := putF X32 hx hZ hown (host := "") (Or.inl (W 20 rfl)) Via.refl e32 f3 Ea (Or.inl (W 21 rfl)) (W 1 rfl) (ty := (.array .int)) (by decide) rfl rfl (g := (mkF m 76 #[rv a, iv sl, iv kd, iv er, iv 16] [.ref b32b, .ref a])) rfl rfl (hb hby d4_76)
    have Fz35 := f3.same W35
    have Ea := Ea.wr W35
    have f4 := f4.other W35 (Or.inr (slot_ne (Or.inl (W 23 rfl)) (Or.inl (W 21 rfl)) (by decide) (t := (.array .int)) (t' := (.array .int)) (by decide) (by decide)))
    have fw := fw.other W35 (Or.inr (slot_ne (Or.inl (W 30 rfl)) (Or.inl (W 21 rfl)) (by decide) (t := .int) (t' := (.array .int)) (by decide) (by decide)))
    have fp := fp.other W35 (Or.inr (slot_ne (Or.inl (W 32 rfl)) (Or.inl (W 21 rfl)) (by decide) (t := .int) (t' := (.array .int)) (by decide) (by decide)))
    have v4 := v4.other W35 (Ne.symm na4)
    have p8_2 := p8_2.other W35 (Ne.symm ne_a_b8b)
    have Fz11 := Fz11.other W35 (Or.inr (slot_ne (Or.inl (W 13 rfl)) (Or.inl (W 21 rfl)) (by decide) (t := (.array .int)) (t' := (.array .int)) (by decide) (by decide)))
    have p16_2 := p16_2.other W35 (Ne.symm ne_a_b16b)
    have Fz19 := Fz19.other W35 (Or.inr (slot_ne (Or.inl (W 15 rfl)) (Or.inl (W 21 rfl)) (by decide) (t := (.array .int)) (t' := (.array .int)) (by decide) (by decide)))
    have p24_2 := p24_2.other W35 (Ne.symm ne_a_b24b)
    have p24_3 := p24_3.wr W35
    have Fz27 := Fz27.other W35 (Or.inr (slot_ne (Or.inl (W 19 rfl)) (Or.inl (W 21 rfl)) (by decide) (t := (.array (.object "java/lang/Object"))) (t' := (.array .int)) (by decide) (by decide)))
    have p32_2 := p32_2.other W35 (Ne.symm ne_a_b32b)
    have O36 := O33.wr W35 ga
    have K37 := K34.wr W35 (Or.inl (List.mem_of_getElem? (i := 0) rfl))
    have N38 := Fr.snoc X35 N32 ga
    obtain ⟨T39, X39, e39, st39⟩ := getF X35 hx hZ hown (host := "") (Or.inl (W 22 rfl)) Via.refl e35 f4 (g := (mkF m 81 #[rv a, iv sl, iv kd, iv er, iv 16] [.ref a, .ref a])) rfl rfl (hb hby d4_81)
    obtain ⟨_, _, ⟨T40, L40, k40, n40⟩, -, X40, ⟨Lc40, hQ40, l40, y40, z40⟩, st40⟩ := Jvm.LawKit.callS X39 hx (y := y_2) hown (mvT hZ (W 42 rfl)) (mvT hZ (W 43 rfl)) (mvT hZ (W 44 rfl)) (mvT hZ (W 45 rfl)) (by decide) (backOf (W := 1) (cpI32 l Z a0 hw [] li ki ((2 : Int32) * (0 : Int32)) [(.int (0 : Int32)), (.int (0 : Int32)), (.int (0 : Int32)), (.int (0 : Int32)), (.int (0 : Int32)), (.int (0 : Int32))] (32 : Int32) [] [(.int (0 : Int32)), (.int (0 : Int32)), (.int (0 : Int32)), (.int (0 : Int32)), (.int (0 : Int32)), (.int (0 : Int32))] h35 n0 O36 v4 (by decide) (by decide) (Nat.le_of_ble_eq_true rfl) (by decide) (by decide) rfl rfl (Nat.le_of_ble_eq_true rfl)) hZ (W 45 rfl) (W 44 rfl) (by decide) (by decide)) (g := (mkF m 88 #[rv a, iv sl, iv kd, iv er, iv 16] [.int 32, .ref li, .ref a])) rfl (by rw [hml]; rfl) (argsL := [.ref li, .int 32]) (rest := [.ref a]) (lenOf pd_2 rfl) rfl (by show 2 * 0 + _ ≤ _; exact Nat.le_of_eq rfl) (hb hby d4_88) (fun _ _ => ⟨rfl, e39, (by decide : 4 + 1 ≤ _), (by decide : 80 + 32 ≤ _)⟩)
    dsimp only [Pt.U, Pt.locs, Pt.cells, Pt.slots] at X40 l40 y40 z40 st40 hQ40
    subst l40 y40 z40
    obtain ⟨h40, e40⟩ : ∃ z, T40.heap = z := ⟨_, rfl⟩
    rw [e40] at hQ40
    obtain ⟨b40b, b40kb, rfl, N40q, p40_0, p40_1, p40_2⟩ := hQ40
    have N40 := Fr.app N38 N40q
    have g_b40b : n0 ≤ b40b := Nat.le_trans (own_sz O36) p40_1
    have ne_a_b40b : a ≠ b40b := Nat.ne_of_lt (Nat.lt_of_lt_of_le Ea.lt p40_1)
    have ne_b8b_b40b : b8b ≠ b40b := Nat.ne_of_lt (Nat.lt_of_lt_of_le p8_2.lt p40_1)
    have ne_b16b_b40b : b16b ≠ b40b := Nat.ne_of_lt (Nat.lt_of_lt_of_le p16_2.lt p40_1)
    have ne_b24b_b40b : b24b ≠ b40b := Nat.ne_of_lt (Nat.lt_of_lt_of_le p24_3.lt p40_1)
    have ne_b32b_b40b : b32b ≠ b40b := Nat.ne_of_lt (Nat.lt_of_lt_of_le p32_2.lt p40_1)
    have Ea := Ea.keep p40_0
    have f4 := f4.keep p40_0 nin0
    have fw := fw.keep p40_0 nin0
    have fp := fp.keep p40_0 nin0
    have p8_2 := p8_2.keep p40_0 nin0
    have Fz11 := Fz11.keep p40_0 nin0
    have p16_2 := p16_2.keep p40_0 nin0
    have Fz19 := Fz19.keep p40_0 nin0
    have p24_2 := p24_2.keep p40_0 nin0
    have p24_3 := p24_3.keep p40_0
    have Fz27 := Fz27.keep p40_0 nin0
    have p32_2 := p32_2.keep p40_0 nin0
    have Fz35 := Fz35.keep p40_0 nin0
    have K42 := K37.trans p40_0 all0
    obtain ⟨T43, h43, X43, e43, W43, st43⟩ := putF X40 hx hZ hown (host := "") (Or.inl (W 22 rfl)) Via.refl e40 f4 Ea (Or.inl (W 23 rfl)) (W 1 rfl) (ty := (.array .int)) (by decide) rfl rfl (g := (mkF m 91 #[rv a, iv sl, iv kd, iv er, iv 16] [.ref b40b, .ref a])) rfl rfl (hb hby d4_91)
    have Fz43 := f4.same W43
    have Ea := Ea.wr W43
    have fw := fw.other W43 (Or.inr (slot_ne (Or.inl (W 30 rfl)) (Or.inl (W 23 rfl)) (by decide) (t := .int) (t' := (.array .int)) (by decide) (by decide)))
    have fp := fp.other W43 (Or.inr (slot_ne (Or.inl (W 32 rfl)) (Or.inl (W 23 rfl)) (by decide) (t := .int) (t' := (.array .int)) (by decide) (by decide)))
    have p8_2 := p8_2.other W43 (Ne.symm ne_a_b8b)
    have Fz11 := Fz11.other W43 (Or.inr (slot_ne (Or.inl (W 13 rfl)) (Or.inl (W 23 rfl)) (by decide) (t := (.array .int)) (t' := (.array .int)) (by decide) (by decide)))
    have p16_2 := p16_2.other W43 (Ne.symm ne_a_b16b)
    have Fz19 := Fz19.other W43 (Or.inr (slot_ne (Or.inl (W 15 rfl)) (Or.inl (W 23 rfl)) (by decide) (t := (.array .int)) (t' := (.array .int)) (by decide) (by decide)))
    have p24_2 := p24_2.other W43 (Ne.symm ne_a_b24b)
    have p24_3 := p24_3.wr W43
    have Fz27 := Fz27.other W43 (Or.inr (slot_ne (Or.inl (W 19 rfl)) (Or.inl (W 23 rfl)) (by decide) (t := (.array (.object "java/lang/Object"))) (t' := (.array .int)) (by decide) (by decide)))
    have p32_2 := p32_2.other W43 (Ne.symm ne_a_b32b)
    have Fz35 := Fz35.other W43 (Or.inr (slot_ne (Or.inl (W 21 rfl)) (Or.inl (W 23 rfl)) (by decide) (t := (.array .int)) (t' := (.array .int)) (by decide) (by decide)))
    have p40_2 := p40_2.other W43 (Ne.symm ne_a_b40b)
    have K45 := K42.wr W43 (Or.inl (List.mem_of_getElem? (i := 0) rfl))
    have N46 := Fr.snoc X43 N40 ga
    obtain ⟨T47, X47, e47, st47⟩ := getF X43 hx hZ hown (host := "") (Or.inl (W 12 rfl)) Via.refl e43 Fz11 (g := (mkF m 95 #[rv a, iv sl, iv kd, iv er, iv 16] [.ref a])) rfl rfl (hb hby d4_95)
    obtain ⟨T48, X48, e48, st48⟩ := getF X47 hx hZ hown (host := "") (Or.inl (W 29 rfl)) Via.refl e47 fw (g := (mkF m 100 #[rv a, iv sl, iv kd, iv er, iv 16] [.ref a, .int 2, .ref b8b])) rfl rfl (hb hby d4_100)
    obtain ⟨cl49, Ar49, q49, S49, Ng49, Hh49, Gg49⟩ := id p8_2
    obtain ⟨T49, h49, X49, e49, W49, st49⟩ := stI X48 hx hZ e48 Ar49 (j := (0 : Int32)) (inb_of S49 (by decide)) (g := (mkF m 105 #[rv a, iv sl, iv kd, iv er, iv 16] [.int sl, .int 0, .ref b8b])) rfl rfl (hb hby d4_105)
    have V49 : Arv Z h49 b8b b8kb .int (32 : Int32) [(.int sl), (.int (0 : Int32)), (.int (0 : Int32)), (.int (0 : Int32)), (.int (0 : Int32)), (.int (0 : Int32))] (.int (0 : Int32)) := Arv.set Ar49 q49 S49 Ng49 Hh49 Gg49 rfl W49 0 rfl (Nat.le_of_ble_eq_true rfl)
    have Ea := Ea.wr W49
    have fw := fw.other W49 (Or.inl ne_a_b8b)
    have fp := fp.other W49 (Or.inl ne_a_b8b)
    have Fz11 := Fz11.other W49 (Or.inl ne_a_b8b)
    have p16_2 := p16_2.other W49 (Ne.symm ne_b8b_b16b)
    have Fz19 := Fz19.other W49 (Or.inl ne_a_b8b)
    have p24_2 := p24_2.other W49 (Ne.symm ne_b8b_b24b)
    have p24_3 := p24_3.wr W49
    have Fz27 := Fz27.other W49 (Or.inl ne_a_b8b)
    have p32_2 := p32_2.other W49 (Ne.symm ne_b8b_b32b)
    have Fz35 := Fz35.other W49 (Or.inl ne_a_b8b)
    have p40_2 := p40_2.other W49 (Ne.symm ne_b8b_b40b)
    have Fz43 := Fz43.other W49 (Or.inl ne_a_b8b)
    have K51 := K45.wr W49 (Or.inr sz_b8b)
    have N52 := Fr.snoc X49 N46 g_b8b
    obtain ⟨T53, X53, e53, st53⟩ := getF X49 hx hZ hown (host := "") (Or.inl (W 12 rfl)) Via.refl e49 Fz11 (g := (mkF m 107 #[rv a, iv sl, iv kd, iv er, iv 16] [.ref a])) rfl rfl (hb hby d4_107)
    obtain ⟨T54, X54, e54, st54⟩ := getF X53 hx hZ hown (host := "") (Or.inl (W 29 rfl)) Via.refl e53 fw (g := (mkF m 112 #[rv a, iv sl, iv kd, iv er, iv 16] [.ref a, .int 2, .ref b8b])) rfl rfl (hb hby d4_112)
    obtain ⟨cl55, Ar55, q55, S55, Ng55, Hh55, Gg55⟩ := id V49
    obtain ⟨T55, h55, X55, e55, W55, st55⟩ := stI X54 hx hZ e54 Ar55 (j := (1 : Int32)) (inb_of S55 (by decide)) (g := (mkF m 119 #[rv a, iv sl, iv kd, iv er, iv 16] [.int kd, .int 1, .ref b8b])) rfl rfl (hb hby d4_119)
    have V55 : Arv Z h55 b8b b8kb .int (32 : Int32) [(.int sl), (.int kd), (.int (0 : Int32)), (.int (0 : Int32)), (.int (0 : Int32)), (.int (0 : Int32))] (.int (0 : Int32)) := Arv.set Ar55 q55 S55 Ng55 Hh55 Gg55 rfl W55 1 rfl (Nat.le_of_ble_eq_true rfl)
    have Ea := Ea.wr W55
    have fw := fw.other W55 (Or.inl ne_a_b8b)
    have fp := fp.other W55 (Or.inl ne_a_b8b)
    have Fz11 := Fz11.other W55 (Or.inl ne_a_b8b)
    have p16_2 := p16_2.other W55 (Ne.symm ne_b8b_b16b)
    have Fz19 := Fz19.other W55 (Or.inl ne_a_b8b)
    have p24_2 := p24_2.other W55 (Ne.symm ne_b8b_b24b)
    have p24_3 := p24_3.wr W55
    have Fz27 := Fz27.other W55 (Or.inl ne_a_b8b)
    have p32_2 := p32_2.other W55 (Ne.symm ne_b8b_b32b)
    have Fz35 := Fz35.other W55 (Or.inl ne_a_b8b)
    have p40_2 := p40_2.other W55 (Ne.symm ne_b8b_b40b)
    have Fz43 := Fz43.other W55 (Or.inl ne_a_b8b)
    have K57 := K51.wr W55 (Or.inr sz_b8b)
    have N58 := Fr.snoc X55 N52 g_b8b
    obtain ⟨T59, X59, e59, st59⟩ := getF X55 hx hZ hown (host := "") (Or.inl (W 14 rfl)) Via.refl e55 Fz19 (g := (mkF m 121 #[rv a, iv sl, iv kd, iv er, iv 16] [.ref a])) rfl rfl (hb hby d4_121)
    obtain ⟨T60, X60, e60, st60⟩ := getF X59 hx hZ hown (host := "") (Or.inl (W 29 rfl)) Via.refl e59 fw (g := (mkF m 125 #[rv a, iv sl, iv kd, iv er, iv 16] [.ref a, .ref b16b])) rfl rfl (hb hby d4_125)
    obtain ⟨cl61, Ar61, q61, S61, Ng61, Hh61, Gg61⟩ := id p16_2
    obtain ⟨T61, h61, X61, e61, W61, st61⟩ := stI X60 hx hZ e60 Ar61 (j := (0 : Int32)) (inb_of S61 (by decide)) (g := (mkF m 129 #[rv a, iv sl, iv kd, iv er, iv 16] [.int er, .int 0, .ref b16b])) rfl rfl (hb hby d4_129)
    have V61 : Arv Z h61 b16b b16kb .int (16 : Int32) [(.int er), (.int (0 : Int32)), (.int (0 : Int32)), (.int (0 : Int32)), (.int (0 : Int32)), (.int (0 : Int32))] (.int (0 : Int32)) := Arv.set Ar61 q61 S61 Ng61 Hh61 Gg61 rfl W61 0 rfl (Nat.le_of_ble_eq_true rfl)
    have Ea := Ea.wr W61
    have fw := fw.other W61 (Or.inl ne_a_b16b)
    have fp := fp.other W61 (Or.inl ne_a_b16b)
    have Fz11 := Fz11.other W61 (Or.inl ne_a_b16b)
    have Fz19 := Fz19.other W61 (Or.inl ne_a_b16b)
    have p24_2 := p24_2.other W61 (Ne.symm ne_b16b_b24b)
    have p24_3 := p24_3.wr W61
    have Fz27 := Fz27.other W61 (Or.inl ne_a_b16b)
    have p32_2 := p32_2.other W61 (Ne.symm ne_b16b_b32b)
    have Fz35 := Fz35.other W61 (Or.inl ne_a_b16b)
    have p40_2 := p40_2.other W61 (Ne.symm ne_b16b_b40b)
    have Fz43 := Fz43.other W61 (Or.inl ne_a_b16b)
    have V55 := V55.other W61 ne_b8b_b16b
    have K63 := K57.wr W61 (Or.inr sz_b16b)
    have N64 := Fr.snoc X61 N58 g_b16b
    obtain ⟨T65, X65, e65, st65⟩ := getF X61 hx hZ hown (host := "") (Or.inl (W 18 rfl)) Via.refl e61 Fz27 (g := (mkF m 131 #[rv a, iv sl, iv kd, iv er, iv 16] [.ref a])) rfl rfl (hb hby d4_131)
    obtain ⟨T66, X66, e66, st66⟩ := getF X65 hx hZ hown (host := "") (Or.inl (W 29 rfl)) Via.refl e65 fw (g := (mkF m 135 #[rv a, iv sl, iv kd, iv er, iv 16] [.ref a, .ref b24b])) rfl rfl (hb hby d4_135)
    obtain ⟨cl67, Ar67, q67, S67, Ng67, Hh67, Gg67⟩ := id p24_2
    obtain ⟨T67, h67, X67, e67, W67, st67⟩ := stR X66 hx hZ e66 Ar67 (j := (0 : Int32)) (inb_of S67 (by decide)) rfl (Or.inl rfl) (g := (mkF m 139 #[rv a, iv sl, iv kd, iv er, iv 16] [.null, .int 0, .ref b24b])) rfl rfl (hb hby d4_139)
    have V67 : Arv Z h67 b24b b24kb (.object "java/lang/Object") (16 : Int32) [.null, .null, .null, .null, .null, .null] .null := Arv.set Ar67 q67 S67 Ng67 Hh67 Gg67 rfl W67 0 rfl (Nat.le_of_ble_eq_true rfl)
    have Ea := Ea.wr W67
    have fw := fw.other W67 (Or.inl ne_a_b24b)
    have fp := fp.other W67 (Or.inl ne_a_b24b)
    have Fz11 := Fz11.other W67 (Or.inl ne_a_b24b)
    have Fz19 := Fz19.other W67 (Or.inl ne_a_b24b)
    have p24_3 := p24_3.wr W67
    have Fz27 := Fz27.other W67 (Or.inl ne_a_b24b)
    have p32_2 := p32_2.other W67 (Ne.symm ne_b24b_b32b)
    have Fz35 := Fz35.other W67 (Or.inl ne_a_b24b)
    have p40_2 := p40_2.other W67 (Ne.symm ne_b24b_b40b)
    have Fz43 := Fz43.other W67 (Or.inl ne_a_b24b)
    have V55 := V55.other W67 ne_b8b_b24b
    have V61 := V61.other W67 ne_b16b_b24b
    have K69 := K63.wr W67 (Or.inr sz_b24b)
    have N70 := Fr.snoc X67 N64 g_b24b
    obtain ⟨T71, X71, e71, st71⟩ := getF X67 hx hZ hown (host := "") (Or.inl (W 29 rfl)) Via.refl e67 fw (g := (mkF m 142 #[rv a, iv sl, iv kd, iv er, iv 16] [.ref a, .ref a])) rfl rfl (hb hby d4_142)
    obtain ⟨T72, h72, X72, e72, W72, st72⟩ := putF X71 hx hZ hown (host := "") (Or.inl (W 29 rfl)) Via.refl e71 fw Ea (Or.inl (W 30 rfl)) (W 1 rfl) (ty := .int) (by decide) rfl rfl (g := (mkF m 147 #[rv a, iv sl, iv kd, iv er, iv 16] [.int 1, .ref a])) rfl rfl (hb hby d4_147)
    have Fz72 := fw.same W72
    have fp := fp.other W72 (Or.inr (slot_ne (Or.inl (W 32 rfl)) (Or.inl (W 30 rfl)) (by decide) (t := .int) (t' := .int) (by decide) (by decide)))
    have Fz11 := Fz11.other W72 (Or.inr (slot_ne (Or.inl (W 13 rfl)) (Or.inl (W 30 rfl)) (by decide) (t := (.array .int)) (t' := .int) (by decide) (by decide)))
    have Fz19 := Fz19.other W72 (Or.inr (slot_ne (Or.inl (W 15 rfl)) (Or.inl (W 30 rfl)) (by decide) (t := (.array .int)) (t' := .int) (by decide) (by decide)))
    have p24_3 := p24_3.wr W72
    have Fz27 := Fz27.other W72 (Or.inr (slot_ne (Or.inl (W 19 rfl)) (Or.inl (W 30 rfl)) (by decide) (t := (.array (.object "java/lang/Object"))) (t' := .int) (by decide) (by decide)))
    have p32_2 := p32_2.other W72 (Ne.symm ne_a_b32b)
    have Fz35 := Fz35.other W72 (Or.inr (slot_ne (Or.inl (W 21 rfl)) (Or.inl (W 30 rfl)) (by decide) (t := (.array .int)) (t' := .int) (by decide) (by decide)))
    have p40_2 := p40_2.other W72 (Ne.symm ne_a_b40b)
    have Fz43 := Fz43.other W72 (Or.inr (slot_ne (Or.inl (W 23 rfl)) (Or.inl (W 30 rfl)) (by decide) (t := (.array .int)) (t' := .int) (by decide) (by decide)))
    have V55 := V55.other W72 (Ne.symm ne_a_b8b)
    have V61 := V61.other W72 (Ne.symm ne_a_b16b)
    have V67 := V67.other W72 (Ne.symm ne_a_b24b)
    have K74 := K69.wr W72 (Or.inl (List.mem_of_getElem? (i := 0) rfl))
    have N75 := Fr.snoc X72 N70 ga
    obtain ⟨T76, X76, e76, st76⟩ := getF X72 hx hZ hown (host := "") (Or.inl (W 29 rfl)) Via.refl e72 Fz72 (g := (mkF m 151 #[rv a, iv sl, iv kd, iv er, iv 16] [.ref a])) rfl rfl (hb hby d4_151)
    obtain ⟨fs, hr, hrun, hended, hW, hsame⟩ := X76.leave (v := some (.int (0 : Int32))) (fun h => by rw [Bd.returns] at h; cases h)
    refine ⟨_, _, pre4 _ ?_, hrun, hended, _, _, rfl, ?_, ⟨_, rfl⟩, hW, hsame.mono (by decide) (by decide)⟩
    · show Sq p e below m T2 9 #[rv a, iv sl, iv kd, iv er, .unset] [.int 0, .int 0] _
      refine XS.icmpNo X2.here hx rfl (hb hby d4_9) rfl (teq (rfl : (0 : Int32) = (0 : Int32))).2 ?_
      refine XS.iconst X2.here hx rfl (hb hby d4_12) ?_
      show Sq p e below m T2 13 #[rv a, iv sl, iv kd, iv er, .unset] [.int 2] _
      refine XS.aloadN X2.here hx rfl (hb hby d4_13) rfl rfl ?_
      show Sq p e below m T2 14 #[rv a, iv sl, iv kd, iv er, .unset] [.ref a, .int 2] _
      refine st5 _ ?_
      show Sq p e below m T5 17 #[rv a, iv sl, iv kd, iv er, .unset] [.int 0, .int 2] _
      refine XS.imul X5.here hx rfl (hb hby d4_17) rfl ?_
      show Sq p e below m T5 18 #[rv a, iv sl, iv kd, iv er, .unset] [.int ((2 : Int32) * (0 : Int32))] _
      rw [show ((2 : Int32) * (0 : Int32)) = (0 : Int32) from by decide]
      show Sq p e below m T5 18 #[rv a, iv sl, iv kd, iv er, .unset] [.int 0] _
      refine XS.bipush X5.here hx rfl (hb hby d4_18) ?_
      show Sq p e below m T5 20 #[rv a, iv sl, iv kd, iv er, .unset] [.int 16, .int 0] _
      refine st6 _ ?_
      show Sq p e below m T6 23 #[rv a, iv sl, iv kd, iv er, .unset] [.int 16] _
      refine XS.istore X6.here hx rfl (hb hby d4_23) rfl rfl ?_
      refine XS.aloadN X6.here hx rfl (hb hby d4_25) rfl rfl ?_
      show Sq p e below m T6 26 #[rv a, iv sl, iv kd, iv er, iv 16] [.ref a] _
      refine XS.aloadN X6.here hx rfl (hb hby d4_26) rfl rfl ?_
      show Sq p e below m T6 27 #[rv a, iv sl, iv kd, iv er, iv 16] [.ref a, .ref a] _
      refine st7 _ ?_
      show Sq p e below m T7 30 #[rv a, iv sl, iv kd, iv er, iv 16] [.ref lo, .ref a] _
      refine XS.iconst X7.here hx rfl (hb hby d4_30) ?_
      refine XS.iload X7.here hx rfl (hb hby d4_31) rfl ?_
      show Sq p e below m T7 33 #[rv a, iv sl, iv kd, iv er, iv 16] [.int 16, .int 2, .ref lo, .ref a] _
      refine XS.imul X7.here hx rfl (hb hby d4_33) rfl ?_
      show Sq p e below m T7 34 #[rv a, iv sl, iv kd, iv er, iv 16] [.int ((2 : Int32) * (16 : Int32)), .ref lo, .ref a] _
      rw [show ((2 : Int32) * (16 : Int32)) = (32 : Int32) from by decide]
      show Sq p e below m T7 34 #[rv a, iv sl, iv kd, iv er, iv 16] [.int 32, .ref lo, .ref a] _
      refine st8 _ ?_
      show Sq p e below m T8 37 #[rv a, iv sl, iv kd, iv er, iv 16] [.ref b8b, .ref a] _
      refine st11 _ ?_
      show Sq p e below m T11 40 #[rv a, iv sl, iv kd, iv er, iv 16] [] _
      refine XS.aloadN X11.here hx rfl (hb hby d4_40) rfl rfl ?_
      refine XS.aloadN X11.here hx rfl (hb hby d4_41) rfl rfl ?_
      show Sq p e below m T11 42 #[rv a, iv sl, iv kd, iv er, iv 16] [.ref a, .ref a] _
      refine st15 _ ?_
      show Sq p e below m T15 45 #[rv a, iv sl, iv kd, iv er, iv 16] [.ref ea, .ref a] _
      refine XS.iload X15.here hx rfl (hb hby d4_45) rfl ?_
      show Sq p e below m T15 47 #[rv a, iv sl, iv kd, iv er, iv 16] [.int 16, .ref ea, .ref a] _
      refine st16 _ ?_
      show Sq p e below m T16 50 #[rv a, iv sl, iv kd, iv er, iv 16] [.ref b16b, .ref a] _
      refine st19 _ ?_
      show Sq p e below m T19 53 #[rv a, iv sl, iv kd, iv er, iv 16] [] _
      refine XS.aloadN X19.here hx rfl (hb hby d4_53) rfl rfl ?_
      refine XS.aloadN X19.here hx rfl (hb hby d4_54) rfl rfl ?_
      show Sq p e below m T19 55 #[rv a, iv sl, iv kd, iv er, iv 16] [.ref a, .ref a] _
      refine st23 _ ?_
      show Sq p e below m T23 58 #[rv a, iv sl, iv kd, iv er, iv 16] [.ref ma, .ref a] _
      refine XS.iload X23.here hx rfl (hb hby d4_58) rfl ?_
      show Sq p e below m T23 60 #[rv a, iv sl, iv kd, iv er, iv 16] [.int 16, .ref ma, .ref a] _
      refine st24 _ ?_
      show Sq p e below m T24 63 #[rv a, iv sl, iv kd, iv er, iv 16] [.ref b24b, .ref a] _
      refine st27 _ ?_
      show Sq p e below m T27 66 #[rv a, iv sl, iv kd, iv er, iv 16] [] _
      refine XS.aloadN X27.here hx rfl (hb hby d4_66) rfl rfl ?_
      refine XS.aloadN X27.here hx rfl (hb hby d4_67) rfl rfl ?_
      show Sq p e below m T27 68 #[rv a, iv sl, iv kd, iv er, iv 16] [.ref a, .ref a] _
      refine st31 _ ?_
      show Sq p e below m T31 71 #[rv a, iv sl, iv kd, iv er, iv 16] [.ref un, .ref a] _
      refine XS.iload X31.here hx rfl (hb hby d4_71) rfl ?_
      show Sq p e below m T31 73 #[rv a, iv sl, iv kd, iv er, iv 16] [.int 16, .ref un, .ref a] _
      refine st32 _ ?_
      show Sq p e below m T32 76 #[rv a, iv sl, iv kd, iv er, iv 16] [.ref b32b, .ref a] _
      refine st35 _ ?_
      show Sq p e below m T35 79 #[rv a, iv sl, iv kd, iv er, iv 16] [] _
      refine XS.aloadN X35.here hx rfl (hb hby d4_79) rfl rfl ?_
      refine XS.aloadN X35.here hx rfl (hb hby d4_80) rfl rfl ?_
      show Sq p e below m T35 81 #[rv a, iv sl, iv kd, iv er, iv 16] [.ref a, .ref a] _
      refine st39 _ ?_
      show Sq p e below m T39 84 #[rv a, iv sl, iv kd, iv er, iv 16] [.ref li, .ref a] _
      refine XS.iconst X39.here hx rfl (hb hby d4_84) ?_
      refine XS.iload X39.here hx rfl (hb hby d4_85) rfl ?_
      show Sq p e below m T39 87 #[rv a, iv sl, iv kd, iv er, iv 16] [.int 16, .int 2, .ref li, .ref a] _
      refine XS.imul X39.here hx rfl (hb hby d4_87) rfl ?_
      show Sq p e below m T39 88 #[rv a, iv sl, iv kd, iv er, iv 16] [.int ((2 : Int32) * (16 : Int32)), .ref li, .ref a] _
      rw [show ((2 : Int32) * (16 : Int32)) = (32 : Int32) from by decide]
      show Sq p e below m T39 88 #[rv a, iv sl, iv kd, iv er, iv 16] [.int 32, .ref li, .ref a] _
      refine st40 _ ?_
      show Sq p e below m T40 91 #[rv a, iv sl, iv kd, iv er, iv 16] [.ref b40b, .ref a] _
      refine st43 _ ?_
      show Sq p e below m T43 94 #[rv a, iv sl, iv kd, iv er, iv 16] [] _
      refine XS.aloadN X43.here hx rfl (hb hby d4_94) rfl rfl ?_
      show Sq p e below m T43 95 #[rv a, iv sl, iv kd, iv er, iv 16] [.ref a] _
      refine st47 _ ?_
      show Sq p e below m T47 98 #[rv a, iv sl, iv kd, iv er, iv 16] [.ref b8b] _
      refine XS.iconst X47.here hx rfl (hb hby d4_98) ?_
      refine XS.aloadN X47.here hx rfl (hb hby d4_99) rfl rfl ?_
      show Sq p e below m T47 100 #[rv a, iv sl, iv kd, iv er, iv 16] [.ref a, .int 2, .ref b8b] _
      refine st48 _ ?_
      show Sq p e below m T48 103 #[rv a, iv sl, iv kd, iv er, iv 16] [.int 0, .int 2, .ref b8b] _
      refine XS.imul X48.here hx rfl (hb hby d4_103) rfl ?_
      show Sq p e below m T48 104 #[rv a, iv sl, iv kd, iv er, iv 16] [.int ((2 : Int32) * (0 : Int32)), .ref b8b] _
      rw [show ((2 : Int32) * (0 : Int32)) = (0 : Int32) from by decide]
      show Sq p e below m T48 104 #[rv a, iv sl, iv kd, iv er, iv 16] [.int 0, .ref b8b] _
      refine XS.iloadN X48.here hx rfl (hb hby d4_104) rfl ?_
      show Sq p e below m T48 105 #[rv a, iv sl, iv kd, iv er, iv 16] [.int sl, .int 0, .ref b8b] _
      refine st49 _ ?_
      show Sq p e below m T49 106 #[rv a, iv sl, iv kd, iv er, iv 16] [] _
      refine XS.aloadN X49.here hx rfl (hb hby d4_106) rfl rfl ?_
      show Sq p e below m T49 107 #[rv a, iv sl, iv kd, iv er, iv 16] [.ref a] _
      refine st53 _ ?_
      show Sq p e below m T53 110 #[rv a, iv sl, iv kd, iv er, iv 16] [.ref b8b] _
      refine XS.iconst X53.here hx rfl (hb hby d4_110) ?_
      refine XS.aloadN X53.here hx rfl (hb hby d4_111) rfl rfl ?_
      show Sq p e below m T53 112 #[rv a, iv sl, iv kd, iv er, iv 16] [.ref a, .int 2, .ref b8b] _
      refine st54 _ ?_
      show Sq p e below m T54 115 #[rv a, iv sl, iv kd, iv er, iv 16] [.int 0, .int 2, .ref b8b] _
      refine XS.imul X54.here hx rfl (hb hby d4_115) rfl ?_
      show Sq p e below m T54 116 #[rv a, iv sl, iv kd, iv er, iv 16] [.int ((2 : Int32) * (0 : Int32)), .ref b8b] _
      rw [show ((2 : Int32) * (0 : Int32)) = (0 : Int32) from by decide]
      show Sq p e below m T54 116 #[rv a, iv sl, iv kd, iv er, iv 16] [.int 0, .ref b8b] _
      refine XS.iconst X54.here hx rfl (hb hby d4_116) ?_
      refine XS.iadd X54.here hx rfl (hb hby d4_117) rfl ?_
      show Sq p e below m T54 118 #[rv a, iv sl, iv kd, iv er, iv 16] [.int ((0 : Int32) + (1 : Int32)), .ref b8b] _
      rw [show ((0 : Int32) + (1 : Int32)) = (1 : Int32) from by decide]
      show Sq p e below m T54 118 #[rv a, iv sl, iv kd, iv er, iv 16] [.int 1, .ref b8b] _
      refine XS.iloadN X54.here hx rfl (hb hby d4_118) rfl ?_
      show Sq p e below m T54 119 #[rv a, iv sl, iv kd, iv er, iv 16] [.int kd, .int 1, .ref b8b] _
      refine st55 _ ?_
      show Sq p e below m T55 120 #[rv a, iv sl, iv kd, iv er, iv 16] [] _
      refine XS.aloadN X55.here hx rfl (hb hby d4_120) rfl rfl ?_
      show Sq p e below m T55 121 #[rv a, iv sl, iv kd, iv er, iv 16] [.ref a] _
      refine st59 _ ?_
      show Sq p e below m T59 124 #[rv a, iv sl, iv kd, iv er, iv 16] [.ref b16b] _
      refine XS.aloadN X59.here hx rfl (hb hby d4_124) rfl rfl ?_
      show Sq p e below m T59 125 #[rv a, iv sl, iv kd, iv er, iv 16] [.ref a, .ref b16b] _
      refine st60 _ ?_
      show Sq p e below m T60 128 #[rv a, iv sl, iv kd, iv er, iv 16] [.int 0, .ref b16b] _
      refine XS.iloadN X60.here hx rfl (hb hby d4_128) rfl ?_
      show Sq p e below m T60 129 #[rv a, iv sl, iv kd, iv er, iv 16] [.int er, .int 0, .ref b16b] _
      refine st61 _ ?_
      show Sq p e below m T61 130 #[rv a, iv sl, iv kd, iv er, iv 16] [] _
      refine XS.aloadN X61.here hx rfl (hb hby d4_130) rfl rfl ?_
      show Sq p e below m T61 131 #[rv a, iv sl, iv kd, iv er, iv 16] [.ref a] _
      refine st65 _ ?_
      show Sq p e below m T65 134 #[rv a, iv sl, iv kd, iv er, iv 16] [.ref b24b] _
      refine XS.aloadN X65.here hx rfl (hb hby d4_134) rfl rfl ?_
      show Sq p e below m T65 135 #[rv a, iv sl, iv kd, iv er, iv 16] [.ref a, .ref b24b] _
      refine st66 _ ?_
      show Sq p e below m T66 138 #[rv a, iv sl, iv kd, iv er, iv 16] [.int 0, .ref b24b] _
      refine XS.aconstNull X66.here hx rfl (hb hby d4_138) ?_
      show Sq p e below m T66 139 #[rv a, iv sl, iv kd, iv er, iv 16] [.null, .int 0, .ref b24b] _
      refine st67 _ ?_
      show Sq p e below m T67 140 #[rv a, iv sl, iv kd, iv er, iv 16] [] _
      refine XS.aloadN X67.here hx rfl (hb hby d4_140) rfl rfl ?_
      refine XS.dup X67.here hx rfl (hb hby d4_141) rfl rfl ?_
      show Sq p e below m T67 142 #[rv a, iv sl, iv kd, iv er, iv 16] [.ref a, .ref a] _
      refine st71 _ ?_
      show Sq p e below m T71 145 #[rv a, iv sl, iv kd, iv er, iv 16] [.int 0, .ref a] _
      refine XS.iconst X71.here hx rfl (hb hby d4_145) ?_
      refine XS.iadd X71.here hx rfl (hb hby d4_146) rfl ?_
      show Sq p e below m T71 147 #[rv a, iv sl, iv kd, iv er, iv 16] [.int ((0 : Int32) + (1 : Int32)), .ref a] _
      rw [show ((0 : Int32) + (1 : Int32)) = (1 : Int32) from by decide]
      show Sq p e below m T71 147 #[rv a, iv sl, iv kd, iv er, iv 16] [.int 1, .ref a] _
      refine st72 _ ?_
      show Sq p e below m T72 150 #[rv a, iv sl, iv kd, iv er, iv 16] [] _
      refine XS.aloadN X72.here hx rfl (hb hby d4_150) rfl rfl ?_
      show Sq p e below m T72 151 #[rv a, iv sl, iv kd, iv er, iv 16] [.ref a] _
      refine st76 _ ?_
      show Sq p e below m T76 154 #[rv a, iv sl, iv kd, iv er, iv 16] [.int 1] _
      refine XS.iconst X76.here hx rfl (hb hby d4_154) ?_
      refine XS.isub X76.here hx rfl (hb hby d4_155) rfl ?_
      show Sq p e below m T76 156 #[rv a, iv sl, iv kd, iv er, iv 16] [.int ((1 : Int32) - (1 : Int32))] _
      rw [show ((1 : Int32) - (1 : Int32)) = (0 : Int32) from by decide]
      show Sq p e below m T76 156 #[rv a, iv sl, iv kd, iv er, iv 16] [.int 0] _
      exact retI X76 hx Bd.returns (hb hby d4_156) hr
    · show Q_write0 Z a sl kd er (0 : Int32) ps w_MIR lo ea ma un li kl ke km ku ki h0 n0 _ T76.heap _
      rw [e76]
      exact ⟨b8b, b16b, b24b, b32b, b40b, b8kb, b16kb, b24kb, b32kb, b40kb, (16 : Int32), rfl, N75, K74, Fz11, Fz19, Fz27, Fz35, Fz43, Fz72, fp, V55, V61, V67, p32_2, p40_2, p24_3, g_b8b, g_b16b, g_b24b, g_b32b, g_b40b, ne_b8b_b16b, ne_b8b_b24b, ne_b8b_b32b, ne_b8b_b40b, ne_b16b_b24b, ne_b16b_b32b, ne_b16b_b40b, ne_b24b_b32b, ne_b24b_b40b, ne_b32b_b40b, ne_a_b8b, ne_a_b16b, ne_a_b24b, ne_a_b32b, ne_a_b40b, (by decide)⟩
  · obtain ⟨T5, X5, e5, st5⟩ := getF X2 hx hZ hown (host := "") (Or.inl (W 12 rfl)) Via.refl e2 f0 (g := (mkF m 95 #[rv a, iv sl, iv kd, iv er, .unset] [.ref a])) rfl rfl (hb hby d4_95)
    obtain ⟨T6, X6, e6, st6⟩ := getF X5 hx hZ hown (host := "") (Or.inl (W 29 rfl)) Via.refl e5 fw (g := (mkF m 100 #[rv a, iv sl, iv kd, iv er, .unset] [.ref a, .int 2, .ref lo])) rfl rfl (hb hby d4_100)
    obtain ⟨cl7, Ar7, q7, S7, Ng7, Hh7, Gg7⟩ := id v0
    obtain ⟨T7, h7, X7, e7, W7, st7⟩ := stI X6 hx hZ e6 Ar7 (j := (0 : Int32)) (inb_of S7 (own_i2 hlt hn (by decide) (by decide) (by decide))) (g := (mkF m 105 #[rv a, iv sl, iv kd, iv er, .unset] [.int sl, .int 0, .ref lo])) rfl rfl (hb hby d4_105)
    have V7 : Arv Z h7 lo kl .int ((2 : Int32) * n) [(.int sl), (.int (0 : Int32)), (.int (0 : Int32)), (.int (0 : Int32)), (.int (0 : Int32)), (.int (0 : Int32))] (.int (0 : Int32)) := Arv.set Ar7 q7 S7 Ng7 Hh7 Gg7 rfl W7 0 rfl (Nat.le_of_ble_eq_true rfl)
    have Ea := Ea.wr W7
    have Em := Em.wr W7
    have f0 := f0.other W7 (Or.inl na0)
    have f1 := f1.other W7 (Or.inl na0)
    have f2 := f2.other W7 (Or.inl na0)
    have f3 := f3.other W7 (Or.inl na0)
    have f4 := f4.other W7 (Or.inl na0)
    have fw := fw.other W7 (Or.inl na0)
    have fp := fp.other W7 (Or.inl na0)
    have v1 := v1.other W7 (Ne.symm ne0)
    have v2 := v2.other W7 (Ne.symm ne1)
    have v3 := v3.other W7 (Ne.symm ne2)
    have v4 := v4.other W7 (Ne.symm ne3)
    have K9 := K0.wr W7 (Or.inl (List.mem_of_getElem? (i := 1) rfl))
    have N10 := Fr.snoc X7 N0 g0
    obtain ⟨T11, X11, e11, st11⟩ := getF X7 hx hZ hown (host := "") (Or.inl (W 12 rfl)) Via.refl e7 f0 (g := (mkF m 107 #[rv a, iv sl, iv kd, iv er, .unset] [.ref a])) rfl rfl (hb hby d4_107)
    obtain ⟨T12, X12, e12, st12⟩ := getF X11 hx hZ hown (host := "") (Or.inl (W 29 rfl)) Via.refl e11 fw (g := (mkF m 112 #[rv a, iv sl, iv kd, iv er, .unset] [.ref a, .int 2, .ref lo])) rfl rfl (hb hby d4_112)
    obtain ⟨cl13, Ar13, q13, S13, Ng13, Hh13, Gg13⟩ := id V7
    obtain ⟨T13, h13, X13, e13, W13, st13⟩ := stI X12 hx hZ e12 Ar13 (j := (1 : Int32)) (inb_of S13 (own_i2 hlt hn (by decide) (by decide) (by decide))) (g := (mkF m 119 #[rv a, iv sl, iv kd, iv er, .unset] [.int kd, .int 1, .ref lo])) rfl rfl (hb hby d4_119)
    have V13 : Arv Z h13 lo kl .int ((2 : Int32) * n) [(.int sl), (.int kd), (.int (0 : Int32)), (.int (0 : Int32)), (.int (0 : Int32)), (.int (0 : Int32))] (.int (0 : Int32)) := Arv.set Ar13 q13 S13 Ng13 Hh13 Gg13 rfl W13 1 rfl (Nat.le_of_ble_eq_true rfl)
    have Ea := Ea.wr W13
    have Em := Em.wr W13
    have f0 := f0.other W13 (Or.inl na0)
    have f1 := f1.other W13 (Or.inl na0)
    have f2 := f2.other W13 (Or.inl na0)
    have f3 := f3.other W13 (Or.inl na0)
    have f4 := f4.other W13 (Or.inl na0)
    have fw := fw.other W13 (Or.inl na0)
    have fp := fp.other W13 (Or.inl na0)
    have v1 := v1.other W13 (Ne.symm ne0)
    have v2 := v2.other W13 (Ne.symm ne1)
    have v3 := v3.other W13 (Ne.symm ne2)
    have v4 := v4.other W13 (Ne.symm ne3)
    have K15 := K9.wr W13 (Or.inl (List.mem_of_getElem? (i := 1) rfl))
    have N16 := Fr.snoc X13 N10 g0
    obtain ⟨T17, X17, e17, st17⟩ := getF X13 hx hZ hown (host := "") (Or.inl (W 14 rfl)) Via.refl e13 f1 (g := (mkF m 121 #[rv a, iv sl, iv kd, iv er, .unset] [.ref a])) rfl rfl (hb hby d4_121)
    obtain ⟨T18, X18, e18, st18⟩ := getF X17 hx hZ hown (host := "") (Or.inl (W 29 rfl)) Via.refl e17 fw (g := (mkF m 125 #[rv a, iv sl, iv kd, iv er, .unset] [.ref a, .ref ea])) rfl rfl (hb hby d4_125)
    obtain ⟨cl19, Ar19, q19, S19, Ng19, Hh19, Gg19⟩ := id v1
    obtain ⟨T19, h19, X19, e19, W19, st19⟩ := stI X18 hx hZ e18 Ar19 (j := (0 : Int32)) (inb_of S19 ⟨by decide, hlt⟩) (g := (mkF m 129 #[rv a, iv sl, iv kd, iv er, .unset] [.int er, .int 0, .ref ea])) rfl rfl (hb hby d4_129)
    have V19 : Arv Z h19 ea ke .int n [(.int er), (.int (0 : Int32)), (.int (0 : Int32)), (.int (0 : Int32)), (.int (0 : Int32)), (.int (0 : Int32))] (.int (0 : Int32)) := Arv.set Ar19 q19 S19 Ng19 Hh19 Gg19 rfl W19 0 rfl (Nat.le_of_ble_eq_true rfl)
    have Ea := Ea.wr W19
    have Em := Em.wr W19
    have f0 := f0.other W19 (Or.inl na1)
    have f1 := f1.other W19 (Or.inl na1)
    have f2 := f2.other W19 (Or.inl na1)
    have f3 := f3.other W19 (Or.inl na1)
    have f4 := f4.other W19 (Or.inl na1)
    have fw := fw.other W19 (Or.inl na1)
    have fp := fp.other W19 (Or.inl na1)
    have v2 := v2.other W19 (Ne.symm ne4)
    have v3 := v3.other W19 (Ne.symm ne5)
    have v4 := v4.other W19 (Ne.symm ne6)
    have V13 := V13.other W19 ne0
    have K21 := K15.wr W19 (Or.inl (List.mem_of_getElem? (i := 2) rfl))
    have N22 := Fr.snoc X19 N16 g1
    obtain ⟨T23, X23, e23, st23⟩ := getF X19 hx hZ hown (host := "") (Or.inl (W 18 rfl)) Via.refl e19 f2 (g := (mkF m 131 #[rv a, iv sl, iv kd, iv er, .unset] [.ref a])) rfl rfl (hb hby d4_131)
    obtain ⟨T24, X24, e24, st24⟩ := getF X23 hx hZ hown (host := "") (Or.inl (W 29 rfl)) Via.refl e23 fw (g := (mkF m 135 #[rv a, iv sl, iv kd, iv er, .unset] [.ref a, .ref ma])) rfl rfl (hb hby d4_135)
    obtain ⟨cl25, Ar25, q25, S25, Ng25, Hh25, Gg25⟩ := id v2
    obtain ⟨T25, h25, X25, e25, W25, st25⟩ := stR X24 hx hZ e24 Ar25 (j := (0 : Int32)) (inb_of S25 ⟨by decide, hlt⟩) rfl (Or.inl rfl) (g := (mkF m 139 #[rv a, iv sl, iv kd, iv er, .unset] [.null, .int 0, .ref ma])) rfl rfl (hb hby d4_139)
    have V25 : Arv Z h25 ma km (.object "java/lang/Object") n [.null, .null, .null, .null, .null, .null] .null := Arv.set Ar25 q25 S25 Ng25 Hh25 Gg25 rfl W25 0 rfl (Nat.le_of_ble_eq_true rfl)
    have Ea := Ea.wr W25
    have Em := Em.wr W25
    have f0 := f0.other W25 (Or.inl na2)
    have f1 := f1.other W25 (Or.inl na2)
    have f2 := f2.other W25 (Or.inl na2)
    have f3 := f3.other W25 (Or.inl na2)
    have f4 := f4.other W25 (Or.inl na2)
    have fw := fw.other W25 (Or.inl na2)
    have fp := fp.other W25 (Or.inl na2)
    have v3 := v3.other W25 (Ne.symm ne7)
    have v4 := v4.other W25 (Ne.symm ne8)
    have V13 := V13.other W25 ne1
    have V19 := V19.other W25 ne4
    have K27 := K21.wr W25 (Or.inl (List.mem_of_getElem? (i := 3) rfl))
    have N28 := Fr.snoc X25 N22 g2
    obtain ⟨T29, X29, e29, st29⟩ := getF X25 hx hZ hown (host := "") (Or.inl (W 29 rfl)) Via.refl e25 fw (g := (mkF m 142 #[rv a, iv sl, iv kd, iv er, .unset] [.ref a, .ref a])) rfl rfl (hb hby d4_142)
    obtain ⟨T30, h30, X30, e30, W30, st30⟩ := putF X29 hx hZ hown (host := "") (Or.inl (W 29 rfl)) Via.refl e29 fw Ea (Or.inl (W 30 rfl)) (W 1 rfl) (ty := .int) (by decide) rfl rfl (g := (mkF m 147 #[rv a, iv sl, iv kd, iv er, .unset] [.int 1, .ref a])) rfl rfl (hb hby d4_147)
    have Fz30 := fw.same W30
    have Em := Em.wr W30
    have f0 := f0.other W30 (Or.inr (slot_ne (Or.inl (W 13 rfl)) (Or.inl (W 30 rfl)) (by decide) (t := (.array .int)) (t' := .int) (by decide) (by decide)))
    have f1 := f1.other W30 (Or.inr (slot_ne (Or.inl (W 15 rfl)) (Or.inl (W 30 rfl)) (by decide) (t := (.array .int)) (t' := .int) (by decide) (by decide)))
    have f2 := f2.other W30 (Or.inr (slot_ne (Or.inl (W 19 rfl)) (Or.inl (W 30 rfl)) (by decide) (t := (.array (.object "java/lang/Object"))) (t' := .int) (by decide) (by decide)))
    have f3 := f3.other W30 (Or.inr (slot_ne (Or.inl (W 21 rfl)) (Or.inl (W 30 rfl)) (by decide) (t := (.array .int)) (t' := .int) (by decide) (by decide)))
    have f4 := f4.other W30 (Or.inr (slot_ne (Or.inl (W 23 rfl)) (Or.inl (W 30 rfl)) (by decide) (t := (.array .int)) (t' := .int) (by decide) (by decide)))
    have fp := fp.other W30 (Or.inr (slot_ne (Or.inl (W 32 rfl)) (Or.inl (W 30 rfl)) (by decide) (t := .int) (t' := .int) (by decide) (by decide)))
    have v3 := v3.other W30 (Ne.symm na3)
    have v4 := v4.other W30 (Ne.symm na4)
    have V13 := V13.other W30 (Ne.symm na0)
    have V19 := V19.other W30 (Ne.symm na1)
    have V25 := V25.other W30 (Ne.symm na2)
    have K32 := K27.wr W30 (Or.inl (List.mem_of_getElem? (i := 0) rfl))
    have N33 := Fr.snoc X30 N28 ga
    obtain ⟨T34, X34, e34, st34⟩ := getF X30 hx hZ hown (host := "") (Or.inl (W 29 rfl)) Via.refl e30 Fz30 (g := (mkF m 151 #[rv a, iv sl, iv kd, iv er, .unset] [.ref a])) rfl rfl (hb hby d4_151)
    obtain ⟨fs, hr, hrun, hended, hW, hsame⟩ := X34.leave (v := some (.int (0 : Int32))) (fun h => by rw [Bd.returns] at h; cases h)
    refine ⟨_, _, pre4 _ ?_, hrun, hended, _, _, rfl, ?_, ⟨_, rfl⟩, hW, hsame.mono (by decide) (by decide)⟩
    · show Sq p e below m T2 9 #[rv a, iv sl, iv kd, iv er, .unset] [.int n, .int 0] _
      refine XS.icmpYes X2.here hx rfl (pc0 := 9) (pc' := 94) rfl (hb hby d4_9) rfl (feq (own_neq hlt : ¬ ((0 : Int32) = n))).2 (by decide) (by decide) ?_
      refine XS.aloadN X2.here hx rfl (hb hby d4_94) rfl rfl ?_
      show Sq p e below m T2 95 #[rv a, iv sl, iv kd, iv er, .unset] [.ref a] _
      refine st5 _ ?_
      show Sq p e below m T5 98 #[rv a, iv sl, iv kd, iv er, .unset] [.ref lo] _
      refine XS.iconst X5.here hx rfl (hb hby d4_98) ?_
      refine XS.aloadN X5.here hx rfl (hb hby d4_99) rfl rfl ?_
      show Sq p e below m T5 100 #[rv a, iv sl, iv kd, iv er, .unset] [.ref a, .int 2, .ref lo] _
      refine st6 _ ?_
      show Sq p e below m T6 103 #[rv a, iv sl, iv kd, iv er, .unset] [.int 0, .int 2, .ref lo] _
      refine XS.imul X6.here hx rfl (hb hby d4_103) rfl ?_
      show Sq p e below m T6 104 #[rv a, iv sl, iv kd, iv er, .unset] [.int ((2 : Int32) * (0 : Int32)), .ref lo] _
      rw [show ((2 : Int32) * (0 : Int32)) = (0 : Int32) from by decide]
      show Sq p e below m T6 104 #[rv a, iv sl, iv kd, iv er, .unset] [.int 0, .ref lo] _
      refine XS.iloadN X6.here hx rfl (hb hby d4_104) rfl ?_
      show Sq p e below m T6 105 #[rv a, iv sl, iv kd, iv er, .unset] [.int sl, .int 0, .ref lo] _
      refine st7 _ ?_
      show Sq p e below m T7 106 #[rv a, iv sl, iv kd, iv er, .unset] [] _
      refine XS.aloadN X7.here hx rfl (hb hby d4_106) rfl rfl ?_
      show Sq p e below m T7 107 #[rv a, iv sl, iv kd, iv er, .unset] [.ref a] _
      refine st11 _ ?_
      show Sq p e below m T11 110 #[rv a, iv sl, iv kd, iv er, .unset] [.ref lo] _
      refine XS.iconst X11.here hx rfl (hb hby d4_110) ?_
      refine XS.aloadN X11.here hx rfl (hb hby d4_111) rfl rfl ?_
      show Sq p e below m T11 112 #[rv a, iv sl, iv kd, iv er, .unset] [.ref a, .int 2, .ref lo] _
      refine st12 _ ?_
      show Sq p e below m T12 115 #[rv a, iv sl, iv kd, iv er, .unset] [.int 0, .int 2, .ref lo] _
      refine XS.imul X12.here hx rfl (hb hby d4_115) rfl ?_
      show Sq p e below m T12 116 #[rv a, iv sl, iv kd, iv er, .unset] [.int ((2 : Int32) * (0 : Int32)), .ref lo] _
      rw [show ((2 : Int32) * (0 : Int32)) = (0 : Int32) from by decide]
      show Sq p e below m T12 116 #[rv a, iv sl, iv kd, iv er, .unset] [.int 0, .ref lo] _
      refine XS.iconst X12.here hx rfl (hb hby d4_116) ?_
      refine XS.iadd X12.here hx rfl (hb hby d4_117) rfl ?_
      show Sq p e below m T12 118 #[rv a, iv sl, iv kd, iv er, .unset] [.int ((0 : Int32) + (1 : Int32)), .ref lo] _
      rw [show ((0 : Int32) + (1 : Int32)) = (1 : Int32) from by decide]
      show Sq p e below m T12 118 #[rv a, iv sl, iv kd, iv er, .unset] [.int 1, .ref lo] _
      refine XS.iloadN X12.here hx rfl (hb hby d4_118) rfl ?_
      show Sq p e below m T12 119 #[rv a, iv sl, iv kd, iv er, .unset] [.int kd, .int 1, .ref lo] _
      refine st13 _ ?_
      show Sq p e below m T13 120 #[rv a, iv sl, iv kd, iv er, .unset] [] _
      refine XS.aloadN X13.here hx rfl (hb hby d4_120) rfl rfl ?_
      show Sq p e below m T13 121 #[rv a, iv sl, iv kd, iv er, .unset] [.ref a] _
      refine st17 _ ?_
      show Sq p e below m T17 124 #[rv a, iv sl, iv kd, iv er, .unset] [.ref ea] _
      refine XS.aloadN X17.here hx rfl (hb hby d4_124) rfl rfl ?_
      show Sq p e below m T17 125 #[rv a, iv sl, iv kd, iv er, .unset] [.ref a, .ref ea] _
      refine st18 _ ?_
      show Sq p e below m T18 128 #[rv a, iv sl, iv kd, iv er, .unset] [.int 0, .ref ea] _
      refine XS.iloadN X18.here hx rfl (hb hby d4_128) rfl ?_
      show Sq p e below m T18 129 #[rv a, iv sl, iv kd, iv er, .unset] [.int er, .int 0, .ref ea] _
      refine st19 _ ?_
      show Sq p e below m T19 130 #[rv a, iv sl, iv kd, iv er, .unset] [] _
      refine XS.aloadN X19.here hx rfl (hb hby d4_130) rfl rfl ?_
      show Sq p e below m T19 131 #[rv a, iv sl, iv kd, iv er, .unset] [.ref a] _
      refine st23 _ ?_
      show Sq p e below m T23 134 #[rv a, iv sl, iv kd, iv er, .unset] [.ref ma] _
      refine XS.aloadN X23.here hx rfl (hb hby d4_134) rfl rfl ?_
      show Sq p e below m T23 135 #[rv a, iv sl, iv kd, iv er, .unset] [.ref a, .ref ma] _
      refine st24 _ ?_
      show Sq p e below m T24 138 #[rv a, iv sl, iv kd, iv er, .unset] [.int 0, .ref ma] _
      refine XS.aconstNull X24.here hx rfl (hb hby d4_138) ?_
      show Sq p e below m T24 139 #[rv a, iv sl, iv kd, iv er, .unset] [.null, .int 0, .ref ma] _
      refine st25 _ ?_
      show Sq p e below m T25 140 #[rv a, iv sl, iv kd, iv er, .unset] [] _
      refine XS.aloadN X25.here hx rfl (hb hby d4_140) rfl rfl ?_
      refine XS.dup X25.here hx rfl (hb hby d4_141) rfl rfl ?_
      show Sq p e below m T25 142 #[rv a, iv sl, iv kd, iv er, .unset] [.ref a, .ref a] _
      refine st29 _ ?_
      show Sq p e below m T29 145 #[rv a, iv sl, iv kd, iv er, .unset] [.int 0, .ref a] _
      refine XS.iconst X29.here hx rfl (hb hby d4_145) ?_
      refine XS.iadd X29.here hx rfl (hb hby d4_146) rfl ?_
      show Sq p e below m T29 147 #[rv a, iv sl, iv kd, iv er, .unset] [.int ((0 : Int32) + (1 : Int32)), .ref a] _
      rw [show ((0 : Int32) + (1 : Int32)) = (1 : Int32) from by decide]
      show Sq p e below m T29 147 #[rv a, iv sl, iv kd, iv er, .unset] [.int 1, .ref a] _
      refine st30 _ ?_
      show Sq p e below m T30 150 #[rv a, iv sl, iv kd, iv er, .unset] [] _
      refine XS.aloadN X30.here hx rfl (hb hby d4_150) rfl rfl ?_
      show Sq p e below m T30 151 #[rv a, iv sl, iv kd, iv er, .unset] [.ref a] _
      refine st34 _ ?_
      show Sq p e below m T34 154 #[rv a, iv sl, iv kd, iv er, .unset] [.int 1] _
      refine XS.iconst X34.here hx rfl (hb hby d4_154) ?_
      refine XS.isub X34.here hx rfl (hb hby d4_155) rfl ?_
      show Sq p e below m T34 156 #[rv a, iv sl, iv kd, iv er, .unset] [.int ((1 : Int32) - (1 : Int32))] _
      rw [show ((1 : Int32) - (1 : Int32)) = (0 : Int32) from by decide]
      show Sq p e below m T34 156 #[rv a, iv sl, iv kd, iv er, .unset] [.int 0] _
      exact retI X34 hx Bd.returns (hb hby d4_156) hr
    · show Q_write0 Z a sl kd er n ps w_MIR lo ea ma un li kl ke km ku ki h0 n0 _ T34.heap _
      rw [e34]
      exact ⟨lo, ea, ma, un, li, kl, ke, km, ku, ki, n, rfl, N33, K32, f0, f1, f2, f3, f4, Fz30, fp, V13, V19, V25, v3, v4, Em, g0, g1, g2, g3, g4, ne0, ne1, ne2, ne3, ne4, ne5, ne6, ne7, ne8, ne9, na0, na1, na2, na3, na4, (own_nx hlt hn (by decide))⟩
def Q_write1 (Z : State) (a : Addr) (sl : Int32) (kd : Int32) (er : Int32) (n : Int32) (ps : Int32) (w_MIR : Addr) (lo : Addr) (ea : Addr) (ma : Addr) (un : Addr) (li : Addr) (kl : ClassId) (ke : ClassId) (km : ClassId) (ku : ClassId) (ki : ClassId) (s0 : Int32) (k0 : Int32) (t0 : Int32) (h0 : Heap) (n0 : Nat) (v : Option Value) (h : Heap) (L : List Loc) : Prop := ∃ lo' : Addr, ∃ ea' : Addr, ∃ ma' : Addr, ∃ un' : Addr, ∃ li' : Addr, ∃ kl' : ClassId, ∃ ke' : ClassId, ∃ km' : ClassId, ∃ ku' : ClassId, ∃ ki' : ClassId, ∃ n' : Int32, v = some (.int (1 : Int32)) ∧ Fr n0 L ∧ Keep h0 h [a, lo, ea, ma] ∧ Fld Z h a "com/example/dodder/dodder/engine/PathWrites" "logged" "[I" (.ref lo') ∧ Fld Z h a "com/example/dodder/dodder/engine/PathWrites" "earlierWrites" "[I" (.ref ea') ∧ Fld Z h a "com/example/dodder/dodder/engine/PathWrites" "madeAfter" "[Ljava/lang/Object;" (.ref ma') ∧ Fld Z h a "com/example/dodder/dodder/engine/PathWrites" "unmade" "[I" (.ref un') ∧ Fld Z h a "com/example/dodder/dodder/engine/PathWrites" "listed" "[I" (.ref li') ∧ Fld Z h a "com/example/dodder/dodder/engine/PathWrites" "writes" "I" (.int (2 : Int32)) ∧ Fld Z h a "com/example/dodder/dodder/engine/PathWrites" "position" "I" (.int ps) ∧ Arv Z h lo' kl' .int ((2 : Int32) * n') [(.int s0), (.int k0), (.int sl), (.int kd), (.int (0 : Int32)), (.int (0 : Int32))] (.int (0 : Int32)) ∧ Arv Z h ea' ke' .int n' [(.int t0), (.int er), (.int (0 : Int32)), (.int (0 : Int32)), (.int (0 : Int32)), (.int (0 : Int32))] (.int (0 : Int32)) ∧ Arv Z h ma' km' (.object "java/lang/Object") n' [.null, .null, .null, .null, .null, .null] .null ∧ Arv Z h un' ku' .int n' [(.int (0 : Int32)), (.int (0 : Int32)), (.int (0 : Int32)), (.int (0 : Int32)), (.int (0 : Int32)), (.int (0 : Int32))] (.int (0 : Int32)) ∧ Arv Z h li' ki' .int ((2 : Int32) * n') [(.int (0 : Int32)), (.int (0 : Int32)), (.int (0 : Int32)), (.int (0 : Int32)), (.int (0 : Int32)), (.int (0 : Int32))] (.int (0 : Int32)) ∧ Exa Z h ma' "[Ljava/lang/Object;" ∧ n0 ≤ lo' ∧ n0 ≤ ea' ∧ n0 ≤ ma' ∧ n0 ≤ un' ∧ n0 ≤ li' ∧ lo' ≠ ea' ∧ lo' ≠ ma' ∧ lo' ≠ un' ∧ lo' ≠ li' ∧ ea' ≠ ma' ∧ ea' ≠ un' ∧ ea' ≠ li' ∧ ma' ≠ un' ∧ ma' ≠ li' ∧ un' ≠ li' ∧ a ≠ lo' ∧ a ≠ ea' ∧ a ≠ ma' ∧ a ≠ un' ∧ a ≠ li' ∧ 2 ≤ n'.toInt ∧ n'.toInt ≤ 16
set_option maxRecDepth 65536 in
set_option maxHeartbeats 40000000 in
theorem write1 (l : Launch) (Z : State) (a0 : Array Value) (hw : ∀ d ∈ tables_1, d.before a0 Z = true) (ws : List Jvm.Cond) (a : Addr) (sl : Int32) (kd : Int32) (er : Int32) (n : Int32) (ps : Int32) (w_MIR : Addr) (lo : Addr) (ea : Addr) (ma : Addr) (un : Addr) (li : Addr) (kl : ClassId) (ke : ClassId) (km : ClassId) (ku : ClassId) (ki : ClassId) (s0 : Int32) (k0 : Int32) (t0 : Int32) (h0 : Heap) (n0 : Nat) (O : Old Z n0 h0) (Ea : Exa Z h0 a "com/example/dodder/dodder/engine/PathWrites") (Em : Exa Z h0 ma "[Ljava/lang/Object;") (Mo : Mirr Z "[Ljava/lang/Object;" w_MIR) (f0 : Fld Z h0 a "com/example/dodder/dodder/engine/PathWrites" "logged" "[I" (.ref lo)) (f1 : Fld Z h0 a "com/example/dodder/dodder/engine/PathWrites" "earlierWrites" "[I" (.ref ea)) (f2 : Fld Z h0 a "com/example/dodder/dodder/engine/PathWrites" "madeAfter" "[Ljava/lang/Object;" (.ref ma)) (f3 : Fld Z h0 a "com/example/dodder/dodder/engine/PathWrites" "unmade" "[I" (.ref un)) (f4 : Fld Z h0 a "com/example/dodder/dodder/engine/PathWrites" "listed" "[I" (.ref li)) (fw : Fld Z h0 a "com/example/dodder/dodder/engine/PathWrites" "writes" "I" (.int (1 : Int32))) (fp : Fld Z h0 a "com/example/dodder/dodder/engine/PathWrites" "position" "I" (.int ps)) (v0 : Arv Z h0 lo kl .int ((2 : Int32) * n) [(.int s0), (.int k0), (.int (0 : Int32)), (.int (0 : Int32)), (.int (0 : Int32)), (.int (0 : Int32))] (.int (0 : Int32))) (v1 : Arv Z h0 ea ke .int n [(.int t0), (.int (0 : Int32)), (.int (0 : Int32)), (.int (0 : Int32)), (.int (0 : Int32)), (.int (0 : Int32))] (.int (0 : Int32))) (v2 : Arv Z h0 ma km (.object "java/lang/Object") n [.null, .null, .null, .null, .null, .null] .null) (v3 : Arv Z h0 un ku .int n [(.int (0 : Int32)), (.int (0 : Int32)), (.int (0 : Int32)), (.int (0 : Int32)), (.int (0 : Int32)), (.int (0 : Int32))] (.int (0 : Int32))) (v4 : Arv Z h0 li ki .int ((2 : Int32) * n) [(.int (0 : Int32)), (.int (0 : Int32)), (.int (0 : Int32)), (.int (0 : Int32)), (.int (0 : Int32)), (.int (0 : Int32))] (.int (0 : Int32))) (ga : n0 ≤ a) (g0 : n0 ≤ lo) (g1 : n0 ≤ ea) (g2 : n0 ≤ ma) (g3 : n0 ≤ un) (g4 : n0 ≤ li) (ne0 : lo ≠ ea) (ne1 : lo ≠ ma) (ne2 : lo ≠ un) (ne3 : lo ≠ li) (ne4 : ea ≠ ma) (ne5 : ea ≠ un) (ne6 : ea ≠ li) (ne7 : ma ≠ un) (ne8 : ma ≠ li) (ne9 : un ≠ li) (na0 : a ≠ lo) (na1 : a ≠ ea) (na2 : a ≠ ma) (na3 : a ≠ un) (na4 : a ≠ li) (hn : 1 ≤ n.toInt ∧ n.toInt ≤ 16) :
    Ctr l Z y_7 prog_20_method_3_code 5 (some .int) ws ({ frames := 3, cells := 5, slots := 112, locals := 47 } : Room) #[(.ref a), (.int sl), (.int kd), (.int er)] h0 (Q_write1 Z a sl kd er n ps w_MIR lo ea ma un li kl ke km ku ki s0 k0 t0 h0 n0) := by
  refine MetFree.of_bodySF (plainFor_of_name pn_1) hisR ?_
  intro p e s m args below meth c s₁ Bd hml0 hP hK
  obtain ⟨rfl, hZ, hh⟩ := hP
  have W := fun (i : Nat) {d : Jvm.Cond} (h : tables_1[i]? = some d) => hw d (List.mem_of_getElem? h)
  have hx := Bd.exec
  have hby := Bd.bytes
  have hml : c.maxLocals = 5 := hml0
  have hown : s.vm.findClass "com/example/dodder/dodder/engine/PathWrites" = some m.cls := findClass_of_methodNamed Bd.named
  have hnm := (name_of_methodNamed Bd.named Bd.method).1
  have X0 : Stand p l e ({ frames := 3, cells := 5, slots := 112, locals := 47 } : Room) s m #[(.ref a), (.int sl), (.int kd), (.int er)] below meth c s₁ [] 0 0 := Stand.of_body Bd
  have e0 : s₁.heap = h0 := by rw [← hh, Bd.state]; rfl
  have N0 := Fr.nil n0
  have pre0 : ∀ t, Steps p.tables e below (s₁.setTop (mkF m 0 #[.val (.ref a), .val (.int sl), .val (.int kd), .val (.int er), .unset] [])) t → Steps p.tables e below (s₁.setTop (entryFrame m #[(.ref a), (.int sl), (.int kd), (.int er)] 5)) t := fun t kk_ => castTop (ef_9 m a sl kd er) kk_
  have K0 := Keep.refl h0 [a, lo, ea, ma]
  obtain ⟨T1, X1, e1, st1⟩ := getF X0 hx hZ hown (host := "") (Or.inl (W 29 rfl)) Via.refl e0 fw (g := (mkF m 1 #[rv a, iv sl, iv kd, iv er, .unset] [.ref a])) rfl rfl (hb hby d4_1)
  obtain ⟨T2, X2, e2, st2⟩ := getF X1 hx hZ hown (host := "") (Or.inl (W 14 rfl)) Via.refl e1 f1 (g := (mkF m 5 #[rv a, iv sl, iv kd, iv er, .unset] [.ref a, .int 1])) rfl rfl (hb hby d4_5)
  obtain ⟨cl3, Ar3, -, S3, Ng3, -, -⟩ := id v1
  have st3 := X2.arraylength hx (by rw [e2]; exact Ar3.1) (State.isArrayOf_alike hZ.alike Ar3.2.1) (g := (mkF m 8 #[rv a, iv sl, iv kd, iv er, .unset] [.ref ea, .int 1])) rfl rfl (hb hby d4_8)
  rw [len_of S3 Ng3] at st3
  have pre4 : ∀ t, Steps p.tables e below (T2.setTop (mkF m 9 #[rv a, iv sl, iv kd, iv er, .unset] [.int n, .int 1])) t → Steps p.tables e below (s₁.setTop (entryFrame m #[(.ref a), (.int sl), (.int kd), (.int er)] 5)) t := by
    intro t kt
    refine pre0 _ ?_
    show Sq p e below m s₁ 0 #[rv a, iv sl, iv kd, iv er, .unset] [] _
    refine XS.aloadN X0.here hx rfl (hb hby d4_0) rfl rfl ?_
    show Sq p e below m s₁ 1 #[rv a, iv sl, iv kd, iv er, .unset] [.ref a] _
    refine st1 _ ?_
    show Sq p e below m T1 4 #[rv a, iv sl, iv kd, iv er, .unset] [.int 1] _
    refine XS.aloadN X1.here hx rfl (hb hby d4_4) rfl rfl ?_
    show Sq p e below m T1 5 #[rv a, iv sl, iv kd, iv er, .unset] [.ref a, .int 1] _
    refine st2 _ ?_
    show Sq p e below m T2 8 #[rv a, iv sl, iv kd, iv er, .unset] [.ref ea, .int 1] _
    refine st3 _ ?_
    exact kt
  rcases own_sp (k := (1 : Int32)) hn (by decide) with rfl | hlt
  · obtain ⟨T5, X5, e5, st5⟩ := getF X2 hx hZ hown (host := "") (Or.inl (W 29 rfl)) Via.refl e2 fw (g := (mkF m 14 #[rv a, iv sl, iv kd, iv er, .unset] [.ref a, .int 2])) rfl rfl (hb hby d4_14)
    obtain ⟨_, _, ⟨T6, L6, k6, n6⟩, -, X6, ⟨Lc6, hQ6, l6, y6, z6⟩, st6⟩ := Jvm.LawKit.callS X5 hx (y := y_0) hown (mvT hZ (W 38 rfl)) (mvT hZ (W 39 rfl)) (mvT hZ (W 40 rfl)) (mvT hZ (W 41 rfl)) (by decide) (backOf (W := 0) (max1 l Z a0 hw []  h0 n0 O ) hZ (W 41 rfl) (W 40 rfl) (by decide) (by decide)) (g := (mkF m 20 #[rv a, iv sl, iv kd, iv er, .unset] [.int 16, .int 2])) rfl (by rw [hml]; rfl) (argsL := [.int 2, .int 16]) (rest := []) (lenOf pd_0 rfl) rfl (by show 2 * 0 + _ ≤ _; exact Nat.le_of_eq rfl) (hb hby d4_20) (fun _ _ => ⟨rfl, e5, (by decide : 0 + 0 ≤ _), (by decide : 0 + 0 ≤ _)⟩)
    dsimp only [Pt.U, Pt.locs, Pt.cells, Pt.slots] at X6 l6 y6 z6 st6 hQ6
    subst l6 y6 z6
    obtain ⟨h6, e6⟩ : ∃ z, T6.heap = z := ⟨_, rfl⟩
    rw [e6] at hQ6
    obtain ⟨rfl, N6q, p6_0⟩ := hQ6
    have N6 := Fr.app N0 N6q
    rw [p6_0] at e6
    obtain ⟨T7, X7, e7, st7⟩ := getF X6 hx hZ hown (host := "") (Or.inl (W 12 rfl)) Via.refl e6 f0 (g := (mkF m 27 #[rv a, iv sl, iv kd, iv er, iv 16] [.ref a, .ref a])) rfl rfl (hb hby d4_27)
    obtain ⟨_, _, ⟨T8, L8, k8, n8⟩, -, X8, ⟨Lc8, hQ8, l8, y8, z8⟩, st8⟩ := Jvm.LawKit.callS X7 hx (y := y_2) hown (mvT hZ (W 42 rfl)) (mvT hZ (W 43 rfl)) (mvT hZ (W 44 rfl)) (mvT hZ (W 45 rfl)) (by decide) (backOf (W := 1) (cpI32 l Z a0 hw [] lo kl ((2 : Int32) * (1 : Int32)) [(.int s0), (.int k0), (.int (0 : Int32)), (.int (0 : Int32)), (.int (0 : Int32)), (.int (0 : Int32))] (32 : Int32) [(.int s0), (.int k0)] [(.int s0), (.int k0), (.int (0 : Int32)), (.int (0 : Int32)), (.int (0 : Int32)), (.int (0 : Int32))] h0 n0 O v0 (by decide) (by decide) (Nat.le_of_ble_eq_true rfl) (by decide) (by decide) rfl rfl (Nat.le_of_ble_eq_true rfl)) hZ (W 45 rfl) (W 44 rfl) (by decide) (by decide)) (g := (mkF m 34 #[rv a, iv sl, iv kd, iv er, iv 16] [.int 32, .ref lo, .ref a])) rfl (by rw [hml]; rfl) (argsL := [.ref lo, .int 32]) (rest := [.ref a]) (lenOf pd_2 rfl) rfl (by show 2 * 0 + _ ≤ _; exact Nat.le_of_eq rfl) (hb hby d4_34) (fun _ _ => ⟨rfl, e7, (by decide : 0 + 1 ≤ _), (by decide : 0 + 32 ≤ _)⟩)
    dsimp only [Pt.U, Pt.locs, Pt.cells, Pt.slots] at X8 l8 y8 z8 st8 hQ8
    subst l8 y8 z8
    obtain ⟨h8, e8⟩ : ∃ z, T8.heap = z := ⟨_, rfl⟩
    rw [e8] at hQ8
    obtain ⟨b8b, b8kb, rfl, N8q, p8_0, p8_1, p8_2⟩ := hQ8
    have N8 := Fr.app N6 N8q
    have g_b8b : n0 ≤ b8b := Nat.le_trans (own_sz O) p8_1
    have sz_b8b : h0.size ≤ b8b := Nat.le_trans K0.1 p8_1
    have ne_a_b8b : a ≠ b8b := Nat.ne_of_lt (Nat.lt_of_lt_of_le Ea.lt p8_1)
    have Ea := Ea.keep p8_0
    have Em := Em.keep p8_0
    have f0 := f0.keep p8_0 nin0
    have f1 := f1.keep p8_0 nin0
    have f2 := f2.keep p8_0 nin0
    have f3 := f3.keep p8_0 nin0
    have f4 := f4.keep p8_0 nin0
    have fw := fw.keep p8_0 nin0
    have fp := fp.keep p8_0 nin0
    have v1 := v1.keep p8_0 nin0
    have v2 := v2.keep p8_0 nin0
    have v3 := v3.keep p8_0 nin0
    have v4 := v4.keep p8_0 nin0
    have O9 := O.keep p8_0 all0
    have K10 := K0.trans p8_0 all0
    obtain ⟨T11, h11, X11, e11, W11, st11⟩ := putF X8 hx hZ hown (host := "") (Or.inl (W 12 rfl)) Via.refl e8 f0 Ea (Or.inl (W 13 rfl)) (W 1 rfl) (ty := (.array .int)) (by decide) rfl rfl (g := (mkF m 37 #[rv a, iv sl, iv kd, iv er, iv 16] [.ref b8b, .ref a])) rfl rfl (hb hby d4_37)
    have Fz11 := f0.same W11
    have Ea := Ea.wr W11
    have Em := Em.wr W11
    have f1 := f1.other W11 (Or.inr (slot_ne (Or.inl (W 15 rfl)) (Or.inl (W 13 rfl)) (by decide) (t := (.array .int)) (t' := (.array .int)) (by decide) (by decide)))
    have f2 := f2.other W11 (Or.inr (slot_ne (Or.inl (W 19 rfl)) (Or.inl (W 13 rfl)) (by decide) (t := (.array (.object "java/lang/Object"))) (t' := (.array .int)) (by decide) (by decide)))
    have f3 := f3.other W11 (Or.inr (slot_ne (Or.inl (W 21 rfl)) (Or.inl (W 13 rfl)) (by decide) (t := (.array .int)) (t' := (.array .int)) (by decide) (by decide)))
    have f4 := f4.other W11 (Or.inr (slot_ne (Or.inl (W 23 rfl)) (Or.inl (W 13 rfl)) (by decide) (t := (.array .int)) (t' := (.array .int)) (by decide) (by decide)))
    have fw := fw.other W11 (Or.inr (slot_ne (Or.inl (W 30 rfl)) (Or.inl (W 13 rfl)) (by decide) (t := .int) (t' := (.array .int)) (by decide) (by decide)))
    have fp := fp.other W11 (Or.inr (slot_ne (Or.inl (W 32 rfl)) (Or.inl (W 13 rfl)) (by decide) (t := .int) (t' := (.array .int)) (by decide) (by decide)))
    have v1 := v1.other W11 (Ne.symm na1)
    have v2 := v2.other W11 (Ne.symm na2)
    have v3 := v3.other W11 (Ne.symm na3)
    have v4 := v4.other W11 (Ne.symm na4)
    have p8_2 := p8_2.other W11 (Ne.symm ne_a_b8b)
    have O12 := O9.wr W11 ga
    have K13 := K10.wr W11 (Or.inl (List.mem_of_getElem? (i := 0) rfl))
    have N14 := Fr.snoc X11 N8 ga
    obtain ⟨T15, X15, e15, st15⟩ := getF X11 hx hZ hown (host := "") (Or.inl (W 14 rfl)) Via.refl e11 f1 (g := (mkF m 42 #[rv a, iv sl, iv kd, iv er, iv 16] [.ref a, .ref a])) rfl rfl (hb hby d4_42)
    obtain ⟨_, _, ⟨T16, L16, k16, n16⟩, -, X16, ⟨Lc16, hQ16, l16, y16, z16⟩, st16⟩ := Jvm.LawKit.callS X15 hx (y := y_2) hown (mvT hZ (W 42 rfl)) (mvT hZ (W 43 rfl)) (mvT hZ (W 44 rfl)) (mvT hZ (W 45 rfl)) (by decide) (backOf (W := 1) (cpI16 l Z a0 hw [] ea ke (1 : Int32) [(.int t0), (.int (0 : Int32)), (.int (0 : Int32)), (.int (0 : Int32)), (.int (0 : Int32)), (.int (0 : Int32))] (16 : Int32) [(.int t0)] [(.int t0), (.int (0 : Int32)), (.int (0 : Int32)), (.int (0 : Int32)), (.int (0 : Int32)), (.int (0 : Int32))] h11 n0 O12 v1 (by decide) (by decide) (Nat.le_of_ble_eq_true rfl) (by decide) (by decide) rfl rfl (Nat.le_of_ble_eq_true rfl)) hZ (W 45 rfl) (W 44 rfl) (by decide) (by decide)) (g := (mkF m 47 #[rv a, iv sl, iv kd, iv er, iv 16] [.int 16, .ref ea, .ref a])) rfl (by rw [hml]; rfl) (argsL := [.ref ea, .int 16]) (rest := [.ref a]) (lenOf pd_2 rfl) rfl (by show 2 * 0 + _ ≤ _; exact Nat.le_of_eq rfl) (hb hby d4_47) (fun _ _ => ⟨rfl, e15, (by decide : 1 + 1 ≤ _), (by decide : 32 + 16 ≤ _)⟩)
    dsimp only [Pt.U, Pt.locs, Pt.cells, Pt.slots] at X16 l16 y16 z16 st16 hQ16
    subst l16 y16 z16
    obtain ⟨h16, e16⟩ : ∃ z, T16.heap = z := ⟨_, rfl⟩
    rw [e16] at hQ16
    obtain ⟨b16b, b16kb, rfl, N16q, p16_0, p16_1, p16_2⟩ := hQ16
    have N16 := Fr.app N14 N16q
    have g_b16b : n0 ≤ b16b := Nat.le_trans (own_sz O12) p16_1
    have sz_b16b : h0.size ≤ b16b := Nat.le_trans K13.1 p16_1
    have ne_a_b16b : a ≠ b16b := Nat.ne_of_lt (Nat.lt_of_lt_of_le Ea.lt p16_1)
    have ne_b8b_b16b : b8b ≠ b16b := Nat.ne_of_lt (Nat.lt_of_lt_of_le p8_2.lt p16_1)
    have Ea := Ea.keep p16_0
    have Em := Em.keep p16_0
    have f1 := f1.keep p16_0 nin0
    have f2 := f2.keep p16_0 nin0
    have f3 := f3.keep p16_0 nin0
    have f4 := f4.keep p16_0 nin0
    have fw := fw.keep p16_0 nin0
    have fp := fp.keep p16_0 nin0
    have v2 := v2.keep p16_0 nin0
    have v3 := v3.keep p16_0 nin0
    have v4 := v4.keep p16_0 nin0
    have p8_2 := p8_2.keep p16_0 nin0
    have Fz11 := Fz11.keep p16_0 nin0
    have O17 := O12.keep p16_0 all0
    have K18 := K13.trans p16_0 all0
    obtain ⟨T19, h19, X19, e19, W19, st19⟩ := putF X16 hx hZ hown (host := "") (Or.inl (W 14 rfl)) Via.refl e16 f1 Ea (Or.inl (W 15 rfl)) (W 1 rfl) (ty := (.array .int)) (by decide) rfl rfl (g := (mkF m 50 #[rv a, iv sl, iv kd, iv er, iv 16] [.ref b16b, .ref a])) rfl rfl (hb hby d4_50)
    have Fz19 := f1.same W19
    have Ea := Ea.wr W19
    have Em := Em.wr W19
    have f2 := f2.other W19 (Or.inr (slot_ne (Or.inl (W 19 rfl)) (Or.inl (W 15 rfl)) (by decide) (t := (.array (.object "java/lang/Object"))) (t' := (.array .int)) (by decide) (by decide)))
    have f3 := f3.other W19 (Or.inr (slot_ne (Or.inl (W 21 rfl)) (Or.inl (W 15 rfl)) (by decide) (t := (.array .int)) (t' := (.array .int)) (by decide) (by decide)))
    have f4 := f4.other W19 (Or.inr (slot_ne (Or.inl (W 23 rfl)) (Or.inl (W 15 rfl)) (by decide) (t := (.array .int)) (t' := (.array .int)) (by decide) (by decide)))
    have fw := fw.other W19 (Or.inr (slot_ne (Or.inl (W 30 rfl)) (Or.inl (W 15 rfl)) (by decide) (t := .int) (t' := (.array .int)) (by decide) (by decide)))
    have fp := fp.other W19 (Or.inr (slot_ne (Or.inl (W 32 rfl)) (Or.inl (W 15 rfl)) (by decide) (t := .int) (t' := (.array .int)) (by decide) (by decide)))
    have v2 := v2.other W19 (Ne.symm na2)
    have v3 := v3.other W19 (Ne.symm na3)
    have v4 := v4.other W19 (Ne.symm na4)
    have p8_2 := p8_2.other W19 (Ne.symm ne_a_b8b)
    have Fz11 := Fz11.other W19 (Or.inr (slot_ne (Or.inl (W 13 rfl)) (Or.inl (W 15 rfl)) (by decide) (t := (.array .int)) (t' := (.array .int)) (by decide) (by decide)))
    have p16_2 := p16_2.other W19 (Ne.symm ne_a_b16b)
    have O20 := O17.wr W19 ga
    have K21 := K18.wr W19 (Or.inl (List.mem_of_getElem? (i := 0) rfl))
    have N22 := Fr.snoc X19 N16 ga
    obtain ⟨T23, X23, e23, st23⟩ := getF X19 hx hZ hown (host := "") (Or.inl (W 18 rfl)) Via.refl e19 f2 (g := (mkF m 55 #[rv a, iv sl, iv kd, iv er, iv 16] [.ref a, .ref a])) rfl rfl (hb hby d4_55)
    obtain ⟨_, _, ⟨T24, L24, k24, n24⟩, -, X24, ⟨Lc24, hQ24, l24, y24, z24⟩, st24⟩ := Jvm.LawKit.callS X23 hx (y := y_4) hown (mvT hZ (W 53 rfl)) (mvT hZ (W 54 rfl)) (mvT hZ (W 44 rfl)) (mvT hZ (W 55 rfl)) (by decide) (backOf (W := 1) (cpO2 l Z a0 hw [] ma km (1 : Int32) [.null, .null, .null, .null, .null, .null] (16 : Int32) [.null] [.null, .null, .null, .null, .null, .null] w_MIR h19 n0 O20 v2 Mo (by decide) (by decide) (Nat.le_of_ble_eq_true rfl) (by decide) (by decide) rfl rfl (Nat.le_of_ble_eq_true rfl) (own_nul (n := 1)) Em) hZ (W 55 rfl) (W 44 rfl) (by decide) (by decide)) (g := (mkF m 60 #[rv a, iv sl, iv kd, iv er, iv 16] [.int 16, .ref ma, .ref a])) rfl (by rw [hml]; rfl) (argsL := [.ref ma, .int 16]) (rest := [.ref a]) (lenOf pd_3 rfl) rfl (by show 2 * 0 + _ ≤ _; exact Nat.le_of_eq rfl) (hb hby d4_60) (fun _ _ => ⟨rfl, e23, (by decide : 2 + 1 ≤ _), (by decide : 48 + 16 ≤ _)⟩)
    dsimp only [Pt.U, Pt.locs, Pt.cells, Pt.slots] at X24 l24 y24 z24 st24 hQ24
    subst l24 y24 z24
    obtain ⟨h24, e24⟩ : ∃ z, T24.heap = z := ⟨_, rfl⟩
    rw [e24] at hQ24
    obtain ⟨b24b, b24kb, rfl, N24q, p24_0, p24_1, p24_2, p24_3⟩ := hQ24
    have N24 := Fr.app N22 N24q
    have g_b24b : n0 ≤ b24b := Nat.le_trans (own_sz O20) p24_1
    have sz_b24b : h0.size ≤ b24b := Nat.le_trans K21.1 p24_1
    have ne_a_b24b : a ≠ b24b := Nat.ne_of_lt (Nat.lt_of_lt_of_le Ea.lt p24_1)
    have ne_b8b_b24b : b8b ≠ b24b := Nat.ne_of_lt (Nat.lt_of_lt_of_le p8_2.lt p24_1)
    have ne_b16b_b24b : b16b ≠ b24b := Nat.ne_of_lt (Nat.lt_of_lt_of_le p16_2.lt p24_1)
    have Ea := Ea.keep p24_0
    have f2 := f2.keep p24_0 nin0
    have f3 := f3.keep p24_0 nin0
    have f4 := f4.keep p24_0 nin0
    have fw := fw.keep p24_0 nin0
    have fp := fp.keep p24_0 nin0
    have v3 := v3.keep p24_0 nin0
    have v4 := v4.keep p24_0 nin0
    have p8_2 := p8_2.keep p24_0 nin0
    have Fz11 := Fz11.keep p24_0 nin0
    have p16_2 := p16_2.keep p24_0 nin0
    have Fz19 := Fz19.keep p24_0 nin0
    have O25 := O20.keep p24_0 all0
    have K26 := K21.trans p24_0 all0
    obtain ⟨T27, h27, X27, e27, W27, st27⟩ := putF X24 hx hZ hown (host := "") (Or.inl (W 18 rfl)) Via.refl e24 f2 Ea (Or.inl (W 19 rfl)) (W 1 rfl) (ty := (.array (.object "java/lang/Object"))) (by decide) rfl rfl (g := (mkF m 63 #[rv a, iv sl, iv kd, iv er, iv 16] [.ref b24b, .ref a])) rfl rfl (hb hby d4_63)
    have Fz27 := f2.same W27
    have Ea := Ea.wr W27
    have f3 := f3.other W27 (Or.inr (slot_ne (Or.inl (W 21 rfl)) (Or.inl (W 19 rfl)) (by decide) (t := (.array .int)) (t' := (.array (.object "java/lang/Object"))) (by decide) (by decide)))
    have f4 := f4.other W27 (Or.inr (slot_ne (Or.inl (W 23 rfl)) (Or.inl (W 19 rfl)) (by decide) (t := (.array .int)) (t' := (.array (.object "java/lang/Object"))) (by decide) (by decide)))
    have fw := fw.other W27 (Or.inr (slot_ne (Or.inl (W 30 rfl)) (Or.inl (W 19 rfl)) (by decide) (t := .int) (t' := (.array (.object "java/lang/Object"))) (by decide) (by decide)))
    have fp := fp.other W27 (Or.inr (slot_ne (Or.inl (W 32 rfl)) (Or.inl (W 19 rfl)) (by decide) (t := .int) (t' := (.array (.object "java/lang/Object"))) (by decide) (by decide)))
    have v3 := v3.other W27 (Ne.symm na3)
    have v4 := v4.other W27 (Ne.symm na4)
    have p8_2 := p8_2.other W27 (Ne.symm ne_a_b8b)
    have Fz11 := Fz11.other W27 (Or.inr (slot_ne (Or.inl (W 13 rfl)) (Or.inl (W 19 rfl)) (by decide) (t := (.array .int)) (t' := (.array (.object "java/lang/Object"))) (by decide) (by decide)))
    have p16_2 := p16_2.other W27 (Ne.symm ne_a_b16b)
    have Fz19 := Fz19.other W27 (Or.inr (slot_ne (Or.inl (W 15 rfl)) (Or.inl (W 19 rfl)) (by decide) (t := (.array .int)) (t' := (.array (.object "java/lang/Object"))) (by decide) (by decide)))
    have p24_2 := p24_2.other W27 (Ne.symm ne_a_b24b)
    have p24_3 := p24_3.wr W27
    have O28 := O25.wr W27 ga
    have K29 := K26.wr W27 (Or.inl (List.mem_of_getElem? (i := 0) rfl))
    have N30 := Fr.snoc X27 N24 ga
    obtain ⟨T31, X31, e31, st31⟩ := getF X27 hx hZ hown (host := "") (Or.inl (W 20 rfl)) Via.refl e27 f3 (g := (mkF m 68 #[rv a, iv sl, iv kd, iv er, iv 16] [.ref a, .ref a])) rfl rfl (hb hby d4_68)
    obtain ⟨_, _, ⟨T32, L32, k32, n32⟩, -, X32, ⟨Lc32, hQ32, l32, y32, z32⟩, st32⟩ := Jvm.LawKit.callS X31 hx (y := y_2) hown (mvT hZ (W 42 rfl)) (mvT hZ (W 43 rfl)) (mvT hZ (W 44 rfl)) (mvT hZ (W 45 rfl)) (by decide) (backOf (W := 1) (cpI16 l Z a0 hw [] un ku (1 : Int32) [(.int (0 : Int32)), (.int (0 : Int32)), (.int (0 : Int32)), (.int (0 : Int32)), (.int (0 : Int32)), (.int (0 : Int32))] (16 : Int32) [(.int (0 : Int32))] [(.int (0 : Int32)), (.int (0 : Int32)), (.int (0 : Int32)), (.int (0 : Int32)), (.int (0 : Int32)), (.int (0 : Int32))] h27 n0 O28 v3 (by decide) (by decide) (Nat.le_of_ble_eq_true rfl) (by decide) (by decide) rfl rfl (Nat.le_of_ble_eq_true rfl)) hZ (W 45 rfl) (W 44 rfl) (by decide) (by decide)) (g := (mkF m 73 #[rv a, iv sl, iv kd, iv er, iv 16] [.int 16, .ref un, .ref a])) rfl (by rw [hml]; rfl) (argsL := [.ref un, .int 16]) (rest := [.ref a]) (lenOf pd_2 rfl) rfl (by show 2 * 0 + _ ≤ _; exact Nat.le_of_eq rfl) (hb hby d4_73) (fun _ _ => ⟨rfl, e31, (by decide : 3 + 1 ≤ _), (by decide : 64 + 16 ≤ _)⟩)
    dsimp only [Pt.U, Pt.locs, Pt.cells, Pt.slots] at X32 l32 y32 z32 st32 hQ32
    subst l32 y32 z32
    obtain ⟨h32, e32⟩ : ∃ z, T32.heap = z := ⟨_, rfl⟩
    rw [e32] at hQ32
    obtain ⟨b32b, b32kb, rfl, N32q, p32_0, p32_1, p32_2⟩ := hQ32
    have N32 := Fr.app N30 N32q
    have g_b32b : n0 ≤ b32b := Nat.le_trans (own_sz O28) p32_1
    have ne_a_b32b : a ≠ b32b := Nat.ne_of_lt (Nat.lt_of_lt_of_le Ea.lt p32_1)
    have ne_b8b_b32b : b8b ≠ b32b := Nat.ne_of_lt (Nat.lt_of_lt_of_le p8_2.lt p32_1)
    have ne_b16b_b32b : b16b ≠ b32b := Nat.ne_of_lt (Nat.lt_of_lt_of_le p16_2.lt p32_1)
    have ne_b24b_b32b : b24b ≠ b32b := Nat.ne_of_lt (Nat.lt_of_lt_of_le p24_3.lt p32_1)
    have Ea := Ea.keep p32_0
    have f3 := f3.keep p32_0 nin0
    have f4 := f4.keep p32_0 nin0
    have fw := fw.keep p32_0 nin0
    have fp := fp.keep p32_0 nin0
    have v4 := v4.keep p32_0 nin0
    have p8_2 := p8_2.keep p32_0 nin0
    have Fz11 := Fz11.keep p32_0 nin0
    have p16_2 := p16_2.keep p32_0 nin0
    have Fz19 := Fz19.keep p32_0 nin0
    have p24_2 := p24_2.keep p32_0 nin0
    have p24_3 := p24_3.keep p32_0
    have Fz27 := Fz27.keep p32_0 nin0
    have O33 := O28.keep p32_0 all0
    have K34 := K29.trans p32_0 all0
    obtain ⟨T35, h35, X35, e35, W35, st35⟩ := putF X32 hx hZ hown (host := "") (Or.inl (W 20 rfl)) Via.refl e32 f3 Ea (Or.inl (W 21 rfl)) (W 1 rfl) (ty := (.array .int)) (by decide) rfl rfl (g := (mkF m 76 #[rv a, iv sl, iv kd, iv er, iv 16] [.ref b32b, .ref a])) rfl rfl (hb hby d4_76)
    have Fz35 := f3.same W35
    have Ea := Ea.wr W35
    have f4 := f4.other W35 (Or.inr (slot_ne (Or.inl (W 23 rfl)) (Or.inl (W 21 rfl)) (by decide) (t := (.array .int)) (t' := (.array .int)) (by decide) (by decide)))
    have fw := fw.other W35 (Or.inr (slot_ne (Or.inl (W 30 rfl)) (Or.inl (W 21 rfl)) (by decide) (t := .int) (t' := (.array .int)) (by decide) (by decide)))
    have fp := fp.other W35 (Or.inr (slot_ne (Or.inl (W 32 rfl)) (Or.inl (W 21 rfl)) (by decide) (t := .int) (t' := (.array .int)) (by decide) (by decide)))
    have v4 := v4.other W35 (Ne.symm na4)
    have p8_2 := p8_2.other W35 (Ne.symm ne_a_b8b)
    have Fz11 := Fz11.other W35 (Or.inr (slot_ne (Or.inl (W 13 rfl)) (Or.inl (W 21 rfl)) (by decide) (t := (.array .int)) (t' := (.array .int)) (by decide) (by decide)))
    have p16_2 := p16_2.other W35 (Ne.symm ne_a_b16b)
    have Fz19 := Fz19.other W35 (Or.inr (slot_ne (Or.inl (W 15 rfl)) (Or.inl (W 21 rfl)) (by decide) (t := (.array .int)) (t' := (.array .int)) (by decide) (by decide)))
    have p24_2 := p24_2.other W35 (Ne.symm ne_a_b24b)
    have p24_3 := p24_3.wr W35
    have Fz27 := Fz27.other W35 (Or.inr (slot_ne (Or.inl (W 19 rfl)) (Or.inl (W 21 rfl)) (by decide) (t := (.array (.object "java/lang/Object"))) (t' := (.array .int)) (by decide) (by decide)))
    have p32_2 := p32_2.other W35 (Ne.symm ne_a_b32b)
    have O36 := O33.wr W35 ga
    have K37 := K34.wr W35 (Or.inl (List.mem_of_getElem? (i := 0) rfl))
    have N38 := Fr.snoc X35 N32 ga
    obtain ⟨T39, X39, e39, st39⟩ := getF X35 hx hZ hown (host := "") (Or.inl (W 22 rfl)) Via.refl e35 f4 (g := (mkF m 81 #[rv a, iv sl, iv kd, iv er, iv 16] [.ref a, .ref a])) rfl rfl (hb hby d4_81)
    obtain ⟨_, _, ⟨T40, L40, k40, n40⟩, -, X40, ⟨Lc40, hQ40, l40, y40, z40⟩, st40⟩ := Jvm.LawKit.callS X39 hx (y := y_2) hown (mvT hZ (W 42 rfl)) (mvT hZ (W 43 rfl)) (mvT hZ (W 44 rfl)) (mvT hZ (W 45 rfl)) (by decide) (backOf (W := 1) (cpI32 l Z a0 hw [] li ki ((2 : Int32) * (1 : Int32)) [(.int (0 : Int32)), (.int (0 : Int32)), (.int (0 : Int32)), (.int (0 : Int32)), (.int (0 : Int32)), (.int (0 : Int32))] (32 : Int32) [(.int (0 : Int32)), (.int (0 : Int32))] [(.int (0 : Int32)), (.int (0 : Int32)), (.int (0 : Int32)), (.int (0 : Int32)), (.int (0 : Int32)), (.int (0 : Int32))] h35 n0 O36 v4 (by decide) (by decide) (Nat.le_of_ble_eq_true rfl) (by decide) (by decide) rfl rfl (Nat.le_of_ble_eq_true rfl)) hZ (W 45 rfl) (W 44 rfl) (by decide) (by decide)) (g := (mkF m 88 #[rv a, iv sl, iv kd, iv er, iv 16] [.int 32, .ref li, .ref a])) rfl (by rw [hml]; rfl) (argsL := [.ref li, .int 32]) (rest := [.ref a]) (lenOf pd_2 rfl) rfl (by show 2 * 0 + _ ≤ _; exact Nat.le_of_eq rfl) (hb hby d4_88) (fun _ _ => ⟨rfl, e39, (by decide : 4 + 1 ≤ _), (by decide : 80 + 32 ≤ _)⟩)
    dsimp only [Pt.U, Pt.locs, Pt.cells, Pt.slots] at X40 l40 y40 z40 st40 hQ40
    subst l40 y40 z40
    obtain ⟨h40, e40⟩ : ∃ z, T40.heap = z := ⟨_, rfl⟩
    rw [e40] at hQ40
    obtain ⟨b40b, b40kb, rfl, N40q, p40_0, p40_1, p40_2⟩ := hQ40
    have N40 := Fr.app N38 N40q
    have g_b40b : n0 ≤ b40b := Nat.le_trans (own_sz O36) p40_1
    have ne_a_b40b : a ≠ b40b := Nat.ne_of_lt (Nat.lt_of_lt_of_le Ea.lt p40_1)
    have ne_b8b_b40b : b8b ≠ b40b := Nat.ne_of_lt (Nat.lt_of_lt_of_le p8_2.lt p40_1)
    have ne_b16b_b40b : b16b ≠ b40b := Nat.ne_of_lt (Nat.lt_of_lt_of_le p16_2.lt p40_1)
    have ne_b24b_b40b : b24b ≠ b40b := Nat.ne_of_lt (Nat.lt_of_lt_of_le p24_3.lt p40_1)
    have ne_b32b_b40b : b32b ≠ b40b := Nat.ne_of_lt (Nat.lt_of_lt_of_le p32_2.lt p40_1)
    have Ea := Ea.keep p40_0
    have f4 := f4.keep p40_0 nin0
    have fw := fw.keep p40_0 nin0
    have fp := fp.keep p40_0 nin0
    have p8_2 := p8_2.keep p40_0 nin0
    have Fz11 := Fz11.keep p40_0 nin0
    have p16_2 := p16_2.keep p40_0 nin0
    have Fz19 := Fz19.keep p40_0 nin0
    have p24_2 := p24_2.keep p40_0 nin0
    have p24_3 := p24_3.keep p40_0
    have Fz27 := Fz27.keep p40_0 nin0
    have p32_2 := p32_2.keep p40_0 nin0
    have Fz35 := Fz35.keep p40_0 nin0
    have K42 := K37.trans p40_0 all0
    obtain ⟨T43, h43, X43, e43, W43, st43⟩ := putF X40 hx hZ hown (host := "") (Or.inl (W 22 rfl)) Via.refl e40 f4 Ea (Or.inl (W 23 rfl)) (W 1 rfl) (ty := (.array .int)) (by decide) rfl rfl (g := (mkF m 91 #[rv a, iv sl, iv kd, iv er, iv 16] [.ref b40b, .ref a])) rfl rfl (hb hby d4_91)
    have Fz43 := f4.same W43
    have Ea := Ea.wr W43
    have fw := fw.other W43 (Or.inr (slot_ne (Or.inl (W 30 rfl)) (Or.inl (W 23 rfl)) (by decide) (t := .int) (t' := (.array .int)) (by decide) (by decide)))
    have fp := fp.other W43 (Or.inr (slot_ne (Or.inl (W 32 rfl)) (Or.inl (W 23 rfl)) (by decide) (t := .int) (t' := (.array .int)) (by decide) (by decide)))
    have p8_2 := p8_2.other W43 (Ne.symm ne_a_b8b)
    have Fz11 := Fz11.other W43 (Or.inr (slot_ne (Or.inl (W 13 rfl)) (Or.inl (W 23 rfl)) (by decide) (t := (.array .int)) (t' := (.array .int)) (by decide) (by decide)))
    have p16_2 := p16_2.other W43 (Ne.symm ne_a_b16b)
    have Fz19 := Fz19.other W43 (Or.inr (slot_ne (Or.inl (W 15 rfl)) (Or.inl (W 23 rfl)) (by decide) (t := (.array .int)) (t' := (.array .int)) (by decide) (by decide)))
    have p24_2 := p24_2.other W43 (Ne.symm ne_a_b24b)
    have p24_3 := p24_3.wr W43
    have Fz27 := Fz27.other W43 (Or.inr (slot_ne (Or.inl (W 19 rfl)) (Or.inl (W 23 rfl)) (by decide) (t := (.array (.object "java/lang/Object"))) (t' := (.array .int)) (by decide) (by decide)))
    have p32_2 := p32_2.other W43 (Ne.symm ne_a_b32b)
    have Fz35 := Fz35.other W43 (Or.inr (slot_ne (Or.inl (W 21 rfl)) (Or.inl (W 23 rfl)) (by decide) (t := (.array .int)) (t' := (.array .int)) (by decide) (by decide)))
    have p40_2 := p40_2.other W43 (Ne.symm ne_a_b40b)
    have K45 := K42.wr W43 (Or.inl (List.mem_of_getElem? (i := 0) rfl))
    have N46 := Fr.snoc X43 N40 ga
    obtain ⟨T47, X47, e47, st47⟩ := getF X43 hx hZ hown (host := "") (Or.inl (W 12 rfl)) Via.refl e43 Fz11 (g := (mkF m 95 #[rv a, iv sl, iv kd, iv er, iv 16] [.ref a])) rfl rfl (hb hby d4_95)
    obtain ⟨T48, X48, e48, st48⟩ := getF X47 hx hZ hown (host := "") (Or.inl (W 29 rfl)) Via.refl e47 fw (g := (mkF m 100 #[rv a, iv sl, iv kd, iv er, iv 16] [.ref a, .int 2, .ref b8b])) rfl rfl (hb hby d4_100)
    obtain ⟨cl49, Ar49, q49, S49, Ng49, Hh49, Gg49⟩ := id p8_2
    obtain ⟨T49, h49, X49, e49, W49, st49⟩ := stI X48 hx hZ e48 Ar49 (j := (2 : Int32)) (inb_of S49 (by decide)) (g := (mkF m 105 #[rv a, iv sl, iv kd, iv er, iv 16] [.int sl, .int 2, .ref b8b])) rfl rfl (hb hby d4_105)
    have V49 : Arv Z h49 b8b b8kb .int (32 : Int32) [(.int s0), (.int k0), (.int sl), (.int (0 : Int32)), (.int (0 : Int32)), (.int (0 : Int32))] (.int (0 : Int32)) := Arv.set Ar49 q49 S49 Ng49 Hh49 Gg49 rfl W49 2 rfl (Nat.le_of_ble_eq_true rfl)
    have Ea := Ea.wr W49
    have fw := fw.other W49 (Or.inl ne_a_b8b)
    have fp := fp.other W49 (Or.inl ne_a_b8b)
    have Fz11 := Fz11.other W49 (Or.inl ne_a_b8b)
    have p16_2 := p16_2.other W49 (Ne.symm ne_b8b_b16b)
    have Fz19 := Fz19.other W49 (Or.inl ne_a_b8b)
    have p24_2 := p24_2.other W49 (Ne.symm ne_b8b_b24b)
    have p24_3 := p24_3.wr W49
    have Fz27 := Fz27.other W49 (Or.inl ne_a_b8b)
    have p32_2 := p32_2.other W49 (Ne.symm ne_b8b_b32b)
    have Fz35 := Fz35.other W49 (Or.inl ne_a_b8b)
    have p40_2 := p40_2.other W49 (Ne.symm ne_b8b_b40b)
    have Fz43 := Fz43.other W49 (Or.inl ne_a_b8b)
    have K51 := K45.wr W49 (Or.inr sz_b8b)
    have N52 := Fr.snoc X49 N46 g_b8b
    obtain ⟨T53, X53, e53, st53⟩ := getF X49 hx hZ hown (host := "") (Or.inl (W 12 rfl)) Via.refl e49 Fz11 (g := (mkF m 107 #[rv a, iv sl, iv kd, iv er, iv 16] [.ref a])) rfl rfl (hb hby d4_107)
    obtain ⟨T54, X54, e54, st54⟩ := getF X53 hx hZ hown (host := "") (Or.inl (W 29 rfl)) Via.refl e53 fw (g := (mkF m 112 #[rv a, iv sl, iv kd, iv er, iv 16] [.ref a, .int 2, .ref b8b])) rfl rfl (hb hby d4_112)
    obtain ⟨cl55, Ar55, q55, S55, Ng55, Hh55, Gg55⟩ := id V49
    obtain ⟨T55, h55, X55, e55, W55, st55⟩ := stI X54 hx hZ e54 Ar55 (j := (3 : Int32)) (inb_of S55 (by decide)) (g := (mkF m 119 #[rv a, iv sl, iv kd, iv er, iv 16] [.int kd, .int 3, .ref b8b])) rfl rfl (hb hby d4_119)
    have V55 : Arv Z h55 b8b b8kb .int (32 : Int32) [(.int s0), (.int k0), (.int sl), (.int kd), (.int (0 : Int32)), (.int (0 : Int32))] (.int (0 : Int32)) := Arv.set Ar55 q55 S55 Ng55 Hh55 Gg55 rfl W55 3 rfl (Nat.le_of_ble_eq_true rfl)
    have Ea := Ea.wr W55
    have fw := fw.other W55 (Or.inl ne_a_b8b)
    have fp := fp.other W55 (Or.inl ne_a_b8b)
    have Fz11 := Fz11.other W55 (Or.inl ne_a_b8b)
    have p16_2 := p16_2.other W55 (Ne.symm ne_b8b_b16b)
    have Fz19 := Fz19.other W55 (Or.inl ne_a_b8b)
    have p24_2 := p24_2.other W55 (Ne.symm ne_b8b_b24b)
    have p24_3 := p24_3.wr W55
    have Fz27 := Fz27.other W55 (Or.inl ne_a_b8b)
    have p32_2 := p32_2.other W55 (Ne.symm ne_b8b_b32b)
    have Fz35 := Fz35.other W55 (Or.inl ne_a_b8b)
    have p40_2 := p40_2.other W55 (Ne.symm ne_b8b_b40b)
    have Fz43 := Fz43.other W55 (Or.inl ne_a_b8b)
    have K57 := K51.wr W55 (Or.inr sz_b8b)
    have N58 := Fr.snoc X55 N52 g_b8b
    obtain ⟨T59, X59, e59, st59⟩ := getF X55 hx hZ hown (host := "") (Or.inl (W 14 rfl)) Via.refl e55 Fz19 (g := (mkF m 121 #[rv a, iv sl, iv kd, iv er, iv 16] [.ref a])) rfl rfl (hb hby d4_121)
    obtain ⟨T60, X60, e60, st60⟩ := getF X59 hx hZ hown (host := "") (Or.inl (W 29 rfl)) Via.refl e59 fw (g := (mkF m 125 #[rv a, iv sl, iv kd, iv er, iv 16] [.ref a, .ref b16b])) rfl rfl (hb hby d4_125)
    obtain ⟨cl61, Ar61, q61, S61, Ng61, Hh61, Gg61⟩ := id p16_2
    obtain ⟨T61, h61, X61, e61, W61, st61⟩ := stI X60 hx hZ e60 Ar61 (j := (1 : Int32)) (inb_of S61 (by decide)) (g := (mkF m 129 #[rv a, iv sl, iv kd, iv er, iv 16] [.int er, .int 1, .ref b16b])) rfl rfl (hb hby d4_129)
    have V61 : Arv Z h61 b16b b16kb .int (16 : Int32) [(.int t0), (.int er), (.int (0 : Int32)), (.int (0 : Int32)), (.int (0 : Int32)), (.int (0 : Int32))] (.int (0 : Int32)) := Arv.set Ar61 q61 S61 Ng61 Hh61 Gg61 rfl W61 1 rfl (Nat.le_of_ble_eq_true rfl)
    have Ea := Ea.wr W61
    have fw := fw.other W61 (Or.inl ne_a_b16b)
    have fp := fp.other W61 (Or.inl ne_a_b16b)
    have Fz11 := Fz11.other W61 (Or.inl ne_a_b16b)
    have Fz19 := Fz19.other W61 (Or.inl ne_a_b16b)
    have p24_2 := p24_2.other W61 (Ne.symm ne_b16b_b24b)
    have p24_3 := p24_3.wr W61
    have Fz27 := Fz27.other W61 (Or.inl ne_a_b16b)
    have p32_2 := p32_2.other W61 (Ne.symm ne_b16b_b32b)
    have Fz35 := Fz35.other W61 (Or.inl ne_a_b16b)
    have p40_2 := p40_2.other W61 (Ne.symm ne_b16b_b40b)
    have Fz43 := Fz43.other W61 (Or.inl ne_a_b16b)
    have V55 := V55.other W61 ne_b8b_b16b
    have K63 := K57.wr W61 (Or.inr sz_b16b)
    have N64 := Fr.snoc X61 N58 g_b16b
    obtain ⟨T65, X65, e65, st65⟩ := getF X61 hx hZ hown (host := "") (Or.inl (W 18 rfl)) Via.refl e61 Fz27 (g := (mkF m 131 #[rv a, iv sl, iv kd, iv er, iv 16] [.ref a])) rfl rfl (hb hby d4_131)
    obtain ⟨T66, X66, e66, st66⟩ := getF X65 hx hZ hown (host := "") (Or.inl (W 29 rfl)) Via.refl e65 fw (g := (mkF m 135 #[rv a, iv sl, iv kd, iv er, iv 16] [.ref a, .ref b24b])) rfl rfl (hb hby d4_135)
    obtain ⟨cl67, Ar67, q67, S67, Ng67, Hh67, Gg67⟩ := id p24_2
    obtain ⟨T67, h67, X67, e67, W67, st67⟩ := stR X66 hx hZ e66 Ar67 (j := (1 : Int32)) (inb_of S67 (by decide)) rfl (Or.inl rfl) (g := (mkF m 139 #[rv a, iv sl, iv kd, iv er, iv 16] [.null, .int 1, .ref b24b])) rfl rfl (hb hby d4_139)
    have V67 : Arv Z h67 b24b b24kb (.object "java/lang/Object") (16 : Int32) [.null, .null, .null, .null, .null, .null] .null := Arv.set Ar67 q67 S67 Ng67 Hh67 Gg67 rfl W67 1 rfl (Nat.le_of_ble_eq_true rfl)
    have Ea := Ea.wr W67
    have fw := fw.other W67 (Or.inl ne_a_b24b)
    have fp := fp.other W67 (Or.inl ne_a_b24b)
    have Fz11 := Fz11.other W67 (Or.inl ne_a_b24b)
    have Fz19 := Fz19.other W67 (Or.inl ne_a_b24b)
    have p24_3 := p24_3.wr W67
    have Fz27 := Fz27.other W67 (Or.inl ne_a_b24b)
    have p32_2 := p32_2.other W67 (Ne.symm ne_b24b_b32b)
    have Fz35 := Fz35.other W67 (Or.inl ne_a_b24b)
    have p40_2 := p40_2.other W67 (Ne.symm ne_b24b_b40b)
    have Fz43 := Fz43.other W67 (Or.inl ne_a_b24b)
    have V55 := V55.other W67 ne_b8b_b24b
    have V61 := V61.other W67 ne_b16b_b24b
    have K69 := K63.wr W67 (Or.inr sz_b24b)
    have N70 := Fr.snoc X67 N64 g_b24b
    obtain ⟨T71, X71, e71, st71⟩ := getF X67 hx hZ hown (host := "") (Or.inl (W 29 rfl)) Via.refl e67 fw (g := (mkF m 142 #[rv a, iv sl, iv kd, iv er, iv 16] [.ref a, .ref a])) rfl rfl (hb hby d4_142)
    obtain ⟨T72, h72, X72, e72, W72, st72⟩ := putF X71 hx hZ hown (host := "") (Or.inl (W 29 rfl)) Via.refl e71 fw Ea (Or.inl (W 30 rfl)) (W 1 rfl) (ty := .int) (by decide) rfl rfl (g := (mkF m 147 #[rv a, iv sl, iv kd, iv er, iv 16] [.int 2, .ref a])) rfl rfl (hb hby d4_147)
    have Fz72 := fw.same W72
    have fp := fp.other W72 (Or.inr (slot_ne (Or.inl (W 32 rfl)) (Or.inl (W 30 rfl)) (by decide) (t := .int) (t' := .int) (by decide) (by decide)))
    have Fz11 := Fz11.other W72 (Or.inr (slot_ne (Or.inl (W 13 rfl)) (Or.inl (W 30 rfl)) (by decide) (t := (.array .int)) (t' := .int) (by decide) (by decide)))
    have Fz19 := Fz19.other W72 (Or.inr (slot_ne (Or.inl (W 15 rfl)) (Or.inl (W 30 rfl)) (by decide) (t := (.array .int)) (t' := .int) (by decide) (by decide)))
    have p24_3 := p24_3.wr W72
    have Fz27 := Fz27.other W72 (Or.inr (slot_ne (Or.inl (W 19 rfl)) (Or.inl (W 30 rfl)) (by decide) (t := (.array (.object "java/lang/Object"))) (t' := .int) (by decide) (by decide)))
    have p32_2 := p32_2.other W72 (Ne.symm ne_a_b32b)
    have Fz35 := Fz35.other W72 (Or.inr (slot_ne (Or.inl (W 21 rfl)) (Or.inl (W 30 rfl)) (by decide) (t := (.array .int)) (t' := .int) (by decide) (by decide)))
    have p40_2 := p40_2.other W72 (Ne.symm ne_a_b40b)
    have Fz43 := Fz43.other W72 (Or.inr (slot_ne (Or.inl (W 23 rfl)) (Or.inl (W 30 rfl)) (by decide) (t := (.array .int)) (t' := .int) (by decide) (by decide)))
    have V55 := V55.other W72 (Ne.symm ne_a_b8b)
    have V61 := V61.other W72 (Ne.symm ne_a_b16b)
    have V67 := V67.other W72 (Ne.symm ne_a_b24b)
    have K74 := K69.wr W72 (Or.inl (List.mem_of_getElem? (i := 0) rfl))
    have N75 := Fr.snoc X72 N70 ga
    obtain ⟨T76, X76, e76, st76⟩ := getF X72 hx hZ hown (host := "") (Or.inl (W 29 rfl)) Via.refl e72 Fz72 (g := (mkF m 151 #[rv a, iv sl, iv kd, iv er, iv 16] [.ref a])) rfl rfl (hb hby d4_151)
    obtain ⟨fs, hr, hrun, hended, hW, hsame⟩ := X76.leave (v := some (.int (1 : Int32))) (fun h => by rw [Bd.returns] at h; cases h)
    refine ⟨_, _, pre4 _ ?_, hrun, hended, _, _, rfl, ?_, ⟨_, rfl⟩, hW, hsame.mono (by decide) (by decide)⟩
    · show Sq p e below m T2 9 #[rv a, iv sl, iv kd, iv er, .unset] [.int 1, .int 1] _
      refine XS.icmpNo X2.here hx rfl (hb hby d4_9) rfl (teq (rfl : (1 : Int32) = (1 : Int32))).2 ?_
      refine XS.iconst X2.here hx rfl (hb hby d4_12) ?_
      show Sq p e below m T2 13 #[rv a, iv sl, iv kd, iv er, .unset] [.int 2] _
      refine XS.aloadN X2.here hx rfl (hb hby d4_13) rfl rfl ?_
      show Sq p e below m T2 14 #[rv a, iv sl, iv kd, iv er, .unset] [.ref a, .int 2] _
      refine st5 _ ?_
      show Sq p e below m T5 17 #[rv a, iv sl, iv kd, iv er, .unset] [.int 1, .int 2] _
      refine XS.imul X5.here hx rfl (hb hby d4_17) rfl ?_
      show Sq p e below m T5 18 #[rv a, iv sl, iv kd, iv er, .unset] [.int ((2 : Int32) * (1 : Int32))] _
      rw [show ((2 : Int32) * (1 : Int32)) = (2 : Int32) from by decide]
      show Sq p e below m T5 18 #[rv a, iv sl, iv kd, iv er, .unset] [.int 2] _
      refine XS.bipush X5.here hx rfl (hb hby d4_18) ?_
      show Sq p e below m T5 20 #[rv a, iv sl, iv kd, iv er, .unset] [.int 16, .int 2] _
      refine st6 _ ?_
      show Sq p e below m T6 23 #[rv a, iv sl, iv kd, iv er, .unset] [.int 16] _
      refine XS.istore X6.here hx rfl (hb hby d4_23) rfl rfl ?_
      refine XS.aloadN X6.here hx rfl (hb hby d4_25) rfl rfl ?_
      show Sq p e below m T6 26 #[rv a, iv sl, iv kd, iv er, iv 16] [.ref a] _
      refine XS.aloadN X6.here hx rfl (hb hby d4_26) rfl rfl ?_
      show Sq p e below m T6 27 #[rv a, iv sl, iv kd, iv er, iv 16] [.ref a, .ref a] _
      refine st7 _ ?_
      show Sq p e below m T7 30 #[rv a, iv sl, iv kd, iv er, iv 16] [.ref lo, .ref a] _
      refine XS.iconst X7.here hx rfl (hb hby d4_30) ?_
      refine XS.iload X7.here hx rfl (hb hby d4_31) rfl ?_
      show Sq p e below m T7 33 #[rv a, iv sl, iv kd, iv er, iv 16] [.int 16, .int 2, .ref lo, .ref a] _
      refine XS.imul X7.here hx rfl (hb hby d4_33) rfl ?_
      show Sq p e below m T7 34 #[rv a, iv sl, iv kd, iv er, iv 16] [.int ((2 : Int32) * (16 : Int32)), .ref lo, .ref a] _
      rw [show ((2 : Int32) * (16 : Int32)) = (32 : Int32) from by decide]
      show Sq p e below m T7 34 #[rv a, iv sl, iv kd, iv er, iv 16] [.int 32, .ref lo, .ref a] _
      refine st8 _ ?_
      show Sq p e below m T8 37 #[rv a, iv sl, iv kd, iv er, iv 16] [.ref b8b, .ref a] _
      refine st11 _ ?_
      show Sq p e below m T11 40 #[rv a, iv sl, iv kd, iv er, iv 16] [] _
      refine XS.aloadN X11.here hx rfl (hb hby d4_40) rfl rfl ?_
      refine XS.aloadN X11.here hx rfl (hb hby d4_41) rfl rfl ?_
      show Sq p e below m T11 42 #[rv a, iv sl, iv kd, iv er, iv 16] [.ref a, .ref a] _
      refine st15 _ ?_
      show Sq p e below m T15 45 #[rv a, iv sl, iv kd, iv er, iv 16] [.ref ea, .ref a] _
      refine XS.iload X15.here hx rfl (hb hby d4_45) rfl ?_
      show Sq p e below m T15 47 #[rv a, iv sl, iv kd, iv er, iv 16] [.int 16, .ref ea, .ref a] _
      refine st16 _ ?_
      show Sq p e below m T16 50 #[rv a, iv sl, iv kd, iv er, iv 16] [.ref b16b, .ref a] _
      refine st19 _ ?_
      show Sq p e below m T19 53 #[rv a, iv sl, iv kd, iv er, iv 16] [] _
      refine XS.aloadN X19.here hx rfl (hb hby d4_53) rfl rfl ?_
      refine XS.aloadN X19.here hx rfl (hb hby d4_54) rfl rfl ?_
      show Sq p e below m T19 55 #[rv a, iv sl, iv kd, iv er, iv 16] [.ref a, .ref a] _
      refine st23 _ ?_
      show Sq p e below m T23 58 #[rv a, iv sl, iv kd, iv er, iv 16] [.ref ma, .ref a] _
      refine XS.iload X23.here hx rfl (hb hby d4_58) rfl ?_
      show Sq p e below m T23 60 #[rv a, iv sl, iv kd, iv er, iv 16] [.int 16, .ref ma, .ref a] _
      refine st24 _ ?_
      show Sq p e below m T24 63 #[rv a, iv sl, iv kd, iv er, iv 16] [.ref b24b, .ref a] _
      refine st27 _ ?_
      show Sq p e below m T27 66 #[rv a, iv sl, iv kd, iv er, iv 16] [] _
      refine XS.aloadN X27.here hx rfl (hb hby d4_66) rfl rfl ?_
      refine XS.aloadN X27.here hx rfl (hb hby d4_67) rfl rfl ?_
      show Sq p e below m T27 68 #[rv a, iv sl, iv kd, iv er, iv 16] [.ref a, .ref a] _
      refine st31 _ ?_
      show Sq p e below m T31 71 #[rv a, iv sl, iv kd, iv er, iv 16] [.ref un, .ref a] _
      refine XS.iload X31.here hx rfl (hb hby d4_71) rfl ?_
      show Sq p e below m T31 73 #[rv a, iv sl, iv kd, iv er, iv 16] [.int 16, .ref un, .ref a] _
      refine st32 _ ?_
      show Sq p e below m T32 76 #[rv a, iv sl, iv kd, iv er, iv 16] [.ref b32b, .ref a] _
      refine st35 _ ?_
      show Sq p e below m T35 79 #[rv a, iv sl, iv kd, iv er, iv 16] [] _
      refine XS.aloadN X35.here hx rfl (hb hby d4_79) rfl rfl ?_
      refine XS.aloadN X35.here hx rfl (hb hby d4_80) rfl rfl ?_
      show Sq p e below m T35 81 #[rv a, iv sl, iv kd, iv er, iv 16] [.ref a, .ref a] _
      refine st39 _ ?_
      show Sq p e below m T39 84 #[rv a, iv sl, iv kd, iv er, iv 16] [.ref li, .ref a] _
      refine XS.iconst X39.here hx rfl (hb hby d4_84) ?_
      refine XS.iload X39.here hx rfl (hb hby d4_85) rfl ?_
      show Sq p e below m T39 87 #[rv a, iv sl, iv kd, iv er, iv 16] [.int 16, .int 2, .ref li, .ref a] _
      refine XS.imul X39.here hx rfl (hb hby d4_87) rfl ?_
      show Sq p e below m T39 88 #[rv a, iv sl, iv kd, iv er, iv 16] [.int ((2 : Int32) * (16 : Int32)), .ref li, .ref a] _
      rw [show ((2 : Int32) * (16 : Int32)) = (32 : Int32) from by decide]
      show Sq p e below m T39 88 #[rv a, iv sl, iv kd, iv er, iv 16] [.int 32, .ref li, .ref a] _
      refine st40 _ ?_
      show Sq p e below m T40 91 #[rv a, iv sl, iv kd, iv er, iv 16] [.ref b40b, .ref a] _
      refine st43 _ ?_
      show Sq p e below m T43 94 #[rv a, iv sl, iv kd, iv er, iv 16] [] _
      refine XS.aloadN X43.here hx rfl (hb hby d4_94) rfl rfl ?_
      show Sq p e below m T43 95 #[rv a, iv sl, iv kd, iv er, iv 16] [.ref a] _
      refine st47 _ ?_
      show Sq p e below m T47 98 #[rv a, iv sl, iv kd, iv er, iv 16] [.ref b8b] _
      refine XS.iconst X47.here hx rfl (hb hby d4_98) ?_
      refine XS.aloadN X47.here hx rfl (hb hby d4_99) rfl rfl ?_
      show Sq p e below m T47 100 #[rv a, iv sl, iv kd, iv er, iv 16] [.ref a, .int 2, .ref b8b] _
      refine st48 _ ?_
      show Sq p e below m T48 103 #[rv a, iv sl, iv kd, iv er, iv 16] [.int 1, .int 2, .ref b8b] _
      refine XS.imul X48.here hx rfl (hb hby d4_103) rfl ?_
      show Sq p e below m T48 104 #[rv a, iv sl, iv kd, iv er, iv 16] [.int ((2 : Int32) * (1 : Int32)), .ref b8b] _
      rw [show ((2 : Int32) * (1 : Int32)) = (2 : Int32) from by decide]
      show Sq p e below m T48 104 #[rv a, iv sl, iv kd, iv er, iv 16] [.int 2, .ref b8b] _
      refine XS.iloadN X48.here hx rfl (hb hby d4_104) rfl ?_
      show Sq p e below m T48 105 #[rv a, iv sl, iv kd, iv er, iv 16] [.int sl, .int 2, .ref b8b] _
      refine st49 _ ?_
      show Sq p e below m T49 106 #[rv a, iv sl, iv kd, iv er, iv 16] [] _
      refine XS.aloadN X49.here hx rfl (hb hby d4_106) rfl rfl ?_
      show Sq p e below m T49 107 #[rv a, iv sl, iv kd, iv er, iv 16] [.ref a] _
      refine st53 _ ?_
      show Sq p e below m T53 110 #[rv a, iv sl, iv kd, iv er, iv 16] [.ref b8b] _
      refine XS.iconst X53.here hx rfl (hb hby d4_110) ?_
      refine XS.aloadN X53.here hx rfl (hb hby d4_111) rfl rfl ?_
      show Sq p e below m T53 112 #[rv a, iv sl, iv kd, iv er, iv 16] [.ref a, .int 2, .ref b8b] _
      refine st54 _ ?_
      show Sq p e below m T54 115 #[rv a, iv sl, iv kd, iv er, iv 16] [.int 1, .int 2, .ref b8b] _
      refine XS.imul X54.here hx rfl (hb hby d4_115) rfl ?_
      show Sq p e below m T54 116 #[rv a, iv sl, iv kd, iv er, iv 16] [.int ((2 : Int32) * (1 : Int32)), .ref b8b] _
      rw [show ((2 : Int32) * (1 : Int32)) = (2 : Int32) from by decide]
      show Sq p e below m T54 116 #[rv a, iv sl, iv kd, iv er, iv 16] [.int 2, .ref b8b] _
      refine XS.iconst X54.here hx rfl (hb hby d4_116) ?_
      refine XS.iadd X54.here hx rfl (hb hby d4_117) rfl ?_
      show Sq p e below m T54 118 #[rv a, iv sl, iv kd, iv er, iv 16] [.int ((2 : Int32) + (1 : Int32)), .ref b8b] _
      rw [show ((2 : Int32) + (1 : Int32)) = (3 : Int32) from by decide]
      show Sq p e below m T54 118 #[rv a, iv sl, iv kd, iv er, iv 16] [.int 3, .ref b8b] _
      refine XS.iloadN X54.here hx rfl (hb hby d4_118) rfl ?_
      show Sq p e below m T54 119 #[rv a, iv sl, iv kd, iv er, iv 16] [.int kd, .int 3, .ref b8b] _
      refine st55 _ ?_
      show Sq p e below m T55 120 #[rv a, iv sl, iv kd, iv er, iv 16] [] _
      refine XS.aloadN X55.here hx rfl (hb hby d4_120) rfl rfl ?_
      show Sq p e below m T55 121 #[rv a, iv sl, iv kd, iv er, iv 16] [.ref a] _
      refine st59 _ ?_
      show Sq p e below m T59 124 #[rv a, iv sl, iv kd, iv er, iv 16] [.ref b16b] _
      refine XS.aloadN X59.here hx rfl (hb hby d4_124) rfl rfl ?_
      show Sq p e below m T59 125 #[rv a, iv sl, iv kd, iv er, iv 16] [.ref a, .ref b16b] _
      refine st60 _ ?_
      show Sq p e below m T60 128 #[rv a, iv sl, iv kd, iv er, iv 16] [.int 1, .ref b16b] _
      refine XS.iloadN X60.here hx rfl (hb hby d4_128) rfl ?_
      show Sq p e below m T60 129 #[rv a, iv sl, iv kd, iv er, iv 16] [.int er, .int 1, .ref b16b] _
      refine st61 _ ?_
      show Sq p e below m T61 130 #[rv a, iv sl, iv kd, iv er, iv 16] [] _
      refine XS.aloadN X61.here hx rfl (hb hby d4_130) rfl rfl ?_
      show Sq p e below m T61 131 #[rv a, iv sl, iv kd, iv er, iv 16] [.ref a] _
      refine st65 _ ?_
      show Sq p e below m T65 134 #[rv a, iv sl, iv kd, iv er, iv 16] [.ref b24b] _
      refine XS.aloadN X65.here hx rfl (hb hby d4_134) rfl rfl ?_
      show Sq p e below m T65 135 #[rv a, iv sl, iv kd, iv er, iv 16] [.ref a, .ref b24b] _
      refine st66 _ ?_
      show Sq p e below m T66 138 #[rv a, iv sl, iv kd, iv er, iv 16] [.int 1, .ref b24b] _
      refine XS.aconstNull X66.here hx rfl (hb hby d4_138) ?_
      show Sq p e below m T66 139 #[rv a, iv sl, iv kd, iv er, iv 16] [.null, .int 1, .ref b24b] _
      refine st67 _ ?_
      show Sq p e below m T67 140 #[rv a, iv sl, iv kd, iv er, iv 16] [] _
      refine XS.aloadN X67.here hx rfl (hb hby d4_140) rfl rfl ?_
      refine XS.dup X67.here hx rfl (hb hby d4_141) rfl rfl ?_
      show Sq p e below m T67 142 #[rv a, iv sl, iv kd, iv er, iv 16] [.ref a, .ref a] _
      refine st71 _ ?_
      show Sq p e below m T71 145 #[rv a, iv sl, iv kd, iv er, iv 16] [.int 1, .ref a] _
      refine XS.iconst X71.here hx rfl (hb hby d4_145) ?_
      refine XS.iadd X71.here hx rfl (hb hby d4_146) rfl ?_
      show Sq p e below m T71 147 #[rv a, iv sl, iv kd, iv er, iv 16] [.int ((1 : Int32) + (1 : Int32)), .ref a] _
      rw [show ((1 : Int32) + (1 : Int32)) = (2 : Int32) from by decide]
      show Sq p e below m T71 147 #[rv a, iv sl, iv kd, iv er, iv 16] [.int 2, .ref a] _
      refine st72 _ ?_
      show Sq p e below m T72 150 #[rv a, iv sl, iv kd, iv er, iv 16] [] _
      refine XS.aloadN X72.here hx rfl (hb hby d4_150) rfl rfl ?_
      show Sq p e below m T72 151 #[rv a, iv sl, iv kd, iv er, iv 16] [.ref a] _
      refine st76 _ ?_
      show Sq p e below m T76 154 #[rv a, iv sl, iv kd, iv er, iv 16] [.int 2] _
      refine XS.iconst X76.here hx rfl (hb hby d4_154) ?_
      refine XS.isub X76.here hx rfl (hb hby d4_155) rfl ?_
      show Sq p e below m T76 156 #[rv a, iv sl, iv kd, iv er, iv 16] [.int ((2 : Int32) - (1 : Int32))] _
      rw [show ((2 : Int32) - (1 : Int32)) = (1 : Int32) from by decide]
      show Sq p e below m T76 156 #[rv a, iv sl, iv kd, iv er, iv 16] [.int 1] _
      exact retI X76 hx Bd.returns (hb hby d4_156) hr
    · show Q_write1 Z a sl kd er (1 : Int32) ps w_MIR lo ea ma un li kl ke km ku ki s0 k0 t0 h0 n0 _ T76.heap _
      rw [e76]
      exact ⟨b8b, b16b, b24b, b32b, b40b, b8kb, b16kb, b24kb, b32kb, b40kb, (16 : Int32), rfl, N75, K74, Fz11, Fz19, Fz27, Fz35, Fz43, Fz72, fp, V55, V61, V67, p32_2, p40_2, p24_3, g_b8b, g_b16b, g_b24b, g_b32b, g_b40b, ne_b8b_b16b, ne_b8b_b24b, ne_b8b_b32b, ne_b8b_b40b, ne_b16b_b24b, ne_b16b_b32b, ne_b16b_b40b, ne_b24b_b32b, ne_b24b_b40b, ne_b32b_b40b, ne_a_b8b, ne_a_b16b, ne_a_b24b, ne_a_b32b, ne_a_b40b, (by decide)⟩
  · obtain ⟨T5, X5, e5, st5⟩ := getF X2 hx hZ hown (host := "") (Or.inl (W 12 rfl)) Via.refl e2 f0 (g := (mkF m 95 #[rv a, iv sl, iv kd, iv er, .unset] [.ref a])) rfl rfl (hb hby d4_95)
    obtain ⟨T6, X6, e6, st6⟩ := getF X5 hx hZ hown (host := "") (Or.inl (W 29 rfl)) Via.refl e5 fw (g := (mkF m 100 #[rv a, iv sl, iv kd, iv er, .unset] [.ref a, .int 2, .ref lo])) rfl rfl (hb hby d4_100)
    obtain ⟨cl7, Ar7, q7, S7, Ng7, Hh7, Gg7⟩ := id v0
    obtain ⟨T7, h7, X7, e7, W7, st7⟩ := stI X6 hx hZ e6 Ar7 (j := (2 : Int32)) (inb_of S7 (own_i2 hlt hn (by decide) (by decide) (by decide))) (g := (mkF m 105 #[rv a, iv sl, iv kd, iv er, .unset] [.int sl, .int 2, .ref lo])) rfl rfl (hb hby d4_105)
    have V7 : Arv Z h7 lo kl .int ((2 : Int32) * n) [(.int s0), (.int k0), (.int sl), (.int (0 : Int32)), (.int (0 : Int32)), (.int (0 : Int32))] (.int (0 : Int32)) := Arv.set Ar7 q7 S7 Ng7 Hh7 Gg7 rfl W7 2 rfl (Nat.le_of_ble_eq_true rfl)
    have Ea := Ea.wr W7
    have Em := Em.wr W7
    have f0 := f0.other W7 (Or.inl na0)
    have f1 := f1.other W7 (Or.inl na0)
    have f2 := f2.other W7 (Or.inl na0)
    have f3 := f3.other W7 (Or.inl na0)
    have f4 := f4.other W7 (Or.inl na0)
    have fw := fw.other W7 (Or.inl na0)
    have fp := fp.other W7 (Or.inl na0)
    have v1 := v1.other W7 (Ne.symm ne0)
    have v2 := v2.other W7 (Ne.symm ne1)
    have v3 := v3.other W7 (Ne.symm ne2)
    have v4 := v4.other W7 (Ne.symm ne3)
    have K9 := K0.wr W7 (Or.inl (List.mem_of_getElem? (i := 1) rfl))
    have N10 := Fr.snoc X7 N0 g0
    obtain ⟨T11, X11, e11, st11⟩ := getF X7 hx hZ hown (host := "") (Or.inl (W 12 rfl)) Via.refl e7 f0 (g := (mkF m 107 #[rv a, iv sl, iv kd, iv er, .unset] [.ref a])) rfl rfl (hb hby d4_107)
    obtain ⟨T12, X12, e12, st12⟩ := getF X11 hx hZ hown (host := "") (Or.inl (W 29 rfl)) Via.refl e11 fw (g := (mkF m 112 #[rv a, iv sl, iv kd, iv er, .unset] [.ref a, .int 2, .ref lo])) rfl rfl (hb hby d4_112)
    obtain ⟨cl13, Ar13, q13, S13, Ng13, Hh13, Gg13⟩ := id V7
    obtain ⟨T13, h13, X13, e13, W13, st13⟩ := stI X12 hx hZ e12 Ar13 (j := (3 : Int32)) (inb_of S13 (own_i2 hlt hn (by decide) (by decide) (by decide))) (g := (mkF m 119 #[rv a, iv sl, iv kd, iv er, .unset] [.int kd, .int 3, .ref lo])) rfl rfl (hb hby d4_119)
    have V13 : Arv Z h13 lo kl .int ((2 : Int32) * n) [(.int s0), (.int k0), (.int sl), (.int kd), (.int (0 : Int32)), (.int (0 : Int32))] (.int (0 : Int32)) := Arv.set Ar13 q13 S13 Ng13 Hh13 Gg13 rfl W13 3 rfl (Nat.le_of_ble_eq_true rfl)
    have Ea := Ea.wr W13
    have Em := Em.wr W13
    have f0 := f0.other W13 (Or.inl na0)
    have f1 := f1.other W13 (Or.inl na0)
    have f2 := f2.other W13 (Or.inl na0)
    have f3 := f3.other W13 (Or.inl na0)
    have f4 := f4.other W13 (Or.inl na0)
    have fw := fw.other W13 (Or.inl na0)
    have fp := fp.other W13 (Or.inl na0)
    have v1 := v1.other W13 (Ne.symm ne0)
    have v2 := v2.other W13 (Ne.symm ne1)
    have v3 := v3.other W13 (Ne.symm ne2)
    have v4 := v4.other W13 (Ne.symm ne3)
    have K15 := K9.wr W13 (Or.inl (List.mem_of_getElem? (i := 1) rfl))
    have N16 := Fr.snoc X13 N10 g0
    obtain ⟨T17, X17, e17, st17⟩ := getF X13 hx hZ hown (host := "") (Or.inl (W 14 rfl)) Via.refl e13 f1 (g := (mkF m 121 #[rv a, iv sl, iv kd, iv er, .unset] [.ref a])) rfl rfl (hb hby d4_121)
    obtain ⟨T18, X18, e18, st18⟩ := getF X17 hx hZ hown (host := "") (Or.inl (W 29 rfl)) Via.refl e17 fw (g := (mkF m 125 #[rv a, iv sl, iv kd, iv er, .unset] [.ref a, .ref ea])) rfl rfl (hb hby d4_125)
    obtain ⟨cl19, Ar19, q19, S19, Ng19, Hh19, Gg19⟩ := id v1
    obtain ⟨T19, h19, X19, e19, W19, st19⟩ := stI X18 hx hZ e18 Ar19 (j := (1 : Int32)) (inb_of S19 ⟨by decide, hlt⟩) (g := (mkF m 129 #[rv a, iv sl, iv kd, iv er, .unset] [.int er, .int 1, .ref ea])) rfl rfl (hb hby d4_129)
    have V19 : Arv Z h19 ea ke .int n [(.int t0), (.int er), (.int (0 : Int32)), (.int (0 : Int32)), (.int (0 : Int32)), (.int (0 : Int32))] (.int (0 : Int32)) := Arv.set Ar19 q19 S19 Ng19 Hh19 Gg19 rfl W19 1 rfl (Nat.le_of_ble_eq_true rfl)
    have Ea := Ea.wr W19
    have Em := Em.wr W19
    have f0 := f0.other W19 (Or.inl na1)
    have f1 := f1.other W19 (Or.inl na1)
    have f2 := f2.other W19 (Or.inl na1)
    have f3 := f3.other W19 (Or.inl na1)
    have f4 := f4.other W19 (Or.inl na1)
    have fw := fw.other W19 (Or.inl na1)
    have fp := fp.other W19 (Or.inl na1)
    have v2 := v2.other W19 (Ne.symm ne4)
    have v3 := v3.other W19 (Ne.symm ne5)
    have v4 := v4.other W19 (Ne.symm ne6)
    have V13 := V13.other W19 ne0
    have K21 := K15.wr W19 (Or.inl (List.mem_of_getElem? (i := 2) rfl))
    have N22 := Fr.snoc X19 N16 g1
    obtain ⟨T23, X23, e23, st23⟩ := getF X19 hx hZ hown (host := "") (Or.inl (W 18 rfl)) Via.refl e19 f2 (g := (mkF m 131 #[rv a, iv sl, iv kd, iv er, .unset] [.ref a])) rfl rfl (hb hby d4_131)
    obtain ⟨T24, X24, e24, st24⟩ := getF X23 hx hZ hown (host := "") (Or.inl (W 29 rfl)) Via.refl e23 fw (g := (mkF m 135 #[rv a, iv sl, iv kd, iv er, .unset] [.ref a, .ref ma])) rfl rfl (hb hby d4_135)
    obtain ⟨cl25, Ar25, q25, S25, Ng25, Hh25, Gg25⟩ := id v2
    obtain ⟨T25, h25, X25, e25, W25, st25⟩ := stR X24 hx hZ e24 Ar25 (j := (1 : Int32)) (inb_of S25 ⟨by decide, hlt⟩) rfl (Or.inl rfl) (g := (mkF m 139 #[rv a, iv sl, iv kd, iv er, .unset] [.null, .int 1, .ref ma])) rfl rfl (hb hby d4_139)
    have V25 : Arv Z h25 ma km (.object "java/lang/Object") n [.null, .null, .null, .null, .null, .null] .null := Arv.set Ar25 q25 S25 Ng25 Hh25 Gg25 rfl W25 1 rfl (Nat.le_of_ble_eq_true rfl)
    have Ea := Ea.wr W25
    have Em := Em.wr W25
    have f0 := f0.other W25 (Or.inl na2)
    have f1 := f1.other W25 (Or.inl na2)
    have f2 := f2.other W25 (Or.inl na2)
    have f3 := f3.other W25 (Or.inl na2)
    have f4 := f4.other W25 (Or.inl na2)
    have fw := fw.other W25 (Or.inl na2)
    have fp := fp.other W25 (Or.inl na2)
    have v3 := v3.other W25 (Ne.symm ne7)
    have v4 := v4.other W25 (Ne.symm ne8)
    have V13 := V13.other W25 ne1
    have V19 := V19.other W25 ne4
    have K27 := K21.wr W25 (Or.inl (List.mem_of_getElem? (i := 3) rfl))
    have N28 := Fr.snoc X25 N22 g2
    obtain ⟨T29, X29, e29, st29⟩ := getF X25 hx hZ hown (host := "") (Or.inl (W 29 rfl)) Via.refl e25 fw (g := (mkF m 142 #[rv a, iv sl, iv kd, iv er, .unset] [.ref a, .ref a])) rfl rfl (hb hby d4_142)
    obtain ⟨T30, h30, X30, e30, W30, st30⟩ := putF X29 hx hZ hown (host := "") (Or.inl (W 29 rfl)) Via.refl e29 fw Ea (Or.inl (W 30 rfl)) (W 1 rfl) (ty := .int) (by decide) rfl rfl (g := (mkF m 147 #[rv a, iv sl, iv kd, iv er, .unset] [.int 2, .ref a])) rfl rfl (hb hby d4_147)
    have Fz30 := fw.same W30
    have Em := Em.wr W30
    have f0 := f0.other W30 (Or.inr (slot_ne (Or.inl (W 13 rfl)) (Or.inl (W 30 rfl)) (by decide) (t := (.array .int)) (t' := .int) (by decide) (by decide)))
    have f1 := f1.other W30 (Or.inr (slot_ne (Or.inl (W 15 rfl)) (Or.inl (W 30 rfl)) (by decide) (t := (.array .int)) (t' := .int) (by decide) (by decide)))
    have f2 := f2.other W30 (Or.inr (slot_ne (Or.inl (W 19 rfl)) (Or.inl (W 30 rfl)) (by decide) (t := (.array (.object "java/lang/Object"))) (t' := .int) (by decide) (by decide)))
    have f3 := f3.other W30 (Or.inr (slot_ne (Or.inl (W 21 rfl)) (Or.inl (W 30 rfl)) (by decide) (t := (.array .int)) (t' := .int) (by decide) (by decide)))
    have f4 := f4.other W30 (Or.inr (slot_ne (Or.inl (W 23 rfl)) (Or.inl (W 30 rfl)) (by decide) (t := (.array .int)) (t' := .int) (by decide) (by decide)))
    have fp := fp.other W30 (Or.inr (slot_ne (Or.inl (W 32 rfl)) (Or.inl (W 30 rfl)) (by decide) (t := .int) (t' := .int) (by decide) (by decide)))
    have v3 := v3.other W30 (Ne.symm na3)
    have v4 := v4.other W30 (Ne.symm na4)
    have V13 := V13.other W30 (Ne.symm na0)
    have V19 := V19.other W30 (Ne.symm na1)
    have V25 := V25.other W30 (Ne.symm na2)
    have K32 := K27.wr W30 (Or.inl (List.mem_of_getElem? (i := 0) rfl))
    have N33 := Fr.snoc X30 N28 ga
    obtain ⟨T34, X34, e34, st34⟩ := getF X30 hx hZ hown (host := "") (Or.inl (W 29 rfl)) Via.refl e30 Fz30 (g := (mkF m 151 #[rv a, iv sl, iv kd, iv er, .unset] [.ref a])) rfl rfl (hb hby d4_151)
    obtain ⟨fs, hr, hrun, hended, hW, hsame⟩ := X34.leave (v := some (.int (1 : Int32))) (fun h => by rw [Bd.returns] at h; cases h)
    refine ⟨_, _, pre4 _ ?_, hrun, hended, _, _, rfl, ?_, ⟨_, rfl⟩, hW, hsame.mono (by decide) (by decide)⟩
    · show Sq p e below m T2 9 #[rv a, iv sl, iv kd, iv er, .unset] [.int n, .int 1] _
      refine XS.icmpYes X2.here hx rfl (pc0 := 9) (pc' := 94) rfl (hb hby d4_9) rfl (feq (own_neq hlt : ¬ ((1 : Int32) = n))).2 (by decide) (by decide) ?_
      refine XS.aloadN X2.here hx rfl (hb hby d4_94) rfl rfl ?_
      show Sq p e below m T2 95 #[rv a, iv sl, iv kd, iv er, .unset] [.ref a] _
      refine st5 _ ?_
      show Sq p e below m T5 98 #[rv a, iv sl, iv kd, iv er, .unset] [.ref lo] _
      refine XS.iconst X5.here hx rfl (hb hby d4_98) ?_
      refine XS.aloadN X5.here hx rfl (hb hby d4_99) rfl rfl ?_
      show Sq p e below m T5 100 #[rv a, iv sl, iv kd, iv er, .unset] [.ref a, .int 2, .ref lo] _
      refine st6 _ ?_
      show Sq p e below m T6 103 #[rv a, iv sl, iv kd, iv er, .unset] [.int 1, .int 2, .ref lo] _
      refine XS.imul X6.here hx rfl (hb hby d4_103) rfl ?_
      show Sq p e below m T6 104 #[rv a, iv sl, iv kd, iv er, .unset] [.int ((2 : Int32) * (1 : Int32)), .ref lo] _
      rw [show ((2 : Int32) * (1 : Int32)) = (2 : Int32) from by decide]
      show Sq p e below m T6 104 #[rv a, iv sl, iv kd, iv er, .unset] [.int 2, .ref lo] _
      refine XS.iloadN X6.here hx rfl (hb hby d4_104) rfl ?_
      show Sq p e below m T6 105 #[rv a, iv sl, iv kd, iv er, .unset] [.int sl, .int 2, .ref lo] _
      refine st7 _ ?_
      show Sq p e below m T7 106 #[rv a, iv sl, iv kd, iv er, .unset] [] _
      refine XS.aloadN X7.here hx rfl (hb hby d4_106) rfl rfl ?_
      show Sq p e below m T7 107 #[rv a, iv sl, iv kd, iv er, .unset] [.ref a] _
      refine st11 _ ?_
      show Sq p e below m T11 110 #[rv a, iv sl, iv kd, iv er, .unset] [.ref lo] _
      refine XS.iconst X11.here hx rfl (hb hby d4_110) ?_
      refine XS.aloadN X11.here hx rfl (hb hby d4_111) rfl rfl ?_
      show Sq p e below m T11 112 #[rv a, iv sl, iv kd, iv er, .unset] [.ref a, .int 2, .ref lo] _
      refine st12 _ ?_
      show Sq p e below m T12 115 #[rv a, iv sl, iv kd, iv er, .unset] [.int 1, .int 2, .ref lo] _
      refine XS.imul X12.here hx rfl (hb hby d4_115) rfl ?_
      show Sq p e below m T12 116 #[rv a, iv sl, iv kd, iv er, .unset] [.int ((2 : Int32) * (1 : Int32)), .ref lo] _
      rw [show ((2 : Int32) * (1 : Int32)) = (2 : Int32) from by decide]
      show Sq p e below m T12 116 #[rv a, iv sl, iv kd, iv er, .unset] [.int 2, .ref lo] _
      refine XS.iconst X12.here hx rfl (hb hby d4_116) ?_
      refine XS.iadd X12.here hx rfl (hb hby d4_117) rfl ?_
      show Sq p e below m T12 118 #[rv a, iv sl, iv kd, iv er, .unset] [.int ((2 : Int32) + (1 : Int32)), .ref lo] _
      rw [show ((2 : Int32) + (1 : Int32)) = (3 : Int32) from by decide]
      show Sq p e below m T12 118 #[rv a, iv sl, iv kd, iv er, .unset] [.int 3, .ref lo] _
      refine XS.iloadN X12.here hx rfl (hb hby d4_118) rfl ?_
      show Sq p e below m T12 119 #[rv a, iv sl, iv kd, iv er, .unset] [.int kd, .int 3, .ref lo] _
      refine st13 _ ?_
      show Sq p e below m T13 120 #[rv a, iv sl, iv kd, iv er, .unset] [] _
      refine XS.aloadN X13.here hx rfl (hb hby d4_120) rfl rfl ?_
      show Sq p e below m T13 121 #[rv a, iv sl, iv kd, iv er, .unset] [.ref a] _
      refine st17 _ ?_
      show Sq p e below m T17 124 #[rv a, iv sl, iv kd, iv er, .unset] [.ref ea] _
      refine XS.aloadN X17.here hx rfl (hb hby d4_124) rfl rfl ?_
      show Sq p e below m T17 125 #[rv a, iv sl, iv kd, iv er, .unset] [.ref a, .ref ea] _
      refine st18 _ ?_
      show Sq p e below m T18 128 #[rv a, iv sl, iv kd, iv er, .unset] [.int 1, .ref ea] _
      refine XS.iloadN X18.here hx rfl (hb hby d4_128) rfl ?_
      show Sq p e below m T18 129 #[rv a, iv sl, iv kd, iv er, .unset] [.int er, .int 1, .ref ea] _
      refine st19 _ ?_
      show Sq p e below m T19 130 #[rv a, iv sl, iv kd, iv er, .unset] [] _
      refine XS.aloadN X19.here hx rfl (hb hby d4_130) rfl rfl ?_
      show Sq p e below m T19 131 #[rv a, iv sl, iv kd, iv er, .unset] [.ref a] _
      refine st23 _ ?_
      show Sq p e below m T23 134 #[rv a, iv sl, iv kd, iv er, .unset] [.ref ma] _
      refine XS.aloadN X23.here hx rfl (hb hby d4_134) rfl rfl ?_
      show Sq p e below m T23 135 #[rv a, iv sl, iv kd, iv er, .unset] [.ref a, .ref ma] _
      refine st24 _ ?_
      show Sq p e below m T24 138 #[rv a, iv sl, iv kd, iv er, .unset] [.int 1, .ref ma] _
      refine XS.aconstNull X24.here hx rfl (hb hby d4_138) ?_
      show Sq p e below m T24 139 #[rv a, iv sl, iv kd, iv er, .unset] [.null, .int 1, .ref ma] _
      refine st25 _ ?_
      show Sq p e below m T25 140 #[rv a, iv sl, iv kd, iv er, .unset] [] _
      refine XS.aloadN X25.here hx rfl (hb hby d4_140) rfl rfl ?_
      refine XS.dup X25.here hx rfl (hb hby d4_141) rfl rfl ?_
      show Sq p e below m T25 142 #[rv a, iv sl, iv kd, iv er, .unset] [.ref a, .ref a] _
      refine st29 _ ?_
      show Sq p e below m T29 145 #[rv a, iv sl, iv kd, iv er, .unset] [.int 1, .ref a] _
      refine XS.iconst X29.here hx rfl (hb hby d4_145) ?_
      refine XS.iadd X29.here hx rfl (hb hby d4_146) rfl ?_
      show Sq p e below m T29 147 #[rv a, iv sl, iv kd, iv er, .unset] [.int ((1 : Int32) + (1 : Int32)), .ref a] _
      rw [show ((1 : Int32) + (1 : Int32)) = (2 : Int32) from by decide]
      show Sq p e below m T29 147 #[rv a, iv sl, iv kd, iv er, .unset] [.int 2, .ref a] _
      refine st30 _ ?_
      show Sq p e below m T30 150 #[rv a, iv sl, iv kd, iv er, .unset] [] _
      refine XS.aloadN X30.here hx rfl (hb hby d4_150) rfl rfl ?_
      show Sq p e below m T30 151 #[rv a, iv sl, iv kd, iv er, .unset] [.ref a] _
      refine st34 _ ?_
      show Sq p e below m T34 154 #[rv a, iv sl, iv kd, iv er, .unset] [.int 2] _
      refine XS.iconst X34.here hx rfl (hb hby d4_154) ?_
      refine XS.isub X34.here hx rfl (hb hby d4_155) rfl ?_
      show Sq p e below m T34 156 #[rv a, iv sl, iv kd, iv er, .unset] [.int ((2 : Int32) - (1 : Int32))] _
      rw [show ((2 : Int32) - (1 : Int32)) = (1 : Int32) from by decide]
      show Sq p e below m T34 156 #[rv a, iv sl, iv kd, iv er, .unset] [.int 1] _
      exact retI X34 hx Bd.returns (hb hby d4_156) hr
    · show Q_write1 Z a sl kd er n ps w_MIR lo ea ma un li kl ke km ku ki s0 k0 t0 h0 n0 _ T34.heap _
      rw [e34]
      exact ⟨lo, ea, ma, un, li, kl, ke, km, ku, ki, n, rfl, N33, K32, f0, f1, f2, f3, f4, Fz30, fp, V13, V19, V25, v3, v4, Em, g0, g1, g2, g3, g4, ne0, ne1, ne2, ne3, ne4, ne5, ne6, ne7, ne8, ne9, na0, na1, na2, na3, na4, (own_nx hlt hn (by decide))⟩
def Q_write2 (Z : State) (a : Addr) (sl : Int32) (kd : Int32) (er : Int32) (n : Int32) (ps : Int32) (w_MIR : Addr) (lo : Addr) (ea : Addr) (ma : Addr) (un : Addr) (li : Addr) (kl : ClassId) (ke : ClassId) (km : ClassId) (ku : ClassId) (ki : ClassId) (s0 : Int32) (k0 : Int32) (s1 : Int32) (k1 : Int32) (t0 : Int32) (t1 : Int32) (h0 : Heap) (n0 : Nat) (v : Option Value) (h : Heap) (L : List Loc) : Prop := ∃ lo' : Addr, ∃ ea' : Addr, ∃ ma' : Addr, ∃ un' : Addr, ∃ li' : Addr, ∃ kl' : ClassId, ∃ ke' : ClassId, ∃ km' : ClassId, ∃ ku' : ClassId, ∃ ki' : ClassId, ∃ n' : Int32, v = some (.int (2 : Int32)) ∧ Fr n0 L ∧ Keep h0 h [a, lo, ea, ma] ∧ Fld Z h a "com/example/dodder/dodder/engine/PathWrites" "logged" "[I" (.ref lo') ∧ Fld Z h a "com/example/dodder/dodder/engine/PathWrites" "earlierWrites" "[I" (.ref ea') ∧ Fld Z h a "com/example/dodder/dodder/engine/PathWrites" "madeAfter" "[Ljava/lang/Object;" (.ref ma') ∧ Fld Z h a "com/example/dodder/dodder/engine/PathWrites" "unmade" "[I" (.ref un') ∧ Fld Z h a "com/example/dodder/dodder/engine/PathWrites" "listed" "[I" (.ref li') ∧ Fld Z h a "com/example/dodder/dodder/engine/PathWrites" "writes" "I" (.int (3 : Int32)) ∧ Fld Z h a "com/example/dodder/dodder/engine/PathWrites" "position" "I" (.int ps) ∧ Arv Z h lo' kl' .int ((2 : Int32) * n') [(.int s0), (.int k0), (.int s1), (.int k1), (.int sl), (.int kd)] (.int (0 : Int32)) ∧ Arv Z h ea' ke' .int n' [(.int t0), (.int t1), (.int er), (.int (0 : Int32)), (.int (0 : Int32)), (.int (0 : Int32))] (.int (0 : Int32)) ∧ Arv Z h ma' km' (.object "java/lang/Object") n' [.null, .null, .null, .null, .null, .null] .null ∧ Arv Z h un' ku' .int n' [(.int (0 : Int32)), (.int (0 : Int32)), (.int (0 : Int32)), (.int (0 : Int32)), (.int (0 : Int32)), (.int (0 : Int32))] (.int (0 : Int32)) ∧ Arv Z h li' ki' .int ((2 : Int32) * n') [(.int (0 : Int32)), (.int (0 : Int32)), (.int (0 : Int32)), (.int (0 : Int32)), (.int (0 : Int32)), (.int (0 : Int32))] (.int (0 : Int32)) ∧ Exa Z h ma' "[Ljava/lang/Object;" ∧ n0 ≤ lo' ∧ n0 ≤ ea' ∧ n0 ≤ ma' ∧ n0 ≤ un' ∧ n0 ≤ li' ∧ lo' ≠ ea' ∧ lo' ≠ ma' ∧ lo' ≠ un' ∧ lo' ≠ li' ∧ ea' ≠ ma' ∧ ea' ≠ un' ∧ ea' ≠ li' ∧ ma' ≠ un' ∧ ma' ≠ li' ∧ un' ≠ li' ∧ a ≠ lo' ∧ a ≠ ea' ∧ a ≠ ma' ∧ a ≠ un' ∧ a ≠ li' ∧ 3 ≤ n'.toInt ∧ n'.toInt ≤ 16
set_option maxRecDepth 65536 in
set_option maxHeartbeats 40000000 in
theorem write2 (l : Launch) (Z : State) (a0 : Array Value) (hw : ∀ d ∈ tables_1, d.before a0 Z = true) (ws : List Jvm.Cond) (a : Addr) (sl : Int32) (kd : Int32) (er : Int32) (n : Int32) (ps : Int32) (w_MIR : Addr) (lo : Addr) (ea : Addr) (ma : Addr) (un : Addr) (li : Addr) (kl : ClassId) (ke : ClassId) (km : ClassId) (ku : ClassId) (ki : ClassId) (s0 : Int32) (k0 : Int32) (s1 : Int32) (k1 : Int32) (t0 : Int32) (t1 : Int32) (h0 : Heap) (n0 : Nat) (O : Old Z n0 h0) (Ea : Exa Z h0 a "com/example/dodder/dodder/engine/PathWrites") (Em : Exa Z h0 ma "[Ljava/lang/Object;") (Mo : Mirr Z "[Ljava/lang/Object;" w_MIR) (f0 : Fld Z h0 a "com/example/dodder/dodder/engine/PathWrites" "logged" "[I" (.ref lo)) (f1 : Fld Z h0 a "com/example/dodder/dodder/engine/PathWrites" "earlierWrites" "[I" (.ref ea)) (f2 : Fld Z h0 a "com/example/dodder/dodder/engine/PathWrites" "madeAfter" "[Ljava/lang/Object;" (.ref ma)) (f3 : Fld Z h0 a "com/example/dodder/dodder/engine/PathWrites" "unmade" "[I" (.ref un)) (f4 : Fld Z h0 a "com/example/dodder/dodder/engine/PathWrites" "listed" "[I" (.ref li)) (fw : Fld Z h0 a "com/example/dodder/dodder/engine/PathWrites" "writes" "I" (.int (2 : Int32))) (fp : Fld Z h0 a "com/example/dodder/dodder/engine/PathWrites" "position" "I" (.int ps)) (v0 : Arv Z h0 lo kl .int ((2 : Int32) * n) [(.int s0), (.int k0), (.int s1), (.int k1), (.int (0 : Int32)), (.int (0 : Int32))] (.int (0 : Int32))) (v1 : Arv Z h0 ea ke .int n [(.int t0), (.int t1), (.int (0 : Int32)), (.int (0 : Int32)), (.int (0 : Int32)), (.int (0 : Int32))] (.int (0 : Int32))) (v2 : Arv Z h0 ma km (.object "java/lang/Object") n [.null, .null, .null, .null, .null, .null] .null) (v3 : Arv Z h0 un ku .int n [(.int (0 : Int32)), (.int (0 : Int32)), (.int (0 : Int32)), (.int (0 : Int32)), (.int (0 : Int32)), (.int (0 : Int32))] (.int (0 : Int32))) (v4 : Arv Z h0 li ki .int ((2 : Int32) * n) [(.int (0 : Int32)), (.int (0 : Int32)), (.int (0 : Int32)), (.int (0 : Int32)), (.int (0 : Int32)), (.int (0 : Int32))] (.int (0 : Int32))) (ga : n0 ≤ a) (g0 : n0 ≤ lo) (g1 : n0 ≤ ea) (g2 : n0 ≤ ma) (g3 : n0 ≤ un) (g4 : n0 ≤ li) (ne0 : lo ≠ ea) (ne1 : lo ≠ ma) (ne2 : lo ≠ un) (ne3 : lo ≠ li) (ne4 : ea ≠ ma) (ne5 : ea ≠ un) (ne6 : ea ≠ li) (ne7 : ma ≠ un) (ne8 : ma ≠ li) (ne9 : un ≠ li) (na0 : a ≠ lo) (na1 : a ≠ ea) (na2 : a ≠ ma) (na3 : a ≠ un) (na4 : a ≠ li) (hn : 2 ≤ n.toInt ∧ n.toInt ≤ 16) :
    Ctr l Z y_7 prog_20_method_3_code 5 (some .int) ws ({ frames := 3, cells := 5, slots := 112, locals := 47 } : Room) #[(.ref a), (.int sl), (.int kd), (.int er)] h0 (Q_write2 Z a sl kd er n ps w_MIR lo ea ma un li kl ke km ku ki s0 k0 s1 k1 t0 t1 h0 n0) := by
  refine MetFree.of_bodySF (plainFor_of_name pn_1) hisR ?_
  intro p e s m args below meth c s₁ Bd hml0 hP hK
  obtain ⟨rfl, hZ, hh⟩ := hP
  have W := fun (i : Nat) {d : Jvm.Cond} (h : tables_1[i]? = some d) => hw d (List.mem_of_getElem? h)
  have hx := Bd.exec
  have hby := Bd.bytes
  have hml : c.maxLocals = 5 := hml0
  have hown : s.vm.findClass "com/example/dodder/dodder/engine/PathWrites" = some m.cls := findClass_of_methodNamed Bd.named
  have hnm := (name_of_methodNamed Bd.named Bd.method).1
  have X0 : Stand p l e ({ frames := 3, cells := 5, slots := 112, locals := 47 } : Room) s m #[(.ref a), (.int sl), (.int kd), (.int er)] below meth c s₁ [] 0 0 := Stand.of_body Bd
  have e0 : s₁.heap = h0 := by rw [← hh, Bd.state]; rfl
  have N0 := Fr.nil n0
  have pre0 : ∀ t, Steps p.tables e below (s₁.setTop (mkF m 0 #[.val (.ref a), .val (.int sl), .val (.int kd), .val (.int er), .unset] [])) t → Steps p.tables e below (s₁.setTop (entryFrame m #[(.ref a), (.int sl), (.int kd), (.int er)] 5)) t := fun t kk_ => castTop (ef_9 m a sl kd er) kk_
  have K0 := Keep.refl h0 [a, lo, ea, ma]
  obtain ⟨T1, X1, e1, st1⟩ := getF X0 hx hZ hown (host := "") (Or.inl (W 29 rfl)) Via.refl e0 fw (g := (mkF m 1 #[rv a, iv sl, iv kd, iv er, .unset] [.ref a])) rfl rfl (hb hby d4_1)
  obtain ⟨T2, X2, e2, st2⟩ := getF X1 hx hZ hown (host := "") (Or.inl (W 14 rfl)) Via.refl e1 f1 (g := (mkF m 5 #[rv a, iv sl, iv kd, iv er, .unset] [.ref a, .int 2])) rfl rfl (hb hby d4_5)
  obtain ⟨cl3, Ar3, -, S3, Ng3, -, -⟩ := id v1
  have st3 := X2.arraylength hx (by rw [e2]; exact Ar3.1) (State.isArrayOf_alike hZ.alike Ar3.2.1) (g := (mkF m 8 #[rv a, iv sl, iv kd, iv er, .unset] [.ref ea, .int 2])) rfl rfl (hb hby d4_8)
  rw [len_of S3 Ng3] at st3
  have pre4 : ∀ t, Steps p.tables e below (T2.setTop (mkF m 9 #[rv a, iv sl, iv kd, iv er, .unset] [.int n, .int 2])) t → Steps p.tables e below (s₁.setTop (entryFrame m #[(.ref a), (.int sl), (.int kd), (.int er)] 5)) t := by
    intro t kt
    refine pre0 _ ?_
    show Sq p e below m s₁ 0 #[rv a, iv sl, iv kd, iv er, .unset] [] _
    refine XS.aloadN X0.here hx rfl (hb hby d4_0) rfl rfl ?_
    show Sq p e below m s₁ 1 #[rv a, iv sl, iv kd, iv er, .unset] [.ref a] _
    refine st1 _ ?_
    show Sq p e below m T1 4 #[rv a, iv sl, iv kd, iv er, .unset] [.int 2] _
    refine XS.aloadN X1.here hx rfl (hb hby d4_4) rfl rfl ?_
    show Sq p e below m T1 5 #[rv a, iv sl, iv kd, iv er, .unset] [.ref a, .int 2] _
    refine st2 _ ?_
    show Sq p e below m T2 8 #[rv a, iv sl, iv kd, iv er, .unset] [.ref ea, .int 2] _
    refine st3 _ ?_
    exact kt
  rcases own_sp (k := (2 : Int32)) hn (by decide) with rfl | hlt
  · obtain ⟨T5, X5, e5, st5⟩ := getF X2 hx hZ hown (host := "") (Or.inl (W 29 rfl)) Via.refl e2 fw (g := (mkF m 14 #[rv a, iv sl, iv kd, iv er, .unset] [.ref a, .int 2])) rfl rfl (hb hby d4_14)
    obtain ⟨_, _, ⟨T6, L6, k6, n6⟩, -, X6, ⟨Lc6, hQ6, l6, y6, z6⟩, st6⟩ := Jvm.LawKit.callS X5 hx (y := y_0) hown (mvT hZ (W 38 rfl)) (mvT hZ (W 39 rfl)) (mvT hZ (W 40 rfl)) (mvT hZ (W 41 rfl)) (by decide) (backOf (W := 0) (max2 l Z a0 hw []  h0 n0 O ) hZ (W 41 rfl) (W 40 rfl) (by decide) (by decide)) (g := (mkF m 20 #[rv a, iv sl, iv kd, iv er, .unset] [.int 16, .int 4])) rfl (by rw [hml]; rfl) (argsL := [.int 4, .int 16]) (rest := []) (lenOf pd_0 rfl) rfl (by show 2 * 0 + _ ≤ _; exact Nat.le_of_eq rfl) (hb hby d4_20) (fun _ _ => ⟨rfl, e5, (by decide : 0 + 0 ≤ _), (by decide : 0 + 0 ≤ _)⟩)
    dsimp only [Pt.U, Pt.locs, Pt.cells, Pt.slots] at X6 l6 y6 z6 st6 hQ6
    subst l6 y6 z6
    obtain ⟨h6, e6⟩ : ∃ z, T6.heap = z := ⟨_, rfl⟩
    rw [e6] at hQ6
    obtain ⟨rfl, N6q, p6_0⟩ := hQ6
    have N6 := Fr.app N0 N6q
    rw [p6_0] at e6
    obtain ⟨T7, X7, e7, st7⟩ := getF X6 hx hZ hown (host := "") (Or.inl (W 12 rfl)) Via.refl e6 f0 (g := (mkF m 27 #[rv a, iv sl, iv kd, iv er, iv 16] [.ref a, .ref a])) rfl rfl (hb hby d4_27)
    obtain ⟨_, _, ⟨T8, L8, k8, n8⟩, -, X8, ⟨Lc8, hQ8, l8, y8, z8⟩, st8⟩ := Jvm.LawKit.callS X7 hx (y := y_2) hown (mvT hZ (W 42 rfl)) (mvT hZ (W 43 rfl)) (mvT hZ (W 44 rfl)) (mvT hZ (W 45 rfl)) (by decide) (backOf (W := 1) (cpI32 l Z a0 hw [] lo kl ((2 : Int32) * (2 : Int32)) [(.int s0), (.int k0), (.int s1), (.int k1), (.int (0 : Int32)), (.int (0 : Int32))] (32 : Int32) [(.int s0), (.int k0), (.int s1), (.int k1)] [(.int s0), (.int k0), (.int s1), (.int k1), (.int (0 : Int32)), (.int (0 : Int32))] h0 n0 O v0 (by decide) (by decide) (Nat.le_of_ble_eq_true rfl) (by decide) (by decide) rfl rfl (Nat.le_of_ble_eq_true rfl)) hZ (W 45 rfl) (W 44 rfl) (by decide) (by decide)) (g := (mkF m 34 #[rv a, iv sl, iv kd, iv er, iv 16] [.int 32, .ref lo, .ref a])) rfl (by rw [hml]; rfl) (argsL := [.ref lo, .int 32]) (rest := [.ref a]) (lenOf pd_2 rfl) rfl (by show 2 * 0 + _ ≤ _; exact Nat.le_of_eq rfl) (hb hby d4_34) (fun _ _ => ⟨rfl, e7, (by decide : 0 + 1 ≤ _), (by decide : 0 + 32 ≤ _)⟩)
    dsimp only [Pt.U, Pt.locs, Pt.cells, Pt.slots] at X8 l8 y8 z8 st8 hQ8
    subst l8 y8 z8
    obtain ⟨h8, e8⟩ : ∃ z, T8.heap = z := ⟨_, rfl⟩
    rw [e8] at hQ8
    obtain ⟨b8b, b8kb, rfl, N8q, p8_0, p8_1, p8_2⟩ := hQ8
    have N8 := Fr.app N6 N8q
    have g_b8b : n0 ≤ b8b := Nat.le_trans (own_sz O) p8_1
    have sz_b8b : h0.size ≤ b8b := Nat.le_trans K0.1 p8_1
    have ne_a_b8b : a ≠ b8b := Nat.ne_of_lt (Nat.lt_of_lt_of_le Ea.lt p8_1)
    have Ea := Ea.keep p8_0
    have Em := Em.keep p8_0
    have f0 := f0.keep p8_0 nin0
    have f1 := f1.keep p8_0 nin0
    have f2 := f2.keep p8_0 nin0
    have f3 := f3.keep p8_0 nin0
    have f4 := f4.keep p8_0 nin0
    have fw := fw.keep p8_0 nin0
    have fp := fp.keep p8_0 nin0
    have v1 := v1.keep p8_0 nin0
    have v2 := v2.keep p8_0 nin0
    have v3 := v3.keep p8_0 nin0
    have v4 := v4.keep p8_0 nin0
    have O9 := O.keep p8_0 all0
    have K10 := K0.trans p8_0 all0
    obtain ⟨T11, h11, X11, e11, W11, st11⟩ := putF X8 hx hZ hown (host := "") (Or.inl (W 12 rfl)) Via.refl e8 f0 Ea (Or.inl (W 13 rfl)) (W 1 rfl) (ty := (.array .int)) (by decide) rfl rfl (g := (mkF m 37 #[rv a, iv sl, iv kd, iv er, iv 16] [.ref b8b, .ref a])) rfl rfl (hb hby d4_37)
    have Fz11 := f0.same W11
    have Ea := Ea.wr W11
    have Em := Em.wr W11
    have f1 := f1.other W11 (Or.inr (slot_ne (Or.inl (W 15 rfl)) (Or.inl (W 13 rfl)) (by decide) (t := (.array .int)) (t' := (.array .int)) (by decide) (by decide)))
    have f2 := f2.other W11 (Or.inr (slot_ne (Or.inl (W 19 rfl)) (Or.inl (W 13 rfl)) (by decide) (t := (.array (.object "java/lang/Object"))) (t' := (.array .int)) (by decide) (by decide)))
    have f3 := f3.other W11 (Or.inr (slot_ne (Or.inl (W 21 rfl)) (Or.inl (W 13 rfl)) (by decide) (t := (.array .int)) (t' := (.array .int)) (by decide) (by decide)))
    have f4 := f4.other W11 (Or.inr (slot_ne (Or.inl (W 23 rfl)) (Or.inl (W 13 rfl)) (by decide) (t := (.array .int)) (t' := (.array .int)) (by decide) (by decide)))
    have fw := fw.other W11 (Or.inr (slot_ne (Or.inl (W 30 rfl)) (Or.inl (W 13 rfl)) (by decide) (t := .int) (t' := (.array .int)) (by decide) (by decide)))
    have fp := fp.other W11 (Or.inr (slot_ne (Or.inl (W 32 rfl)) (Or.inl (W 13 rfl)) (by decide) (t := .int) (t' := (.array .int)) (by decide) (by decide)))
    have v1 := v1.other W11 (Ne.symm na1)
    have v2 := v2.other W11 (Ne.symm na2)
    have v3 := v3.other W11 (Ne.symm na3)
    have v4 := v4.other W11 (Ne.symm na4)
    have p8_2 := p8_2.other W11 (Ne.symm ne_a_b8b)
    have O12 := O9.wr W11 ga
    have K13 := K10.wr W11 (Or.inl (List.mem_of_getElem? (i := 0) rfl))
    have N14 := Fr.snoc X11 N8 ga
    obtain ⟨T15, X15, e15, st15⟩ := getF X11 hx hZ hown (host := "") (Or.inl (W 14 rfl)) Via.refl e11 f1 (g := (mkF m 42 #[rv a, iv sl, iv kd, iv er, iv 16] [.ref a, .ref a])) rfl rfl (hb hby d4_42)
    obtain ⟨_, _, ⟨T16, L16, k16, n16⟩, -, X16, ⟨Lc16, hQ16, l16, y16, z16⟩, st16⟩ := Jvm.LawKit.callS X15 hx (y := y_2) hown (mvT hZ (W 42 rfl)) (mvT hZ (W 43 rfl)) (mvT hZ (W 44 rfl)) (mvT hZ (W 45 rfl)) (by decide) (backOf (W := 1) (cpI16 l Z a0 hw [] ea ke (2 : Int32) [(.int t0), (.int t1), (.int (0 : Int32)), (.int (0 : Int32)), (.int (0 : Int32)), (.int (0 : Int32))] (16 : Int32) [(.int t0), (.int t1)] [(.int t0), (.int t1), (.int (0 : Int32)), (.int (0 : Int32)), (.int (0 : Int32)), (.int (0 : Int32))] h11 n0 O12 v1 (by decide) (by decide) (Nat.le_of_ble_eq_true rfl) (by decide) (by decide) rfl rfl (Nat.le_of_ble_eq_true rfl)) hZ (W 45 rfl) (W 44 rfl) (by decide) (by decide)) (g := (mkF m 47 #[rv a, iv sl, iv kd, iv er, iv 16] [.int 16, .ref ea, .ref a])) rfl (by rw [hml]; rfl) (argsL := [.ref ea, .int 16]) (rest := [.ref a]) (lenOf pd_2 rfl) rfl (by show 2 * 0 + _ ≤ _; exact Nat.le_of_eq rfl) (hb hby d4_47) (fun _ _ => ⟨rfl, e15, (by decide : 1 + 1 ≤ _), (by decide : 32 + 16 ≤ _)⟩)
    dsimp only [Pt.U, Pt.locs, Pt.cells, Pt.slots] at X16 l16 y16 z16 st16 hQ16
    subst l16 y16 z16
    obtain ⟨h16, e16⟩ : ∃ z, T16.heap = z := ⟨_, rfl⟩
    rw [e16] at hQ16
    obtain ⟨b16b, b16kb, rfl, N16q, p16_0, p16_1, p16_2⟩ := hQ16
    have N16 := Fr.app N14 N16q
    have g_b16b : n0 ≤ b16b := Nat.le_trans (own_sz O12) p16_1
    have sz_b16b : h0.size ≤ b16b := Nat.le_trans K13.1 p16_1
    have ne_a_b16b : a ≠ b16b := Nat.ne_of_lt (Nat.lt_of_lt_of_le Ea.lt p16_1)
    have ne_b8b_b16b : b8b ≠ b16b := Nat.ne_of_lt (Nat.lt_of_lt_of_le p8_2.lt p16_1)
    have Ea := Ea.keep p16_0
    have Em := Em.keep p16_0
    have f1 := f1.keep p16_0 nin0
    have f2 := f2.keep p16_0 nin0
    have f3 := f3.keep p16_0 nin0
    have f4 := f4.keep p16_0 nin0
    have fw := fw.keep p16_0 nin0
    have fp := fp.keep p16_0 nin0
    have v2 := v2.keep p16_0 nin0
    have v3 := v3.keep p16_0 nin0
    have v4 := v4.keep p16_0 nin0
    have p8_2 := p8_2.keep p16_0 nin0
    have Fz11 := Fz11.keep p16_0 nin0
    have O17 := O12.keep p16_0 all0
    have K18 := K13.trans p16_0 all0
    obtain ⟨T19, h19, X19, e19, W19, st19⟩ := putF X16 hx hZ hown (host := "") (Or.inl (W 14 rfl)) Via.refl e16 f1 Ea (Or.inl (W 15 rfl)) (W 1 rfl) (ty := (.array .int)) (by decide) rfl rfl (g := (mkF m 50 #[rv a, iv sl, iv kd, iv er, iv 16] [.ref b16b, .ref a])) rfl rfl (hb hby d4_50)
    have Fz19 := f1.same W19
    have Ea := Ea.wr W19
    have Em := Em.wr W19
    have f2 := f2.other W19 (Or.inr (slot_ne (Or.inl (W 19 rfl)) (Or.inl (W 15 rfl)) (by decide) (t := (.array (.object "java/lang/Object"))) (t' := (.array .int)) (by decide) (by decide)))
    have f3 := f3.other W19 (Or.inr (slot_ne (Or.inl (W 21 rfl)) (Or.inl (W 15 rfl)) (by decide) (t := (.array .int)) (t' := (.array .int)) (by decide) (by decide)))
    have f4 := f4.other W19 (Or.inr (slot_ne (Or.inl (W 23 rfl)) (Or.inl (W 15 rfl)) (by decide) (t := (.array .int)) (t' := (.array .int)) (by decide) (by decide)))
    have fw := fw.other W19 (Or.inr (slot_ne (Or.inl (W 30 rfl)) (Or.inl (W 15 rfl)) (by decide) (t := .int) (t' := (.array .int)) (by decide) (by decide)))
    have fp := fp.other W19 (Or.inr (slot_ne (Or.inl (W 32 rfl)) (Or.inl (W 15 rfl)) (by decide) (t := .int) (t' := (.array .int)) (by decide) (by decide)))
    have v2 := v2.other W19 (Ne.symm na2)
    have v3 := v3.other W19 (Ne.symm na3)
    have v4 := v4.other W19 (Ne.symm na4)
    have p8_2 := p8_2.other W19 (Ne.symm ne_a_b8b)
    have Fz11 := Fz11.other W19 (Or.inr (slot_ne (Or.inl (W 13 rfl)) (Or.inl (W 15 rfl)) (by decide) (t := (.array .int)) (t' := (.array .int)) (by decide) (by decide)))
    have p16_2 := p16_2.other W19 (Ne.symm ne_a_b16b)
    have O20 := O17.wr W19 ga
    have K21 := K18.wr W19 (Or.inl (List.mem_of_getElem? (i := 0) rfl))
    have N22 := Fr.snoc X19 N16 ga
    obtain ⟨T23, X23, e23, st23⟩ := getF X19 hx hZ hown (host := "") (Or.inl (W 18 rfl)) Via.refl e19 f2 (g := (mkF m 55 #[rv a, iv sl, iv kd, iv er, iv 16] [.ref a, .ref a])) rfl rfl (hb hby d4_55)
    obtain ⟨_, _, ⟨T24, L24, k24, n24⟩, -, X24, ⟨Lc24, hQ24, l24, y24, z24⟩, st24⟩ := Jvm.LawKit.callS X23 hx (y := y_4) hown (mvT hZ (W 53 rfl)) (mvT hZ (W 54 rfl)) (mvT hZ (W 44 rfl)) (mvT hZ (W 55 rfl)) (by decide) (backOf (W := 1) (cpO2 l Z a0 hw [] ma km (2 : Int32) [.null, .null, .null, .null, .null, .null] (16 : Int32) [.null, .null] [.null, .null, .null, .null, .null, .null] w_MIR h19 n0 O20 v2 Mo (by decide) (by decide) (Nat.le_of_ble_eq_true rfl) (by decide) (by decide) rfl rfl (Nat.le_of_ble_eq_true rfl) (own_nul (n := 2)) Em) hZ (W 55 rfl) (W 44 rfl) (by decide) (by decide)) (g := (mkF m 60 #[rv a, iv sl, iv kd, iv er, iv 16] [.int 16, .ref ma, .ref a])) rfl (by rw [hml]; rfl) (argsL := [.ref ma, .int 16]) (rest := [.ref a]) (lenOf pd_3 rfl) rfl (by show 2 * 0 + _ ≤ _; exact Nat.le_of_eq rfl) (hb hby d4_60) (fun _ _ => ⟨rfl, e23, (by decide : 2 + 1 ≤ _), (by decide : 48 + 16 ≤ _)⟩)
    dsimp only [Pt.U, Pt.locs, Pt.cells, Pt.slots] at X24 l24 y24 z24 st24 hQ24
    subst l24 y24 z24
    obtain ⟨h24, e24⟩ : ∃ z, T24.heap = z := ⟨_, rfl⟩
    rw [e24] at hQ24
    obtain ⟨b24b, b24kb, rfl, N24q, p24_0, p24_1, p24_2, p24_3⟩ := hQ24
    have N24 := Fr.app N22 N24q
    have g_b24b : n0 ≤ b24b := Nat.le_trans (own_sz O20) p24_1
    have sz_b24b : h0.size ≤ b24b := Nat.le_trans K21.1 p24_1
    have ne_a_b24b : a ≠ b24b := Nat.ne_of_lt (Nat.lt_of_lt_of_le Ea.lt p24_1)
    have ne_b8b_b24b : b8b ≠ b24b := Nat.ne_of_lt (Nat.lt_of_lt_of_le p8_2.lt p24_1)
    have ne_b16b_b24b : b16b ≠ b24b := Nat.ne_of_lt (Nat.lt_of_lt_of_le p16_2.lt p24_1)
    have Ea := Ea.keep p24_0
    have f2 := f2.keep p24_0 nin0
    have f3 := f3.keep p24_0 nin0
    have f4 := f4.keep p24_0 nin0
    have fw := fw.keep p24_0 nin0
    have fp := fp.keep p24_0 nin0
    have v3 := v3.keep p24_0 nin0
    have v4 := v4.keep p24_0 nin0
    have p8_2 := p8_2.keep p24_0 nin0
    have Fz11 := Fz11.keep p24_0 nin0
    have p16_2 := p16_2.keep p24_0 nin0
    have Fz19 := Fz19.keep p24_0 nin0
    have O25 := O20.keep p24_0 all0
    have K26 := K21.trans p24_0 all0
    obtain ⟨T27, h27, X27, e27, W27, st27⟩ := putF X24 hx hZ hown (host := "") (Or.inl (W 18 rfl)) Via.refl e24 f2 Ea (Or.inl (W 19 rfl)) (W 1 rfl) (ty := (.array (.object "java/lang/Object"))) (by decide) rfl rfl (g := (mkF m 63 #[rv a, iv sl, iv kd, iv er, iv 16] [.ref b24b, .ref a])) rfl rfl (hb hby d4_63)
    have Fz27 := f2.same W27
    have Ea := Ea.wr W27
    have f3 := f3.other W27 (Or.inr (slot_ne (Or.inl (W 21 rfl)) (Or.inl (W 19 rfl)) (by decide) (t := (.array .int)) (t' := (.array (.object "java/lang/Object"))) (by decide) (by decide)))
    have f4 := f4.other W27 (Or.inr (slot_ne (Or.inl (W 23 rfl)) (Or.inl (W 19 rfl)) (by decide) (t := (.array .int)) (t' := (.array (.object "java/lang/Object"))) (by decide) (by decide)))
    have fw := fw.other W27 (Or.inr (slot_ne (Or.inl (W 30 rfl)) (Or.inl (W 19 rfl)) (by decide) (t := .int) (t' := (.array (.object "java/lang/Object"))) (by decide) (by decide)))
    have fp := fp.other W27 (Or.inr (slot_ne (Or.inl (W 32 rfl)) (Or.inl (W 19 rfl)) (by decide) (t := .int) (t' := (.array (.object "java/lang/Object"))) (by decide) (by decide)))
    have v3 := v3.other W27 (Ne.symm na3)
    have v4 := v4.other W27 (Ne.symm na4)
    have p8_2 := p8_2.other W27 (Ne.symm ne_a_b8b)
    have Fz11 := Fz11.other W27 (Or.inr (slot_ne (Or.inl (W 13 rfl)) (Or.inl (W 19 rfl)) (by decide) (t := (.array .int)) (t' := (.array (.object "java/lang/Object"))) (by decide) (by decide)))
    have p16_2 := p16_2.other W27 (Ne.symm ne_a_b16b)
    have Fz19 := Fz19.other W27 (Or.inr (slot_ne (Or.inl (W 15 rfl)) (Or.inl (W 19 rfl)) (by decide) (t := (.array .int)) (t' := (.array (.object "java/lang/Object"))) (by decide) (by decide)))
    have p24_2 := p24_2.other W27 (Ne.symm ne_a_b24b)
    have p24_3 := p24_3.wr W27
    have O28 := O25.wr W27 ga
    have K29 := K26.wr W27 (Or.inl (List.mem_of_getElem? (i := 0) rfl))
    have N30 := Fr.snoc X27 N24 ga
    obtain ⟨T31, X31, e31, st31⟩ := getF X27 hx hZ hown (host := "") (Or.inl (W 20 rfl)) Via.refl e27 f3 (g := (mkF m 68 #[rv a, iv sl, iv kd, iv er, iv 16] [.ref a, .ref a])) rfl rfl (hb hby d4_68)
    obtain ⟨_, _, ⟨T32, L32, k32, n32⟩, -, X32, ⟨Lc32, hQ32, l32, y32, z32⟩, st32⟩ := Jvm.LawKit.callS X31 hx (y := y_2) hown (mvT hZ (W 42 rfl)) (mvT hZ (W 43 rfl)) (mvT hZ (W 44 rfl)) (mvT hZ (W 45 rfl)) (by decide) (backOf (W := 1) (cpI16 l Z a0 hw [] un ku (2 : Int32) [(.int (0 : Int32)), (.int (0 : Int32)), (.int (0 : Int32)), (.int (0 : Int32)), (.int (0 : Int32)), (.int (0 : Int32))] (16 : Int32) [(.int (0 : Int32)), (.int (0 : Int32))] [(.int (0 : Int32)), (.int (0 : Int32)), (.int (0 : Int32)), (.int (0 : Int32)), (.int (0 : Int32)), (.int (0 : Int32))] h27 n0 O28 v3 (by decide) (by decide) (Nat.le_of_ble_eq_true rfl) (by decide) (by decide) rfl rfl (Nat.le_of_ble_eq_true rfl)) hZ (W 45 rfl) (W 44 rfl) (by decide) (by decide)) (g := (mkF m 73 #[rv a, iv sl, iv kd, iv er, iv 16] [.int 16, .ref un, .ref a])) rfl (by rw [hml]; rfl) (argsL := [.ref un, .int 16]) (rest := [.ref a]) (lenOf pd_2 rfl) rfl (by show 2 * 0 + _ ≤ _; exact Nat.le_of_eq rfl) (hb hby d4_73) (fun _ _ => ⟨rfl, e31, (by decide : 3 + 1 ≤ _), (by decide : 64 + 16 ≤ _)⟩)
    dsimp only [Pt.U, Pt.locs, Pt.cells, Pt.slots] at X32 l32 y32 z32 st32 hQ32
    subst l32 y32 z32
    obtain ⟨h32, e32⟩ : ∃ z, T32.heap = z := ⟨_, rfl⟩
    rw [e32] at hQ32
    obtain ⟨b32b, b32kb, rfl, N32q, p32_0, p32_1, p32_2⟩ := hQ32
    have N32 := Fr.app N30 N32q
    have g_b32b : n0 ≤ b32b := Nat.le_trans (own_sz O28) p32_1
    have ne_a_b32b : a ≠ b32b := Nat.ne_of_lt (Nat.lt_of_lt_of_le Ea.lt p32_1)
    have ne_b8b_b32b : b8b ≠ b32b := Nat.ne_of_lt (Nat.lt_of_lt_of_le p8_2.lt p32_1)
    have ne_b16b_b32b : b16b ≠ b32b := Nat.ne_of_lt (Nat.lt_of_lt_of_le p16_2.lt p32_1)
    have ne_b24b_b32b : b24b ≠ b32b := Nat.ne_of_lt (Nat.lt_of_lt_of_le p24_3.lt p32_1)
    have Ea := Ea.keep p32_0
    have f3 := f3.keep p32_0 nin0
    have f4 := f4.keep p32_0 nin0
    have fw := fw.keep p32_0 nin0
    have fp := fp.keep p32_0 nin0
    have v4 := v4.keep p32_0 nin0
    have p8_2 := p8_2.keep p32_0 nin0
    have Fz11 := Fz11.keep p32_0 nin0
    have p16_2 := p16_2.keep p32_0 nin0
    have Fz19 := Fz19.keep p32_0 nin0
    have p24_2 := p24_2.keep p32_0 nin0
    have p24_3 := p24_3.keep p32_0
    have Fz27 := Fz27.keep p32_0 nin0
    have O33 := O28.keep p32_0 all0
    have K34 := K29.trans p32_0 all0
    obtain ⟨T35, h35, X35, e35, W35, st35⟩ := putF X32 hx hZ hown (host := "") (Or.inl (W 20 rfl)) Via.refl e32 f3 Ea (Or.inl (W 21 rfl)) (W 1 rfl) (ty := (.array .int)) (by decide) rfl rfl (g := (mkF m 76 #[rv a, iv sl, iv kd, iv er, iv 16] [.ref b32b, .ref a])) rfl rfl (hb hby d4_76)
    have Fz35 := f3.same W35
    have Ea := Ea.wr W35
    have f4 := f4.other W35 (Or.inr (slot_ne (Or.inl (W 23 rfl)) (Or.inl (W 21 rfl)) (by decide) (t := (.array .int)) (t' := (.array .int)) (by decide) (by decide)))
    have fw := fw.other W35 (Or.inr (slot_ne (Or.inl (W 30 rfl)) (Or.inl (W 21 rfl)) (by decide) (t := .int) (t' := (.array .int)) (by decide) (by decide)))
    have fp := fp.other W35 (Or.inr (slot_ne (Or.inl (W 32 rfl)) (Or.inl (W 21 rfl)) (by decide) (t := .int) (t' := (.array .int)) (by decide) (by decide)))
    have v4 := v4.other W35 (Ne.symm na4)
    have p8_2 := p8_2.other W35 (Ne.symm ne_a_b8b)
    have Fz11 := Fz11.other W35 (Or.inr (slot_ne (Or.inl (W 13 rfl)) (Or.inl (W 21 rfl)) (by decide) (t := (.array .int)) (t' := (.array .int)) (by decide) (by decide)))
    have p16_2 := p16_2.other W35 (Ne.symm ne_a_b16b)
    have Fz19 := Fz19.other W35 (Or.inr (slot_ne (Or.inl (W 15 rfl)) (Or.inl (W 21 rfl)) (by decide) (t := (.array .int)) (t' := (.array .int)) (by decide) (by decide)))
    have p24_2 := p24_2.other W35 (Ne.symm ne_a_b24b)
    have p24_3 := p24_3.wr W35
    have Fz27 := Fz27.other W35 (Or.inr (slot_ne (Or.inl (W 19 rfl)) (Or.inl (W 21 rfl)) (by decide) (t := (.array (.object "java/lang/Object"))) (t' := (.array .int)) (by decide) (by decide)))
    have p32_2 := p32_2.other W35 (Ne.symm ne_a_b32b)
    have O36 := O33.wr W35 ga
    have K37 := K34.wr W35 (Or.inl (List.mem_of_getElem? (i := 0) rfl))
    have N38 := Fr.snoc X35 N32 ga
    obtain ⟨T39, X39, e39, st39⟩ := getF X35 hx hZ hown (host := "") (Or.inl (W 22 rfl)) Via.refl e35 f4 (g := (mkF m 81 #[rv a, iv sl, iv kd, iv er, iv 16] [.ref a, .ref a])) rfl rfl (hb hby d4_81)
    obtain ⟨_, _, ⟨T40, L40, k40, n40⟩, -, X40, ⟨Lc40, hQ40, l40, y40, z40⟩, st40⟩ := Jvm.LawKit.callS X39 hx (y := y_2) hown (mvT hZ (W 42 rfl)) (mvT hZ (W 43 rfl)) (mvT hZ (W 44 rfl)) (mvT hZ (W 45 rfl)) (by decide) (backOf (W := 1) (cpI32 l Z a0 hw [] li ki ((2 : Int32) * (2 : Int32)) [(.int (0 : Int32)), (.int (0 : Int32)), (.int (0 : Int32)), (.int (0 : Int32)), (.int (0 : Int32)), (.int (0 : Int32))] (32 : Int32) [(.int (0 : Int32)), (.int (0 : Int32)), (.int (0 : Int32)), (.int (0 : Int32))] [(.int (0 : Int32)), (.int (0 : Int32)), (.int (0 : Int32)), (.int (0 : Int32)), (.int (0 : Int32)), (.int (0 : Int32))] h35 n0 O36 v4 (by decide) (by decide) (Nat.le_of_ble_eq_true rfl) (by decide) (by decide) rfl rfl (Nat.le_of_ble_eq_true rfl)) hZ (W 45 rfl) (W 44 rfl) (by decide) (by decide)) (g := (mkF m 88 #[rv a, iv sl, iv kd, iv er, iv 16] [.int 32, .ref li, .ref a])) rfl (by rw [hml]; rfl) (argsL := [.ref li, .int 32]) (rest := [.ref a]) (lenOf pd_2 rfl) rfl (by show 2 * 0 + _ ≤ _; exact Nat.le_of_eq rfl) (hb hby d4_88) (fun _ _ => ⟨rfl, e39, (by decide : 4 + 1 ≤ _), (by decide : 80 + 32 ≤ _)⟩)
    dsimp only [Pt.U, Pt.locs, Pt.cells, Pt.slots] at X40 l40 y40 z40 st40 hQ40
    subst l40 y40 z40
    obtain ⟨h40, e40⟩ : ∃ z, T40.heap = z := ⟨_, rfl⟩
    rw [e40] at hQ40
    obtain ⟨b40b, b40kb, rfl, N40q, p40_0, p40_1, p40_2⟩ := hQ40
    have N40 := Fr.app N38 N40q
    have g_b40b : n0 ≤ b40b := Nat.le_trans (own_sz O36) p40_1
    have ne_a_b40b : a ≠ b40b := Nat.ne_of_lt (Nat.lt_of_lt_of_le Ea.lt p40_1)
    have ne_b8b_b40b : b8b ≠ b40b := Nat.ne_of_lt (Nat.lt_of_lt_of_le p8_2.lt p40_1)
    have ne_b16b_b40b : b16b ≠ b40b := Nat.ne_of_lt (Nat.lt_of_lt_of_le p16_2.lt p40_1)
    have ne_b24b_b40b : b24b ≠ b40b := Nat.ne_of_lt (Nat.lt_of_lt_of_le p24_3.lt p40_1)
    have ne_b32b_b40b : b32b ≠ b40b := Nat.ne_of_lt (Nat.lt_of_lt_of_le p32_2.lt p40_1)
    have Ea := Ea.keep p40_0
    have f4 := f4.keep p40_0 nin0
    have fw := fw.keep p40_0 nin0
    have fp := fp.keep p40_0 nin0
    have p8_2 := p8_2.keep p40_0 nin0
    have Fz11 := Fz11.keep p40_0 nin0
    have p16_2 := p16_2.keep p40_0 nin0
    have Fz19 := Fz19.keep p40_0 nin0
    have p24_2 := p24_2.keep p40_0 nin0
    have p24_3 := p24_3.keep p40_0
    have Fz27 := Fz27.keep p40_0 nin0
    have p32_2 := p32_2.keep p40_0 nin0
    have Fz35 := Fz35.keep p40_0 nin0
    have K42 := K37.trans p40_0 all0
    obtain ⟨T43, h43, X43, e43, W43, st43⟩ := putF X40 hx hZ hown (host := "") (Or.inl (W 22 rfl)) Via.refl e40 f4 Ea (Or.inl (W 23 rfl)) (W 1 rfl) (ty := (.array .int)) (by decide) rfl rfl (g := (mkF m 91 #[rv a, iv sl, iv kd, iv er, iv 16] [.ref b40b, .ref a])) rfl rfl (hb hby d4_91)
    have Fz43 := f4.same W43
    have Ea := Ea.wr W43
    have fw := fw.other W43 (Or.inr (slot_ne (Or.inl (W 30 rfl)) (Or.inl (W 23 rfl)) (by decide) (t := .int) (t' := (.array .int)) (by decide) (by decide)))
    have fp := fp.other W43 (Or.inr (slot_ne (Or.inl (W 32 rfl)) (Or.inl (W 23 rfl)) (by decide) (t := .int) (t' := (.array .int)) (by decide) (by decide)))
    have p8_2 := p8_2.other W43 (Ne.symm ne_a_b8b)
    have Fz11 := Fz11.other W43 (Or.inr (slot_ne (Or.inl (W 13 rfl)) (Or.inl (W 23 rfl)) (by decide) (t := (.array .int)) (t' := (.array .int)) (by decide) (by decide)))
    have p16_2 := p16_2.other W43 (Ne.symm ne_a_b16b)
    have Fz19 := Fz19.other W43 (Or.inr (slot_ne (Or.inl (W 15 rfl)) (Or.inl (W 23 rfl)) (by decide) (t := (.array .int)) (t' := (.array .int)) (by decide) (by decide)))
    have p24_2 := p24_2.other W43 (Ne.symm ne_a_b24b)
    have p24_3 := p24_3.wr W43
    have Fz27 := Fz27.other W43 (Or.inr (slot_ne (Or.inl (W 19 rfl)) (Or.inl (W 23 rfl)) (by decide) (t := (.array (.object "java/lang/Object"))) (t' := (.array .int)) (by decide) (by decide)))
    have p32_2 := p32_2.other W43 (Ne.symm ne_a_b32b)
    have Fz35 := Fz35.other W43 (Or.inr (slot_ne (Or.inl (W 21 rfl)) (Or.inl (W 23 rfl)) (by decide) (t := (.array .int)) (t' := (.array .int)) (by decide) (by decide)))
    have p40_2 := p40_2.other W43 (Ne.symm ne_a_b40b)
    have K45 := K42.wr W43 (Or.inl (List.mem_of_getElem? (i := 0) rfl))
    have N46 := Fr.snoc X43 N40 ga
    obtain ⟨T47, X47, e47, st47⟩ := getF X43 hx hZ hown (host := "") (Or.inl (W 12 rfl)) Via.refl e43 Fz11 (g := (mkF m 95 #[rv a, iv sl, iv kd, iv er, iv 16] [.ref a])) rfl rfl (hb hby d4_95)
    obtain ⟨T48, X48, e48, st48⟩ := getF X47 hx hZ hown (host := "") (Or.inl (W 29 rfl)) Via.refl e47 fw (g := (mkF m 100 #[rv a, iv sl, iv kd, iv er, iv 16] [.ref a, .int 2, .ref b8b])) rfl rfl (hb hby d4_100)
    obtain ⟨cl49, Ar49, q49, S49, Ng49, Hh49, Gg49⟩ := id p8_2
    obtain ⟨T49, h49, X49, e49, W49, st49⟩ := stI X48 hx hZ e48 Ar49 (j := (4 : Int32)) (inb_of S49 (by decide)) (g := (mkF m 105 #[rv a, iv sl, iv kd, iv er, iv 16] [.int sl, .int 4, .ref b8b])) rfl rfl (hb hby d4_105)
    have V49 : Arv Z h49 b8b b8kb .int (32 : Int32) [(.int s0), (.int k0), (.int s1), (.int k1), (.int sl), (.int (0 : Int32))] (.int (0 : Int32)) := Arv.set Ar49 q49 S49 Ng49 Hh49 Gg49 rfl W49 4 rfl (Nat.le_of_ble_eq_true rfl)
    have Ea := Ea.wr W49
    have fw := fw.other W49 (Or.inl ne_a_b8b)
    have fp := fp.other W49 (Or.inl ne_a_b8b)
    have Fz11 := Fz11.other W49 (Or.inl ne_a_b8b)
    have p16_2 := p16_2.other W49 (Ne.symm ne_b8b_b16b)
    have Fz19 := Fz19.other W49 (Or.inl ne_a_b8b)
    have p24_2 := p24_2.other W49 (Ne.symm ne_b8b_b24b)
    have p24_3 := p24_3.wr W49
    have Fz27 := Fz27.other W49 (Or.inl ne_a_b8b)
    have p32_2 := p32_2.other W49 (Ne.symm ne_b8b_b32b)
    have Fz35 := Fz35.other W49 (Or.inl ne_a_b8b)
    have p40_2 := p40_2.other W49 (Ne.symm ne_b8b_b40b)
    have Fz43 := Fz43.other W49 (Or.inl ne_a_b8b)
    have K51 := K45.wr W49 (Or.inr sz_b8b)
    have N52 := Fr.snoc X49 N46 g_b8b
    obtain ⟨T53, X53, e53, st53⟩ := getF X49 hx hZ hown (host := "") (Or.inl (W 12 rfl)) Via.refl e49 Fz11 (g := (mkF m 107 #[rv a, iv sl, iv kd, iv er, iv 16] [.ref a])) rfl rfl (hb hby d4_107)
    obtain ⟨T54, X54, e54, st54⟩ := getF X53 hx hZ hown (host := "") (Or.inl (W 29 rfl)) Via.refl e53 fw (g := (mkF m 112 #[rv a, iv sl, iv kd, iv er, iv 16] [.ref a, .int 2, .ref b8b])) rfl rfl (hb hby d4_112)
    obtain ⟨cl55, Ar55, q55, S55, Ng55, Hh55, Gg55⟩ := id V49
    obtain ⟨T55, h55, X55, e55, W55, st55⟩ := stI X54 hx hZ e54 Ar55 (j := (5 : Int32)) (inb_of S55 (by decide)) (g := (mkF m 119 #[rv a, iv sl, iv kd, iv er, iv 16] [.int kd, .int 5, .ref b8b])) rfl rfl (hb hby d4_119)
    have V55 : Arv Z h55 b8b b8kb .int (32 : Int32) [(.int s0), (.int k0), (.int s1), (.int k1), (.int sl), (.int kd)] (.int (0 : Int32)) := Arv.set Ar55 q55 S55 Ng55 Hh55 Gg55 rfl W55 5 rfl (Nat.le_of_ble_eq_true rfl)
    have Ea := Ea.wr W55
    have fw := fw.other W55 (Or.inl ne_a_b8b)
    have fp := fp.other W55 (Or.inl ne_a_b8b)
    have Fz11 := Fz11.other W55 (Or.inl ne_a_b8b)
    have p16_2 := p16_2.other W55 (Ne.symm ne_b8b_b16b)
    have Fz19 := Fz19.other W55 (Or.inl ne_a_b8b)
    have p24_2 := p24_2.other W55 (Ne.symm ne_b8b_b24b)
    have p24_3 := p24_3.wr W55
    have Fz27 := Fz27.other W55 (Or.inl ne_a_b8b)
    have p32_2 := p32_2.other W55 (Ne.symm ne_b8b_b32b)
    have Fz35 := Fz35.other W55 (Or.inl ne_a_b8b)
    have p40_2 := p40_2.other W55 (Ne.symm ne_b8b_b40b)
    have Fz43 := Fz43.other W55 (Or.inl ne_a_b8b)
    have K57 := K51.wr W55 (Or.inr sz_b8b)
    have N58 := Fr.snoc X55 N52 g_b8b
    obtain ⟨T59, X59, e59, st59⟩ := getF X55 hx hZ hown (host := "") (Or.inl (W 14 rfl)) Via.refl e55 Fz19 (g := (mkF m 121 #[rv a, iv sl, iv kd, iv er, iv 16] [.ref a])) rfl rfl (hb hby d4_121)
    obtain ⟨T60, X60, e60, st60⟩ := getF X59 hx hZ hown (host := "") (Or.inl (W 29 rfl)) Via.refl e59 fw (g := (mkF m 125 #[rv a, iv sl, iv kd, iv er, iv 16] [.ref a, .ref b16b])) rfl rfl (hb hby d4_125)
    obtain ⟨cl61, Ar61, q61, S61, Ng61, Hh61, Gg61⟩ := id p16_2
    obtain ⟨T61, h61, X61, e61, W61, st61⟩ := stI X60 hx hZ e60 Ar61 (j := (2 : Int32)) (inb_of S61 (by decide)) (g := (mkF m 129 #[rv a, iv sl, iv kd, iv er, iv 16] [.int er, .int 2, .ref b16b])) rfl rfl (hb hby d4_129)
    have V61 : Arv Z h61 b16b b16kb .int (16 : Int32) [(.int t0), (.int t1), (.int er), (.int (0 : Int32)), (.int (0 : Int32)), (.int (0 : Int32))] (.int (0 : Int32)) := Arv.set Ar61 q61 S61 Ng61 Hh61 Gg61 rfl W61 2 rfl (Nat.le_of_ble_eq_true rfl)
    have Ea := Ea.wr W61
    have fw := fw.other W61 (Or.inl ne_a_b16b)
    have fp := fp.other W61 (Or.inl ne_a_b16b)
    have Fz11 := Fz11.other W61 (Or.inl ne_a_b16b)
    have Fz19 := Fz19.other W61 (Or.inl ne_a_b16b)
    have p24_2 := p24_2.other W61 (Ne.symm ne_b16b_b24b)
    have p24_3 := p24_3.wr W61
    have Fz27 := Fz27.other W61 (Or.inl ne_a_b16b)
    have p32_2 := p32_2.other W61 (Ne.symm ne_b16b_b32b)
    have Fz35 := Fz35.other W61 (Or.inl ne_a_b16b)
    have p40_2 := p40_2.other W61 (Ne.symm ne_b16b_b40b)
    have Fz43 := Fz43.other W61 (Or.inl ne_a_b16b)
    have V55 := V55.other W61 ne_b8b_b16b
    have K63 := K57.wr W61 (Or.inr sz_b16b)
    have N64 := Fr.snoc X61 N58 g_b16b
    obtain ⟨T65, X65, e65, st65⟩ := getF X61 hx hZ hown (host := "") (Or.inl (W 18 rfl)) Via.refl e61 Fz27 (g := (mkF m 131 #[rv a, iv sl, iv kd, iv er, iv 16] [.ref a])) rfl rfl (hb hby d4_131)
    obtain ⟨T66, X66, e66, st66⟩ := getF X65 hx hZ hown (host := "") (Or.inl (W 29 rfl)) Via.refl e65 fw (g := (mkF m 135 #[rv a, iv sl, iv kd, iv er, iv 16] [.ref a, .ref b24b])) rfl rfl (hb hby d4_135)
    obtain ⟨cl67, Ar67, q67, S67, Ng67, Hh67, Gg67⟩ := id p24_2
    obtain ⟨T67, h67, X67, e67, W67, st67⟩ := stR X66 hx hZ e66 Ar67 (j := (2 : Int32)) (inb_of S67 (by decide)) rfl (Or.inl rfl) (g := (mkF m 139 #[rv a, iv sl, iv kd, iv er, iv 16] [.null, .int 2, .ref b24b])) rfl rfl (hb hby d4_139)
    have V67 : Arv Z h67 b24b b24kb (.object "java/lang/Object") (16 : Int32) [.null, .null, .null, .null, .null, .null] .null := Arv.set Ar67 q67 S67 Ng67 Hh67 Gg67 rfl W67 2 rfl (Nat.le_of_ble_eq_true rfl)
    have Ea := Ea.wr W67
    have fw := fw.other W67 (Or.inl ne_a_b24b)
    have fp := fp.other W67 (Or.inl ne_a_b24b)
    have Fz11 := Fz11.other W67 (Or.inl ne_a_b24b)
    have Fz19 := Fz19.other W67 (Or.inl ne_a_b24b)
    have p24_3 := p24_3.wr W67
    have Fz27 := Fz27.other W67 (Or.inl ne_a_b24b)
    have p32_2 := p32_2.other W67 (Ne.symm ne_b24b_b32b)
    have Fz35 := Fz35.other W67 (Or.inl ne_a_b24b)
    have p40_2 := p40_2.other W67 (Ne.symm ne_b24b_b40b)
    have Fz43 := Fz43.other W67 (Or.inl ne_a_b24b)
    have V55 := V55.other W67 ne_b8b_b24b
    have V61 := V61.other W67 ne_b16b_b24b
    have K69 := K63.wr W67 (Or.inr sz_b24b)
    have N70 := Fr.snoc X67 N64 g_b24b
    obtain ⟨T71, X71, e71, st71⟩ := getF X67 hx hZ hown (host := "") (Or.inl (W 29 rfl)) Via.refl e67 fw (g := (mkF m 142 #[rv a, iv sl, iv kd, iv er, iv 16] [.ref a, .ref a])) rfl rfl (hb hby d4_142)
    obtain ⟨T72, h72, X72, e72, W72, st72⟩ := putF X71 hx hZ hown (host := "") (Or.inl (W 29 rfl)) Via.refl e71 fw Ea (Or.inl (W 30 rfl)) (W 1 rfl) (ty := .int) (by decide) rfl rfl (g := (mkF m 147 #[rv a, iv sl, iv kd, iv er, iv 16] [.int 3, .ref a])) rfl rfl (hb hby d4_147)
    have Fz72 := fw.same W72
    have fp := fp.other W72 (Or.inr (slot_ne (Or.inl (W 32 rfl)) (Or.inl (W 30 rfl)) (by decide) (t := .int) (t' := .int) (by decide) (by decide)))
    have Fz11 := Fz11.other W72 (Or.inr (slot_ne (Or.inl (W 13 rfl)) (Or.inl (W 30 rfl)) (by decide) (t := (.array .int)) (t' := .int) (by decide) (by decide)))
    have Fz19 := Fz19.other W72 (Or.inr (slot_ne (Or.inl (W 15 rfl)) (Or.inl (W 30 rfl)) (by decide) (t := (.array .int)) (t' := .int) (by decide) (by decide)))
    have p24_3 := p24_3.wr W72
    have Fz27 := Fz27.other W72 (Or.inr (slot_ne (Or.inl (W 19 rfl)) (Or.inl (W 30 rfl)) (by decide) (t := (.array (.object "java/lang/Object"))) (t' := .int) (by decide) (by decide)))
    have p32_2 := p32_2.other W72 (Ne.symm ne_a_b32b)
    have Fz35 := Fz35.other W72 (Or.inr (slot_ne (Or.inl (W 21 rfl)) (Or.inl (W 30 rfl)) (by decide) (t := (.array .int)) (t' := .int) (by decide) (by decide)))
    have p40_2 := p40_2.other W72 (Ne.symm ne_a_b40b)
    have Fz43 := Fz43.other W72 (Or.inr (slot_ne (Or.inl (W 23 rfl)) (Or.inl (W 30 rfl)) (by decide) (t := (.array .int)) (t' := .int) (by decide) (by decide)))
    have V55 := V55.other W72 (Ne.symm ne_a_b8b)
    have V61 := V61.other W72 (Ne.symm ne_a_b16b)
    have V67 := V67.other W72 (Ne.symm ne_a_b24b)
    have K74 := K69.wr W72 (Or.inl (List.mem_of_getElem? (i := 0) rfl))
    have N75 := Fr.snoc X72 N70 ga
    obtain ⟨T76, X76, e76, st76⟩ := getF X72 hx hZ hown (host := "") (Or.inl (W 29 rfl)) Via.refl e72 Fz72 (g := (mkF m 151 #[rv a, iv sl, iv kd, iv er, iv 16] [.ref a])) rfl rfl (hb hby d4_151)
    obtain ⟨fs, hr, hrun, hended, hW, hsame⟩ := X76.leave (v := some (.int (2 : Int32))) (fun h => by rw [Bd.returns] at h; cases h)
    refine ⟨_, _, pre4 _ ?_, hrun, hended, _, _, rfl, ?_, ⟨_, rfl⟩, hW, hsame.mono (by decide) (by decide)⟩
    · show Sq p e below m T2 9 #[rv a, iv sl, iv kd, iv er, .unset] [.int 2, .int 2] _
      refine XS.icmpNo X2.here hx rfl (hb hby d4_9) rfl (teq (rfl : (2 : Int32) = (2 : Int32))).2 ?_
      refine XS.iconst X2.here hx rfl (hb hby d4_12) ?_
      show Sq p e below m T2 13 #[rv a, iv sl, iv kd, iv er, .unset] [.int 2] _
      refine XS.aloadN X2.here hx rfl (hb hby d4_13) rfl rfl ?_
      show Sq p e below m T2 14 #[rv a, iv sl, iv kd, iv er, .unset] [.ref a, .int 2] _
      refine st5 _ ?_
      show Sq p e below m T5 17 #[rv a, iv sl, iv kd, iv er, .unset] [.int 2, .int 2] _
      refine XS.imul X5.here hx rfl (hb hby d4_17) rfl ?_
      show Sq p e below m T5 18 #[rv a, iv sl, iv kd, iv er, .unset] [.int ((2 : Int32) * (2 : Int32))] _
      rw [show ((2 : Int32) * (2 : Int32)) = (4 : Int32) from by decide]
      show Sq p e below m T5 18 #[rv a, iv sl, iv kd, iv er, .unset] [.int 4] _
      refine XS.bipush X5.here hx rfl (hb hby d4_18) ?_
      show Sq p e below m T5 20 #[rv a, iv sl, iv kd, iv er, .unset] [.int 16, .int 4] _
      refine st6 _ ?_
      show Sq p e below m T6 23 #[rv a, iv sl, iv kd, iv er, .unset] [.int 16] _
      refine XS.istore X6.here hx rfl (hb hby d4_23) rfl rfl ?_
      refine XS.aloadN X6.here hx rfl (hb hby d4_25) rfl rfl ?_
      show Sq p e below m T6 26 #[rv a, iv sl, iv kd, iv er, iv 16] [.ref a] _
      refine XS.aloadN X6.here hx rfl (hb hby d4_26) rfl rfl ?_
      show Sq p e below m T6 27 #[rv a, iv sl, iv kd, iv er, iv 16] [.ref a, .ref a] _
      refine st7 _ ?_
      show Sq p e below m T7 30 #[rv a, iv sl, iv kd, iv er, iv 16] [.ref lo, .ref a] _
      refine XS.iconst X7.here hx rfl (hb hby d4_30) ?_
      refine XS.iload X7.here hx rfl (hb hby d4_31) rfl ?_
      show Sq p e below m T7 33 #[rv a, iv sl, iv kd, iv er, iv 16] [.int 16, .int 2, .ref lo, .ref a] _
      refine XS.imul X7.here hx rfl (hb hby d4_33) rfl ?_
      show Sq p e below m T7 34 #[rv a, iv sl, iv kd, iv er, iv 16] [.int ((2 : Int32) * (16 : Int32)), .ref lo, .ref a] _
      rw [show ((2 : Int32) * (16 : Int32)) = (32 : Int32) from by decide]
      show Sq p e below m T7 34 #[rv a, iv sl, iv kd, iv er, iv 16] [.int 32, .ref lo, .ref a] _
      refine st8 _ ?_
      show Sq p e below m T8 37 #[rv a, iv sl, iv kd, iv er, iv 16] [.ref b8b, .ref a] _
      refine st11 _ ?_
      show Sq p e below m T11 40 #[rv a, iv sl, iv kd, iv er, iv 16] [] _
      refine XS.aloadN X11.here hx rfl (hb hby d4_40) rfl rfl ?_
      refine XS.aloadN X11.here hx rfl (hb hby d4_41) rfl rfl ?_
      show Sq p e below m T11 42 #[rv a, iv sl, iv kd, iv er, iv 16] [.ref a, .ref a] _
      refine st15 _ ?_
      show Sq p e below m T15 45 #[rv a, iv sl, iv kd, iv er, iv 16] [.ref ea, .ref a] _
      refine XS.iload X15.here hx rfl (hb hby d4_45) rfl ?_
      show Sq p e below m T15 47 #[rv a, iv sl, iv kd, iv er, iv 16] [.int 16, .ref ea, .ref a] _
      refine st16 _ ?_
      show Sq p e below m T16 50 #[rv a, iv sl, iv kd, iv er, iv 16] [.ref b16b, .ref a] _
      refine st19 _ ?_
      show Sq p e below m T19 53 #[rv a, iv sl, iv kd, iv er, iv 16] [] _
      refine XS.aloadN X19.here hx rfl (hb hby d4_53) rfl rfl ?_
      refine XS.aloadN X19.here hx rfl (hb hby d4_54) rfl rfl ?_
      show Sq p e below m T19 55 #[rv a, iv sl, iv kd, iv er, iv 16] [.ref a, .ref a] _
      refine st23 _ ?_
      show Sq p e below m T23 58 #[rv a, iv sl, iv kd, iv er, iv 16] [.ref ma, .ref a] _
      refine XS.iload X23.here hx rfl (hb hby d4_58) rfl ?_
      show Sq p e below m T23 60 #[rv a, iv sl, iv kd, iv er, iv 16] [.int 16, .ref ma, .ref a] _
      refine st24 _ ?_
      show Sq p e below m T24 63 #[rv a, iv sl, iv kd, iv er, iv 16] [.ref b24b, .ref a] _
      refine st27 _ ?_
      show Sq p e below m T27 66 #[rv a, iv sl, iv kd, iv er, iv 16] [] _
      refine XS.aloadN X27.here hx rfl (hb hby d4_66) rfl rfl ?_
      refine XS.aloadN X27.here hx rfl (hb hby d4_67) rfl rfl ?_
      show Sq p e below m T27 68 #[rv a, iv sl, iv kd, iv er, iv 16] [.ref a, .ref a] _
      refine st31 _ ?_
      show Sq p e below m T31 71 #[rv a, iv sl, iv kd, iv er, iv 16] [.ref un, .ref a] _
      refine XS.iload X31.here hx rfl (hb hby d4_71) rfl ?_
      show Sq p e below m T31 73 #[rv a, iv sl, iv kd, iv er, iv 16] [.int 16, .ref un, .ref a] _
      refine st32 _ ?_
      show Sq p e below m T32 76 #[rv a, iv sl, iv kd, iv er, iv 16] [.ref b32b, .ref a] _
      refine st35 _ ?_
      show Sq p e below m T35 79 #[rv a, iv sl, iv kd, iv er, iv 16] [] _
      refine XS.aloadN X35.here hx rfl (hb hby d4_79) rfl rfl ?_
      refine XS.aloadN X35.here hx rfl (hb hby d4_80) rfl rfl ?_
      show Sq p e below m T35 81 #[rv a, iv sl, iv kd, iv er, iv 16] [.ref a, .ref a] _
      refine st39 _ ?_
      show Sq p e below m T39 84 #[rv a, iv sl, iv kd, iv er, iv 16] [.ref li, .ref a] _
      refine XS.iconst X39.here hx rfl (hb hby d4_84) ?_
      refine XS.iload X39.here hx rfl (hb hby d4_85) rfl ?_
      show Sq p e below m T39 87 #[rv a, iv sl, iv kd, iv er, iv 16] [.int 16, .int 2, .ref li, .ref a] _
      refine XS.imul X39.here hx rfl (hb hby d4_87) rfl ?_
      show Sq p e below m T39 88 #[rv a, iv sl, iv kd, iv er, iv 16] [.int ((2 : Int32) * (16 : Int32)), .ref li, .ref a] _
      rw [show ((2 : Int32) * (16 : Int32)) = (32 : Int32) from by decide]
      show Sq p e below m T39 88 #[rv a, iv sl, iv kd, iv er, iv 16] [.int 32, .ref li, .ref a] _
      refine st40 _ ?_
      show Sq p e below m T40 91 #[rv a, iv sl, iv kd, iv er, iv 16] [.ref b40b, .ref a] _
      refine st43 _ ?_
      show Sq p e below m T43 94 #[rv a, iv sl, iv kd, iv er, iv 16] [] _
      refine XS.aloadN X43.here hx rfl (hb hby d4_94) rfl rfl ?_
      show Sq p e below m T43 95 #[rv a, iv sl, iv kd, iv er, iv 16] [.ref a] _
      refine st47 _ ?_
      show Sq p e below m T47 98 #[rv a, iv sl, iv kd, iv er, iv 16] [.ref b8b] _
      refine XS.iconst X47.here hx rfl (hb hby d4_98) ?_
      refine XS.aloadN X47.here hx rfl (hb hby d4_99) rfl rfl ?_
      show Sq p e below m T47 100 #[rv a, iv sl, iv kd, iv er, iv 16] [.ref a, .int 2, .ref b8b] _
      refine st48 _ ?_
      show Sq p e below m T48 103 #[rv a, iv sl, iv kd, iv er, iv 16] [.int 2, .int 2, .ref b8b] _
      refine XS.imul X48.here hx rfl (hb hby d4_103) rfl ?_
      show Sq p e below m T48 104 #[rv a, iv sl, iv kd, iv er, iv 16] [.int ((2 : Int32) * (2 : Int32)), .ref b8b] _
      rw [show ((2 : Int32) * (2 : Int32)) = (4 : Int32) from by decide]
      show Sq p e below m T48 104 #[rv a, iv sl, iv kd, iv er, iv 16] [.int 4, .ref b8b] _
      refine XS.iloadN X48.here hx rfl (hb hby d4_104) rfl ?_
      show Sq p e below m T48 105 #[rv a, iv sl, iv kd, iv er, iv 16] [.int sl, .int 4, .ref b8b] _
      refine st49 _ ?_
      show Sq p e below m T49 106 #[rv a, iv sl, iv kd, iv er, iv 16] [] _
      refine XS.aloadN X49.here hx rfl (hb hby d4_106) rfl rfl ?_
      show Sq p e below m T49 107 #[rv a, iv sl, iv kd, iv er, iv 16] [.ref a] _
      refine st53 _ ?_
      show Sq p e below m T53 110 #[rv a, iv sl, iv kd, iv er, iv 16] [.ref b8b] _
      refine XS.iconst X53.here hx rfl (hb hby d4_110) ?_
      refine XS.aloadN X53.here hx rfl (hb hby d4_111) rfl rfl ?_
      show Sq p e below m T53 112 #[rv a, iv sl, iv kd, iv er, iv 16] [.ref a, .int 2, .ref b8b] _
      refine st54 _ ?_
      show Sq p e below m T54 115 #[rv a, iv sl, iv kd, iv er, iv 16] [.int 2, .int 2, .ref b8b] _
      refine XS.imul X54.here hx rfl (hb hby d4_115) rfl ?_
      show Sq p e below m T54 116 #[rv a, iv sl, iv kd, iv er, iv 16] [.int ((2 : Int32) * (2 : Int32)), .ref b8b] _
      rw [show ((2 : Int32) * (2 : Int32)) = (4 : Int32) from by decide]
      show Sq p e below m T54 116 #[rv a, iv sl, iv kd, iv er, iv 16] [.int 4, .ref b8b] _
      refine XS.iconst X54.here hx rfl (hb hby d4_116) ?_
      refine XS.iadd X54.here hx rfl (hb hby d4_117) rfl ?_
      show Sq p e below m T54 118 #[rv a, iv sl, iv kd, iv er, iv 16] [.int ((4 : Int32) + (1 : Int32)), .ref b8b] _
      rw [show ((4 : Int32) + (1 : Int32)) = (5 : Int32) from by decide]
      show Sq p e below m T54 118 #[rv a, iv sl, iv kd, iv er, iv 16] [.int 5, .ref b8b] _
      refine XS.iloadN X54.here hx rfl (hb hby d4_118) rfl ?_
      show Sq p e below m T54 119 #[rv a, iv sl, iv kd, iv er, iv 16] [.int kd, .int 5, .ref b8b] _
      refine st55 _ ?_
      show Sq p e below m T55 120 #[rv a, iv sl, iv kd, iv er, iv 16] [] _
      refine XS.aloadN X55.here hx rfl (hb hby d4_120) rfl rfl ?_
      show Sq p e below m T55 121 #[rv a, iv sl, iv kd, iv er, iv 16] [.ref a] _
      refine st59 _ ?_
      show Sq p e below m T59 124 #[rv a, iv sl, iv kd, iv er, iv 16] [.ref b16b] _
      refine XS.aloadN X59.here hx rfl (hb hby d4_124) rfl rfl ?_
      show Sq p e below m T59 125 #[rv a, iv sl, iv kd, iv er, iv 16] [.ref a, .ref b16b] _
      refine st60 _ ?_
      show Sq p e below m T60 128 #[rv a, iv sl, iv kd, iv er, iv 16] [.int 2, .ref b16b] _
      refine XS.iloadN X60.here hx rfl (hb hby d4_128) rfl ?_
      show Sq p e below m T60 129 #[rv a, iv sl, iv kd, iv er, iv 16] [.int er, .int 2, .ref b16b] _
      refine st61 _ ?_
      show Sq p e below m T61 130 #[rv a, iv sl, iv kd, iv er, iv 16] [] _
      refine XS.aloadN X61.here hx rfl (hb hby d4_130) rfl rfl ?_
      show Sq p e below m T61 131 #[rv a, iv sl, iv kd, iv er, iv 16] [.ref a] _
      refine st65 _ ?_
      show Sq p e below m T65 134 #[rv a, iv sl, iv kd, iv er, iv 16] [.ref b24b] _
      refine XS.aloadN X65.here hx rfl (hb hby d4_134) rfl rfl ?_
      show Sq p e below m T65 135 #[rv a, iv sl, iv kd, iv er, iv 16] [.ref a, .ref b24b] _
      refine st66 _ ?_
      show Sq p e below m T66 138 #[rv a, iv sl, iv kd, iv er, iv 16] [.int 2, .ref b24b] _
      refine XS.aconstNull X66.here hx rfl (hb hby d4_138) ?_
      show Sq p e below m T66 139 #[rv a, iv sl, iv kd, iv er, iv 16] [.null, .int 2, .ref b24b] _
      refine st67 _ ?_
      show Sq p e below m T67 140 #[rv a, iv sl, iv kd, iv er, iv 16] [] _
      refine XS.aloadN X67.here hx rfl (hb hby d4_140) rfl rfl ?_
      refine XS.dup X67.here hx rfl (hb hby d4_141) rfl rfl ?_
      show Sq p e below m T67 142 #[rv a, iv sl, iv kd, iv er, iv 16] [.ref a, .ref a] _
      refine st71 _ ?_
      show Sq p e below m T71 145 #[rv a, iv sl, iv kd, iv er, iv 16] [.int 2, .ref a] _
      refine XS.iconst X71.here hx rfl (hb hby d4_145) ?_
      refine XS.iadd X71.here hx rfl (hb hby d4_146) rfl ?_
      show Sq p e below m T71 147 #[rv a, iv sl, iv kd, iv er, iv 16] [.int ((2 : Int32) + (1 : Int32)), .ref a] _
      rw [show ((2 : Int32) + (1 : Int32)) = (3 : Int32) from by decide]
      show Sq p e below m T71 147 #[rv a, iv sl, iv kd, iv er, iv 16] [.int 3, .ref a] _
      refine st72 _ ?_
      show Sq p e below m T72 150 #[rv a, iv sl, iv kd, iv er, iv 16] [] _
      refine XS.aloadN X72.here hx rfl (hb hby d4_150) rfl rfl ?_
      show Sq p e below m T72 151 #[rv a, iv sl, iv kd, iv er, iv 16] [.ref a] _
      refine st76 _ ?_
      show Sq p e below m T76 154 #[rv a, iv sl, iv kd, iv er, iv 16] [.int 3] _
      refine XS.iconst X76.here hx rfl (hb hby d4_154) ?_
      refine XS.isub X76.here hx rfl (hb hby d4_155) rfl ?_
      show Sq p e below m T76 156 #[rv a, iv sl, iv kd, iv er, iv 16] [.int ((3 : Int32) - (1 : Int32))] _
      rw [show ((3 : Int32) - (1 : Int32)) = (2 : Int32) from by decide]
      show Sq p e below m T76 156 #[rv a, iv sl, iv kd, iv er, iv 16] [.int 2] _
      exact retI X76 hx Bd.returns (hb hby d4_156) hr
    · show Q_write2 Z a sl kd er (2 : Int32) ps w_MIR lo ea ma un li kl ke km ku ki s0 k0 s1 k1 t0 t1 h0 n0 _ T76.heap _
      rw [e76]
      exact ⟨b8b, b16b, b24b, b32b, b40b, b8kb, b16kb, b24kb, b32kb, b40kb, (16 : Int32), rfl, N75, K74, Fz11, Fz19, Fz27, Fz35, Fz43, Fz72, fp, V55, V61, V67, p32_2, p40_2, p24_3, g_b8b, g_b16b, g_b24b, g_b32b, g_b40b, ne_b8b_b16b, ne_b8b_b24b, ne_b8b_b32b, ne_b8b_b40b, ne_b16b_b24b, ne_b16b_b32b, ne_b16b_b40b, ne_b24b_b32b, ne_b24b_b40b, ne_b32b_b40b, ne_a_b8b, ne_a_b16b, ne_a_b24b, ne_a_b32b, ne_a_b40b, (by decide)⟩
  · obtain ⟨T5, X5, e5, st5⟩ := getF X2 hx hZ hown (host := "") (Or.inl (W 12 rfl)) Via.refl e2 f0 (g := (mkF m 95 #[rv a, iv sl, iv kd, iv er, .unset] [.ref a])) rfl rfl (hb hby d4_95)
    obtain ⟨T6, X6, e6, st6⟩ := getF X5 hx hZ hown (host := "") (Or.inl (W 29 rfl)) Via.refl e5 fw (g := (mkF m 100 #[rv a, iv sl, iv kd, iv er, .unset] [.ref a, .int 2, .ref lo])) rfl rfl (hb hby d4_100)
    obtain ⟨cl7, Ar7, q7, S7, Ng7, Hh7, Gg7⟩ := id v0
    obtain ⟨T7, h7, X7, e7, W7, st7⟩ := stI X6 hx hZ e6 Ar7 (j := (4 : Int32)) (inb_of S7 (own_i2 hlt hn (by decide) (by decide) (by decide))) (g := (mkF m 105 #[rv a, iv sl, iv kd, iv er, .unset] [.int sl, .int 4, .ref lo])) rfl rfl (hb hby d4_105)
    have V7 : Arv Z h7 lo kl .int ((2 : Int32) * n) [(.int s0), (.int k0), (.int s1), (.int k1), (.int sl), (.int (0 : Int32))] (.int (0 : Int32)) := Arv.set Ar7 q7 S7 Ng7 Hh7 Gg7 rfl W7 4 rfl (Nat.le_of_ble_eq_true rfl)
    have Ea := Ea.wr W7
    have Em := Em.wr W7
    have f0 := f0.other W7 (Or.inl na0)
    have f1 := f1.other W7 (Or.inl na0)
    have f2 := f2.other W7 (Or.inl na0)
    have f3 := f3.other W7 (Or.inl na0)
    have f4 := f4.other W7 (Or.inl na0)
    have fw := fw.other W7 (Or.inl na0)
    have fp := fp.other W7 (Or.inl na0)
    have v1 := v1.other W7 (Ne.symm ne0)
    have v2 := v2.other W7 (Ne.symm ne1)
    have v3 := v3.other W7 (Ne.symm ne2)
    have v4 := v4.other W7 (Ne.symm ne3)
    have K9 := K0.wr W7 (Or.inl (List.mem_of_getElem? (i := 1) rfl))
    have N10 := Fr.snoc X7 N0 g0
    obtain ⟨T11, X11, e11, st11⟩ := getF X7 hx hZ hown (host := "") (Or.inl (W 12 rfl)) Via.refl e7 f0 (g := (mkF m 107 #[rv a, iv sl, iv kd, iv er, .unset] [.ref a])) rfl rfl (hb hby d4_107)
    obtain ⟨T12, X12, e12, st12⟩ := getF X11 hx hZ hown (host := "") (Or.inl (W 29 rfl)) Via.refl e11 fw (g := (mkF m 112 #[rv a, iv sl, iv kd, iv er, .unset] [.ref a, .int 2, .ref lo])) rfl rfl (hb hby d4_112)
    obtain ⟨cl13, Ar13, q13, S13, Ng13, Hh13, Gg13⟩ := id V7
    obtain ⟨T13, h13, X13, e13, W13, st13⟩ := stI X12 hx hZ e12 Ar13 (j := (5 : Int32)) (inb_of S13 (own_i2 hlt hn (by decide) (by decide) (by decide))) (g := (mkF m 119 #[rv a, iv sl, iv kd, iv er, .unset] [.int kd, .int 5, .ref lo])) rfl rfl (hb hby d4_119)
    have V13 : Arv Z h13 lo kl .int ((2 : Int32) * n) [(.int s0), (.int k0), (.int s1), (.int k1), (.int sl), (.int kd)] (.int (0 : Int32)) := Arv.set Ar13 q13 S13 Ng13 Hh13 Gg13 rfl W13 5 rfl (Nat.le_of_ble_eq_true rfl)
    have Ea := Ea.wr W13
    have Em := Em.wr W13
    have f0 := f0.other W13 (Or.inl na0)
    have f1 := f1.other W13 (Or.inl na0)
    have f2 := f2.other W13 (Or.inl na0)
    have f3 := f3.other W13 (Or.inl na0)
    have f4 := f4.other W13 (Or.inl na0)
    have fw := fw.other W13 (Or.inl na0)
    have fp := fp.other W13 (Or.inl na0)
    have v1 := v1.other W13 (Ne.symm ne0)
    have v2 := v2.other W13 (Ne.symm ne1)
    have v3 := v3.other W13 (Ne.symm ne2)
    have v4 := v4.other W13 (Ne.symm ne3)
    have K15 := K9.wr W13 (Or.inl (List.mem_of_getElem? (i := 1) rfl))
    have N16 := Fr.snoc X13 N10 g0
    obtain ⟨T17, X17, e17, st17⟩ := getF X13 hx hZ hown (host := "") (Or.inl (W 14 rfl)) Via.refl e13 f1 (g := (mkF m 121 #[rv a, iv sl, iv kd, iv er, .unset] [.ref a])) rfl rfl (hb hby d4_121)
    obtain ⟨T18, X18, e18, st18⟩ := getF X17 hx hZ hown (host := "") (Or.inl (W 29 rfl)) Via.refl e17 fw (g := (mkF m 125 #[rv a, iv sl, iv kd, iv er, .unset] [.ref a, .ref ea])) rfl rfl (hb hby d4_125)
    obtain ⟨cl19, Ar19, q19, S19, Ng19, Hh19, Gg19⟩ := id v1
    obtain ⟨T19, h19, X19, e19, W19, st19⟩ := stI X18 hx hZ e18 Ar19 (j := (2 : Int32)) (inb_of S19 ⟨by decide, hlt⟩) (g := (mkF m 129 #[rv a, iv sl, iv kd, iv er, .unset] [.int er, .int 2, .ref ea])) rfl rfl (hb hby d4_129)
    have V19 : Arv Z h19 ea ke .int n [(.int t0), (.int t1), (.int er), (.int (0 : Int32)), (.int (0 : Int32)), (.int (0 : Int32))] (.int (0 : Int32)) := Arv.set Ar19 q19 S19 Ng19 Hh19 Gg19 rfl W19 2 rfl (Nat.le_of_ble_eq_true rfl)
    have Ea := Ea.wr W19
    have Em := Em.wr W19
    have f0 := f0.other W19 (Or.inl na1)
    have f1 := f1.other W19 (Or.inl na1)
    have f2 := f2.other W19 (Or.inl na1)
    have f3 := f3.other W19 (Or.inl na1)
    have f4 := f4.other W19 (Or.inl na1)
    have fw := fw.other W19 (Or.inl na1)
    have fp := fp.other W19 (Or.inl na1)
    have v2 := v2.other W19 (Ne.symm ne4)
    have v3 := v3.other W19 (Ne.symm ne5)
    have v4 := v4.other W19 (Ne.symm ne6)
    have V13 := V13.other W19 ne0
    have K21 := K15.wr W19 (Or.inl (List.mem_of_getElem? (i := 2) rfl))
    have N22 := Fr.snoc X19 N16 g1
    obtain ⟨T23, X23, e23, st23⟩ := getF X19 hx hZ hown (host := "") (Or.inl (W 18 rfl)) Via.refl e19 f2 (g := (mkF m 131 #[rv a, iv sl, iv kd, iv er, .unset] [.ref a])) rfl rfl (hb hby d4_131)
    obtain ⟨T24, X24, e24, st24⟩ := getF X23 hx hZ hown (host := "") (Or.inl (W 29 rfl)) Via.refl e23 fw (g := (mkF m 135 #[rv a, iv sl, iv kd, iv er, .unset] [.ref a, .ref ma])) rfl rfl (hb hby d4_135)
    obtain ⟨cl25, Ar25, q25, S25, Ng25, Hh25, Gg25⟩ := id v2
    obtain ⟨T25, h25, X25, e25, W25, st25⟩ := stR X24 hx hZ e24 Ar25 (j := (2 : Int32)) (inb_of S25 ⟨by decide, hlt⟩) rfl (Or.inl rfl) (g := (mkF m 139 #[rv a, iv sl, iv kd, iv er, .unset] [.null, .int 2, .ref ma])) rfl rfl (hb hby d4_139)
    have V25 : Arv Z h25 ma km (.object "java/lang/Object") n [.null, .null, .null, .null, .null, .null] .null := Arv.set Ar25 q25 S25 Ng25 Hh25 Gg25 rfl W25 2 rfl (Nat.le_of_ble_eq_true rfl)
    have Ea := Ea.wr W25
    have Em := Em.wr W25
    have f0 := f0.other W25 (Or.inl na2)
    have f1 := f1.other W25 (Or.inl na2)
    have f2 := f2.other W25 (Or.inl na2)
    have f3 := f3.other W25 (Or.inl na2)
    have f4 := f4.other W25 (Or.inl na2)
    have fw := fw.other W25 (Or.inl na2)
    have fp := fp.other W25 (Or.inl na2)
    have v3 := v3.other W25 (Ne.symm ne7)
    have v4 := v4.other W25 (Ne.symm ne8)
    have V13 := V13.other W25 ne1
    have V19 := V19.other W25 ne4
    have K27 := K21.wr W25 (Or.inl (List.mem_of_getElem? (i := 3) rfl))
    have N28 := Fr.snoc X25 N22 g2
    obtain ⟨T29, X29, e29, st29⟩ := getF X25 hx hZ hown (host := "") (Or.inl (W 29 rfl)) Via.refl e25 fw (g := (mkF m 142 #[rv a, iv sl, iv kd, iv er, .unset] [.ref a, .ref a])) rfl rfl (hb hby d4_142)
    obtain ⟨T30, h30, X30, e30, W30, st30⟩ := putF X29 hx hZ hown (host := "") (Or.inl (W 29 rfl)) Via.refl e29 fw Ea (Or.inl (W 30 rfl)) (W 1 rfl) (ty := .int) (by decide) rfl rfl (g := (mkF m 147 #[rv a, iv sl, iv kd, iv er, .unset] [.int 3, .ref a])) rfl rfl (hb hby d4_147)
    have Fz30 := fw.same W30
    have Em := Em.wr W30
    have f0 := f0.other W30 (Or.inr (slot_ne (Or.inl (W 13 rfl)) (Or.inl (W 30 rfl)) (by decide) (t := (.array .int)) (t' := .int) (by decide) (by decide)))
    have f1 := f1.other W30 (Or.inr (slot_ne (Or.inl (W 15 rfl)) (Or.inl (W 30 rfl)) (by decide) (t := (.array .int)) (t' := .int) (by decide) (by decide)))
    have f2 := f2.other W30 (Or.inr (slot_ne (Or.inl (W 19 rfl)) (Or.inl (W 30 rfl)) (by decide) (t := (.array (.object "java/lang/Object"))) (t' := .int) (by decide) (by decide)))
    have f3 := f3.other W30 (Or.inr (slot_ne (Or.inl (W 21 rfl)) (Or.inl (W 30 rfl)) (by decide) (t := (.array .int)) (t' := .int) (by decide) (by decide)))
    have f4 := f4.other W30 (Or.inr (slot_ne (Or.inl (W 23 rfl)) (Or.inl (W 30 rfl)) (by decide) (t := (.array .int)) (t' := .int) (by decide) (by decide)))
    have fp := fp.other W30 (Or.inr (slot_ne (Or.inl (W 32 rfl)) (Or.inl (W 30 rfl)) (by decide) (t := .int) (t' := .int) (by decide) (by decide)))
    have v3 := v3.other W30 (Ne.symm na3)
    have v4 := v4.other W30 (Ne.symm na4)
    have V13 := V13.other W30 (Ne.symm na0)
    have V19 := V19.other W30 (Ne.symm na1)
    have V25 := V25.other W30 (Ne.symm na2)
    have K32 := K27.wr W30 (Or.inl (List.mem_of_getElem? (i := 0) rfl))
    have N33 := Fr.snoc X30 N28 ga
    obtain ⟨T34, X34, e34, st34⟩ := getF X30 hx hZ hown (host := "") (Or.inl (W 29 rfl)) Via.refl e30 Fz30 (g := (mkF m 151 #[rv a, iv sl, iv kd, iv er, .unset] [.ref a])) rfl rfl (hb hby d4_151)
    obtain ⟨fs, hr, hrun, hended, hW, hsame⟩ := X34.leave (v := some (.int (2 : Int32))) (fun h => by rw [Bd.returns] at h; cases h)
    refine ⟨_, _, pre4 _ ?_, hrun, hended, _, _, rfl, ?_, ⟨_, rfl⟩, hW, hsame.mono (by decide) (by decide)⟩
    · show Sq p e below m T2 9 #[rv a, iv sl, iv kd, iv er, .unset] [.int n, .int 2] _
      refine XS.icmpYes X2.here hx rfl (pc0 := 9) (pc' := 94) rfl (hb hby d4_9) rfl (feq (own_neq hlt : ¬ ((2 : Int32) = n))).2 (by decide) (by decide) ?_
      refine XS.aloadN X2.here hx rfl (hb hby d4_94) rfl rfl ?_
      show Sq p e below m T2 95 #[rv a, iv sl, iv kd, iv er, .unset] [.ref a] _
      refine st5 _ ?_
      show Sq p e below m T5 98 #[rv a, iv sl, iv kd, iv er, .unset] [.ref lo] _
      refine XS.iconst X5.here hx rfl (hb hby d4_98) ?_
      refine XS.aloadN X5.here hx rfl (hb hby d4_99) rfl rfl ?_
      show Sq p e below m T5 100 #[rv a, iv sl, iv kd, iv er, .unset] [.ref a, .int 2, .ref lo] _
      refine st6 _ ?_
      show Sq p e below m T6 103 #[rv a, iv sl, iv kd, iv er, .unset] [.int 2, .int 2, .ref lo] _
      refine XS.imul X6.here hx rfl (hb hby d4_103) rfl ?_
      show Sq p e below m T6 104 #[rv a, iv sl, iv kd, iv er, .unset] [.int ((2 : Int32) * (2 : Int32)), .ref lo] _
      rw [show ((2 : Int32) * (2 : Int32)) = (4 : Int32) from by decide]
      show Sq p e below m T6 104 #[rv a, iv sl, iv kd, iv er, .unset] [.int 4, .ref lo] _
      refine XS.iloadN X6.here hx rfl (hb hby d4_104) rfl ?_
      show Sq p e below m T6 105 #[rv a, iv sl, iv kd, iv er, .unset] [.int sl, .int 4, .ref lo] _
      refine st7 _ ?_
      show Sq p e below m T7 106 #[rv a, iv sl, iv kd, iv er, .unset] [] _
      refine XS.aloadN X7.here hx rfl (hb hby d4_106) rfl rfl ?_
      show Sq p e below m T7 107 #[rv a, iv sl, iv kd, iv er, .unset] [.ref a] _
      refine st11 _ ?_
      show Sq p e below m T11 110 #[rv a, iv sl, iv kd, iv er, .unset] [.ref lo] _
      refine XS.iconst X11.here hx rfl (hb hby d4_110) ?_
      refine XS.aloadN X11.here hx rfl (hb hby d4_111) rfl rfl ?_
      show Sq p e below m T11 112 #[rv a, iv sl, iv kd, iv er, .unset] [.ref a, .int 2, .ref lo] _
      refine st12 _ ?_
      show Sq p e below m T12 115 #[rv a, iv sl, iv kd, iv er, .unset] [.int 2, .int 2, .ref lo] _
      refine XS.imul X12.here hx rfl (hb hby d4_115) rfl ?_
      show Sq p e below m T12 116 #[rv a, iv sl, iv kd, iv er, .unset] [.int ((2 : Int32) * (2 : Int32)), .ref lo] _
      rw [show ((2 : Int32) * (2 : Int32)) = (4 : Int32) from by decide]
      show Sq p e below m T12 116 #[rv a, iv sl, iv kd, iv er, .unset] [.int 4, .ref lo] _
      refine XS.iconst X12.here hx rfl (hb hby d4_116) ?_
      refine XS.iadd X12.here hx rfl (hb hby d4_117) rfl ?_
      show Sq p e below m T12 118 #[rv a, iv sl, iv kd, iv er, .unset] [.int ((4 : Int32) + (1 : Int32)), .ref lo] _
      rw [show ((4 : Int32) + (1 : Int32)) = (5 : Int32) from by decide]
      show Sq p e below m T12 118 #[rv a, iv sl, iv kd, iv er, .unset] [.int 5, .ref lo] _
      refine XS.iloadN X12.here hx rfl (hb hby d4_118) rfl ?_
      show Sq p e below m T12 119 #[rv a, iv sl, iv kd, iv er, .unset] [.int kd, .int 5, .ref lo] _
      refine st13 _ ?_
      show Sq p e below m T13 120 #[rv a, iv sl, iv kd, iv er, .unset] [] _
      refine XS.aloadN X13.here hx rfl (hb hby d4_120) rfl rfl ?_
      show Sq p e below m T13 121 #[rv a, iv sl, iv kd, iv er, .unset] [.ref a] _
      refine st17 _ ?_
      show Sq p e below m T17 124 #[rv a, iv sl, iv kd, iv er, .unset] [.ref ea] _
      refine XS.aloadN X17.here hx rfl (hb hby d4_124) rfl rfl ?_
      show Sq p e below m T17 125 #[rv a, iv sl, iv kd, iv er, .unset] [.ref a, .ref ea] _
      refine st18 _ ?_
      show Sq p e below m T18 128 #[rv a, iv sl, iv kd, iv er, .unset] [.int 2, .ref ea] _
      refine XS.iloadN X18.here hx rfl (hb hby d4_128) rfl ?_
      show Sq p e below m T18 129 #[rv a, iv sl, iv kd, iv er, .unset] [.int er, .int 2, .ref ea] _
      refine st19 _ ?_
      show Sq p e below m T19 130 #[rv a, iv sl, iv kd, iv er, .unset] [] _
      refine XS.aloadN X19.here hx rfl (hb hby d4_130) rfl rfl ?_
      show Sq p e below m T19 131 #[rv a, iv sl, iv kd, iv er, .unset] [.ref a] _
      refine st23 _ ?_
      show Sq p e below m T23 134 #[rv a, iv sl, iv kd, iv er, .unset] [.ref ma] _
      refine XS.aloadN X23.here hx rfl (hb hby d4_134) rfl rfl ?_
      show Sq p e below m T23 135 #[rv a, iv sl, iv kd, iv er, .unset] [.ref a, .ref ma] _
      refine st24 _ ?_
      show Sq p e below m T24 138 #[rv a, iv sl, iv kd, iv er, .unset] [.int 2, .ref ma] _
      refine XS.aconstNull X24.here hx rfl (hb hby d4_138) ?_
      show Sq p e below m T24 139 #[rv a, iv sl, iv kd, iv er, .unset] [.null, .int 2, .ref ma] _
      refine st25 _ ?_
      show Sq p e below m T25 140 #[rv a, iv sl, iv kd, iv er, .unset] [] _
      refine XS.aloadN X25.here hx rfl (hb hby d4_140) rfl rfl ?_
      refine XS.dup X25.here hx rfl (hb hby d4_141) rfl rfl ?_
      show Sq p e below m T25 142 #[rv a, iv sl, iv kd, iv er, .unset] [.ref a, .ref a] _
      refine st29 _ ?_
      show Sq p e below m T29 145 #[rv a, iv sl, iv kd, iv er, .unset] [.int 2, .ref a] _
      refine XS.iconst X29.here hx rfl (hb hby d4_145) ?_
      refine XS.iadd X29.here hx rfl (hb hby d4_146) rfl ?_
      show Sq p e below m T29 147 #[rv a, iv sl, iv kd, iv er, .unset] [.int ((2 : Int32) + (1 : Int32)), .ref a] _
      rw [show ((2 : Int32) + (1 : Int32)) = (3 : Int32) from by decide]
      show Sq p e below m T29 147 #[rv a, iv sl, iv kd, iv er, .unset] [.int 3, .ref a] _
      refine st30 _ ?_
      show Sq p e below m T30 150 #[rv a, iv sl, iv kd, iv er, .unset] [] _
      refine XS.aloadN X30.here hx rfl (hb hby d4_150) rfl rfl ?_
      show Sq p e below m T30 151 #[rv a, iv sl, iv kd, iv er, .unset] [.ref a] _
      refine st34 _ ?_
      show Sq p e below m T34 154 #[rv a, iv sl, iv kd, iv er, .unset] [.int 3] _
      refine XS.iconst X34.here hx rfl (hb hby d4_154) ?_
      refine XS.isub X34.here hx rfl (hb hby d4_155) rfl ?_
      show Sq p e below m T34 156 #[rv a, iv sl, iv kd, iv er, .unset] [.int ((3 : Int32) - (1 : Int32))] _
      rw [show ((3 : Int32) - (1 : Int32)) = (2 : Int32) from by decide]
      show Sq p e below m T34 156 #[rv a, iv sl, iv kd, iv er, .unset] [.int 2] _
      exact retI X34 hx Bd.returns (hb hby d4_156) hr
    · show Q_write2 Z a sl kd er n ps w_MIR lo ea ma un li kl ke km ku ki s0 k0 s1 k1 t0 t1 h0 n0 _ T34.heap _
      rw [e34]
      exact ⟨lo, ea, ma, un, li, kl, ke, km, ku, ki, n, rfl, N33, K32, f0, f1, f2, f3, f4, Fz30, fp, V13, V19, V25, v3, v4, Em, g0, g1, g2, g3, g4, ne0, ne1, ne2, ne3, ne4, ne5, ne6, ne7, ne8, ne9, na0, na1, na2, na3, na4, (own_nx hlt hn (by decide))⟩
theorem d10_0 : decode prog_20_method_6_code 0 = .ok (.iconst 0, 1) := by decide +kernel
theorem d10_1 : decode prog_20_method_6_code 1 = .ok (.istore_n 2, 1) := by decide +kernel
theorem d10_2 : decode prog_20_method_6_code 2 = .ok (.iload_n 1, 1) := by decide +kernel
theorem d10_3 : decode prog_20_method_6_code 3 = .ok (.istore_n 3, 1) := by decide +kernel
theorem d10_4 : decode prog_20_method_6_code 4 = .ok (.iload_n 3, 1) := by decide +kernel
theorem d10_5 : decode prog_20_method_6_code 5 = .ok (.iconst (-1), 1) := by decide +kernel
theorem d10_6 : decode prog_20_method_6_code 6 = .ok (.if_icmp .eq 16, 3) := by decide +kernel
theorem d10_22 : decode prog_20_method_6_code 22 = .ok (.iload_n 2, 1) := by decide +kernel
theorem d10_23 : decode prog_20_method_6_code 23 = .ok (.istore_n 3, 1) := by decide +kernel
theorem d10_24 : decode prog_20_method_6_code 24 = .ok (.iload_n 1, 1) := by decide +kernel
theorem d10_25 : decode prog_20_method_6_code 25 = .ok (.istore 4, 2) := by decide +kernel
theorem d10_27 : decode prog_20_method_6_code 27 = .ok (.iload 4, 2) := by decide +kernel
theorem d10_29 : decode prog_20_method_6_code 29 = .ok (.iconst (-1), 1) := by decide +kernel
theorem d10_30 : decode prog_20_method_6_code 30 = .ok (.if_icmp .eq 56, 3) := by decide +kernel
theorem d10_86 : decode prog_20_method_6_code 86 = .ok (.iload_n 2, 1) := by decide +kernel
theorem d10_87 : decode prog_20_method_6_code 87 = .ok (.ireturn, 1) := by decide +kernel
def Q_pathN (Z : State) (a : Addr) (n : Int32) (lo : Addr) (ea : Addr) (li : Addr) (kl : ClassId) (ke : ClassId) (ki : ClassId) (s0 : Int32) (k0 : Int32) (s1 : Int32) (k1 : Int32) (s2 : Int32) (k2 : Int32) (x1 : Int32) (x2 : Int32) (h0 : Heap) (n0 : Nat) (v : Option Value) (h : Heap) (L : List Loc) : Prop := v = some (.int (0 : Int32)) ∧ Fr n0 L ∧ Keep h0 h [li] ∧ Arv Z h li ki .int ((2 : Int32) * n) [(.int (0 : Int32)), (.int (0 : Int32)), (.int (0 : Int32)), (.int (0 : Int32)), (.int (0 : Int32)), (.int (0 : Int32))] (.int (0 : Int32))
theorem ef_10 (m : MethodId) (x0 : Addr) (x1 : Int32) : entryFrame m #[(.ref x0), (.int x1)] 5 = mkF m 0 #[.val (.ref x0), .val (.int x1), .unset, .unset, .unset] [] := by first | (simp [entryFrame, mkF, argsToLocals, Value.category]; done) | rfl
abbrev y_8 : MethodName := ⟨"com/example/dodder/dodder/engine/PathWrites", "path", "(I)I"⟩
set_option maxRecDepth 65536 in
set_option maxHeartbeats 40000000 in
theorem pathN (l : Launch) (Z : State) (a0 : Array Value) (hw : ∀ d ∈ tables_1, d.before a0 Z = true) (ws : List Jvm.Cond) (a : Addr) (n : Int32) (lo : Addr) (ea : Addr) (li : Addr) (kl : ClassId) (ke : ClassId) (ki : ClassId) (s0 : Int32) (k0 : Int32) (s1 : Int32) (k1 : Int32) (s2 : Int32) (k2 : Int32) (x1 : Int32) (x2 : Int32) (h0 : Heap) (n0 : Nat) (O : Old Z n0 h0) (f0 : Fld Z h0 a "com/example/dodder/dodder/engine/PathWrites" "logged" "[I" (.ref lo)) (f1 : Fld Z h0 a "com/example/dodder/dodder/engine/PathWrites" "earlierWrites" "[I" (.ref ea)) (f2 : Fld Z h0 a "com/example/dodder/dodder/engine/PathWrites" "listed" "[I" (.ref li)) (v0 : Arv Z h0 lo kl .int ((2 : Int32) * n) [(.int s0), (.int k0), (.int s1), (.int k1), (.int s2), (.int k2)] (.int (0 : Int32))) (v1 : Arv Z h0 ea ke .int n [(.int (-1 : Int32)), (.int x1), (.int x2), (.int (0 : Int32)), (.int (0 : Int32)), (.int (0 : Int32))] (.int (0 : Int32))) (v2 : Arv Z h0 li ki .int ((2 : Int32) * n) [(.int (0 : Int32)), (.int (0 : Int32)), (.int (0 : Int32)), (.int (0 : Int32)), (.int (0 : Int32)), (.int (0 : Int32))] (.int (0 : Int32))) (gl : n0 ≤ li) (n1 : lo ≠ li) (n2 : ea ≠ li) (n3 : a ≠ li) (hn : 3 ≤ n.toInt ∧ n.toInt ≤ 16) :
    Ctr l Z y_8 prog_20_method_6_code 5 (some .int) ws ({ frames := 0, cells := 0, slots := 0, locals := 0 } : Room) #[(.ref a), (.int (-1 : Int32))] h0 (Q_pathN Z a n lo ea li kl ke ki s0 k0 s1 k1 s2 k2 x1 x2 h0 n0) := by
  refine MetFree.of_bodySF (plainFor_of_name pn_1) hisR ?_
  intro p e s m args below meth c s₁ Bd hml0 hP hK
  obtain ⟨rfl, hZ, hh⟩ := hP
  have W := fun (i : Nat) {d : Jvm.Cond} (h : tables_1[i]? = some d) => hw d (List.mem_of_getElem? h)
  have hx := Bd.exec
  have hby := Bd.bytes
  have hml : c.maxLocals = 5 := hml0
  have hown : s.vm.findClass "com/example/dodder/dodder/engine/PathWrites" = some m.cls := findClass_of_methodNamed Bd.named
  have hnm := (name_of_methodNamed Bd.named Bd.method).1
  have X0 : Stand p l e ({ frames := 0, cells := 0, slots := 0, locals := 0 } : Room) s m #[(.ref a), (.int (-1 : Int32))] below meth c s₁ [] 0 0 := Stand.of_body Bd
  have e0 : s₁.heap = h0 := by rw [← hh, Bd.state]; rfl
  have N0 := Fr.nil n0
  have pre0 : ∀ t, Steps p.tables e below (s₁.setTop (mkF m 0 #[.val (.ref a), .val (.int (-1 : Int32)), .unset, .unset, .unset] [])) t → Steps p.tables e below (s₁.setTop (entryFrame m #[(.ref a), (.int (-1 : Int32))] 5)) t := fun t kk_ => castTop (ef_10 m a (-1 : Int32)) kk_
  have K0 := Keep.refl h0 [li]
  obtain ⟨fs, hr, hrun, hended, hW, hsame⟩ := X0.leave (v := some (.int (0 : Int32))) (fun h => by rw [Bd.returns] at h; cases h)
  refine ⟨_, _, pre0 _ ?_, hrun, hended, _, _, rfl, ?_, ⟨_, rfl⟩, hW, hsame.mono (by decide) (by decide)⟩
  · show Sq p e below m s₁ 0 #[rv a, iv (-1), .unset, .unset, .unset] [] _
    refine XS.iconst X0.here hx rfl (hb hby d10_0) ?_
    refine XS.istoreN X0.here hx rfl (hb hby d10_1) rfl rfl ?_
    show Sq p e below m s₁ 2 #[rv a, iv (-1), iv 0, .unset, .unset] [] _
    refine XS.iloadN X0.here hx rfl (hb hby d10_2) rfl ?_
    refine XS.istoreN X0.here hx rfl (hb hby d10_3) rfl rfl ?_
    show Sq p e below m s₁ 4 #[rv a, iv (-1), iv 0, iv (-1), .unset] [] _
    refine XS.iloadN X0.here hx rfl (hb hby d10_4) rfl ?_
    refine XS.iconst X0.here hx rfl (hb hby d10_5) ?_
    show Sq p e below m s₁ 6 #[rv a, iv (-1), iv 0, iv (-1), .unset] [.int (-1), .int (-1)] _
    refine XS.icmpYes X0.here hx rfl (pc0 := 6) (pc' := 22) rfl (hb hby d10_6) rfl (teq (rfl : (-1 : Int32) = (-1 : Int32))).1 (by decide) (by decide) ?_
    refine XS.iloadN X0.here hx rfl (hb hby d10_22) rfl ?_
    show Sq p e below m s₁ 23 #[rv a, iv (-1), iv 0, iv (-1), .unset] [.int 0] _
    refine XS.istoreN X0.here hx rfl (hb hby d10_23) rfl rfl ?_
    refine XS.iloadN X0.here hx rfl (hb hby d10_24) rfl ?_
    show Sq p e below m s₁ 25 #[rv a, iv (-1), iv 0, iv 0, .unset] [.int (-1)] _
    refine XS.istore X0.here hx rfl (hb hby d10_25) rfl rfl ?_
    refine XS.iload X0.here hx rfl (hb hby d10_27) rfl ?_
    show Sq p e below m s₁ 29 #[rv a, iv (-1), iv 0, iv 0, iv (-1)] [.int (-1)] _
    refine XS.iconst X0.here hx rfl (hb hby d10_29) ?_
    refine XS.icmpYes X0.here hx rfl (pc0 := 30) (pc' := 86) rfl (hb hby d10_30) rfl (teq (rfl : (-1 : Int32) = (-1 : Int32))).1 (by decide) (by decide) ?_
    show Sq p e below m s₁ 86 #[rv a, iv (-1), iv 0, iv 0, iv (-1)] [] _
    refine XS.iloadN X0.here hx rfl (hb hby d10_86) rfl ?_
    show Sq p e below m s₁ 87 #[rv a, iv (-1), iv 0, iv 0, iv (-1)] [.int 0] _
    exact retI X0 hx Bd.returns (hb hby d10_87) hr
  · show Q_pathN Z a n lo ea li kl ke ki s0 k0 s1 k1 s2 k2 x1 x2 h0 n0 _ s₁.heap _
    rw [e0]
    exact ⟨rfl, N0, K0, v2⟩
theorem d10_9 : decode prog_20_method_6_code 9 = .ok (.iinc 2 1, 3) := by decide +kernel
theorem d10_12 : decode prog_20_method_6_code 12 = .ok (.aload_n 0, 1) := by decide +kernel
theorem d10_13 : decode prog_20_method_6_code 13 = .ok (.getfield 16, 3) := by decide +kernel
theorem d10_16 : decode prog_20_method_6_code 16 = .ok (.iload_n 3, 1) := by decide +kernel
theorem d10_17 : decode prog_20_method_6_code 17 = .ok (.iaload, 1) := by decide +kernel
theorem d10_18 : decode prog_20_method_6_code 18 = .ok (.istore_n 3, 1) := by decide +kernel
theorem d10_19 : decode prog_20_method_6_code 19 = .ok (.goto (-15), 3) := by decide +kernel
theorem d10_33 : decode prog_20_method_6_code 33 = .ok (.iinc 3 (-1), 3) := by decide +kernel
theorem d10_36 : decode prog_20_method_6_code 36 = .ok (.aload_n 0, 1) := by decide +kernel
theorem d10_37 : decode prog_20_method_6_code 37 = .ok (.getfield 26, 3) := by decide +kernel
theorem d10_40 : decode prog_20_method_6_code 40 = .ok (.iconst 2, 1) := by decide +kernel
theorem d10_41 : decode prog_20_method_6_code 41 = .ok (.iload_n 3, 1) := by decide +kernel
theorem d10_42 : decode prog_20_method_6_code 42 = .ok (.imul, 1) := by decide +kernel
theorem d10_43 : decode prog_20_method_6_code 43 = .ok (.aload_n 0, 1) := by decide +kernel
theorem d10_44 : decode prog_20_method_6_code 44 = .ok (.getfield 13, 3) := by decide +kernel
theorem d10_47 : decode prog_20_method_6_code 47 = .ok (.iconst 2, 1) := by decide +kernel
theorem d10_48 : decode prog_20_method_6_code 48 = .ok (.iload 4, 2) := by decide +kernel
theorem d10_50 : decode prog_20_method_6_code 50 = .ok (.imul, 1) := by decide +kernel
theorem d10_51 : decode prog_20_method_6_code 51 = .ok (.iaload, 1) := by decide +kernel
theorem d10_52 : decode prog_20_method_6_code 52 = .ok (.iastore, 1) := by decide +kernel
theorem d10_53 : decode prog_20_method_6_code 53 = .ok (.aload_n 0, 1) := by decide +kernel
theorem d10_54 : decode prog_20_method_6_code 54 = .ok (.getfield 26, 3) := by decide +kernel
theorem d10_57 : decode prog_20_method_6_code 57 = .ok (.iconst 2, 1) := by decide +kernel
theorem d10_58 : decode prog_20_method_6_code 58 = .ok (.iload_n 3, 1) := by decide +kernel
theorem d10_59 : decode prog_20_method_6_code 59 = .ok (.imul, 1) := by decide +kernel
theorem d10_60 : decode prog_20_method_6_code 60 = .ok (.iconst 1, 1) := by decide +kernel
theorem d10_61 : decode prog_20_method_6_code 61 = .ok (.iadd, 1) := by decide +kernel
theorem d10_62 : decode prog_20_method_6_code 62 = .ok (.aload_n 0, 1) := by decide +kernel
theorem d10_63 : decode prog_20_method_6_code 63 = .ok (.getfield 13, 3) := by decide +kernel
theorem d10_66 : decode prog_20_method_6_code 66 = .ok (.iconst 2, 1) := by decide +kernel
theorem d10_67 : decode prog_20_method_6_code 67 = .ok (.iload 4, 2) := by decide +kernel
theorem d10_69 : decode prog_20_method_6_code 69 = .ok (.imul, 1) := by decide +kernel
theorem d10_70 : decode prog_20_method_6_code 70 = .ok (.iconst 1, 1) := by decide +kernel
theorem d10_71 : decode prog_20_method_6_code 71 = .ok (.iadd, 1) := by decide +kernel
theorem d10_72 : decode prog_20_method_6_code 72 = .ok (.iaload, 1) := by decide +kernel
theorem d10_73 : decode prog_20_method_6_code 73 = .ok (.iastore, 1) := by decide +kernel
theorem d10_74 : decode prog_20_method_6_code 74 = .ok (.aload_n 0, 1) := by decide +kernel
theorem d10_75 : decode prog_20_method_6_code 75 = .ok (.getfield 16, 3) := by decide +kernel
theorem d10_78 : decode prog_20_method_6_code 78 = .ok (.iload 4, 2) := by decide +kernel
theorem d10_80 : decode prog_20_method_6_code 80 = .ok (.iaload, 1) := by decide +kernel
theorem d10_81 : decode prog_20_method_6_code 81 = .ok (.istore 4, 2) := by decide +kernel
theorem d10_83 : decode prog_20_method_6_code 83 = .ok (.goto (-56), 3) := by decide +kernel
def Q_path0 (Z : State) (a : Addr) (n : Int32) (lo : Addr) (ea : Addr) (li : Addr) (kl : ClassId) (ke : ClassId) (ki : ClassId) (s0 : Int32) (k0 : Int32) (s1 : Int32) (k1 : Int32) (s2 : Int32) (k2 : Int32) (x1 : Int32) (x2 : Int32) (h0 : Heap) (n0 : Nat) (v : Option Value) (h : Heap) (L : List Loc) : Prop := v = some (.int (1 : Int32)) ∧ Fr n0 L ∧ Keep h0 h [li] ∧ Arv Z h li ki .int ((2 : Int32) * n) [(.int s0), (.int k0), (.int (0 : Int32)), (.int (0 : Int32)), (.int (0 : Int32)), (.int (0 : Int32))] (.int (0 : Int32))
theorem ef_11 (m : MethodId) (x0 : Addr) (x1 : Int32) : entryFrame m #[(.ref x0), (.int x1)] 5 = mkF m 0 #[.val (.ref x0), .val (.int x1), .unset, .unset, .unset] [] := by first | (simp [entryFrame, mkF, argsToLocals, Value.category]; done) | rfl
set_option maxRecDepth 65536 in
set_option maxHeartbeats 40000000 in
theorem path0 (l : Launch) (Z : State) (a0 : Array Value) (hw : ∀ d ∈ tables_1, d.before a0 Z = true) (ws : List Jvm.Cond) (a : Addr) (n : Int32) (lo : Addr) (ea : Addr) (li : Addr) (kl : ClassId) (ke : ClassId) (ki : ClassId) (s0 : Int32) (k0 : Int32) (s1 : Int32) (k1 : Int32) (s2 : Int32) (k2 : Int32) (x1 : Int32) (x2 : Int32) (h0 : Heap) (n0 : Nat) (O : Old Z n0 h0) (f0 : Fld Z h0 a "com/example/dodder/dodder/engine/PathWrites" "logged" "[I" (.ref lo)) (f1 : Fld Z h0 a "com/example/dodder/dodder/engine/PathWrites" "earlierWrites" "[I" (.ref ea)) (f2 : Fld Z h0 a "com/example/dodder/dodder/engine/PathWrites" "listed" "[I" (.ref li)) (v0 : Arv Z h0 lo kl .int ((2 : Int32) * n) [(.int s0), (.int k0), (.int s1), (.int k1), (.int s2), (.int k2)] (.int (0 : Int32))) (v1 : Arv Z h0 ea ke .int n [(.int (-1 : Int32)), (.int x1), (.int x2), (.int (0 : Int32)), (.int (0 : Int32)), (.int (0 : Int32))] (.int (0 : Int32))) (v2 : Arv Z h0 li ki .int ((2 : Int32) * n) [(.int (0 : Int32)), (.int (0 : Int32)), (.int (0 : Int32)), (.int (0 : Int32)), (.int (0 : Int32)), (.int (0 : Int32))] (.int (0 : Int32))) (gl : n0 ≤ li) (n1 : lo ≠ li) (n2 : ea ≠ li) (n3 : a ≠ li) (hn : 3 ≤ n.toInt ∧ n.toInt ≤ 16) :
    Ctr l Z y_8 prog_20_method_6_code 5 (some .int) ws ({ frames := 0, cells := 0, slots := 0, locals := 0 } : Room) #[(.ref a), (.int (0 : Int32))] h0 (Q_path0 Z a n lo ea li kl ke ki s0 k0 s1 k1 s2 k2 x1 x2 h0 n0) := by
  refine MetFree.of_bodySF (plainFor_of_name pn_1) hisR ?_
  intro p e s m args below meth c s₁ Bd hml0 hP hK
  obtain ⟨rfl, hZ, hh⟩ := hP
  have W := fun (i : Nat) {d : Jvm.Cond} (h : tables_1[i]? = some d) => hw d (List.mem_of_getElem? h)
  have hx := Bd.exec
  have hby := Bd.bytes
  have hml : c.maxLocals = 5 := hml0
  have hown : s.vm.findClass "com/example/dodder/dodder/engine/PathWrites" = some m.cls := findClass_of_methodNamed Bd.named
  have hnm := (name_of_methodNamed Bd.named Bd.method).1
  have X0 : Stand p l e ({ frames := 0, cells := 0, slots := 0, locals := 0 } : Room) s m #[(.ref a), (.int (0 : Int32))] below meth c s₁ [] 0 0 := Stand.of_body Bd
  have e0 : s₁.heap = h0 := by rw [← hh, Bd.state]; rfl
  have N0 := Fr.nil n0
  have pre0 : ∀ t, Steps p.tables e below (s₁.setTop (mkF m 0 #[.val (.ref a), .val (.int (0 : Int32)), .unset, .unset, .unset] [])) t → Steps p.tables e below (s₁.setTop (entryFrame m #[(.ref a), (.int (0 : Int32))] 5)) t := fun t kk_ => castTop (ef_11 m a (0 : Int32)) kk_
  have K0 := Keep.refl h0 [li]
  obtain ⟨T1, X1, e1, st1⟩ := getF X0 hx hZ hown (host := "") (Or.inl (W 14 rfl)) Via.refl e0 f1 (g := (mkF m 13 #[rv a, iv 0, iv 1, iv 0, .unset] [.ref a])) rfl rfl (hb hby d10_13)
  obtain ⟨cl2, Ar2, q2, S2, Ng2, Hh2, Gg2⟩ := id v1
  have st2 := X1.iaload hx (j := (0 : Int32)) (v := (.int (-1 : Int32))) (by rw [e1]; exact Ar2.1) (State.isArrayOf_alike hZ.alike Ar2.2.1) Ar2.2.2 (inb_of S2 (own_j1 hn (by decide) (by decide))) (Hh2.at (inb_of S2 (own_j1 hn (by decide) (by decide))) rfl) (g := (mkF m 17 #[rv a, iv 0, iv 1, iv 0, .unset] [.int 0, .ref ea])) rfl rfl (hb hby d10_17)
  obtain ⟨T3, X3, e3, st3⟩ := getF X1 hx hZ hown (host := "") (Or.inl (W 22 rfl)) Via.refl e1 f2 (g := (mkF m 37 #[rv a, iv 0, iv 1, iv 0, iv 0] [.ref a])) rfl rfl (hb hby d10_37)
  obtain ⟨T4, X4, e4, st4⟩ := getF X3 hx hZ hown (host := "") (Or.inl (W 12 rfl)) Via.refl e3 f0 (g := (mkF m 44 #[rv a, iv 0, iv 1, iv 0, iv 0] [.ref a, .int 0, .ref li])) rfl rfl (hb hby d10_44)
  obtain ⟨cl5, Ar5, q5, S5, Ng5, Hh5, Gg5⟩ := id v0
  have st5 := X4.iaload hx (j := (0 : Int32)) (v := (.int s0)) (by rw [e4]; exact Ar5.1) (State.isArrayOf_alike hZ.alike Ar5.2.1) Ar5.2.2 (inb_of S5 (own_j2 hn (by decide) (by decide))) (Hh5.at (inb_of S5 (own_j2 hn (by decide) (by decide))) rfl) (g := (mkF m 51 #[rv a, iv 0, iv 1, iv 0, iv 0] [.int 0, .ref lo, .int 0, .ref li])) rfl rfl (hb hby d10_51)
  obtain ⟨cl6, Ar6, q6, S6, Ng6, Hh6, Gg6⟩ := id v2
  obtain ⟨T6, h6, X6, e6, W6, st6⟩ := stI X4 hx hZ e4 Ar6 (j := (0 : Int32)) (inb_of S6 (own_j2 hn (by decide) (by decide))) (g := (mkF m 52 #[rv a, iv 0, iv 1, iv 0, iv 0] [.int s0, .int 0, .ref li])) rfl rfl (hb hby d10_52)
  have V6 : Arv Z h6 li ki .int ((2 : Int32) * n) [(.int s0), (.int (0 : Int32)), (.int (0 : Int32)), (.int (0 : Int32)), (.int (0 : Int32)), (.int (0 : Int32))] (.int (0 : Int32)) := Arv.set Ar6 q6 S6 Ng6 Hh6 Gg6 rfl W6 0 rfl (Nat.le_of_ble_eq_true rfl)
  have f0 := f0.other W6 (Or.inl n3)
  have f1 := f1.other W6 (Or.inl n3)
  have f2 := f2.other W6 (Or.inl n3)
  have v0 := v0.other W6 n1
  have v1 := v1.other W6 n2
  have K8 := K0.wr W6 (Or.inl (List.mem_of_getElem? (i := 0) rfl))
  have N9 := Fr.snoc X6 N0 gl
  obtain ⟨T10, X10, e10, st10⟩ := getF X6 hx hZ hown (host := "") (Or.inl (W 22 rfl)) Via.refl e6 f2 (g := (mkF m 54 #[rv a, iv 0, iv 1, iv 0, iv 0] [.ref a])) rfl rfl (hb hby d10_54)
  obtain ⟨T11, X11, e11, st11⟩ := getF X10 hx hZ hown (host := "") (Or.inl (W 12 rfl)) Via.refl e10 f0 (g := (mkF m 63 #[rv a, iv 0, iv 1, iv 0, iv 0] [.ref a, .int 1, .ref li])) rfl rfl (hb hby d10_63)
  obtain ⟨cl12, Ar12, q12, S12, Ng12, Hh12, Gg12⟩ := id v0
  have st12 := X11.iaload hx (j := (1 : Int32)) (v := (.int k0)) (by rw [e11]; exact Ar12.1) (State.isArrayOf_alike hZ.alike Ar12.2.1) Ar12.2.2 (inb_of S12 (own_j2 hn (by decide) (by decide))) (Hh12.at (inb_of S12 (own_j2 hn (by decide) (by decide))) rfl) (g := (mkF m 72 #[rv a, iv 0, iv 1, iv 0, iv 0] [.int 1, .ref lo, .int 1, .ref li])) rfl rfl (hb hby d10_72)
  obtain ⟨cl13, Ar13, q13, S13, Ng13, Hh13, Gg13⟩ := id V6
  obtain ⟨T13, h13, X13, e13, W13, st13⟩ := stI X11 hx hZ e11 Ar13 (j := (1 : Int32)) (inb_of S13 (own_j2 hn (by decide) (by decide))) (g := (mkF m 73 #[rv a, iv 0, iv 1, iv 0, iv 0] [.int k0, .int 1, .ref li])) rfl rfl (hb hby d10_73)
  have V13 : Arv Z h13 li ki .int ((2 : Int32) * n) [(.int s0), (.int k0), (.int (0 : Int32)), (.int (0 : Int32)), (.int (0 : Int32)), (.int (0 : Int32))] (.int (0 : Int32)) := Arv.set Ar13 q13 S13 Ng13 Hh13 Gg13 rfl W13 1 rfl (Nat.le_of_ble_eq_true rfl)
  have f1 := f1.other W13 (Or.inl n3)
  have v1 := v1.other W13 n2
  have K15 := K8.wr W13 (Or.inl (List.mem_of_getElem? (i := 0) rfl))
  have N16 := Fr.snoc X13 N9 gl
  obtain ⟨T17, X17, e17, st17⟩ := getF X13 hx hZ hown (host := "") (Or.inl (W 14 rfl)) Via.refl e13 f1 (g := (mkF m 75 #[rv a, iv 0, iv 1, iv 0, iv 0] [.ref a])) rfl rfl (hb hby d10_75)
  obtain ⟨cl18, Ar18, q18, S18, Ng18, Hh18, Gg18⟩ := id v1
  have st18 := X17.iaload hx (j := (0 : Int32)) (v := (.int (-1 : Int32))) (by rw [e17]; exact Ar18.1) (State.isArrayOf_alike hZ.alike Ar18.2.1) Ar18.2.2 (inb_of S18 (own_j1 hn (by decide) (by decide))) (Hh18.at (inb_of S18 (own_j1 hn (by decide) (by decide))) rfl) (g := (mkF m 80 #[rv a, iv 0, iv 1, iv 0, iv 0] [.int 0, .ref ea])) rfl rfl (hb hby d10_80)
  obtain ⟨fs, hr, hrun, hended, hW, hsame⟩ := X17.leave (v := some (.int (1 : Int32))) (fun h => by rw [Bd.returns] at h; cases h)
  refine ⟨_, _, pre0 _ ?_, hrun, hended, _, _, rfl, ?_, ⟨_, rfl⟩, hW, hsame.mono (by decide) (by decide)⟩
  · show Sq p e below m s₁ 0 #[rv a, iv 0, .unset, .unset, .unset] [] _
    refine XS.iconst X0.here hx rfl (hb hby d10_0) ?_
    refine XS.istoreN X0.here hx rfl (hb hby d10_1) rfl rfl ?_
    show Sq p e below m s₁ 2 #[rv a, iv 0, iv 0, .unset, .unset] [] _
    refine XS.iloadN X0.here hx rfl (hb hby d10_2) rfl ?_
    refine XS.istoreN X0.here hx rfl (hb hby d10_3) rfl rfl ?_
    show Sq p e below m s₁ 4 #[rv a, iv 0, iv 0, iv 0, .unset] [] _
    refine XS.iloadN X0.here hx rfl (hb hby d10_4) rfl ?_
    refine XS.iconst X0.here hx rfl (hb hby d10_5) ?_
    show Sq p e below m s₁ 6 #[rv a, iv 0, iv 0, iv 0, .unset] [.int (-1), .int 0] _
    refine XS.icmpNo X0.here hx rfl (hb hby d10_6) rfl (feq (by decide)).1 ?_
    show Sq p e below m s₁ 9 #[rv a, iv 0, iv 0, iv 0, .unset] [] _
    refine XS.iinc X0.here hx rfl (hb hby d10_9) rfl rfl ?_
    show Sq p e below m s₁ 12 #[rv a, iv 0, iv ((0 : Int32) + (1 : Int32)), iv 0, .unset] [] _
    rw [show ((0 : Int32) + (1 : Int32)) = (1 : Int32) from by decide]
    show Sq p e below m s₁ 12 #[rv a, iv 0, iv 1, iv 0, .unset] [] _
    refine XS.aloadN X0.here hx rfl (hb hby d10_12) rfl rfl ?_
    show Sq p e below m s₁ 13 #[rv a, iv 0, iv 1, iv 0, .unset] [.ref a] _
    refine st1 _ ?_
    show Sq p e below m T1 16 #[rv a, iv 0, iv 1, iv 0, .unset] [.ref ea] _
    refine XS.iloadN X1.here hx rfl (hb hby d10_16) rfl ?_
    show Sq p e below m T1 17 #[rv a, iv 0, iv 1, iv 0, .unset] [.int 0, .ref ea] _
    refine st2 _ ?_
    show Sq p e below m T1 18 #[rv a, iv 0, iv 1, iv 0, .unset] [.int (-1)] _
    refine XS.istoreN X1.here hx rfl (hb hby d10_18) rfl rfl ?_
    refine XS.goto X1.here hx rfl (pc0 := 19) (pc' := 4) rfl (hb hby d10_19) (by decide) (by decide) ?_
    show Sq p e below m T1 4 #[rv a, iv 0, iv 1, iv (-1), .unset] [] _
    refine XS.iloadN X1.here hx rfl (hb hby d10_4) rfl ?_
    refine XS.iconst X1.here hx rfl (hb hby d10_5) ?_
    show Sq p e below m T1 6 #[rv a, iv 0, iv 1, iv (-1), .unset] [.int (-1), .int (-1)] _
    refine XS.icmpYes X1.here hx rfl (pc0 := 6) (pc' := 22) rfl (hb hby d10_6) rfl (teq (rfl : (-1 : Int32) = (-1 : Int32))).1 (by decide) (by decide) ?_
    refine XS.iloadN X1.here hx rfl (hb hby d10_22) rfl ?_
    show Sq p e below m T1 23 #[rv a, iv 0, iv 1, iv (-1), .unset] [.int 1] _
    refine XS.istoreN X1.here hx rfl (hb hby d10_23) rfl rfl ?_
    refine XS.iloadN X1.here hx rfl (hb hby d10_24) rfl ?_
    show Sq p e below m T1 25 #[rv a, iv 0, iv 1, iv 1, .unset] [.int 0] _
    refine XS.istore X1.here hx rfl (hb hby d10_25) rfl rfl ?_
    refine XS.iload X1.here hx rfl (hb hby d10_27) rfl ?_
    show Sq p e below m T1 29 #[rv a, iv 0, iv 1, iv 1, iv 0] [.int 0] _
    refine XS.iconst X1.here hx rfl (hb hby d10_29) ?_
    refine XS.icmpNo X1.here hx rfl (hb hby d10_30) rfl (feq (by decide)).1 ?_
    show Sq p e below m T1 33 #[rv a, iv 0, iv 1, iv 1, iv 0] [] _
    refine XS.iinc X1.here hx rfl (hb hby d10_33) rfl rfl ?_
    show Sq p e below m T1 36 #[rv a, iv 0, iv 1, iv ((1 : Int32) + (-1 : Int32)), iv 0] [] _
    rw [show ((1 : Int32) + (-1 : Int32)) = (0 : Int32) from by decide]
    show Sq p e below m T1 36 #[rv a, iv 0, iv 1, iv 0, iv 0] [] _
    refine XS.aloadN X1.here hx rfl (hb hby d10_36) rfl rfl ?_
    show Sq p e below m T1 37 #[rv a, iv 0, iv 1, iv 0, iv 0] [.ref a] _
    refine st3 _ ?_
    show Sq p e below m T3 40 #[rv a, iv 0, iv 1, iv 0, iv 0] [.ref li] _
    refine XS.iconst X3.here hx rfl (hb hby d10_40) ?_
    refine XS.iloadN X3.here hx rfl (hb hby d10_41) rfl ?_
    show Sq p e below m T3 42 #[rv a, iv 0, iv 1, iv 0, iv 0] [.int 0, .int 2, .ref li] _
    refine XS.imul X3.here hx rfl (hb hby d10_42) rfl ?_
    show Sq p e below m T3 43 #[rv a, iv 0, iv 1, iv 0, iv 0] [.int ((2 : Int32) * (0 : Int32)), .ref li] _
    rw [show ((2 : Int32) * (0 : Int32)) = (0 : Int32) from by decide]
    show Sq p e below m T3 43 #[rv a, iv 0, iv 1, iv 0, iv 0] [.int 0, .ref li] _
    refine XS.aloadN X3.here hx rfl (hb hby d10_43) rfl rfl ?_
    show Sq p e below m T3 44 #[rv a, iv 0, iv 1, iv 0, iv 0] [.ref a, .int 0, .ref li] _
    refine st4 _ ?_
    show Sq p e below m T4 47 #[rv a, iv 0, iv 1, iv 0, iv 0] [.ref lo, .int 0, .ref li] _
    refine XS.iconst X4.here hx rfl (hb hby d10_47) ?_
    refine XS.iload X4.here hx rfl (hb hby d10_48) rfl ?_
    show Sq p e below m T4 50 #[rv a, iv 0, iv 1, iv 0, iv 0] [.int 0, .int 2, .ref lo, .int 0, .ref li] _
    refine XS.imul X4.here hx rfl (hb hby d10_50) rfl ?_
    show Sq p e below m T4 51 #[rv a, iv 0, iv 1, iv 0, iv 0] [.int ((2 : Int32) * (0 : Int32)), .ref lo, .int 0, .ref li] _
    rw [show ((2 : Int32) * (0 : Int32)) = (0 : Int32) from by decide]
    show Sq p e below m T4 51 #[rv a, iv 0, iv 1, iv 0, iv 0] [.int 0, .ref lo, .int 0, .ref li] _
    refine st5 _ ?_
    show Sq p e below m T4 52 #[rv a, iv 0, iv 1, iv 0, iv 0] [.int s0, .int 0, .ref li] _
    refine st6 _ ?_
    show Sq p e below m T6 53 #[rv a, iv 0, iv 1, iv 0, iv 0] [] _
    refine XS.aloadN X6.here hx rfl (hb hby d10_53) rfl rfl ?_
    show Sq p e below m T6 54 #[rv a, iv 0, iv 1, iv 0, iv 0] [.ref a] _
    refine st10 _ ?_
    show Sq p e below m T10 57 #[rv a, iv 0, iv 1, iv 0, iv 0] [.ref li] _
    refine XS.iconst X10.here hx rfl (hb hby d10_57) ?_
    refine XS.iloadN X10.here hx rfl (hb hby d10_58) rfl ?_
    show Sq p e below m T10 59 #[rv a, iv 0, iv 1, iv 0, iv 0] [.int 0, .int 2, .ref li] _
    refine XS.imul X10.here hx rfl (hb hby d10_59) rfl ?_
    show Sq p e below m T10 60 #[rv a, iv 0, iv 1, iv 0, iv 0] [.int ((2 : Int32) * (0 : Int32)), .ref li] _
    rw [show ((2 : Int32) * (0 : Int32)) = (0 : Int32) from by decide]
    show Sq p e below m T10 60 #[rv a, iv 0, iv 1, iv 0, iv 0] [.int 0, .ref li] _
    refine XS.iconst X10.here hx rfl (hb hby d10_60) ?_
    refine XS.iadd X10.here hx rfl (hb hby d10_61) rfl ?_
    show Sq p e below m T10 62 #[rv a, iv 0, iv 1, iv 0, iv 0] [.int ((0 : Int32) + (1 : Int32)), .ref li] _
    rw [show ((0 : Int32) + (1 : Int32)) = (1 : Int32) from by decide]
    show Sq p e below m T10 62 #[rv a, iv 0, iv 1, iv 0, iv 0] [.int 1, .ref li] _
    refine XS.aloadN X10.here hx rfl (hb hby d10_62) rfl rfl ?_
    show Sq p e below m T10 63 #[rv a, iv 0, iv 1, iv 0, iv 0] [.ref a, .int 1, .ref li] _
    refine st11 _ ?_
    show Sq p e below m T11 66 #[rv a, iv 0, iv 1, iv 0, iv 0] [.ref lo, .int 1, .ref li] _
    refine XS.iconst X11.here hx rfl (hb hby d10_66) ?_
    refine XS.iload X11.here hx rfl (hb hby d10_67) rfl ?_
    show Sq p e below m T11 69 #[rv a, iv 0, iv 1, iv 0, iv 0] [.int 0, .int 2, .ref lo, .int 1, .ref li] _
    refine XS.imul X11.here hx rfl (hb hby d10_69) rfl ?_
    show Sq p e below m T11 70 #[rv a, iv 0, iv 1, iv 0, iv 0] [.int ((2 : Int32) * (0 : Int32)), .ref lo, .int 1, .ref li] _
    rw [show ((2 : Int32) * (0 : Int32)) = (0 : Int32) from by decide]
    show Sq p e below m T11 70 #[rv a, iv 0, iv 1, iv 0, iv 0] [.int 0, .ref lo, .int 1, .ref li] _
    refine XS.iconst X11.here hx rfl (hb hby d10_70) ?_
    refine XS.iadd X11.here hx rfl (hb hby d10_71) rfl ?_
    show Sq p e below m T11 72 #[rv a, iv 0, iv 1, iv 0, iv 0] [.int ((0 : Int32) + (1 : Int32)), .ref lo, .int 1, .ref li] _
    rw [show ((0 : Int32) + (1 : Int32)) = (1 : Int32) from by decide]
    show Sq p e below m T11 72 #[rv a, iv 0, iv 1, iv 0, iv 0] [.int 1, .ref lo, .int 1, .ref li] _
    refine st12 _ ?_
    show Sq p e below m T11 73 #[rv a, iv 0, iv 1, iv 0, iv 0] [.int k0, .int 1, .ref li] _
    refine st13 _ ?_
    show Sq p e below m T13 74 #[rv a, iv 0, iv 1, iv 0, iv 0] [] _
    refine XS.aloadN X13.here hx rfl (hb hby d10_74) rfl rfl ?_
    show Sq p e below m T13 75 #[rv a, iv 0, iv 1, iv 0, iv 0] [.ref a] _
    refine st17 _ ?_
    show Sq p e below m T17 78 #[rv a, iv 0, iv 1, iv 0, iv 0] [.ref ea] _
    refine XS.iload X17.here hx rfl (hb hby d10_78) rfl ?_
    show Sq p e below m T17 80 #[rv a, iv 0, iv 1, iv 0, iv 0] [.int 0, .ref ea] _
    refine st18 _ ?_
    show Sq p e below m T17 81 #[rv a, iv 0, iv 1, iv 0, iv 0] [.int (-1)] _
    refine XS.istore X17.here hx rfl (hb hby d10_81) rfl rfl ?_
    refine XS.goto X17.here hx rfl (pc0 := 83) (pc' := 27) rfl (hb hby d10_83) (by decide) (by decide) ?_
    show Sq p e below m T17 27 #[rv a, iv 0, iv 1, iv 0, iv (-1)] [] _
    refine XS.iload X17.here hx rfl (hb hby d10_27) rfl ?_
    refine XS.iconst X17.here hx rfl (hb hby d10_29) ?_
    show Sq p e below m T17 30 #[rv a, iv 0, iv 1, iv 0, iv (-1)] [.int (-1), .int (-1)] _
    refine XS.icmpYes X17.here hx rfl (pc0 := 30) (pc' := 86) rfl (hb hby d10_30) rfl (teq (rfl : (-1 : Int32) = (-1 : Int32))).1 (by decide) (by decide) ?_
    refine XS.iloadN X17.here hx rfl (hb hby d10_86) rfl ?_
    show Sq p e below m T17 87 #[rv a, iv 0, iv 1, iv 0, iv (-1)] [.int 1] _
    exact retI X17 hx Bd.returns (hb hby d10_87) hr
  · show Q_path0 Z a n lo ea li kl ke ki s0 k0 s1 k1 s2 k2 x1 x2 h0 n0 _ T17.heap _
    rw [e17]
    exact ⟨rfl, N16, K15, V13⟩
def Q_path1a (Z : State) (a : Addr) (n : Int32) (lo : Addr) (ea : Addr) (li : Addr) (kl : ClassId) (ke : ClassId) (ki : ClassId) (s0 : Int32) (k0 : Int32) (s1 : Int32) (k1 : Int32) (s2 : Int32) (k2 : Int32) (x2 : Int32) (h0 : Heap) (n0 : Nat) (v : Option Value) (h : Heap) (L : List Loc) : Prop := v = some (.int (1 : Int32)) ∧ Fr n0 L ∧ Keep h0 h [li] ∧ Arv Z h li ki .int ((2 : Int32) * n) [(.int s1), (.int k1), (.int (0 : Int32)), (.int (0 : Int32)), (.int (0 : Int32)), (.int (0 : Int32))] (.int (0 : Int32))
theorem ef_12 (m : MethodId) (x0 : Addr) (x1 : Int32) : entryFrame m #[(.ref x0), (.int x1)] 5 = mkF m 0 #[.val (.ref x0), .val (.int x1), .unset, .unset, .unset] [] := by first | (simp [entryFrame, mkF, argsToLocals, Value.category]; done) | rfl
set_option maxRecDepth 65536 in
set_option maxHeartbeats 40000000 in
theorem path1a (l : Launch) (Z : State) (a0 : Array Value) (hw : ∀ d ∈ tables_1, d.before a0 Z = true) (ws : List Jvm.Cond) (a : Addr) (n : Int32) (lo : Addr) (ea : Addr) (li : Addr) (kl : ClassId) (ke : ClassId) (ki : ClassId) (s0 : Int32) (k0 : Int32) (s1 : Int32) (k1 : Int32) (s2 : Int32) (k2 : Int32) (x2 : Int32) (h0 : Heap) (n0 : Nat) (O : Old Z n0 h0) (f0 : Fld Z h0 a "com/example/dodder/dodder/engine/PathWrites" "logged" "[I" (.ref lo)) (f1 : Fld Z h0 a "com/example/dodder/dodder/engine/PathWrites" "earlierWrites" "[I" (.ref ea)) (f2 : Fld Z h0 a "com/example/dodder/dodder/engine/PathWrites" "listed" "[I" (.ref li)) (v0 : Arv Z h0 lo kl .int ((2 : Int32) * n) [(.int s0), (.int k0), (.int s1), (.int k1), (.int s2), (.int k2)] (.int (0 : Int32))) (v1 : Arv Z h0 ea ke .int n [(.int (-1 : Int32)), (.int (-1 : Int32)), (.int x2), (.int (0 : Int32)), (.int (0 : Int32)), (.int (0 : Int32))] (.int (0 : Int32))) (v2 : Arv Z h0 li ki .int ((2 : Int32) * n) [(.int (0 : Int32)), (.int (0 : Int32)), (.int (0 : Int32)), (.int (0 : Int32)), (.int (0 : Int32)), (.int (0 : Int32))] (.int (0 : Int32))) (gl : n0 ≤ li) (n1 : lo ≠ li) (n2 : ea ≠ li) (n3 : a ≠ li) (hn : 3 ≤ n.toInt ∧ n.toInt ≤ 16) :
    Ctr l Z y_8 prog_20_method_6_code 5 (some .int) ws ({ frames := 0, cells := 0, slots := 0, locals := 0 } : Room) #[(.ref a), (.int (1 : Int32))] h0 (Q_path1a Z a n lo ea li kl ke ki s0 k0 s1 k1 s2 k2 x2 h0 n0) := by
  refine MetFree.of_bodySF (plainFor_of_name pn_1) hisR ?_
  intro p e s m args below meth c s₁ Bd hml0 hP hK
  obtain ⟨rfl, hZ, hh⟩ := hP
  have W := fun (i : Nat) {d : Jvm.Cond} (h : tables_1[i]? = some d) => hw d (List.mem_of_getElem? h)
  have hx := Bd.exec
  have hby := Bd.bytes
  have hml : c.maxLocals = 5 := hml0
  have hown : s.vm.findClass "com/example/dodder/dodder/engine/PathWrites" = some m.cls := findClass_of_methodNamed Bd.named
  have hnm := (name_of_methodNamed Bd.named Bd.method).1
  have X0 : Stand p l e ({ frames := 0, cells := 0, slots := 0, locals := 0 } : Room) s m #[(.ref a), (.int (1 : Int32))] below meth c s₁ [] 0 0 := Stand.of_body Bd
  have e0 : s₁.heap = h0 := by rw [← hh, Bd.state]; rfl
  have N0 := Fr.nil n0
  have pre0 : ∀ t, Steps p.tables e below (s₁.setTop (mkF m 0 #[.val (.ref a), .val (.int (1 : Int32)), .unset, .unset, .unset] [])) t → Steps p.tables e below (s₁.setTop (entryFrame m #[(.ref a), (.int (1 : Int32))] 5)) t := fun t kk_ => castTop (ef_12 m a (1 : Int32)) kk_
  have K0 := Keep.refl h0 [li]
  obtain ⟨T1, X1, e1, st1⟩ := getF X0 hx hZ hown (host := "") (Or.inl (W 14 rfl)) Via.refl e0 f1 (g := (mkF m 13 #[rv a, iv 1, iv 1, iv 1, .unset] [.ref a])) rfl rfl (hb hby d10_13)
  obtain ⟨cl2, Ar2, q2, S2, Ng2, Hh2, Gg2⟩ := id v1
  have st2 := X1.iaload hx (j := (1 : Int32)) (v := (.int (-1 : Int32))) (by rw [e1]; exact Ar2.1) (State.isArrayOf_alike hZ.alike Ar2.2.1) Ar2.2.2 (inb_of S2 (own_j1 hn (by decide) (by decide))) (Hh2.at (inb_of S2 (own_j1 hn (by decide) (by decide))) rfl) (g := (mkF m 17 #[rv a, iv 1, iv 1, iv 1, .unset] [.int 1, .ref ea])) rfl rfl (hb hby d10_17)
  obtain ⟨T3, X3, e3, st3⟩ := getF X1 hx hZ hown (host := "") (Or.inl (W 22 rfl)) Via.refl e1 f2 (g := (mkF m 37 #[rv a, iv 1, iv 1, iv 0, iv 1] [.ref a])) rfl rfl (hb hby d10_37)
  obtain ⟨T4, X4, e4, st4⟩ := getF X3 hx hZ hown (host := "") (Or.inl (W 12 rfl)) Via.refl e3 f0 (g := (mkF m 44 #[rv a, iv 1, iv 1, iv 0, iv 1] [.ref a, .int 0, .ref li])) rfl rfl (hb hby d10_44)
  obtain ⟨cl5, Ar5, q5, S5, Ng5, Hh5, Gg5⟩ := id v0
  have st5 := X4.iaload hx (j := (2 : Int32)) (v := (.int s1)) (by rw [e4]; exact Ar5.1) (State.isArrayOf_alike hZ.alike Ar5.2.1) Ar5.2.2 (inb_of S5 (own_j2 hn (by decide) (by decide))) (Hh5.at (inb_of S5 (own_j2 hn (by decide) (by decide))) rfl) (g := (mkF m 51 #[rv a, iv 1, iv 1, iv 0, iv 1] [.int 2, .ref lo, .int 0, .ref li])) rfl rfl (hb hby d10_51)
  obtain ⟨cl6, Ar6, q6, S6, Ng6, Hh6, Gg6⟩ := id v2
  obtain ⟨T6, h6, X6, e6, W6, st6⟩ := stI X4 hx hZ e4 Ar6 (j := (0 : Int32)) (inb_of S6 (own_j2 hn (by decide) (by decide))) (g := (mkF m 52 #[rv a, iv 1, iv 1, iv 0, iv 1] [.int s1, .int 0, .ref li])) rfl rfl (hb hby d10_52)
  have V6 : Arv Z h6 li ki .int ((2 : Int32) * n) [(.int s1), (.int (0 : Int32)), (.int (0 : Int32)), (.int (0 : Int32)), (.int (0 : Int32)), (.int (0 : Int32))] (.int (0 : Int32)) := Arv.set Ar6 q6 S6 Ng6 Hh6 Gg6 rfl W6 0 rfl (Nat.le_of_ble_eq_true rfl)
  have f0 := f0.other W6 (Or.inl n3)
  have f1 := f1.other W6 (Or.inl n3)
  have f2 := f2.other W6 (Or.inl n3)
  have v0 := v0.other W6 n1
  have v1 := v1.other W6 n2
  have K8 := K0.wr W6 (Or.inl (List.mem_of_getElem? (i := 0) rfl))
  have N9 := Fr.snoc X6 N0 gl
  obtain ⟨T10, X10, e10, st10⟩ := getF X6 hx hZ hown (host := "") (Or.inl (W 22 rfl)) Via.refl e6 f2 (g := (mkF m 54 #[rv a, iv 1, iv 1, iv 0, iv 1] [.ref a])) rfl rfl (hb hby d10_54)
  obtain ⟨T11, X11, e11, st11⟩ := getF X10 hx hZ hown (host := "") (Or.inl (W 12 rfl)) Via.refl e10 f0 (g := (mkF m 63 #[rv a, iv 1, iv 1, iv 0, iv 1] [.ref a, .int 1, .ref li])) rfl rfl (hb hby d10_63)
  obtain ⟨cl12, Ar12, q12, S12, Ng12, Hh12, Gg12⟩ := id v0
  have st12 := X11.iaload hx (j := (3 : Int32)) (v := (.int k1)) (by rw [e11]; exact Ar12.1) (State.isArrayOf_alike hZ.alike Ar12.2.1) Ar12.2.2 (inb_of S12 (own_j2 hn (by decide) (by decide))) (Hh12.at (inb_of S12 (own_j2 hn (by decide) (by decide))) rfl) (g := (mkF m 72 #[rv a, iv 1, iv 1, iv 0, iv 1] [.int 3, .ref lo, .int 1, .ref li])) rfl rfl (hb hby d10_72)
  obtain ⟨cl13, Ar13, q13, S13, Ng13, Hh13, Gg13⟩ := id V6
  obtain ⟨T13, h13, X13, e13, W13, st13⟩ := stI X11 hx hZ e11 Ar13 (j := (1 : Int32)) (inb_of S13 (own_j2 hn (by decide) (by decide))) (g := (mkF m 73 #[rv a, iv 1, iv 1, iv 0, iv 1] [.int k1, .int 1, .ref li])) rfl rfl (hb hby d10_73)
  have V13 : Arv Z h13 li ki .int ((2 : Int32) * n) [(.int s1), (.int k1), (.int (0 : Int32)), (.int (0 : Int32)), (.int (0 : Int32)), (.int (0 : Int32))] (.int (0 : Int32)) := Arv.set Ar13 q13 S13 Ng13 Hh13 Gg13 rfl W13 1 rfl (Nat.le_of_ble_eq_true rfl)
  have f1 := f1.other W13 (Or.inl n3)
  have v1 := v1.other W13 n2
  have K15 := K8.wr W13 (Or.inl (List.mem_of_getElem? (i := 0) rfl))
  have N16 := Fr.snoc X13 N9 gl
  obtain ⟨T17, X17, e17, st17⟩ := getF X13 hx hZ hown (host := "") (Or.inl (W 14 rfl)) Via.refl e13 f1 (g := (mkF m 75 #[rv a, iv 1, iv 1, iv 0, iv 1] [.ref a])) rfl rfl (hb hby d10_75)
  obtain ⟨cl18, Ar18, q18, S18, Ng18, Hh18, Gg18⟩ := id v1
  have st18 := X17.iaload hx (j := (1 : Int32)) (v := (.int (-1 : Int32))) (by rw [e17]; exact Ar18.1) (State.isArrayOf_alike hZ.alike Ar18.2.1) Ar18.2.2 (inb_of S18 (own_j1 hn (by decide) (by decide))) (Hh18.at (inb_of S18 (own_j1 hn (by decide) (by decide))) rfl) (g := (mkF m 80 #[rv a, iv 1, iv 1, iv 0, iv 1] [.int 1, .ref ea])) rfl rfl (hb hby d10_80)
  obtain ⟨fs, hr, hrun, hended, hW, hsame⟩ := X17.leave (v := some (.int (1 : Int32))) (fun h => by rw [Bd.returns] at h; cases h)
  refine ⟨_, _, pre0 _ ?_, hrun, hended, _, _, rfl, ?_, ⟨_, rfl⟩, hW, hsame.mono (by decide) (by decide)⟩
  · show Sq p e below m s₁ 0 #[rv a, iv 1, .unset, .unset, .unset] [] _
    refine XS.iconst X0.here hx rfl (hb hby d10_0) ?_
    refine XS.istoreN X0.here hx rfl (hb hby d10_1) rfl rfl ?_
    show Sq p e below m s₁ 2 #[rv a, iv 1, iv 0, .unset, .unset] [] _
    refine XS.iloadN X0.here hx rfl (hb hby d10_2) rfl ?_
    refine XS.istoreN X0.here hx rfl (hb hby d10_3) rfl rfl ?_
    show Sq p e below m s₁ 4 #[rv a, iv 1, iv 0, iv 1, .unset] [] _
    refine XS.iloadN X0.here hx rfl (hb hby d10_4) rfl ?_
    refine XS.iconst X0.here hx rfl (hb hby d10_5) ?_
    show Sq p e below m s₁ 6 #[rv a, iv 1, iv 0, iv 1, .unset] [.int (-1), .int 1] _
    refine XS.icmpNo X0.here hx rfl (hb hby d10_6) rfl (feq (by decide)).1 ?_
    show Sq p e below m s₁ 9 #[rv a, iv 1, iv 0, iv 1, .unset] [] _
    refine XS.iinc X0.here hx rfl (hb hby d10_9) rfl rfl ?_
    show Sq p e below m s₁ 12 #[rv a, iv 1, iv ((0 : Int32) + (1 : Int32)), iv 1, .unset] [] _
    rw [show ((0 : Int32) + (1 : Int32)) = (1 : Int32) from by decide]
    show Sq p e below m s₁ 12 #[rv a, iv 1, iv 1, iv 1, .unset] [] _
    refine XS.aloadN X0.here hx rfl (hb hby d10_12) rfl rfl ?_
    show Sq p e below m s₁ 13 #[rv a, iv 1, iv 1, iv 1, .unset] [.ref a] _
    refine st1 _ ?_
    show Sq p e below m T1 16 #[rv a, iv 1, iv 1, iv 1, .unset] [.ref ea] _
    refine XS.iloadN X1.here hx rfl (hb hby d10_16) rfl ?_
    show Sq p e below m T1 17 #[rv a, iv 1, iv 1, iv 1, .unset] [.int 1, .ref ea] _
    refine st2 _ ?_
    show Sq p e below m T1 18 #[rv a, iv 1, iv 1, iv 1, .unset] [.int (-1)] _
    refine XS.istoreN X1.here hx rfl (hb hby d10_18) rfl rfl ?_
    refine XS.goto X1.here hx rfl (pc0 := 19) (pc' := 4) rfl (hb hby d10_19) (by decide) (by decide) ?_
    show Sq p e below m T1 4 #[rv a, iv 1, iv 1, iv (-1), .unset] [] _
    refine XS.iloadN X1.here hx rfl (hb hby d10_4) rfl ?_
    refine XS.iconst X1.here hx rfl (hb hby d10_5) ?_
    show Sq p e below m T1 6 #[rv a, iv 1, iv 1, iv (-1), .unset] [.int (-1), .int (-1)] _
    refine XS.icmpYes X1.here hx rfl (pc0 := 6) (pc' := 22) rfl (hb hby d10_6) rfl (teq (rfl : (-1 : Int32) = (-1 : Int32))).1 (by decide) (by decide) ?_
    refine XS.iloadN X1.here hx rfl (hb hby d10_22) rfl ?_
    show Sq p e below m T1 23 #[rv a, iv 1, iv 1, iv (-1), .unset] [.int 1] _
    refine XS.istoreN X1.here hx rfl (hb hby d10_23) rfl rfl ?_
    refine XS.iloadN X1.here hx rfl (hb hby d10_24) rfl ?_
    show Sq p e below m T1 25 #[rv a, iv 1, iv 1, iv 1, .unset] [.int 1] _
    refine XS.istore X1.here hx rfl (hb hby d10_25) rfl rfl ?_
    refine XS.iload X1.here hx rfl (hb hby d10_27) rfl ?_
    show Sq p e below m T1 29 #[rv a, iv 1, iv 1, iv 1, iv 1] [.int 1] _
    refine XS.iconst X1.here hx rfl (hb hby d10_29) ?_
    refine XS.icmpNo X1.here hx rfl (hb hby d10_30) rfl (feq (by decide)).1 ?_
    show Sq p e below m T1 33 #[rv a, iv 1, iv 1, iv 1, iv 1] [] _
    refine XS.iinc X1.here hx rfl (hb hby d10_33) rfl rfl ?_
    show Sq p e below m T1 36 #[rv a, iv 1, iv 1, iv ((1 : Int32) + (-1 : Int32)), iv 1] [] _
    rw [show ((1 : Int32) + (-1 : Int32)) = (0 : Int32) from by decide]
    show Sq p e below m T1 36 #[rv a, iv 1, iv 1, iv 0, iv 1] [] _
    refine XS.aloadN X1.here hx rfl (hb hby d10_36) rfl rfl ?_
    show Sq p e below m T1 37 #[rv a, iv 1, iv 1, iv 0, iv 1] [.ref a] _
    refine st3 _ ?_
    show Sq p e below m T3 40 #[rv a, iv 1, iv 1, iv 0, iv 1] [.ref li] _
    refine XS.iconst X3.here hx rfl (hb hby d10_40) ?_
    refine XS.iloadN X3.here hx rfl (hb hby d10_41) rfl ?_
    show Sq p e below m T3 42 #[rv a, iv 1, iv 1, iv 0, iv 1] [.int 0, .int 2, .ref li] _
    refine XS.imul X3.here hx rfl (hb hby d10_42) rfl ?_
    show Sq p e below m T3 43 #[rv a, iv 1, iv 1, iv 0, iv 1] [.int ((2 : Int32) * (0 : Int32)), .ref li] _
    rw [show ((2 : Int32) * (0 : Int32)) = (0 : Int32) from by decide]
    show Sq p e below m T3 43 #[rv a, iv 1, iv 1, iv 0, iv 1] [.int 0, .ref li] _
    refine XS.aloadN X3.here hx rfl (hb hby d10_43) rfl rfl ?_
    show Sq p e below m T3 44 #[rv a, iv 1, iv 1, iv 0, iv 1] [.ref a, .int 0, .ref li] _
    refine st4 _ ?_
    show Sq p e below m T4 47 #[rv a, iv 1, iv 1, iv 0, iv 1] [.ref lo, .int 0, .ref li] _
    refine XS.iconst X4.here hx rfl (hb hby d10_47) ?_
    refine XS.iload X4.here hx rfl (hb hby d10_48) rfl ?_
    show Sq p e below m T4 50 #[rv a, iv 1, iv 1, iv 0, iv 1] [.int 1, .int 2, .ref lo, .int 0, .ref li] _
    refine XS.imul X4.here hx rfl (hb hby d10_50) rfl ?_
    show Sq p e below m T4 51 #[rv a, iv 1, iv 1, iv 0, iv 1] [.int ((2 : Int32) * (1 : Int32)), .ref lo, .int 0, .ref li] _
    rw [show ((2 : Int32) * (1 : Int32)) = (2 : Int32) from by decide]
    show Sq p e below m T4 51 #[rv a, iv 1, iv 1, iv 0, iv 1] [.int 2, .ref lo, .int 0, .ref li] _
    refine st5 _ ?_
    show Sq p e below m T4 52 #[rv a, iv 1, iv 1, iv 0, iv 1] [.int s1, .int 0, .ref li] _
    refine st6 _ ?_
    show Sq p e below m T6 53 #[rv a, iv 1, iv 1, iv 0, iv 1] [] _
    refine XS.aloadN X6.here hx rfl (hb hby d10_53) rfl rfl ?_
    show Sq p e below m T6 54 #[rv a, iv 1, iv 1, iv 0, iv 1] [.ref a] _
    refine st10 _ ?_
    show Sq p e below m T10 57 #[rv a, iv 1, iv 1, iv 0, iv 1] [.ref li] _
    refine XS.iconst X10.here hx rfl (hb hby d10_57) ?_
    refine XS.iloadN X10.here hx rfl (hb hby d10_58) rfl ?_
    show Sq p e below m T10 59 #[rv a, iv 1, iv 1, iv 0, iv 1] [.int 0, .int 2, .ref li] _
    refine XS.imul X10.here hx rfl (hb hby d10_59) rfl ?_
    show Sq p e below m T10 60 #[rv a, iv 1, iv 1, iv 0, iv 1] [.int ((2 : Int32) * (0 : Int32)), .ref li] _
    rw [show ((2 : Int32) * (0 : Int32)) = (0 : Int32) from by decide]
    show Sq p e below m T10 60 #[rv a, iv 1, iv 1, iv 0, iv 1] [.int 0, .ref li] _
    refine XS.iconst X10.here hx rfl (hb hby d10_60) ?_
    refine XS.iadd X10.here hx rfl (hb hby d10_61) rfl ?_
    show Sq p e below m T10 62 #[rv a, iv 1, iv 1, iv 0, iv 1] [.int ((0 : Int32) + (1 : Int32)), .ref li] _
    rw [show ((0 : Int32) + (1 : Int32)) = (1 : Int32) from by decide]
    show Sq p e below m T10 62 #[rv a, iv 1, iv 1, iv 0, iv 1] [.int 1, .ref li] _
    refine XS.aloadN X10.here hx rfl (hb hby d10_62) rfl rfl ?_
    show Sq p e below m T10 63 #[rv a, iv 1, iv 1, iv 0, iv 1] [.ref a, .int 1, .ref li] _
    refine st11 _ ?_
    show Sq p e below m T11 66 #[rv a, iv 1, iv 1, iv 0, iv 1] [.ref lo, .int 1, .ref li] _
    refine XS.iconst X11.here hx rfl (hb hby d10_66) ?_
    refine XS.iload X11.here hx rfl (hb hby d10_67) rfl ?_
    show Sq p e below m T11 69 #[rv a, iv 1, iv 1, iv 0, iv 1] [.int 1, .int 2, .ref lo, .int 1, .ref li] _
    refine XS.imul X11.here hx rfl (hb hby d10_69) rfl ?_
    show Sq p e below m T11 70 #[rv a, iv 1, iv 1, iv 0, iv 1] [.int ((2 : Int32) * (1 : Int32)), .ref lo, .int 1, .ref li] _
    rw [show ((2 : Int32) * (1 : Int32)) = (2 : Int32) from by decide]
    show Sq p e below m T11 70 #[rv a, iv 1, iv 1, iv 0, iv 1] [.int 2, .ref lo, .int 1, .ref li] _
    refine XS.iconst X11.here hx rfl (hb hby d10_70) ?_
    refine XS.iadd X11.here hx rfl (hb hby d10_71) rfl ?_
    show Sq p e below m T11 72 #[rv a, iv 1, iv 1, iv 0, iv 1] [.int ((2 : Int32) + (1 : Int32)), .ref lo, .int 1, .ref li] _
    rw [show ((2 : Int32) + (1 : Int32)) = (3 : Int32) from by decide]
    show Sq p e below m T11 72 #[rv a, iv 1, iv 1, iv 0, iv 1] [.int 3, .ref lo, .int 1, .ref li] _
    refine st12 _ ?_
    show Sq p e below m T11 73 #[rv a, iv 1, iv 1, iv 0, iv 1] [.int k1, .int 1, .ref li] _
    refine st13 _ ?_
    show Sq p e below m T13 74 #[rv a, iv 1, iv 1, iv 0, iv 1] [] _
    refine XS.aloadN X13.here hx rfl (hb hby d10_74) rfl rfl ?_
    show Sq p e below m T13 75 #[rv a, iv 1, iv 1, iv 0, iv 1] [.ref a] _
    refine st17 _ ?_
    show Sq p e below m T17 78 #[rv a, iv 1, iv 1, iv 0, iv 1] [.ref ea] _
    refine XS.iload X17.here hx rfl (hb hby d10_78) rfl ?_
    show Sq p e below m T17 80 #[rv a, iv 1, iv 1, iv 0, iv 1] [.int 1, .ref ea] _
    refine st18 _ ?_
    show Sq p e below m T17 81 #[rv a, iv 1, iv 1, iv 0, iv 1] [.int (-1)] _
    refine XS.istore X17.here hx rfl (hb hby d10_81) rfl rfl ?_
    refine XS.goto X17.here hx rfl (pc0 := 83) (pc' := 27) rfl (hb hby d10_83) (by decide) (by decide) ?_
    show Sq p e below m T17 27 #[rv a, iv 1, iv 1, iv 0, iv (-1)] [] _
    refine XS.iload X17.here hx rfl (hb hby d10_27) rfl ?_
    refine XS.iconst X17.here hx rfl (hb hby d10_29) ?_
    show Sq p e below m T17 30 #[rv a, iv 1, iv 1, iv 0, iv (-1)] [.int (-1), .int (-1)] _
    refine XS.icmpYes X17.here hx rfl (pc0 := 30) (pc' := 86) rfl (hb hby d10_30) rfl (teq (rfl : (-1 : Int32) = (-1 : Int32))).1 (by decide) (by decide) ?_
    refine XS.iloadN X17.here hx rfl (hb hby d10_86) rfl ?_
    show Sq p e below m T17 87 #[rv a, iv 1, iv 1, iv 0, iv (-1)] [.int 1] _
    exact retI X17 hx Bd.returns (hb hby d10_87) hr
  · show Q_path1a Z a n lo ea li kl ke ki s0 k0 s1 k1 s2 k2 x2 h0 n0 _ T17.heap _
    rw [e17]
    exact ⟨rfl, N16, K15, V13⟩
def Q_path1b (Z : State) (a : Addr) (n : Int32) (lo : Addr) (ea : Addr) (li : Addr) (kl : ClassId) (ke : ClassId) (ki : ClassId) (s0 : Int32) (k0 : Int32) (s1 : Int32) (k1 : Int32) (s2 : Int32) (k2 : Int32) (x2 : Int32) (h0 : Heap) (n0 : Nat) (v : Option Value) (h : Heap) (L : List Loc) : Prop := v = some (.int (2 : Int32)) ∧ Fr n0 L ∧ Keep h0 h [li] ∧ Arv Z h li ki .int ((2 : Int32) * n) [(.int s0), (.int k0), (.int s1), (.int k1), (.int (0 : Int32)), (.int (0 : Int32))] (.int (0 : Int32))
set_option maxRecDepth 65536 in
set_option maxHeartbeats 40000000 in
theorem path1b (l : Launch) (Z : State) (a0 : Array Value) (hw : ∀ d ∈ tables_1, d.before a0 Z = true) (ws : List Jvm.Cond) (a : Addr) (n : Int32) (lo : Addr) (ea : Addr) (li : Addr) (kl : ClassId) (ke : ClassId) (ki : ClassId) (s0 : Int32) (k0 : Int32) (s1 : Int32) (k1 : Int32) (s2 : Int32) (k2 : Int32) (x2 : Int32) (h0 : Heap) (n0 : Nat) (O : Old Z n0 h0) (f0 : Fld Z h0 a "com/example/dodder/dodder/engine/PathWrites" "logged" "[I" (.ref lo)) (f1 : Fld Z h0 a "com/example/dodder/dodder/engine/PathWrites" "earlierWrites" "[I" (.ref ea)) (f2 : Fld Z h0 a "com/example/dodder/dodder/engine/PathWrites" "listed" "[I" (.ref li)) (v0 : Arv Z h0 lo kl .int ((2 : Int32) * n) [(.int s0), (.int k0), (.int s1), (.int k1), (.int s2), (.int k2)] (.int (0 : Int32))) (v1 : Arv Z h0 ea ke .int n [(.int (-1 : Int32)), (.int (0 : Int32)), (.int x2), (.int (0 : Int32)), (.int (0 : Int32)), (.int (0 : Int32))] (.int (0 : Int32))) (v2 : Arv Z h0 li ki .int ((2 : Int32) * n) [(.int (0 : Int32)), (.int (0 : Int32)), (.int (0 : Int32)), (.int (0 : Int32)), (.int (0 : Int32)), (.int (0 : Int32))] (.int (0 : Int32))) (gl : n0 ≤ li) (n1 : lo ≠ li) (n2 : ea ≠ li) (n3 : a ≠ li) (hn : 3 ≤ n.toInt ∧ n.toInt ≤ 16) :
    Ctr l Z y_8 prog_20_method_6_code 5 (some .int) ws ({ frames := 0, cells := 0, slots := 0, locals := 0 } : Room) #[(.ref a), (.int (1 : Int32))] h0 (Q_path1b Z a n lo ea li kl ke ki s0 k0 s1 k1 s2 k2 x2 h0 n0) := by
  refine MetFree.of_bodySF (plainFor_of_name pn_1) hisR ?_
  intro p e s m args below meth c s₁ Bd hml0 hP hK
  obtain ⟨rfl, hZ, hh⟩ := hP
  have W := fun (i : Nat) {d : Jvm.Cond} (h : tables_1[i]? = some d) => hw d (List.mem_of_getElem? h)
  have hx := Bd.exec
  have hby := Bd.bytes
  have hml : c.maxLocals = 5 := hml0
  have hown : s.vm.findClass "com/example/dodder/dodder/engine/PathWrites" = some m.cls := findClass_of_methodNamed Bd.named
  have hnm := (name_of_methodNamed Bd.named Bd.method).1
  have X0 : Stand p l e ({ frames := 0, cells := 0, slots := 0, locals := 0 } : Room) s m #[(.ref a), (.int (1 : Int32))] below meth c s₁ [] 0 0 := Stand.of_body Bd
  have e0 : s₁.heap = h0 := by rw [← hh, Bd.state]; rfl
  have N0 := Fr.nil n0
  have pre0 : ∀ t, Steps p.tables e below (s₁.setTop (mkF m 0 #[.val (.ref a), .val (.int (1 : Int32)), .unset, .unset, .unset] [])) t → Steps p.tables e below (s₁.setTop (entryFrame m #[(.ref a), (.int (1 : Int32))] 5)) t := fun t kk_ => castTop (ef_12 m a (1 : Int32)) kk_
  have K0 := Keep.refl h0 [li]
  obtain ⟨T1, X1, e1, st1⟩ := getF X0 hx hZ hown (host := "") (Or.inl (W 14 rfl)) Via.refl e0 f1 (g := (mkF m 13 #[rv a, iv 1, iv 1, iv 1, .unset] [.ref a])) rfl rfl (hb hby d10_13)
  obtain ⟨cl2, Ar2, q2, S2, Ng2, Hh2, Gg2⟩ := id v1
  have st2 := X1.iaload hx (j := (1 : Int32)) (v := (.int (0 : Int32))) (by rw [e1]; exact Ar2.1) (State.isArrayOf_alike hZ.alike Ar2.2.1) Ar2.2.2 (inb_of S2 (own_j1 hn (by decide) (by decide))) (Hh2.at (inb_of S2 (own_j1 hn (by decide) (by decide))) rfl) (g := (mkF m 17 #[rv a, iv 1, iv 1, iv 1, .unset] [.int 1, .ref ea])) rfl rfl (hb hby d10_17)
  obtain ⟨T3, X3, e3, st3⟩ := getF X1 hx hZ hown (host := "") (Or.inl (W 14 rfl)) Via.refl e1 f1 (g := (mkF m 13 #[rv a, iv 1, iv 2, iv 0, .unset] [.ref a])) rfl rfl (hb hby d10_13)
  obtain ⟨cl4, Ar4, q4, S4, Ng4, Hh4, Gg4⟩ := id v1
  have st4 := X3.iaload hx (j := (0 : Int32)) (v := (.int (-1 : Int32))) (by rw [e3]; exact Ar4.1) (State.isArrayOf_alike hZ.alike Ar4.2.1) Ar4.2.2 (inb_of S4 (own_j1 hn (by decide) (by decide))) (Hh4.at (inb_of S4 (own_j1 hn (by decide) (by decide))) rfl) (g := (mkF m 17 #[rv a, iv 1, iv 2, iv 0, .unset] [.int 0, .ref ea])) rfl rfl (hb hby d10_17)
  obtain ⟨T5, X5, e5, st5⟩ := getF X3 hx hZ hown (host := "") (Or.inl (W 22 rfl)) Via.refl e3 f2 (g := (mkF m 37 #[rv a, iv 1, iv 2, iv 1, iv 1] [.ref a])) rfl rfl (hb hby d10_37)
  obtain ⟨T6, X6, e6, st6⟩ := getF X5 hx hZ hown (host := "") (Or.inl (W 12 rfl)) Via.refl e5 f0 (g := (mkF m 44 #[rv a, iv 1, iv 2, iv 1, iv 1] [.ref a, .int 2, .ref li])) rfl rfl (hb hby d10_44)
  obtain ⟨cl7, Ar7, q7, S7, Ng7, Hh7, Gg7⟩ := id v0
  have st7 := X6.iaload hx (j := (2 : Int32)) (v := (.int s1)) (by rw [e6]; exact Ar7.1) (State.isArrayOf_alike hZ.alike Ar7.2.1) Ar7.2.2 (inb_of S7 (own_j2 hn (by decide) (by decide))) (Hh7.at (inb_of S7 (own_j2 hn (by decide) (by decide))) rfl) (g := (mkF m 51 #[rv a, iv 1, iv 2, iv 1, iv 1] [.int 2, .ref lo, .int 2, .ref li])) rfl rfl (hb hby d10_51)
  obtain ⟨cl8, Ar8, q8, S8, Ng8, Hh8, Gg8⟩ := id v2
  obtain ⟨T8, h8, X8, e8, W8, st8⟩ := stI X6 hx hZ e6 Ar8 (j := (2 : Int32)) (inb_of S8 (own_j2 hn (by decide) (by decide))) (g := (mkF m 52 #[rv a, iv 1, iv 2, iv 1, iv 1] [.int s1, .int 2, .ref li])) rfl rfl (hb hby d10_52)
  have V8 : Arv Z h8 li ki .int ((2 : Int32) * n) [(.int (0 : Int32)), (.int (0 : Int32)), (.int s1), (.int (0 : Int32)), (.int (0 : Int32)), (.int (0 : Int32))] (.int (0 : Int32)) := Arv.set Ar8 q8 S8 Ng8 Hh8 Gg8 rfl W8 2 rfl (Nat.le_of_ble_eq_true rfl)
  have f0 := f0.other W8 (Or.inl n3)
  have f1 := f1.other W8 (Or.inl n3)
  have f2 := f2.other W8 (Or.inl n3)
  have v0 := v0.other W8 n1
  have v1 := v1.other W8 n2
  have K10 := K0.wr W8 (Or.inl (List.mem_of_getElem? (i := 0) rfl))
  have N11 := Fr.snoc X8 N0 gl
  obtain ⟨T12, X12, e12, st12⟩ := getF X8 hx hZ hown (host := "") (Or.inl (W 22 rfl)) Via.refl e8 f2 (g := (mkF m 54 #[rv a, iv 1, iv 2, iv 1, iv 1] [.ref a])) rfl rfl (hb hby d10_54)
  obtain ⟨T13, X13, e13, st13⟩ := getF X12 hx hZ hown (host := "") (Or.inl (W 12 rfl)) Via.refl e12 f0 (g := (mkF m 63 #[rv a, iv 1, iv 2, iv 1, iv 1] [.ref a, .int 3, .ref li])) rfl rfl (hb hby d10_63)
  obtain ⟨cl14, Ar14, q14, S14, Ng14, Hh14, Gg14⟩ := id v0
  have st14 := X13.iaload hx (j := (3 : Int32)) (v := (.int k1)) (by rw [e13]; exact Ar14.1) (State.isArrayOf_alike hZ.alike Ar14.2.1) Ar14.2.2 (inb_of S14 (own_j2 hn (by decide) (by decide))) (Hh14.at (inb_of S14 (own_j2 hn (by decide) (by decide))) rfl) (g := (mkF m 72 #[rv a, iv 1, iv 2, iv 1, iv 1] [.int 3, .ref lo, .int 3, .ref li])) rfl rfl (hb hby d10_72)
  obtain ⟨cl15, Ar15, q15, S15, Ng15, Hh15, Gg15⟩ := id V8
  obtain ⟨T15, h15, X15, e15, W15, st15⟩ := stI X13 hx hZ e13 Ar15 (j := (3 : Int32)) (inb_of S15 (own_j2 hn (by decide) (by decide))) (g := (mkF m 73 #[rv a, iv 1, iv 2, iv 1, iv 1] [.int k1, .int 3, .ref li])) rfl rfl (hb hby d10_73)
  have V15 : Arv Z h15 li ki .int ((2 : Int32) * n) [(.int (0 : Int32)), (.int (0 : Int32)), (.int s1), (.int k1), (.int (0 : Int32)), (.int (0 : Int32))] (.int (0 : Int32)) := Arv.set Ar15 q15 S15 Ng15 Hh15 Gg15 rfl W15 3 rfl (Nat.le_of_ble_eq_true rfl)
  have f0 := f0.other W15 (Or.inl n3)
  have f1 := f1.other W15 (Or.inl n3)
  have f2 := f2.other W15 (Or.inl n3)
  have v0 := v0.other W15 n1
  have v1 := v1.other W15 n2
  have K17 := K10.wr W15 (Or.inl (List.mem_of_getElem? (i := 0) rfl))
  have N18 := Fr.snoc X15 N11 gl
  obtain ⟨T19, X19, e19, st19⟩ := getF X15 hx hZ hown (host := "") (Or.inl (W 14 rfl)) Via.refl e15 f1 (g := (mkF m 75 #[rv a, iv 1, iv 2, iv 1, iv 1] [.ref a])) rfl rfl (hb hby d10_75)
  obtain ⟨cl20, Ar20, q20, S20, Ng20, Hh20, Gg20⟩ := id v1
  have st20 := X19.iaload hx (j := (1 : Int32)) (v := (.int (0 : Int32))) (by rw [e19]; exact Ar20.1) (State.isArrayOf_alike hZ.alike Ar20.2.1) Ar20.2.2 (inb_of S20 (own_j1 hn (by decide) (by decide))) (Hh20.at (inb_of S20 (own_j1 hn (by decide) (by decide))) rfl) (g := (mkF m 80 #[rv a, iv 1, iv 2, iv 1, iv 1] [.int 1, .ref ea])) rfl rfl (hb hby d10_80)
  obtain ⟨T21, X21, e21, st21⟩ := getF X19 hx hZ hown (host := "") (Or.inl (W 22 rfl)) Via.refl e19 f2 (g := (mkF m 37 #[rv a, iv 1, iv 2, iv 0, iv 0] [.ref a])) rfl rfl (hb hby d10_37)
  obtain ⟨T22, X22, e22, st22⟩ := getF X21 hx hZ hown (host := "") (Or.inl (W 12 rfl)) Via.refl e21 f0 (g := (mkF m 44 #[rv a, iv 1, iv 2, iv 0, iv 0] [.ref a, .int 0, .ref li])) rfl rfl (hb hby d10_44)
  obtain ⟨cl23, Ar23, q23, S23, Ng23, Hh23, Gg23⟩ := id v0
  have st23 := X22.iaload hx (j := (0 : Int32)) (v := (.int s0)) (by rw [e22]; exact Ar23.1) (State.isArrayOf_alike hZ.alike Ar23.2.1) Ar23.2.2 (inb_of S23 (own_j2 hn (by decide) (by decide))) (Hh23.at (inb_of S23 (own_j2 hn (by decide) (by decide))) rfl) (g := (mkF m 51 #[rv a, iv 1, iv 2, iv 0, iv 0] [.int 0, .ref lo, .int 0, .ref li])) rfl rfl (hb hby d10_51)
  obtain ⟨cl24, Ar24, q24, S24, Ng24, Hh24, Gg24⟩ := id V15
  obtain ⟨T24, h24, X24, e24, W24, st24⟩ := stI X22 hx hZ e22 Ar24 (j := (0 : Int32)) (inb_of S24 (own_j2 hn (by decide) (by decide))) (g := (mkF m 52 #[rv a, iv 1, iv 2, iv 0, iv 0] [.int s0, .int 0, .ref li])) rfl rfl (hb hby d10_52)
  have V24 : Arv Z h24 li ki .int ((2 : Int32) * n) [(.int s0), (.int (0 : Int32)), (.int s1), (.int k1), (.int (0 : Int32)), (.int (0 : Int32))] (.int (0 : Int32)) := Arv.set Ar24 q24 S24 Ng24 Hh24 Gg24 rfl W24 0 rfl (Nat.le_of_ble_eq_true rfl)
  have f0 := f0.other W24 (Or.inl n3)
  have f1 := f1.other W24 (Or.inl n3)
  have f2 := f2.other W24 (Or.inl n3)
  have v0 := v0.other W24 n1
  have v1 := v1.other W24 n2
  have K26 := K17.wr W24 (Or.inl (List.mem_of_getElem? (i := 0) rfl))
  have N27 := Fr.snoc X24 N18 gl
  obtain ⟨T28, X28, e28, st28⟩ := getF X24 hx hZ hown (host := "") (Or.inl (W 22 rfl)) Via.refl e24 f2 (g := (mkF m 54 #[rv a, iv 1, iv 2, iv 0, iv 0] [.ref a])) rfl rfl (hb hby d10_54)
  obtain ⟨T29, X29, e29, st29⟩ := getF X28 hx hZ hown (host := "") (Or.inl (W 12 rfl)) Via.refl e28 f0 (g := (mkF m 63 #[rv a, iv 1, iv 2, iv 0, iv 0] [.ref a, .int 1, .ref li])) rfl rfl (hb hby d10_63)
  obtain ⟨cl30, Ar30, q30, S30, Ng30, Hh30, Gg30⟩ := id v0
  have st30 := X29.iaload hx (j := (1 : Int32)) (v := (.int k0)) (by rw [e29]; exact Ar30.1) (State.isArrayOf_alike hZ.alike Ar30.2.1) Ar30.2.2 (inb_of S30 (own_j2 hn (by decide) (by decide))) (Hh30.at (inb_of S30 (own_j2 hn (by decide) (by decide))) rfl) (g := (mkF m 72 #[rv a, iv 1, iv 2, iv 0, iv 0] [.int 1, .ref lo, .int 1, .ref li])) rfl rfl (hb hby d10_72)
  obtain ⟨cl31, Ar31, q31, S31, Ng31, Hh31, Gg31⟩ := id V24
  obtain ⟨T31, h31, X31, e31, W31, st31⟩ := stI X29 hx hZ e29 Ar31 (j := (1 : Int32)) (inb_of S31 (own_j2 hn (by decide) (by decide))) (g := (mkF m 73 #[rv a, iv 1, iv 2, iv 0, iv 0] [.int k0, .int 1, .ref li])) rfl rfl (hb hby d10_73)
  have V31 : Arv Z h31 li ki .int ((2 : Int32) * n) [(.int s0), (.int k0), (.int s1), (.int k1), (.int (0 : Int32)), (.int (0 : Int32))] (.int (0 : Int32)) := Arv.set Ar31 q31 S31 Ng31 Hh31 Gg31 rfl W31 1 rfl (Nat.le_of_ble_eq_true rfl)
  have f1 := f1.other W31 (Or.inl n3)
  have v1 := v1.other W31 n2
  have K33 := K26.wr W31 (Or.inl (List.mem_of_getElem? (i := 0) rfl))
  have N34 := Fr.snoc X31 N27 gl
  obtain ⟨T35, X35, e35, st35⟩ := getF X31 hx hZ hown (host := "") (Or.inl (W 14 rfl)) Via.refl e31 f1 (g := (mkF m 75 #[rv a, iv 1, iv 2, iv 0, iv 0] [.ref a])) rfl rfl (hb hby d10_75)
  obtain ⟨cl36, Ar36, q36, S36, Ng36, Hh36, Gg36⟩ := id v1
  have st36 := X35.iaload hx (j := (0 : Int32)) (v := (.int (-1 : Int32))) (by rw [e35]; exact Ar36.1) (State.isArrayOf_alike hZ.alike Ar36.2.1) Ar36.2.2 (inb_of S36 (own_j1 hn (by decide) (by decide))) (Hh36.at (inb_of S36 (own_j1 hn (by decide) (by decide))) rfl) (g := (mkF m 80 #[rv a, iv 1, iv 2, iv 0, iv 0] [.int 0, .ref ea])) rfl rfl (hb hby d10_80)
  obtain ⟨fs, hr, hrun, hended, hW, hsame⟩ := X35.leave (v := some (.int (2 : Int32))) (fun h => by rw [Bd.returns] at h; cases h)
  refine ⟨_, _, pre0 _ ?_, hrun, hended, _, _, rfl, ?_, ⟨_, rfl⟩, hW, hsame.mono (by decide) (by decide)⟩
  · show Sq p e below m s₁ 0 #[rv a, iv 1, .unset, .unset, .unset] [] _
    refine XS.iconst X0.here hx rfl (hb hby d10_0) ?_
    refine XS.istoreN X0.here hx rfl (hb hby d10_1) rfl rfl ?_
    show Sq p e below m s₁ 2 #[rv a, iv 1, iv 0, .unset, .unset] [] _
    refine XS.iloadN X0.here hx rfl (hb hby d10_2) rfl ?_
    refine XS.istoreN X0.here hx rfl (hb hby d10_3) rfl rfl ?_
    show Sq p e below m s₁ 4 #[rv a, iv 1, iv 0, iv 1, .unset] [] _
    refine XS.iloadN X0.here hx rfl (hb hby d10_4) rfl ?_
    refine XS.iconst X0.here hx rfl (hb hby d10_5) ?_
    show Sq p e below m s₁ 6 #[rv a, iv 1, iv 0, iv 1, .unset] [.int (-1), .int 1] _
    refine XS.icmpNo X0.here hx rfl (hb hby d10_6) rfl (feq (by decide)).1 ?_
    show Sq p e below m s₁ 9 #[rv a, iv 1, iv 0, iv 1, .unset] [] _
    refine XS.iinc X0.here hx rfl (hb hby d10_9) rfl rfl ?_
    show Sq p e below m s₁ 12 #[rv a, iv 1, iv ((0 : Int32) + (1 : Int32)), iv 1, .unset] [] _
    rw [show ((0 : Int32) + (1 : Int32)) = (1 : Int32) from by decide]
    show Sq p e below m s₁ 12 #[rv a, iv 1, iv 1, iv 1, .unset] [] _
    refine XS.aloadN X0.here hx rfl (hb hby d10_12) rfl rfl ?_
    show Sq p e below m s₁ 13 #[rv a, iv 1, iv 1, iv 1, .unset] [.ref a] _
    refine st1 _ ?_
    show Sq p e below m T1 16 #[rv a, iv 1, iv 1, iv 1, .unset] [.ref ea] _
    refine XS.iloadN X1.here hx rfl (hb hby d10_16) rfl ?_
    show Sq p e below m T1 17 #[rv a, iv 1, iv 1, iv 1, .unset] [.int 1, .ref ea] _
    refine st2 _ ?_
    show Sq p e below m T1 18 #[rv a, iv 1, iv 1, iv 1, .unset] [.int 0] _
    refine XS.istoreN X1.here hx rfl (hb hby d10_18) rfl rfl ?_
    refine XS.goto X1.here hx rfl (pc0 := 19) (pc' := 4) rfl (hb hby d10_19) (by decide) (by decide) ?_
    show Sq p e below m T1 4 #[rv a, iv 1, iv 1, iv 0, .unset] [] _
    refine XS.iloadN X1.here hx rfl (hb hby d10_4) rfl ?_
    refine XS.iconst X1.here hx rfl (hb hby d10_5) ?_
    show Sq p e below m T1 6 #[rv a, iv 1, iv 1, iv 0, .unset] [.int (-1), .int 0] _
    refine XS.icmpNo X1.here hx rfl (hb hby d10_6) rfl (feq (by decide)).1 ?_
    show Sq p e below m T1 9 #[rv a, iv 1, iv 1, iv 0, .unset] [] _
    refine XS.iinc X1.here hx rfl (hb hby d10_9) rfl rfl ?_
    show Sq p e below m T1 12 #[rv a, iv 1, iv ((1 : Int32) + (1 : Int32)), iv 0, .unset] [] _
    rw [show ((1 : Int32) + (1 : Int32)) = (2 : Int32) from by decide]
    show Sq p e below m T1 12 #[rv a, iv 1, iv 2, iv 0, .unset] [] _
    refine XS.aloadN X1.here hx rfl (hb hby d10_12) rfl rfl ?_
    show Sq p e below m T1 13 #[rv a, iv 1, iv 2, iv 0, .unset] [.ref a] _
    refine st3 _ ?_
    show Sq p e below m T3 16 #[rv a, iv 1, iv 2, iv 0, .unset] [.ref ea] _
    refine XS.iloadN X3.here hx rfl (hb hby d10_16) rfl ?_
    show Sq p e below m T3 17 #[rv a, iv 1, iv 2, iv 0, .unset] [.int 0, .ref ea] _
    refine st4 _ ?_
    show Sq p e below m T3 18 #[rv a, iv 1, iv 2, iv 0, .unset] [.int (-1)] _
    refine XS.istoreN X3.here hx rfl (hb hby d10_18) rfl rfl ?_
    refine XS.goto X3.here hx rfl (pc0 := 19) (pc' := 4) rfl (hb hby d10_19) (by decide) (by decide) ?_
    show Sq p e below m T3 4 #[rv a, iv 1, iv 2, iv (-1), .unset] [] _
    refine XS.iloadN X3.here hx rfl (hb hby d10_4) rfl ?_
    refine XS.iconst X3.here hx rfl (hb hby d10_5) ?_
    show Sq p e below m T3 6 #[rv a, iv 1, iv 2, iv (-1), .unset] [.int (-1), .int (-1)] _
    refine XS.icmpYes X3.here hx rfl (pc0 := 6) (pc' := 22) rfl (hb hby d10_6) rfl (teq (rfl : (-1 : Int32) = (-1 : Int32))).1 (by decide) (by decide) ?_
    refine XS.iloadN X3.here hx rfl (hb hby d10_22) rfl ?_
    show Sq p e below m T3 23 #[rv a, iv 1, iv 2, iv (-1), .unset] [.int 2] _
    refine XS.istoreN X3.here hx rfl (hb hby d10_23) rfl rfl ?_
    refine XS.iloadN X3.here hx rfl (hb hby d10_24) rfl ?_
    show Sq p e below m T3 25 #[rv a, iv 1, iv 2, iv 2, .unset] [.int 1] _
    refine XS.istore X3.here hx rfl (hb hby d10_25) rfl rfl ?_
    refine XS.iload X3.here hx rfl (hb hby d10_27) rfl ?_
    show Sq p e below m T3 29 #[rv a, iv 1, iv 2, iv 2, iv 1] [.int 1] _
    refine XS.iconst X3.here hx rfl (hb hby d10_29) ?_
    refine XS.icmpNo X3.here hx rfl (hb hby d10_30) rfl (feq (by decide)).1 ?_
    show Sq p e below m T3 33 #[rv a, iv 1, iv 2, iv 2, iv 1] [] _
    refine XS.iinc X3.here hx rfl (hb hby d10_33) rfl rfl ?_
    show Sq p e below m T3 36 #[rv a, iv 1, iv 2, iv ((2 : Int32) + (-1 : Int32)), iv 1] [] _
    rw [show ((2 : Int32) + (-1 : Int32)) = (1 : Int32) from by decide]
    show Sq p e below m T3 36 #[rv a, iv 1, iv 2, iv 1, iv 1] [] _
    refine XS.aloadN X3.here hx rfl (hb hby d10_36) rfl rfl ?_
    show Sq p e below m T3 37 #[rv a, iv 1, iv 2, iv 1, iv 1] [.ref a] _
    refine st5 _ ?_
    show Sq p e below m T5 40 #[rv a, iv 1, iv 2, iv 1, iv 1] [.ref li] _
    refine XS.iconst X5.here hx rfl (hb hby d10_40) ?_
    refine XS.iloadN X5.here hx rfl (hb hby d10_41) rfl ?_
    show Sq p e below m T5 42 #[rv a, iv 1, iv 2, iv 1, iv 1] [.int 1, .int 2, .ref li] _
    refine XS.imul X5.here hx rfl (hb hby d10_42) rfl ?_
    show Sq p e below m T5 43 #[rv a, iv 1, iv 2, iv 1, iv 1] [.int ((2 : Int32) * (1 : Int32)), .ref li] _
    rw [show ((2 : Int32) * (1 : Int32)) = (2 : Int32) from by decide]
    show Sq p e below m T5 43 #[rv a, iv 1, iv 2, iv 1, iv 1] [.int 2, .ref li] _
    refine XS.aloadN X5.here hx rfl (hb hby d10_43) rfl rfl ?_
    show Sq p e below m T5 44 #[rv a, iv 1, iv 2, iv 1, iv 1] [.ref a, .int 2, .ref li] _
    refine st6 _ ?_
    show Sq p e below m T6 47 #[rv a, iv 1, iv 2, iv 1, iv 1] [.ref lo, .int 2, .ref li] _
    refine XS.iconst X6.here hx rfl (hb hby d10_47) ?_
    refine XS.iload X6.here hx rfl (hb hby d10_48) rfl ?_
    show Sq p e below m T6 50 #[rv a, iv 1, iv 2, iv 1, iv 1] [.int 1, .int 2, .ref lo, .int 2, .ref li] _
    refine XS.imul X6.here hx rfl (hb hby d10_50) rfl ?_
    show Sq p e below m T6 51 #[rv a, iv 1, iv 2, iv 1, iv 1] [.int ((2 : Int32) * (1 : Int32)), .ref lo, .int 2, .ref li] _
    rw [show ((2 : Int32) * (1 : Int32)) = (2 : Int32) from by decide]
    show Sq p e below m T6 51 #[rv a, iv 1, iv 2, iv 1, iv 1] [.int 2, .ref lo, .int 2, .ref li] _
    refine st7 _ ?_
    show Sq p e below m T6 52 #[rv a, iv 1, iv 2, iv 1, iv 1] [.int s1, .int 2, .ref li] _
    refine st8 _ ?_
    show Sq p e below m T8 53 #[rv a, iv 1, iv 2, iv 1, iv 1] [] _
    refine XS.aloadN X8.here hx rfl (hb hby d10_53) rfl rfl ?_
    show Sq p e below m T8 54 #[rv a, iv 1, iv 2, iv 1, iv 1] [.ref a] _
    refine st12 _ ?_
    show Sq p e below m T12 57 #[rv a, iv 1, iv 2, iv 1, iv 1] [.ref li] _
    refine XS.iconst X12.here hx rfl (hb hby d10_57) ?_
    refine XS.iloadN X12.here hx rfl (hb hby d10_58) rfl ?_
    show Sq p e below m T12 59 #[rv a, iv 1, iv 2, iv 1, iv 1] [.int 1, .int 2, .ref li] _
    refine XS.imul X12.here hx rfl (hb hby d10_59) rfl ?_
    show Sq p e below m T12 60 #[rv a, iv 1, iv 2, iv 1, iv 1] [.int ((2 : Int32) * (1 : Int32)), .ref li] _
    rw [show ((2 : Int32) * (1 : Int32)) = (2 : Int32) from by decide]
    show Sq p e below m T12 60 #[rv a, iv 1, iv 2, iv 1, iv 1] [.int 2, .ref li] _
    refine XS.iconst X12.here hx rfl (hb hby d10_60) ?_
    refine XS.iadd X12.here hx rfl (hb hby d10_61) rfl ?_
    show Sq p e below m T12 62 #[rv a, iv 1, iv 2, iv 1, iv 1] [.int ((2 : Int32) + (1 : Int32)), .ref li] _
    rw [show ((2 : Int32) + (1 : Int32)) = (3 : Int32) from by decide]
    show Sq p e below m T12 62 #[rv a, iv 1, iv 2, iv 1, iv 1] [.int 3, .ref li] _
    refine XS.aloadN X12.here hx rfl (hb hby d10_62) rfl rfl ?_
    show Sq p e below m T12 63 #[rv a, iv 1, iv 2, iv 1, iv 1] [.ref a, .int 3, .ref li] _
    refine st13 _ ?_
    show Sq p e below m T13 66 #[rv a, iv 1, iv 2, iv 1, iv 1] [.ref lo, .int 3, .ref li] _
    refine XS.iconst X13.here hx rfl (hb hby d10_66) ?_
    refine XS.iload X13.here hx rfl (hb hby d10_67) rfl ?_
    show Sq p e below m T13 69 #[rv a, iv 1, iv 2, iv 1, iv 1] [.int 1, .int 2, .ref lo, .int 3, .ref li] _
    refine XS.imul X13.here hx rfl (hb hby d10_69) rfl ?_
    show Sq p e below m T13 70 #[rv a, iv 1, iv 2, iv 1, iv 1] [.int ((2 : Int32) * (1 : Int32)), .ref lo, .int 3, .ref li] _
    rw [show ((2 : Int32) * (1 : Int32)) = (2 : Int32) from by decide]
    show Sq p e below m T13 70 #[rv a, iv 1, iv 2, iv 1, iv 1] [.int 2, .ref lo, .int 3, .ref li] _
    refine XS.iconst X13.here hx rfl (hb hby d10_70) ?_
    refine XS.iadd X13.here hx rfl (hb hby d10_71) rfl ?_
    show Sq p e below m T13 72 #[rv a, iv 1, iv 2, iv 1, iv 1] [.int ((2 : Int32) + (1 : Int32)), .ref lo, .int 3, .ref li] _
    rw [show ((2 : Int32) + (1 : Int32)) = (3 : Int32) from by decide]
    show Sq p e below m T13 72 #[rv a, iv 1, iv 2, iv 1, iv 1] [.int 3, .ref lo, .int 3, .ref li] _
    refine st14 _ ?_
    show Sq p e below m T13 73 #[rv a, iv 1, iv 2, iv 1, iv 1] [.int k1, .int 3, .ref li] _
    refine st15 _ ?_
    show Sq p e below m T15 74 #[rv a, iv 1, iv 2, iv 1, iv 1] [] _
    refine XS.aloadN X15.here hx rfl (hb hby d10_74) rfl rfl ?_
    show Sq p e below m T15 75 #[rv a, iv 1, iv 2, iv 1, iv 1] [.ref a] _
    refine st19 _ ?_
    show Sq p e below m T19 78 #[rv a, iv 1, iv 2, iv 1, iv 1] [.ref ea] _
    refine XS.iload X19.here hx rfl (hb hby d10_78) rfl ?_
    show Sq p e below m T19 80 #[rv a, iv 1, iv 2, iv 1, iv 1] [.int 1, .ref ea] _
    refine st20 _ ?_
    show Sq p e below m T19 81 #[rv a, iv 1, iv 2, iv 1, iv 1] [.int 0] _
    refine XS.istore X19.here hx rfl (hb hby d10_81) rfl rfl ?_
    refine XS.goto X19.here hx rfl (pc0 := 83) (pc' := 27) rfl (hb hby d10_83) (by decide) (by decide) ?_
    show Sq p e below m T19 27 #[rv a, iv 1, iv 2, iv 1, iv 0] [] _
    refine XS.iload X19.here hx rfl (hb hby d10_27) rfl ?_
    refine XS.iconst X19.here hx rfl (hb hby d10_29) ?_
    show Sq p e below m T19 30 #[rv a, iv 1, iv 2, iv 1, iv 0] [.int (-1), .int 0] _
    refine XS.icmpNo X19.here hx rfl (hb hby d10_30) rfl (feq (by decide)).1 ?_
    show Sq p e below m T19 33 #[rv a, iv 1, iv 2, iv 1, iv 0] [] _
    refine XS.iinc X19.here hx rfl (hb hby d10_33) rfl rfl ?_
    show Sq p e below m T19 36 #[rv a, iv 1, iv 2, iv ((1 : Int32) + (-1 : Int32)), iv 0] [] _
    rw [show ((1 : Int32) + (-1 : Int32)) = (0 : Int32) from by decide]
    show Sq p e below m T19 36 #[rv a, iv 1, iv 2, iv 0, iv 0] [] _
    refine XS.aloadN X19.here hx rfl (hb hby d10_36) rfl rfl ?_
    show Sq p e below m T19 37 #[rv a, iv 1, iv 2, iv 0, iv 0] [.ref a] _
    refine st21 _ ?_
    show Sq p e below m T21 40 #[rv a, iv 1, iv 2, iv 0, iv 0] [.ref li] _
    refine XS.iconst X21.here hx rfl (hb hby d10_40) ?_
    refine XS.iloadN X21.here hx rfl (hb hby d10_41) rfl ?_
    show Sq p e below m T21 42 #[rv a, iv 1, iv 2, iv 0, iv 0] [.int 0, .int 2, .ref li] _
    refine XS.imul X21.here hx rfl (hb hby d10_42) rfl ?_
    show Sq p e below m T21 43 #[rv a, iv 1, iv 2, iv 0, iv 0] [.int ((2 : Int32) * (0 : Int32)), .ref li] _
    rw [show ((2 : Int32) * (0 : Int32)) = (0 : Int32) from by decide]
    show Sq p e below m T21 43 #[rv a, iv 1, iv 2, iv 0, iv 0] [.int 0, .ref li] _
    refine XS.aloadN X21.here hx rfl (hb hby d10_43) rfl rfl ?_
    show Sq p e below m T21 44 #[rv a, iv 1, iv 2, iv 0, iv 0] [.ref a, .int 0, .ref li] _
    refine st22 _ ?_
    show Sq p e below m T22 47 #[rv a, iv 1, iv 2, iv 0, iv 0] [.ref lo, .int 0, .ref li] _
    refine XS.iconst X22.here hx rfl (hb hby d10_47) ?_
    refine XS.iload X22.here hx rfl (hb hby d10_48) rfl ?_
    show Sq p e below m T22 50 #[rv a, iv 1, iv 2, iv 0, iv 0] [.int 0, .int 2, .ref lo, .int 0, .ref li] _
    refine XS.imul X22.here hx rfl (hb hby d10_50) rfl ?_
    show Sq p e below m T22 51 #[rv a, iv 1, iv 2, iv 0, iv 0] [.int ((2 : Int32) * (0 : Int32)), .ref lo, .int 0, .ref li] _
    rw [show ((2 : Int32) * (0 : Int32)) = (0 : Int32) from by decide]
    show Sq p e below m T22 51 #[rv a, iv 1, iv 2, iv 0, iv 0] [.int 0, .ref lo, .int 0, .ref li] _
    refine st23 _ ?_
    show Sq p e below m T22 52 #[rv a, iv 1, iv 2, iv 0, iv 0] [.int s0, .int 0, .ref li] _
    refine st24 _ ?_
    show Sq p e below m T24 53 #[rv a, iv 1, iv 2, iv 0, iv 0] [] _
    refine XS.aloadN X24.here hx rfl (hb hby d10_53) rfl rfl ?_
    show Sq p e below m T24 54 #[rv a, iv 1, iv 2, iv 0, iv 0] [.ref a] _
    refine st28 _ ?_
    show Sq p e below m T28 57 #[rv a, iv 1, iv 2, iv 0, iv 0] [.ref li] _
    refine XS.iconst X28.here hx rfl (hb hby d10_57) ?_
    refine XS.iloadN X28.here hx rfl (hb hby d10_58) rfl ?_
    show Sq p e below m T28 59 #[rv a, iv 1, iv 2, iv 0, iv 0] [.int 0, .int 2, .ref li] _
    refine XS.imul X28.here hx rfl (hb hby d10_59) rfl ?_
    show Sq p e below m T28 60 #[rv a, iv 1, iv 2, iv 0, iv 0] [.int ((2 : Int32) * (0 : Int32)), .ref li] _
    rw [show ((2 : Int32) * (0 : Int32)) = (0 : Int32) from by decide]
    show Sq p e below m T28 60 #[rv a, iv 1, iv 2, iv 0, iv 0] [.int 0, .ref li] _
    refine XS.iconst X28.here hx rfl (hb hby d10_60) ?_
    refine XS.iadd X28.here hx rfl (hb hby d10_61) rfl ?_
    show Sq p e below m T28 62 #[rv a, iv 1, iv 2, iv 0, iv 0] [.int ((0 : Int32) + (1 : Int32)), .ref li] _
    rw [show ((0 : Int32) + (1 : Int32)) = (1 : Int32) from by decide]
    show Sq p e below m T28 62 #[rv a, iv 1, iv 2, iv 0, iv 0] [.int 1, .ref li] _
    refine XS.aloadN X28.here hx rfl (hb hby d10_62) rfl rfl ?_
    show Sq p e below m T28 63 #[rv a, iv 1, iv 2, iv 0, iv 0] [.ref a, .int 1, .ref li] _
    refine st29 _ ?_
    show Sq p e below m T29 66 #[rv a, iv 1, iv 2, iv 0, iv 0] [.ref lo, .int 1, .ref li] _
    refine XS.iconst X29.here hx rfl (hb hby d10_66) ?_
    refine XS.iload X29.here hx rfl (hb hby d10_67) rfl ?_
    show Sq p e below m T29 69 #[rv a, iv 1, iv 2, iv 0, iv 0] [.int 0, .int 2, .ref lo, .int 1, .ref li] _
    refine XS.imul X29.here hx rfl (hb hby d10_69) rfl ?_
    show Sq p e below m T29 70 #[rv a, iv 1, iv 2, iv 0, iv 0] [.int ((2 : Int32) * (0 : Int32)), .ref lo, .int 1, .ref li] _
    rw [show ((2 : Int32) * (0 : Int32)) = (0 : Int32) from by decide]
    show Sq p e below m T29 70 #[rv a, iv 1, iv 2, iv 0, iv 0] [.int 0, .ref lo, .int 1, .ref li] _
    refine XS.iconst X29.here hx rfl (hb hby d10_70) ?_
    refine XS.iadd X29.here hx rfl (hb hby d10_71) rfl ?_
    show Sq p e below m T29 72 #[rv a, iv 1, iv 2, iv 0, iv 0] [.int ((0 : Int32) + (1 : Int32)), .ref lo, .int 1, .ref li] _
    rw [show ((0 : Int32) + (1 : Int32)) = (1 : Int32) from by decide]
    show Sq p e below m T29 72 #[rv a, iv 1, iv 2, iv 0, iv 0] [.int 1, .ref lo, .int 1, .ref li] _
    refine st30 _ ?_
    show Sq p e below m T29 73 #[rv a, iv 1, iv 2, iv 0, iv 0] [.int k0, .int 1, .ref li] _
    refine st31 _ ?_
    show Sq p e below m T31 74 #[rv a, iv 1, iv 2, iv 0, iv 0] [] _
    refine XS.aloadN X31.here hx rfl (hb hby d10_74) rfl rfl ?_
    show Sq p e below m T31 75 #[rv a, iv 1, iv 2, iv 0, iv 0] [.ref a] _
    refine st35 _ ?_
    show Sq p e below m T35 78 #[rv a, iv 1, iv 2, iv 0, iv 0] [.ref ea] _
    refine XS.iload X35.here hx rfl (hb hby d10_78) rfl ?_
    show Sq p e below m T35 80 #[rv a, iv 1, iv 2, iv 0, iv 0] [.int 0, .ref ea] _
    refine st36 _ ?_
    show Sq p e below m T35 81 #[rv a, iv 1, iv 2, iv 0, iv 0] [.int (-1)] _
    refine XS.istore X35.here hx rfl (hb hby d10_81) rfl rfl ?_
    refine XS.goto X35.here hx rfl (pc0 := 83) (pc' := 27) rfl (hb hby d10_83) (by decide) (by decide) ?_
    show Sq p e below m T35 27 #[rv a, iv 1, iv 2, iv 0, iv (-1)] [] _
    refine XS.iload X35.here hx rfl (hb hby d10_27) rfl ?_
    refine XS.iconst X35.here hx rfl (hb hby d10_29) ?_
    show Sq p e below m T35 30 #[rv a, iv 1, iv 2, iv 0, iv (-1)] [.int (-1), .int (-1)] _
    refine XS.icmpYes X35.here hx rfl (pc0 := 30) (pc' := 86) rfl (hb hby d10_30) rfl (teq (rfl : (-1 : Int32) = (-1 : Int32))).1 (by decide) (by decide) ?_
    refine XS.iloadN X35.here hx rfl (hb hby d10_86) rfl ?_
    show Sq p e below m T35 87 #[rv a, iv 1, iv 2, iv 0, iv (-1)] [.int 2] _
    exact retI X35 hx Bd.returns (hb hby d10_87) hr
  · show Q_path1b Z a n lo ea li kl ke ki s0 k0 s1 k1 s2 k2 x2 h0 n0 _ T35.heap _
    rw [e35]
    exact ⟨rfl, N34, K33, V31⟩
def Q_path2a (Z : State) (a : Addr) (n : Int32) (lo : Addr) (ea : Addr) (li : Addr) (kl : ClassId) (ke : ClassId) (ki : ClassId) (s0 : Int32) (k0 : Int32) (s1 : Int32) (k1 : Int32) (s2 : Int32) (k2 : Int32) (x1 : Int32) (h0 : Heap) (n0 : Nat) (v : Option Value) (h : Heap) (L : List Loc) : Prop := v = some (.int (1 : Int32)) ∧ Fr n0 L ∧ Keep h0 h [li] ∧ Arv Z h li ki .int ((2 : Int32) * n) [(.int s2), (.int k2), (.int (0 : Int32)), (.int (0 : Int32)), (.int (0 : Int32)), (.int (0 : Int32))] (.int (0 : Int32))
theorem ef_13 (m : MethodId) (x0 : Addr) (x1 : Int32) : entryFrame m #[(.ref x0), (.int x1)] 5 = mkF m 0 #[.val (.ref x0), .val (.int x1), .unset, .unset, .unset] [] := by first | (simp [entryFrame, mkF, argsToLocals, Value.category]; done) | rfl
set_option maxRecDepth 65536 in
set_option maxHeartbeats 40000000 in
theorem path2a (l : Launch) (Z : State) (a0 : Array Value) (hw : ∀ d ∈ tables_1, d.before a0 Z = true) (ws : List Jvm.Cond) (a : Addr) (n : Int32) (lo : Addr) (ea : Addr) (li : Addr) (kl : ClassId) (ke : ClassId) (ki : ClassId) (s0 : Int32) (k0 : Int32) (s1 : Int32) (k1 : Int32) (s2 : Int32) (k2 : Int32) (x1 : Int32) (h0 : Heap) (n0 : Nat) (O : Old Z n0 h0) (f0 : Fld Z h0 a "com/example/dodder/dodder/engine/PathWrites" "logged" "[I" (.ref lo)) (f1 : Fld Z h0 a "com/example/dodder/dodder/engine/PathWrites" "earlierWrites" "[I" (.ref ea)) (f2 : Fld Z h0 a "com/example/dodder/dodder/engine/PathWrites" "listed" "[I" (.ref li)) (v0 : Arv Z h0 lo kl .int ((2 : Int32) * n) [(.int s0), (.int k0), (.int s1), (.int k1), (.int s2), (.int k2)] (.int (0 : Int32))) (v1 : Arv Z h0 ea ke .int n [(.int (-1 : Int32)), (.int x1), (.int (-1 : Int32)), (.int (0 : Int32)), (.int (0 : Int32)), (.int (0 : Int32))] (.int (0 : Int32))) (v2 : Arv Z h0 li ki .int ((2 : Int32) * n) [(.int (0 : Int32)), (.int (0 : Int32)), (.int (0 : Int32)), (.int (0 : Int32)), (.int (0 : Int32)), (.int (0 : Int32))] (.int (0 : Int32))) (gl : n0 ≤ li) (n1 : lo ≠ li) (n2 : ea ≠ li) (n3 : a ≠ li) (hn : 3 ≤ n.toInt ∧ n.toInt ≤ 16) :
    Ctr l Z y_8 prog_20_method_6_code 5 (some .int) ws ({ frames := 0, cells := 0, slots := 0, locals := 0 } : Room) #[(.ref a), (.int (2 : Int32))] h0 (Q_path2a Z a n lo ea li kl ke ki s0 k0 s1 k1 s2 k2 x1 h0 n0) := by
  refine MetFree.of_bodySF (plainFor_of_name pn_1) hisR ?_
  intro p e s m args below meth c s₁ Bd hml0 hP hK
  obtain ⟨rfl, hZ, hh⟩ := hP
  have W := fun (i : Nat) {d : Jvm.Cond} (h : tables_1[i]? = some d) => hw d (List.mem_of_getElem? h)
  have hx := Bd.exec
  have hby := Bd.bytes
  have hml : c.maxLocals = 5 := hml0
  have hown : s.vm.findClass "com/example/dodder/dodder/engine/PathWrites" = some m.cls := findClass_of_methodNamed Bd.named
  have hnm := (name_of_methodNamed Bd.named Bd.method).1
  have X0 : Stand p l e ({ frames := 0, cells := 0, slots := 0, locals := 0 } : Room) s m #[(.ref a), (.int (2 : Int32))] below meth c s₁ [] 0 0 := Stand.of_body Bd
  have e0 : s₁.heap = h0 := by rw [← hh, Bd.state]; rfl
  have N0 := Fr.nil n0
  have pre0 : ∀ t, Steps p.tables e below (s₁.setTop (mkF m 0 #[.val (.ref a), .val (.int (2 : Int32)), .unset, .unset, .unset] [])) t → Steps p.tables e below (s₁.setTop (entryFrame m #[(.ref a), (.int (2 : Int32))] 5)) t := fun t kk_ => castTop (ef_13 m a (2 : Int32)) kk_
  have K0 := Keep.refl h0 [li]
  obtain ⟨T1, X1, e1, st1⟩ := getF X0 hx hZ hown (host := "") (Or.inl (W 14 rfl)) Via.refl e0 f1 (g := (mkF m 13 #[rv a, iv 2, iv 1, iv 2, .unset] [.ref a])) rfl rfl (hb hby d10_13)
  obtain ⟨cl2, Ar2, q2, S2, Ng2, Hh2, Gg2⟩ := id v1
  have st2 := X1.iaload hx (j := (2 : Int32)) (v := (.int (-1 : Int32))) (by rw [e1]; exact Ar2.1) (State.isArrayOf_alike hZ.alike Ar2.2.1) Ar2.2.2 (inb_of S2 (own_j1 hn (by decide) (by decide))) (Hh2.at (inb_of S2 (own_j1 hn (by decide) (by decide))) rfl) (g := (mkF m 17 #[rv a, iv 2, iv 1, iv 2, .unset] [.int 2, .ref ea])) rfl rfl (hb hby d10_17)
  obtain ⟨T3, X3, e3, st3⟩ := getF X1 hx hZ hown (host := "") (Or.inl (W 22 rfl)) Via.refl e1 f2 (g := (mkF m 37 #[rv a, iv 2, iv 1, iv 0, iv 2] [.ref a])) rfl rfl (hb hby d10_37)
  obtain ⟨T4, X4, e4, st4⟩ := getF X3 hx hZ hown (host := "") (Or.inl (W 12 rfl)) Via.refl e3 f0 (g := (mkF m 44 #[rv a, iv 2, iv 1, iv 0, iv 2] [.ref a, .int 0, .ref li])) rfl rfl (hb hby d10_44)
  obtain ⟨cl5, Ar5, q5, S5, Ng5, Hh5, Gg5⟩ := id v0
  have st5 := X4.iaload hx (j := (4 : Int32)) (v := (.int s2)) (by rw [e4]; exact Ar5.1) (State.isArrayOf_alike hZ.alike Ar5.2.1) Ar5.2.2 (inb_of S5 (own_j2 hn (by decide) (by decide))) (Hh5.at (inb_of S5 (own_j2 hn (by decide) (by decide))) rfl) (g := (mkF m 51 #[rv a, iv 2, iv 1, iv 0, iv 2] [.int 4, .ref lo, .int 0, .ref li])) rfl rfl (hb hby d10_51)
  obtain ⟨cl6, Ar6, q6, S6, Ng6, Hh6, Gg6⟩ := id v2
  obtain ⟨T6, h6, X6, e6, W6, st6⟩ := stI X4 hx hZ e4 Ar6 (j := (0 : Int32)) (inb_of S6 (own_j2 hn (by decide) (by decide))) (g := (mkF m 52 #[rv a, iv 2, iv 1, iv 0, iv 2] [.int s2, .int 0, .ref li])) rfl rfl (hb hby d10_52)
  have V6 : Arv Z h6 li ki .int ((2 : Int32) * n) [(.int s2), (.int (0 : Int32)), (.int (0 : Int32)), (.int (0 : Int32)), (.int (0 : Int32)), (.int (0 : Int32))] (.int (0 : Int32)) := Arv.set Ar6 q6 S6 Ng6 Hh6 Gg6 rfl W6 0 rfl (Nat.le_of_ble_eq_true rfl)
  have f0 := f0.other W6 (Or.inl n3)
  have f1 := f1.other W6 (Or.inl n3)
  have f2 := f2.other W6 (Or.inl n3)
  have v0 := v0.other W6 n1
  have v1 := v1.other W6 n2
  have K8 := K0.wr W6 (Or.inl (List.mem_of_getElem? (i := 0) rfl))
  have N9 := Fr.snoc X6 N0 gl
  obtain ⟨T10, X10, e10, st10⟩ := getF X6 hx hZ hown (host := "") (Or.inl (W 22 rfl)) Via.refl e6 f2 (g := (mkF m 54 #[rv a, iv 2, iv 1, iv 0, iv 2] [.ref a])) rfl rfl (hb hby d10_54)
  obtain ⟨T11, X11, e11, st11⟩ := getF X10 hx hZ hown (host := "") (Or.inl (W 12 rfl)) Via.refl e10 f0 (g := (mkF m 63 #[rv a, iv 2, iv 1, iv 0, iv 2] [.ref a, .int 1, .ref li])) rfl rfl (hb hby d10_63)
  obtain ⟨cl12, Ar12, q12, S12, Ng12, Hh12, Gg12⟩ := id v0
  have st12 := X11.iaload hx (j := (5 : Int32)) (v := (.int k2)) (by rw [e11]; exact Ar12.1) (State.isArrayOf_alike hZ.alike Ar12.2.1) Ar12.2.2 (inb_of S12 (own_j2 hn (by decide) (by decide))) (Hh12.at (inb_of S12 (own_j2 hn (by decide) (by decide))) rfl) (g := (mkF m 72 #[rv a, iv 2, iv 1, iv 0, iv 2] [.int 5, .ref lo, .int 1, .ref li])) rfl rfl (hb hby d10_72)
  obtain ⟨cl13, Ar13, q13, S13, Ng13, Hh13, Gg13⟩ := id V6
  obtain ⟨T13, h13, X13, e13, W13, st13⟩ := stI X11 hx hZ e11 Ar13 (j := (1 : Int32)) (inb_of S13 (own_j2 hn (by decide) (by decide))) (g := (mkF m 73 #[rv a, iv 2, iv 1, iv 0, iv 2] [.int k2, .int 1, .ref li])) rfl rfl (hb hby d10_73)
  have V13 : Arv Z h13 li ki .int ((2 : Int32) * n) [(.int s2), (.int k2), (.int (0 : Int32)), (.int (0 : Int32)), (.int (0 : Int32)), (.int (0 : Int32))] (.int (0 : Int32)) := Arv.set Ar13 q13 S13 Ng13 Hh13 Gg13 rfl W13 1 rfl (Nat.le_of_ble_eq_true rfl)
  have f1 := f1.other W13 (Or.inl n3)
  have v1 := v1.other W13 n2
  have K15 := K8.wr W13 (Or.inl (List.mem_of_getElem? (i := 0) rfl))
  have N16 := Fr.snoc X13 N9 gl
  obtain ⟨T17, X17, e17, st17⟩ := getF X13 hx hZ hown (host := "") (Or.inl (W 14 rfl)) Via.refl e13 f1 (g := (mkF m 75 #[rv a, iv 2, iv 1, iv 0, iv 2] [.ref a])) rfl rfl (hb hby d10_75)
  obtain ⟨cl18, Ar18, q18, S18, Ng18, Hh18, Gg18⟩ := id v1
  have st18 := X17.iaload hx (j := (2 : Int32)) (v := (.int (-1 : Int32))) (by rw [e17]; exact Ar18.1) (State.isArrayOf_alike hZ.alike Ar18.2.1) Ar18.2.2 (inb_of S18 (own_j1 hn (by decide) (by decide))) (Hh18.at (inb_of S18 (own_j1 hn (by decide) (by decide))) rfl) (g := (mkF m 80 #[rv a, iv 2, iv 1, iv 0, iv 2] [.int 2, .ref ea])) rfl rfl (hb hby d10_80)
  obtain ⟨fs, hr, hrun, hended, hW, hsame⟩ := X17.leave (v := some (.int (1 : Int32))) (fun h => by rw [Bd.returns] at h; cases h)
  refine ⟨_, _, pre0 _ ?_, hrun, hended, _, _, rfl, ?_, ⟨_, rfl⟩, hW, hsame.mono (by decide) (by decide)⟩
  · show Sq p e below m s₁ 0 #[rv a, iv 2, .unset, .unset, .unset] [] _
    refine XS.iconst X0.here hx rfl (hb hby d10_0) ?_
    refine XS.istoreN X0.here hx rfl (hb hby d10_1) rfl rfl ?_
    show Sq p e below m s₁ 2 #[rv a, iv 2, iv 0, .unset, .unset] [] _
    refine XS.iloadN X0.here hx rfl (hb hby d10_2) rfl ?_
    refine XS.istoreN X0.here hx rfl (hb hby d10_3) rfl rfl ?_
    show Sq p e below m s₁ 4 #[rv a, iv 2, iv 0, iv 2, .unset] [] _
    refine XS.iloadN X0.here hx rfl (hb hby d10_4) rfl ?_
    refine XS.iconst X0.here hx rfl (hb hby d10_5) ?_
    show Sq p e below m s₁ 6 #[rv a, iv 2, iv 0, iv 2, .unset] [.int (-1), .int 2] _
    refine XS.icmpNo X0.here hx rfl (hb hby d10_6) rfl (feq (by decide)).1 ?_
    show Sq p e below m s₁ 9 #[rv a, iv 2, iv 0, iv 2, .unset] [] _
    refine XS.iinc X0.here hx rfl (hb hby d10_9) rfl rfl ?_
    show Sq p e below m s₁ 12 #[rv a, iv 2, iv ((0 : Int32) + (1 : Int32)), iv 2, .unset] [] _
    rw [show ((0 : Int32) + (1 : Int32)) = (1 : Int32) from by decide]
    show Sq p e below m s₁ 12 #[rv a, iv 2, iv 1, iv 2, .unset] [] _
    refine XS.aloadN X0.here hx rfl (hb hby d10_12) rfl rfl ?_
    show Sq p e below m s₁ 13 #[rv a, iv 2, iv 1, iv 2, .unset] [.ref a] _
    refine st1 _ ?_
    show Sq p e below m T1 16 #[rv a, iv 2, iv 1, iv 2, .unset] [.ref ea] _
    refine XS.iloadN X1.here hx rfl (hb hby d10_16) rfl ?_
    show Sq p e below m T1 17 #[rv a, iv 2, iv 1, iv 2, .unset] [.int 2, .ref ea] _
    refine st2 _ ?_
    show Sq p e below m T1 18 #[rv a, iv 2, iv 1, iv 2, .unset] [.int (-1)] _
    refine XS.istoreN X1.here hx rfl (hb hby d10_18) rfl rfl ?_
    refine XS.goto X1.here hx rfl (pc0 := 19) (pc' := 4) rfl (hb hby d10_19) (by decide) (by decide) ?_
    show Sq p e below m T1 4 #[rv a, iv 2, iv 1, iv (-1), .unset] [] _
    refine XS.iloadN X1.here hx rfl (hb hby d10_4) rfl ?_
    refine XS.iconst X1.here hx rfl (hb hby d10_5) ?_
    show Sq p e below m T1 6 #[rv a, iv 2, iv 1, iv (-1), .unset] [.int (-1), .int (-1)] _
    refine XS.icmpYes X1.here hx rfl (pc0 := 6) (pc' := 22) rfl (hb hby d10_6) rfl (teq (rfl : (-1 : Int32) = (-1 : Int32))).1 (by decide) (by decide) ?_
    refine XS.iloadN X1.here hx rfl (hb hby d10_22) rfl ?_
    show Sq p e below m T1 23 #[rv a, iv 2, iv 1, iv (-1), .unset] [.int 1] _
    refine XS.istoreN X1.here hx rfl (hb hby d10_23) rfl rfl ?_
    refine XS.iloadN X1.here hx rfl (hb hby d10_24) rfl ?_
    show Sq p e below m T1 25 #[rv a, iv 2, iv 1, iv 1, .unset] [.int 2] _
    refine XS.istore X1.here hx rfl (hb hby d10_25) rfl rfl ?_
    refine XS.iload X1.here hx rfl (hb hby d10_27) rfl ?_
    show Sq p e below m T1 29 #[rv a, iv 2, iv 1, iv 1, iv 2] [.int 2] _
    refine XS.iconst X1.here hx rfl (hb hby d10_29) ?_
    refine XS.icmpNo X1.here hx rfl (hb hby d10_30) rfl (feq (by decide)).1 ?_
    show Sq p e below m T1 33 #[rv a, iv 2, iv 1, iv 1, iv 2] [] _
    refine XS.iinc X1.here hx rfl (hb hby d10_33) rfl rfl ?_
    show Sq p e below m T1 36 #[rv a, iv 2, iv 1, iv ((1 : Int32) + (-1 : Int32)), iv 2] [] _
    rw [show ((1 : Int32) + (-1 : Int32)) = (0 : Int32) from by decide]
    show Sq p e below m T1 36 #[rv a, iv 2, iv 1, iv 0, iv 2] [] _
    refine XS.aloadN X1.here hx rfl (hb hby d10_36) rfl rfl ?_
    show Sq p e below m T1 37 #[rv a, iv 2, iv 1, iv 0, iv 2] [.ref a] _
    refine st3 _ ?_
    show Sq p e below m T3 40 #[rv a, iv 2, iv 1, iv 0, iv 2] [.ref li] _
    refine XS.iconst X3.here hx rfl (hb hby d10_40) ?_
    refine XS.iloadN X3.here hx rfl (hb hby d10_41) rfl ?_
    show Sq p e below m T3 42 #[rv a, iv 2, iv 1, iv 0, iv 2] [.int 0, .int 2, .ref li] _
    refine XS.imul X3.here hx rfl (hb hby d10_42) rfl ?_
    show Sq p e below m T3 43 #[rv a, iv 2, iv 1, iv 0, iv 2] [.int ((2 : Int32) * (0 : Int32)), .ref li] _
    rw [show ((2 : Int32) * (0 : Int32)) = (0 : Int32) from by decide]
    show Sq p e below m T3 43 #[rv a, iv 2, iv 1, iv 0, iv 2] [.int 0, .ref li] _
    refine XS.aloadN X3.here hx rfl (hb hby d10_43) rfl rfl ?_
    show Sq p e below m T3 44 #[rv a, iv 2, iv 1, iv 0, iv 2] [.ref a, .int 0, .ref li] _
    refine st4 _ ?_
    show Sq p e below m T4 47 #[rv a, iv 2, iv 1, iv 0, iv 2] [.ref lo, .int 0, .ref li] _
    refine XS.iconst X4.here hx rfl (hb hby d10_47) ?_
    refine XS.iload X4.here hx rfl (hb hby d10_48) rfl ?_
    show Sq p e below m T4 50 #[rv a, iv 2, iv 1, iv 0, iv 2] [.int 2, .int 2, .ref lo, .int 0, .ref li] _
    refine XS.imul X4.here hx rfl (hb hby d10_50) rfl ?_
    show Sq p e below m T4 51 #[rv a, iv 2, iv 1, iv 0, iv 2] [.int ((2 : Int32) * (2 : Int32)), .ref lo, .int 0, .ref li] _
    rw [show ((2 : Int32) * (2 : Int32)) = (4 : Int32) from by decide]
    show Sq p e below m T4 51 #[rv a, iv 2, iv 1, iv 0, iv 2] [.int 4, .ref lo, .int 0, .ref li] _
    refine st5 _ ?_
    show Sq p e below m T4 52 #[rv a, iv 2, iv 1, iv 0, iv 2] [.int s2, .int 0, .ref li] _
    refine st6 _ ?_
    show Sq p e below m T6 53 #[rv a, iv 2, iv 1, iv 0, iv 2] [] _
    refine XS.aloadN X6.here hx rfl (hb hby d10_53) rfl rfl ?_
    show Sq p e below m T6 54 #[rv a, iv 2, iv 1, iv 0, iv 2] [.ref a] _
    refine st10 _ ?_
    show Sq p e below m T10 57 #[rv a, iv 2, iv 1, iv 0, iv 2] [.ref li] _
    refine XS.iconst X10.here hx rfl (hb hby d10_57) ?_
    refine XS.iloadN X10.here hx rfl (hb hby d10_58) rfl ?_
    show Sq p e below m T10 59 #[rv a, iv 2, iv 1, iv 0, iv 2] [.int 0, .int 2, .ref li] _
    refine XS.imul X10.here hx rfl (hb hby d10_59) rfl ?_
    show Sq p e below m T10 60 #[rv a, iv 2, iv 1, iv 0, iv 2] [.int ((2 : Int32) * (0 : Int32)), .ref li] _
    rw [show ((2 : Int32) * (0 : Int32)) = (0 : Int32) from by decide]
    show Sq p e below m T10 60 #[rv a, iv 2, iv 1, iv 0, iv 2] [.int 0, .ref li] _
    refine XS.iconst X10.here hx rfl (hb hby d10_60) ?_
    refine XS.iadd X10.here hx rfl (hb hby d10_61) rfl ?_
    show Sq p e below m T10 62 #[rv a, iv 2, iv 1, iv 0, iv 2] [.int ((0 : Int32) + (1 : Int32)), .ref li] _
    rw [show ((0 : Int32) + (1 : Int32)) = (1 : Int32) from by decide]
    show Sq p e below m T10 62 #[rv a, iv 2, iv 1, iv 0, iv 2] [.int 1, .ref li] _
    refine XS.aloadN X10.here hx rfl (hb hby d10_62) rfl rfl ?_
    show Sq p e below m T10 63 #[rv a, iv 2, iv 1, iv 0, iv 2] [.ref a, .int 1, .ref li] _
    refine st11 _ ?_
    show Sq p e below m T11 66 #[rv a, iv 2, iv 1, iv 0, iv 2] [.ref lo, .int 1, .ref li] _
    refine XS.iconst X11.here hx rfl (hb hby d10_66) ?_
    refine XS.iload X11.here hx rfl (hb hby d10_67) rfl ?_
    show Sq p e below m T11 69 #[rv a, iv 2, iv 1, iv 0, iv 2] [.int 2, .int 2, .ref lo, .int 1, .ref li] _
    refine XS.imul X11.here hx rfl (hb hby d10_69) rfl ?_
    show Sq p e below m T11 70 #[rv a, iv 2, iv 1, iv 0, iv 2] [.int ((2 : Int32) * (2 : Int32)), .ref lo, .int 1, .ref li] _
    rw [show ((2 : Int32) * (2 : Int32)) = (4 : Int32) from by decide]
    show Sq p e below m T11 70 #[rv a, iv 2, iv 1, iv 0, iv 2] [.int 4, .ref lo, .int 1, .ref li] _
    refine XS.iconst X11.here hx rfl (hb hby d10_70) ?_
    refine XS.iadd X11.here hx rfl (hb hby d10_71) rfl ?_
    show Sq p e below m T11 72 #[rv a, iv 2, iv 1, iv 0, iv 2] [.int ((4 : Int32) + (1 : Int32)), .ref lo, .int 1, .ref li] _
    rw [show ((4 : Int32) + (1 : Int32)) = (5 : Int32) from by decide]
    show Sq p e below m T11 72 #[rv a, iv 2, iv 1, iv 0, iv 2] [.int 5, .ref lo, .int 1, .ref li] _
    refine st12 _ ?_
    show Sq p e below m T11 73 #[rv a, iv 2, iv 1, iv 0, iv 2] [.int k2, .int 1, .ref li] _
    refine st13 _ ?_
    show Sq p e below m T13 74 #[rv a, iv 2, iv 1, iv 0, iv 2] [] _
    refine XS.aloadN X13.here hx rfl (hb hby d10_74) rfl rfl ?_
    show Sq p e below m T13 75 #[rv a, iv 2, iv 1, iv 0, iv 2] [.ref a] _
    refine st17 _ ?_
    show Sq p e below m T17 78 #[rv a, iv 2, iv 1, iv 0, iv 2] [.ref ea] _
    refine XS.iload X17.here hx rfl (hb hby d10_78) rfl ?_
    show Sq p e below m T17 80 #[rv a, iv 2, iv 1, iv 0, iv 2] [.int 2, .ref ea] _
    refine st18 _ ?_
    show Sq p e below m T17 81 #[rv a, iv 2, iv 1, iv 0, iv 2] [.int (-1)] _
    refine XS.istore X17.here hx rfl (hb hby d10_81) rfl rfl ?_
    refine XS.goto X17.here hx rfl (pc0 := 83) (pc' := 27) rfl (hb hby d10_83) (by decide) (by decide) ?_
    show Sq p e below m T17 27 #[rv a, iv 2, iv 1, iv 0, iv (-1)] [] _
    refine XS.iload X17.here hx rfl (hb hby d10_27) rfl ?_
    refine XS.iconst X17.here hx rfl (hb hby d10_29) ?_
    show Sq p e below m T17 30 #[rv a, iv 2, iv 1, iv 0, iv (-1)] [.int (-1), .int (-1)] _
    refine XS.icmpYes X17.here hx rfl (pc0 := 30) (pc' := 86) rfl (hb hby d10_30) rfl (teq (rfl : (-1 : Int32) = (-1 : Int32))).1 (by decide) (by decide) ?_
    refine XS.iloadN X17.here hx rfl (hb hby d10_86) rfl ?_
    show Sq p e below m T17 87 #[rv a, iv 2, iv 1, iv 0, iv (-1)] [.int 1] _
    exact retI X17 hx Bd.returns (hb hby d10_87) hr
  · show Q_path2a Z a n lo ea li kl ke ki s0 k0 s1 k1 s2 k2 x1 h0 n0 _ T17.heap _
    rw [e17]
    exact ⟨rfl, N16, K15, V13⟩
def Q_path2b (Z : State) (a : Addr) (n : Int32) (lo : Addr) (ea : Addr) (li : Addr) (kl : ClassId) (ke : ClassId) (ki : ClassId) (s0 : Int32) (k0 : Int32) (s1 : Int32) (k1 : Int32) (s2 : Int32) (k2 : Int32) (x1 : Int32) (h0 : Heap) (n0 : Nat) (v : Option Value) (h : Heap) (L : List Loc) : Prop := v = some (.int (2 : Int32)) ∧ Fr n0 L ∧ Keep h0 h [li] ∧ Arv Z h li ki .int ((2 : Int32) * n) [(.int s0), (.int k0), (.int s2), (.int k2), (.int (0 : Int32)), (.int (0 : Int32))] (.int (0 : Int32))
set_option maxRecDepth 65536 in
set_option maxHeartbeats 40000000 in
theorem path2b (l : Launch) (Z : State) (a0 : Array Value) (hw : ∀ d ∈ tables_1, d.before a0 Z = true) (ws : List Jvm.Cond) (a : Addr) (n : Int32) (lo : Addr) (ea : Addr) (li : Addr) (kl : ClassId) (ke : ClassId) (ki : ClassId) (s0 : Int32) (k0 : Int32) (s1 : Int32) (k1 : Int32) (s2 : Int32) (k2 : Int32) (x1 : Int32) (h0 : Heap) (n0 : Nat) (O : Old Z n0 h0) (f0 : Fld Z h0 a "com/example/dodder/dodder/engine/PathWrites" "logged" "[I" (.ref lo)) (f1 : Fld Z h0 a "com/example/dodder/dodder/engine/PathWrites" "earlierWrites" "[I" (.ref ea)) (f2 : Fld Z h0 a "com/example/dodder/dodder/engine/PathWrites" "listed" "[I" (.ref li)) (v0 : Arv Z h0 lo kl .int ((2 : Int32) * n) [(.int s0), (.int k0), (.int s1), (.int k1), (.int s2), (.int k2)] (.int (0 : Int32))) (v1 : Arv Z h0 ea ke .int n [(.int (-1 : Int32)), (.int x1), (.int (0 : Int32)), (.int (0 : Int32)), (.int (0 : Int32)), (.int (0 : Int32))] (.int (0 : Int32))) (v2 : Arv Z h0 li ki .int ((2 : Int32) * n) [(.int (0 : Int32)), (.int (0 : Int32)), (.int (0 : Int32)), (.int (0 : Int32)), (.int (0 : Int32)), (.int (0 : Int32))] (.int (0 : Int32))) (gl : n0 ≤ li) (n1 : lo ≠ li) (n2 : ea ≠ li) (n3 : a ≠ li) (hn : 3 ≤ n.toInt ∧ n.toInt ≤ 16) :
    Ctr l Z y_8 prog_20_method_6_code 5 (some .int) ws ({ frames := 0, cells := 0, slots := 0, locals := 0 } : Room) #[(.ref a), (.int (2 : Int32))] h0 (Q_path2b Z a n lo ea li kl ke ki s0 k0 s1 k1 s2 k2 x1 h0 n0) := by
  refine MetFree.of_bodySF (plainFor_of_name pn_1) hisR ?_
  intro p e s m args below meth c s₁ Bd hml0 hP hK
  obtain ⟨rfl, hZ, hh⟩ := hP
  have W := fun (i : Nat) {d : Jvm.Cond} (h : tables_1[i]? = some d) => hw d (List.mem_of_getElem? h)
  have hx := Bd.exec
  have hby := Bd.bytes
  have hml : c.maxLocals = 5 := hml0
  have hown : s.vm.findClass "com/example/dodder/dodder/engine/PathWrites" = some m.cls := findClass_of_methodNamed Bd.named
  have hnm := (name_of_methodNamed Bd.named Bd.method).1
  have X0 : Stand p l e ({ frames := 0, cells := 0, slots := 0, locals := 0 } : Room) s m #[(.ref a), (.int (2 : Int32))] below meth c s₁ [] 0 0 := Stand.of_body Bd
  have e0 : s₁.heap = h0 := by rw [← hh, Bd.state]; rfl
  have N0 := Fr.nil n0
  have pre0 : ∀ t, Steps p.tables e below (s₁.setTop (mkF m 0 #[.val (.ref a), .val (.int (2 : Int32)), .unset, .unset, .unset] [])) t → Steps p.tables e below (s₁.setTop (entryFrame m #[(.ref a), (.int (2 : Int32))] 5)) t := fun t kk_ => castTop (ef_13 m a (2 : Int32)) kk_
  have K0 := Keep.refl h0 [li]
  obtain ⟨T1, X1, e1, st1⟩ := getF X0 hx hZ hown (host := "") (Or.inl (W 14 rfl)) Via.refl e0 f1 (g := (mkF m 13 #[rv a, iv 2, iv 1, iv 2, .unset] [.ref a])) rfl rfl (hb hby d10_13)
  obtain ⟨cl2, Ar2, q2, S2, Ng2, Hh2, Gg2⟩ := id v1
  have st2 := X1.iaload hx (j := (2 : Int32)) (v := (.int (0 : Int32))) (by rw [e1]; exact Ar2.1) (State.isArrayOf_alike hZ.alike Ar2.2.1) Ar2.2.2 (inb_of S2 (own_j1 hn (by decide) (by decide))) (Hh2.at (inb_of S2 (own_j1 hn (by decide) (by decide))) rfl) (g := (mkF m 17 #[rv a, iv 2, iv 1, iv 2, .unset] [.int 2, .ref ea])) rfl rfl (hb hby d10_17)
  obtain ⟨T3, X3, e3, st3⟩ := getF X1 hx hZ hown (host := "") (Or.inl (W 14 rfl)) Via.refl e1 f1 (g := (mkF m 13 #[rv a, iv 2, iv 2, iv 0, .unset] [.ref a])) rfl rfl (hb hby d10_13)
  obtain ⟨cl4, Ar4, q4, S4, Ng4, Hh4, Gg4⟩ := id v1
  have st4 := X3.iaload hx (j := (0 : Int32)) (v := (.int (-1 : Int32))) (by rw [e3]; exact Ar4.1) (State.isArrayOf_alike hZ.alike Ar4.2.1) Ar4.2.2 (inb_of S4 (own_j1 hn (by decide) (by decide))) (Hh4.at (inb_of S4 (own_j1 hn (by decide) (by decide))) rfl) (g := (mkF m 17 #[rv a, iv 2, iv 2, iv 0, .unset] [.int 0, .ref ea])) rfl rfl (hb hby d10_17)
  obtain ⟨T5, X5, e5, st5⟩ := getF X3 hx hZ hown (host := "") (Or.inl (W 22 rfl)) Via.refl e3 f2 (g := (mkF m 37 #[rv a, iv 2, iv 2, iv 1, iv 2] [.ref a])) rfl rfl (hb hby d10_37)
  obtain ⟨T6, X6, e6, st6⟩ := getF X5 hx hZ hown (host := "") (Or.inl (W 12 rfl)) Via.refl e5 f0 (g := (mkF m 44 #[rv a, iv 2, iv 2, iv 1, iv 2] [.ref a, .int 2, .ref li])) rfl rfl (hb hby d10_44)
  obtain ⟨cl7, Ar7, q7, S7, Ng7, Hh7, Gg7⟩ := id v0
  have st7 := X6.iaload hx (j := (4 : Int32)) (v := (.int s2)) (by rw [e6]; exact Ar7.1) (State.isArrayOf_alike hZ.alike Ar7.2.1) Ar7.2.2 (inb_of S7 (own_j2 hn (by decide) (by decide))) (Hh7.at (inb_of S7 (own_j2 hn (by decide) (by decide))) rfl) (g := (mkF m 51 #[rv a, iv 2, iv 2, iv 1, iv 2] [.int 4, .ref lo, .int 2, .ref li])) rfl rfl (hb hby d10_51)
  obtain ⟨cl8, Ar8, q8, S8, Ng8, Hh8, Gg8⟩ := id v2
  obtain ⟨T8, h8, X8, e8, W8, st8⟩ := stI X6 hx hZ e6 Ar8 (j := (2 : Int32)) (inb_of S8 (own_j2 hn (by decide) (by decide))) (g := (mkF m 52 #[rv a, iv 2, iv 2, iv 1, iv 2] [.int s2, .int 2, .ref li])) rfl rfl (hb hby d10_52)
  have V8 : Arv Z h8 li ki .int ((2 : Int32) * n) [(.int (0 : Int32)), (.int (0 : Int32)), (.int s2), (.int (0 : Int32)), (.int (0 : Int32)), (.int (0 : Int32))] (.int (0 : Int32)) := Arv.set Ar8 q8 S8 Ng8 Hh8 Gg8 rfl W8 2 rfl (Nat.le_of_ble_eq_true rfl)
  have f0 := f0.other W8 (Or.inl n3)
  have f1 := f1.other W8 (Or.inl n3)
  have f2 := f2.other W8 (Or.inl n3)
  have v0 := v0.other W8 n1
  have v1 := v1.other W8 n2
  have K10 := K0.wr W8 (Or.inl (List.mem_of_getElem? (i := 0) rfl))
  have N11 := Fr.snoc X8 N0 gl
  obtain ⟨T12, X12, e12, st12⟩ := getF X8 hx hZ hown (host := "") (Or.inl (W 22 rfl)) Via.refl e8 f2 (g := (mkF m 54 #[rv a, iv 2, iv 2, iv 1, iv 2] [.ref a])) rfl rfl (hb hby d10_54)
  obtain ⟨T13, X13, e13, st13⟩ := getF X12 hx hZ hown (host := "") (Or.inl (W 12 rfl)) Via.refl e12 f0 (g := (mkF m 63 #[rv a, iv 2, iv 2, iv 1, iv 2] [.ref a, .int 3, .ref li])) rfl rfl (hb hby d10_63)
  obtain ⟨cl14, Ar14, q14, S14, Ng14, Hh14, Gg14⟩ := id v0
  have st14 := X13.iaload hx (j := (5 : Int32)) (v := (.int k2)) (by rw [e13]; exact Ar14.1) (State.isArrayOf_alike hZ.alike Ar14.2.1) Ar14.2.2 (inb_of S14 (own_j2 hn (by decide) (by decide))) (Hh14.at (inb_of S14 (own_j2 hn (by decide) (by decide))) rfl) (g := (mkF m 72 #[rv a, iv 2, iv 2, iv 1, iv 2] [.int 5, .ref lo, .int 3, .ref li])) rfl rfl (hb hby d10_72)
  obtain ⟨cl15, Ar15, q15, S15, Ng15, Hh15, Gg15⟩ := id V8
  obtain ⟨T15, h15, X15, e15, W15, st15⟩ := stI X13 hx hZ e13 Ar15 (j := (3 : Int32)) (inb_of S15 (own_j2 hn (by decide) (by decide))) (g := (mkF m 73 #[rv a, iv 2, iv 2, iv 1, iv 2] [.int k2, .int 3, .ref li])) rfl rfl (hb hby d10_73)
  have V15 : Arv Z h15 li ki .int ((2 : Int32) * n) [(.int (0 : Int32)), (.int (0 : Int32)), (.int s2), (.int k2), (.int (0 : Int32)), (.int (0 : Int32))] (.int (0 : Int32)) := Arv.set Ar15 q15 S15 Ng15 Hh15 Gg15 rfl W15 3 rfl (Nat.le_of_ble_eq_true rfl)
  have f0 := f0.other W15 (Or.inl n3)
  have f1 := f1.other W15 (Or.inl n3)
  have f2 := f2.other W15 (Or.inl n3)
  have v0 := v0.other W15 n1
  have v1 := v1.other W15 n2
  have K17 := K10.wr W15 (Or.inl (List.mem_of_getElem? (i := 0) rfl))
  have N18 := Fr.snoc X15 N11 gl
  obtain ⟨T19, X19, e19, st19⟩ := getF X15 hx hZ hown (host := "") (Or.inl (W 14 rfl)) Via.refl e15 f1 (g := (mkF m 75 #[rv a, iv 2, iv 2, iv 1, iv 2] [.ref a])) rfl rfl (hb hby d10_75)
  obtain ⟨cl20, Ar20, q20, S20, Ng20, Hh20, Gg20⟩ := id v1
  have st20 := X19.iaload hx (j := (2 : Int32)) (v := (.int (0 : Int32))) (by rw [e19]; exact Ar20.1) (State.isArrayOf_alike hZ.alike Ar20.2.1) Ar20.2.2 (inb_of S20 (own_j1 hn (by decide) (by decide))) (Hh20.at (inb_of S20 (own_j1 hn (by decide) (by decide))) rfl) (g := (mkF m 80 #[rv a, iv 2, iv 2, iv 1, iv 2] [.int 2, .ref ea])) rfl rfl (hb hby d10_80)
  obtain ⟨T21, X21, e21, st21⟩ := getF X19 hx hZ hown (host := "") (Or.inl (W 22 rfl)) Via.refl e19 f2 (g := (mkF m 37 #[rv a, iv 2, iv 2, iv 0, iv 0] [.ref a])) rfl rfl (hb hby d10_37)
  obtain ⟨T22, X22, e22, st22⟩ := getF X21 hx hZ hown (host := "") (Or.inl (W 12 rfl)) Via.refl e21 f0 (g := (mkF m 44 #[rv a, iv 2, iv 2, iv 0, iv 0] [.ref a, .int 0, .ref li])) rfl rfl (hb hby d10_44)
  obtain ⟨cl23, Ar23, q23, S23, Ng23, Hh23, Gg23⟩ := id v0
  have st23 := X22.iaload hx (j := (0 : Int32)) (v := (.int s0)) (by rw [e22]; exact Ar23.1) (State.isArrayOf_alike hZ.alike Ar23.2.1) Ar23.2.2 (inb_of S23 (own_j2 hn (by decide) (by decide))) (Hh23.at (inb_of S23 (own_j2 hn (by decide) (by decide))) rfl) (g := (mkF m 51 #[rv a, iv 2, iv 2, iv 0, iv 0] [.int 0, .ref lo, .int 0, .ref li])) rfl rfl (hb hby d10_51)
  obtain ⟨cl24, Ar24, q24, S24, Ng24, Hh24, Gg24⟩ := id V15
  obtain ⟨T24, h24, X24, e24, W24, st24⟩ := stI X22 hx hZ e22 Ar24 (j := (0 : Int32)) (inb_of S24 (own_j2 hn (by decide) (by decide))) (g := (mkF m 52 #[rv a, iv 2, iv 2, iv 0, iv 0] [.int s0, .int 0, .ref li])) rfl rfl (hb hby d10_52)
  have V24 : Arv Z h24 li ki .int ((2 : Int32) * n) [(.int s0), (.int (0 : Int32)), (.int s2), (.int k2), (.int (0 : Int32)), (.int (0 : Int32))] (.int (0 : Int32)) := Arv.set Ar24 q24 S24 Ng24 Hh24 Gg24 rfl W24 0 rfl (Nat.le_of_ble_eq_true rfl)
  have f0 := f0.other W24 (Or.inl n3)
  have f1 := f1.other W24 (Or.inl n3)
  have f2 := f2.other W24 (Or.inl n3)
  have v0 := v0.other W24 n1
  have v1 := v1.other W24 n2
  have K26 := K17.wr W24 (Or.inl (List.mem_of_getElem? (i := 0) rfl))
  have N27 := Fr.snoc X24 N18 gl
  obtain ⟨T28, X28, e28, st28⟩ := getF X24 hx hZ hown (host := "") (Or.inl (W 22 rfl)) Via.refl e24 f2 (g := (mkF m 54 #[rv a, iv 2, iv 2, iv 0, iv 0] [.ref a])) rfl rfl (hb hby d10_54)
  obtain ⟨T29, X29, e29, st29⟩ := getF X28 hx hZ hown (host := "") (Or.inl (W 12 rfl)) Via.refl e28 f0 (g := (mkF m 63 #[rv a, iv 2, iv 2, iv 0, iv 0] [.ref a, .int 1, .ref li])) rfl rfl (hb hby d10_63)
  obtain ⟨cl30, Ar30, q30, S30, Ng30, Hh30, Gg30⟩ := id v0
  have st30 := X29.iaload hx (j := (1 : Int32)) (v := (.int k0)) (by rw [e29]; exact Ar30.1) (State.isArrayOf_alike hZ.alike Ar30.2.1) Ar30.2.2 (inb_of S30 (own_j2 hn (by decide) (by decide))) (Hh30.at (inb_of S30 (own_j2 hn (by decide) (by decide))) rfl) (g := (mkF m 72 #[rv a, iv 2, iv 2, iv 0, iv 0] [.int 1, .ref lo, .int 1, .ref li])) rfl rfl (hb hby d10_72)
  obtain ⟨cl31, Ar31, q31, S31, Ng31, Hh31, Gg31⟩ := id V24
  obtain ⟨T31, h31, X31, e31, W31, st31⟩ := stI X29 hx hZ e29 Ar31 (j := (1 : Int32)) (inb_of S31 (own_j2 hn (by decide) (by decide))) (g := (mkF m 73 #[rv a, iv 2, iv 2, iv 0, iv 0] [.int k0, .int 1, .ref li])) rfl rfl (hb hby d10_73)
  have V31 : Arv Z h31 li ki .int ((2 : Int32) * n) [(.int s0), (.int k0), (.int s2), (.int k2), (.int (0 : Int32)), (.int (0 : Int32))] (.int (0 : Int32)) := Arv.set Ar31 q31 S31 Ng31 Hh31 Gg31 rfl W31 1 rfl (Nat.le_of_ble_eq_true rfl)
  have f1 := f1.other W31 (Or.inl n3)
  have v1 := v1.other W31 n2
  have K33 := K26.wr W31 (Or.inl (List.mem_of_getElem? (i := 0) rfl))
  have N34 := Fr.snoc X31 N27 gl
  obtain ⟨T35, X35, e35, st35⟩ := getF X31 hx hZ hown (host := "") (Or.inl (W 14 rfl)) Via.refl e31 f1 (g := (mkF m 75 #[rv a, iv 2, iv 2, iv 0, iv 0] [.ref a])) rfl rfl (hb hby d10_75)
  obtain ⟨cl36, Ar36, q36, S36, Ng36, Hh36, Gg36⟩ := id v1
  have st36 := X35.iaload hx (j := (0 : Int32)) (v := (.int (-1 : Int32))) (by rw [e35]; exact Ar36.1) (State.isArrayOf_alike hZ.alike Ar36.2.1) Ar36.2.2 (inb_of S36 (own_j1 hn (by decide) (by decide))) (Hh36.at (inb_of S36 (own_j1 hn (by decide) (by decide))) rfl) (g := (mkF m 80 #[rv a, iv 2, iv 2, iv 0, iv 0] [.int 0, .ref ea])) rfl rfl (hb hby d10_80)
  obtain ⟨fs, hr, hrun, hended, hW, hsame⟩ := X35.leave (v := some (.int (2 : Int32))) (fun h => by rw [Bd.returns] at h; cases h)
  refine ⟨_, _, pre0 _ ?_, hrun, hended, _, _, rfl, ?_, ⟨_, rfl⟩, hW, hsame.mono (by decide) (by decide)⟩
  · show Sq p e below m s₁ 0 #[rv a, iv 2, .unset, .unset, .unset] [] _
    refine XS.iconst X0.here hx rfl (hb hby d10_0) ?_
    refine XS.istoreN X0.here hx rfl (hb hby d10_1) rfl rfl ?_
    show Sq p e below m s₁ 2 #[rv a, iv 2, iv 0, .unset, .unset] [] _
    refine XS.iloadN X0.here hx rfl (hb hby d10_2) rfl ?_
    refine XS.istoreN X0.here hx rfl (hb hby d10_3) rfl rfl ?_
    show Sq p e below m s₁ 4 #[rv a, iv 2, iv 0, iv 2, .unset] [] _
    refine XS.iloadN X0.here hx rfl (hb hby d10_4) rfl ?_
    refine XS.iconst X0.here hx rfl (hb hby d10_5) ?_
    show Sq p e below m s₁ 6 #[rv a, iv 2, iv 0, iv 2, .unset] [.int (-1), .int 2] _
    refine XS.icmpNo X0.here hx rfl (hb hby d10_6) rfl (feq (by decide)).1 ?_
    show Sq p e below m s₁ 9 #[rv a, iv 2, iv 0, iv 2, .unset] [] _
    refine XS.iinc X0.here hx rfl (hb hby d10_9) rfl rfl ?_
    show Sq p e below m s₁ 12 #[rv a, iv 2, iv ((0 : Int32) + (1 : Int32)), iv 2, .unset] [] _
    rw [show ((0 : Int32) + (1 : Int32)) = (1 : Int32) from by decide]
    show Sq p e below m s₁ 12 #[rv a, iv 2, iv 1, iv 2, .unset] [] _
    refine XS.aloadN X0.here hx rfl (hb hby d10_12) rfl rfl ?_
    show Sq p e below m s₁ 13 #[rv a, iv 2, iv 1, iv 2, .unset] [.ref a] _
    refine st1 _ ?_
    show Sq p e below m T1 16 #[rv a, iv 2, iv 1, iv 2, .unset] [.ref ea] _
    refine XS.iloadN X1.here hx rfl (hb hby d10_16) rfl ?_
    show Sq p e below m T1 17 #[rv a, iv 2, iv 1, iv 2, .unset] [.int 2, .ref ea] _
    refine st2 _ ?_
    show Sq p e below m T1 18 #[rv a, iv 2, iv 1, iv 2, .unset] [.int 0] _
    refine XS.istoreN X1.here hx rfl (hb hby d10_18) rfl rfl ?_
    refine XS.goto X1.here hx rfl (pc0 := 19) (pc' := 4) rfl (hb hby d10_19) (by decide) (by decide) ?_
    show Sq p e below m T1 4 #[rv a, iv 2, iv 1, iv 0, .unset] [] _
    refine XS.iloadN X1.here hx rfl (hb hby d10_4) rfl ?_
    refine XS.iconst X1.here hx rfl (hb hby d10_5) ?_
    show Sq p e below m T1 6 #[rv a, iv 2, iv 1, iv 0, .unset] [.int (-1), .int 0] _
    refine XS.icmpNo X1.here hx rfl (hb hby d10_6) rfl (feq (by decide)).1 ?_
    show Sq p e below m T1 9 #[rv a, iv 2, iv 1, iv 0, .unset] [] _
    refine XS.iinc X1.here hx rfl (hb hby d10_9) rfl rfl ?_
    show Sq p e below m T1 12 #[rv a, iv 2, iv ((1 : Int32) + (1 : Int32)), iv 0, .unset] [] _
    rw [show ((1 : Int32) + (1 : Int32)) = (2 : Int32) from by decide]
    show Sq p e below m T1 12 #[rv a, iv 2, iv 2, iv 0, .unset] [] _
    refine XS.aloadN X1.here hx rfl (hb hby d10_12) rfl rfl ?_
    show Sq p e below m T1 13 #[rv a, iv 2, iv 2, iv 0, .unset] [.ref a] _
    refine st3 _ ?_
    show Sq p e below m T3 16 #[rv a, iv 2, iv 2, iv 0, .unset] [.ref ea] _
    refine XS.iloadN X3.here hx rfl (hb hby d10_16) rfl ?_
    show Sq p e below m T3 17 #[rv a, iv 2, iv 2, iv 0, .unset] [.int 0, .ref ea] _
    refine st4 _ ?_
    show Sq p e below m T3 18 #[rv a, iv 2, iv 2, iv 0, .unset] [.int (-1)] _
    refine XS.istoreN X3.here hx rfl (hb hby d10_18) rfl rfl ?_
    refine XS.goto X3.here hx rfl (pc0 := 19) (pc' := 4) rfl (hb hby d10_19) (by decide) (by decide) ?_
    show Sq p e below m T3 4 #[rv a, iv 2, iv 2, iv (-1), .unset] [] _
    refine XS.iloadN X3.here hx rfl (hb hby d10_4) rfl ?_
    refine XS.iconst X3.here hx rfl (hb hby d10_5) ?_
    show Sq p e below m T3 6 #[rv a, iv 2, iv 2, iv (-1), .unset] [.int (-1), .int (-1)] _
    refine XS.icmpYes X3.here hx rfl (pc0 := 6) (pc' := 22) rfl (hb hby d10_6) rfl (teq (rfl : (-1 : Int32) = (-1 : Int32))).1 (by decide) (by decide) ?_
    refine XS.iloadN X3.here hx rfl (hb hby d10_22) rfl ?_
    show Sq p e below m T3 23 #[rv a, iv 2, iv 2, iv (-1), .unset] [.int 2] _
    refine XS.istoreN X3.here hx rfl (hb hby d10_23) rfl rfl ?_
    refine XS.iloadN X3.here hx rfl (hb hby d10_24) rfl ?_
    show Sq p e below m T3 25 #[rv a, iv 2, iv 2, iv 2, .unset] [.int 2] _
    refine XS.istore X3.here hx rfl (hb hby d10_25) rfl rfl ?_
    refine XS.iload X3.here hx rfl (hb hby d10_27) rfl ?_
    show Sq p e below m T3 29 #[rv a, iv 2, iv 2, iv 2, iv 2] [.int 2] _
    refine XS.iconst X3.here hx rfl (hb hby d10_29) ?_
    refine XS.icmpNo X3.here hx rfl (hb hby d10_30) rfl (feq (by decide)).1 ?_
    show Sq p e below m T3 33 #[rv a, iv 2, iv 2, iv 2, iv 2] [] _
    refine XS.iinc X3.here hx rfl (hb hby d10_33) rfl rfl ?_
    show Sq p e below m T3 36 #[rv a, iv 2, iv 2, iv ((2 : Int32) + (-1 : Int32)), iv 2] [] _
    rw [show ((2 : Int32) + (-1 : Int32)) = (1 : Int32) from by decide]
    show Sq p e below m T3 36 #[rv a, iv 2, iv 2, iv 1, iv 2] [] _
    refine XS.aloadN X3.here hx rfl (hb hby d10_36) rfl rfl ?_
    show Sq p e below m T3 37 #[rv a, iv 2, iv 2, iv 1, iv 2] [.ref a] _
    refine st5 _ ?_
    show Sq p e below m T5 40 #[rv a, iv 2, iv 2, iv 1, iv 2] [.ref li] _
    refine XS.iconst X5.here hx rfl (hb hby d10_40) ?_
    refine XS.iloadN X5.here hx rfl (hb hby d10_41) rfl ?_
    show Sq p e below m T5 42 #[rv a, iv 2, iv 2, iv 1, iv 2] [.int 1, .int 2, .ref li] _
    refine XS.imul X5.here hx rfl (hb hby d10_42) rfl ?_
    show Sq p e below m T5 43 #[rv a, iv 2, iv 2, iv 1, iv 2] [.int ((2 : Int32) * (1 : Int32)), .ref li] _
    rw [show ((2 : Int32) * (1 : Int32)) = (2 : Int32) from by decide]
    show Sq p e below m T5 43 #[rv a, iv 2, iv 2, iv 1, iv 2] [.int 2, .ref li] _
    refine XS.aloadN X5.here hx rfl (hb hby d10_43) rfl rfl ?_
    show Sq p e below m T5 44 #[rv a, iv 2, iv 2, iv 1, iv 2] [.ref a, .int 2, .ref li] _
    refine st6 _ ?_
    show Sq p e below m T6 47 #[rv a, iv 2, iv 2, iv 1, iv 2] [.ref lo, .int 2, .ref li] _
    refine XS.iconst X6.here hx rfl (hb hby d10_47) ?_
    refine XS.iload X6.here hx rfl (hb hby d10_48) rfl ?_
    show Sq p e below m T6 50 #[rv a, iv 2, iv 2, iv 1, iv 2] [.int 2, .int 2, .ref lo, .int 2, .ref li] _
    refine XS.imul X6.here hx rfl (hb hby d10_50) rfl ?_
    show Sq p e below m T6 51 #[rv a, iv 2, iv 2, iv 1, iv 2] [.int ((2 : Int32) * (2 : Int32)), .ref lo, .int 2, .ref li] _
    rw [show ((2 : Int32) * (2 : Int32)) = (4 : Int32) from by decide]
    show Sq p e below m T6 51 #[rv a, iv 2, iv 2, iv 1, iv 2] [.int 4, .ref lo, .int 2, .ref li] _
    refine st7 _ ?_
    show Sq p e below m T6 52 #[rv a, iv 2, iv 2, iv 1, iv 2] [.int s2, .int 2, .ref li] _
    refine st8 _ ?_
    show Sq p e below m T8 53 #[rv a, iv 2, iv 2, iv 1, iv 2] [] _
    refine XS.aloadN X8.here hx rfl (hb hby d10_53) rfl rfl ?_
    show Sq p e below m T8 54 #[rv a, iv 2, iv 2, iv 1, iv 2] [.ref a] _
    refine st12 _ ?_
    show Sq p e below m T12 57 #[rv a, iv 2, iv 2, iv 1, iv 2] [.ref li] _
    refine XS.iconst X12.here hx rfl (hb hby d10_57) ?_
    refine XS.iloadN X12.here hx rfl (hb hby d10_58) rfl ?_
    show Sq p e below m T12 59 #[rv a, iv 2, iv 2, iv 1, iv 2] [.int 1, .int 2, .ref li] _
    refine XS.imul X12.here hx rfl (hb hby d10_59) rfl ?_
    show Sq p e below m T12 60 #[rv a, iv 2, iv 2, iv 1, iv 2] [.int ((2 : Int32) * (1 : Int32)), .ref li] _
    rw [show ((2 : Int32) * (1 : Int32)) = (2 : Int32) from by decide]
    show Sq p e below m T12 60 #[rv a, iv 2, iv 2, iv 1, iv 2] [.int 2, .ref li] _
    refine XS.iconst X12.here hx rfl (hb hby d10_60) ?_
    refine XS.iadd X12.here hx rfl (hb hby d10_61) rfl ?_
    show Sq p e below m T12 62 #[rv a, iv 2, iv 2, iv 1, iv 2] [.int ((2 : Int32) + (1 : Int32)), .ref li] _
    rw [show ((2 : Int32) + (1 : Int32)) = (3 : Int32) from by decide]
    show Sq p e below m T12 62 #[rv a, iv 2, iv 2, iv 1, iv 2] [.int 3, .ref li] _
    refine XS.aloadN X12.here hx rfl (hb hby d10_62) rfl rfl ?_
    show Sq p e below m T12 63 #[rv a, iv 2, iv 2, iv 1, iv 2] [.ref a, .int 3, .ref li] _
    refine st13 _ ?_
    show Sq p e below m T13 66 #[rv a, iv 2, iv 2, iv 1, iv 2] [.ref lo, .int 3, .ref li] _
    refine XS.iconst X13.here hx rfl (hb hby d10_66) ?_
    refine XS.iload X13.here hx rfl (hb hby d10_67) rfl ?_
    show Sq p e below m T13 69 #[rv a, iv 2, iv 2, iv 1, iv 2] [.int 2, .int 2, .ref lo, .int 3, .ref li] _
    refine XS.imul X13.here hx rfl (hb hby d10_69) rfl ?_
    show Sq p e below m T13 70 #[rv a, iv 2, iv 2, iv 1, iv 2] [.int ((2 : Int32) * (2 : Int32)), .ref lo, .int 3, .ref li] _
    rw [show ((2 : Int32) * (2 : Int32)) = (4 : Int32) from by decide]
    show Sq p e below m T13 70 #[rv a, iv 2, iv 2, iv 1, iv 2] [.int 4, .ref lo, .int 3, .ref li] _
    refine XS.iconst X13.here hx rfl (hb hby d10_70) ?_
    refine XS.iadd X13.here hx rfl (hb hby d10_71) rfl ?_
    show Sq p e below m T13 72 #[rv a, iv 2, iv 2, iv 1, iv 2] [.int ((4 : Int32) + (1 : Int32)), .ref lo, .int 3, .ref li] _
    rw [show ((4 : Int32) + (1 : Int32)) = (5 : Int32) from by decide]
    show Sq p e below m T13 72 #[rv a, iv 2, iv 2, iv 1, iv 2] [.int 5, .ref lo, .int 3, .ref li] _
    refine st14 _ ?_
    show Sq p e below m T13 73 #[rv a, iv 2, iv 2, iv 1, iv 2] [.int k2, .int 3, .ref li] _
    refine st15 _ ?_
    show Sq p e below m T15 74 #[rv a, iv 2, iv 2, iv 1, iv 2] [] _
    refine XS.aloadN X15.here hx rfl (hb hby d10_74) rfl rfl ?_
    show Sq p e below m T15 75 #[rv a, iv 2, iv 2, iv 1, iv 2] [.ref a] _
    refine st19 _ ?_
    show Sq p e below m T19 78 #[rv a, iv 2, iv 2, iv 1, iv 2] [.ref ea] _
    refine XS.iload X19.here hx rfl (hb hby d10_78) rfl ?_
    show Sq p e below m T19 80 #[rv a, iv 2, iv 2, iv 1, iv 2] [.int 2, .ref ea] _
    refine st20 _ ?_
    show Sq p e below m T19 81 #[rv a, iv 2, iv 2, iv 1, iv 2] [.int 0] _
    refine XS.istore X19.here hx rfl (hb hby d10_81) rfl rfl ?_
    refine XS.goto X19.here hx rfl (pc0 := 83) (pc' := 27) rfl (hb hby d10_83) (by decide) (by decide) ?_
    show Sq p e below m T19 27 #[rv a, iv 2, iv 2, iv 1, iv 0] [] _
    refine XS.iload X19.here hx rfl (hb hby d10_27) rfl ?_
    refine XS.iconst X19.here hx rfl (hb hby d10_29) ?_
    show Sq p e below m T19 30 #[rv a, iv 2, iv 2, iv 1, iv 0] [.int (-1), .int 0] _
    refine XS.icmpNo X19.here hx rfl (hb hby d10_30) rfl (feq (by decide)).1 ?_
    show Sq p e below m T19 33 #[rv a, iv 2, iv 2, iv 1, iv 0] [] _
    refine XS.iinc X19.here hx rfl (hb hby d10_33) rfl rfl ?_
    show Sq p e below m T19 36 #[rv a, iv 2, iv 2, iv ((1 : Int32) + (-1 : Int32)), iv 0] [] _
    rw [show ((1 : Int32) + (-1 : Int32)) = (0 : Int32) from by decide]
    show Sq p e below m T19 36 #[rv a, iv 2, iv 2, iv 0, iv 0] [] _
    refine XS.aloadN X19.here hx rfl (hb hby d10_36) rfl rfl ?_
    show Sq p e below m T19 37 #[rv a, iv 2, iv 2, iv 0, iv 0] [.ref a] _
    refine st21 _ ?_
    show Sq p e below m T21 40 #[rv a, iv 2, iv 2, iv 0, iv 0] [.ref li] _
    refine XS.iconst X21.here hx rfl (hb hby d10_40) ?_
    refine XS.iloadN X21.here hx rfl (hb hby d10_41) rfl ?_
    show Sq p e below m T21 42 #[rv a, iv 2, iv 2, iv 0, iv 0] [.int 0, .int 2, .ref li] _
    refine XS.imul X21.here hx rfl (hb hby d10_42) rfl ?_
    show Sq p e below m T21 43 #[rv a, iv 2, iv 2, iv 0, iv 0] [.int ((2 : Int32) * (0 : Int32)), .ref li] _
    rw [show ((2 : Int32) * (0 : Int32)) = (0 : Int32) from by decide]
    show Sq p e below m T21 43 #[rv a, iv 2, iv 2, iv 0, iv 0] [.int 0, .ref li] _
    refine XS.aloadN X21.here hx rfl (hb hby d10_43) rfl rfl ?_
    show Sq p e below m T21 44 #[rv a, iv 2, iv 2, iv 0, iv 0] [.ref a, .int 0, .ref li] _
    refine st22 _ ?_
    show Sq p e below m T22 47 #[rv a, iv 2, iv 2, iv 0, iv 0] [.ref lo, .int 0, .ref li] _
    refine XS.iconst X22.here hx rfl (hb hby d10_47) ?_
    refine XS.iload X22.here hx rfl (hb hby d10_48) rfl ?_
    show Sq p e below m T22 50 #[rv a, iv 2, iv 2, iv 0, iv 0] [.int 0, .int 2, .ref lo, .int 0, .ref li] _
    refine XS.imul X22.here hx rfl (hb hby d10_50) rfl ?_
    show Sq p e below m T22 51 #[rv a, iv 2, iv 2, iv 0, iv 0] [.int ((2 : Int32) * (0 : Int32)), .ref lo, .int 0, .ref li] _
    rw [show ((2 : Int32) * (0 : Int32)) = (0 : Int32) from by decide]
    show Sq p e below m T22 51 #[rv a, iv 2, iv 2, iv 0, iv 0] [.int 0, .ref lo, .int 0, .ref li] _
    refine st23 _ ?_
    show Sq p e below m T22 52 #[rv a, iv 2, iv 2, iv 0, iv 0] [.int s0, .int 0, .ref li] _
    refine st24 _ ?_
    show Sq p e below m T24 53 #[rv a, iv 2, iv 2, iv 0, iv 0] [] _
    refine XS.aloadN X24.here hx rfl (hb hby d10_53) rfl rfl ?_
    show Sq p e below m T24 54 #[rv a, iv 2, iv 2, iv 0, iv 0] [.ref a] _
    refine st28 _ ?_
    show Sq p e below m T28 57 #[rv a, iv 2, iv 2, iv 0, iv 0] [.ref li] _
    refine XS.iconst X28.here hx rfl (hb hby d10_57) ?_
    refine XS.iloadN X28.here hx rfl (hb hby d10_58) rfl ?_
    show Sq p e below m T28 59 #[rv a, iv 2, iv 2, iv 0, iv 0] [.int 0, .int 2, .ref li] _
    refine XS.imul X28.here hx rfl (hb hby d10_59) rfl ?_
    show Sq p e below m T28 60 #[rv a, iv 2, iv 2, iv 0, iv 0] [.int ((2 : Int32) * (0 : Int32)), .ref li] _
    rw [show ((2 : Int32) * (0 : Int32)) = (0 : Int32) from by decide]
    show Sq p e below m T28 60 #[rv a, iv 2, iv 2, iv 0, iv 0] [.int 0, .ref li] _
    refine XS.iconst X28.here hx rfl (hb hby d10_60) ?_
    refine XS.iadd X28.here hx rfl (hb hby d10_61) rfl ?_
    show Sq p e below m T28 62 #[rv a, iv 2, iv 2, iv 0, iv 0] [.int ((0 : Int32) + (1 : Int32)), .ref li] _
    rw [show ((0 : Int32) + (1 : Int32)) = (1 : Int32) from by decide]
    show Sq p e below m T28 62 #[rv a, iv 2, iv 2, iv 0, iv 0] [.int 1, .ref li] _
    refine XS.aloadN X28.here hx rfl (hb hby d10_62) rfl rfl ?_
    show Sq p e below m T28 63 #[rv a, iv 2, iv 2, iv 0, iv 0] [.ref a, .int 1, .ref li] _
    refine st29 _ ?_
    show Sq p e below m T29 66 #[rv a, iv 2, iv 2, iv 0, iv 0] [.ref lo, .int 1, .ref li] _
    refine XS.iconst X29.here hx rfl (hb hby d10_66) ?_
    refine XS.iload X29.here hx rfl (hb hby d10_67) rfl ?_
    show Sq p e below m T29 69 #[rv a, iv 2, iv 2, iv 0, iv 0] [.int 0, .int 2, .ref lo, .int 1, .ref li] _
    refine XS.imul X29.here hx rfl (hb hby d10_69) rfl ?_
    show Sq p e below m T29 70 #[rv a, iv 2, iv 2, iv 0, iv 0] [.int ((2 : Int32) * (0 : Int32)), .ref lo, .int 1, .ref li] _
    rw [show ((2 : Int32) * (0 : Int32)) = (0 : Int32) from by decide]
    show Sq p e below m T29 70 #[rv a, iv 2, iv 2, iv 0, iv 0] [.int 0, .ref lo, .int 1, .ref li] _
    refine XS.iconst X29.here hx rfl (hb hby d10_70) ?_
    refine XS.iadd X29.here hx rfl (hb hby d10_71) rfl ?_
    show Sq p e below m T29 72 #[rv a, iv 2, iv 2, iv 0, iv 0] [.int ((0 : Int32) + (1 : Int32)), .ref lo, .int 1, .ref li] _
    rw [show ((0 : Int32) + (1 : Int32)) = (1 : Int32) from by decide]
    show Sq p e below m T29 72 #[rv a, iv 2, iv 2, iv 0, iv 0] [.int 1, .ref lo, .int 1, .ref li] _
    refine st30 _ ?_
    show Sq p e below m T29 73 #[rv a, iv 2, iv 2, iv 0, iv 0] [.int k0, .int 1, .ref li] _
    refine st31 _ ?_
    show Sq p e below m T31 74 #[rv a, iv 2, iv 2, iv 0, iv 0] [] _
    refine XS.aloadN X31.here hx rfl (hb hby d10_74) rfl rfl ?_
    show Sq p e below m T31 75 #[rv a, iv 2, iv 2, iv 0, iv 0] [.ref a] _
    refine st35 _ ?_
    show Sq p e below m T35 78 #[rv a, iv 2, iv 2, iv 0, iv 0] [.ref ea] _
    refine XS.iload X35.here hx rfl (hb hby d10_78) rfl ?_
    show Sq p e below m T35 80 #[rv a, iv 2, iv 2, iv 0, iv 0] [.int 0, .ref ea] _
    refine st36 _ ?_
    show Sq p e below m T35 81 #[rv a, iv 2, iv 2, iv 0, iv 0] [.int (-1)] _
    refine XS.istore X35.here hx rfl (hb hby d10_81) rfl rfl ?_
    refine XS.goto X35.here hx rfl (pc0 := 83) (pc' := 27) rfl (hb hby d10_83) (by decide) (by decide) ?_
    show Sq p e below m T35 27 #[rv a, iv 2, iv 2, iv 0, iv (-1)] [] _
    refine XS.iload X35.here hx rfl (hb hby d10_27) rfl ?_
    refine XS.iconst X35.here hx rfl (hb hby d10_29) ?_
    show Sq p e below m T35 30 #[rv a, iv 2, iv 2, iv 0, iv (-1)] [.int (-1), .int (-1)] _
    refine XS.icmpYes X35.here hx rfl (pc0 := 30) (pc' := 86) rfl (hb hby d10_30) rfl (teq (rfl : (-1 : Int32) = (-1 : Int32))).1 (by decide) (by decide) ?_
    refine XS.iloadN X35.here hx rfl (hb hby d10_86) rfl ?_
    show Sq p e below m T35 87 #[rv a, iv 2, iv 2, iv 0, iv (-1)] [.int 2] _
    exact retI X35 hx Bd.returns (hb hby d10_87) hr
  · show Q_path2b Z a n lo ea li kl ke ki s0 k0 s1 k1 s2 k2 x1 h0 n0 _ T35.heap _
    rw [e35]
    exact ⟨rfl, N34, K33, V31⟩
def Q_path2c (Z : State) (a : Addr) (n : Int32) (lo : Addr) (ea : Addr) (li : Addr) (kl : ClassId) (ke : ClassId) (ki : ClassId) (s0 : Int32) (k0 : Int32) (s1 : Int32) (k1 : Int32) (s2 : Int32) (k2 : Int32) (h0 : Heap) (n0 : Nat) (v : Option Value) (h : Heap) (L : List Loc) : Prop := v = some (.int (2 : Int32)) ∧ Fr n0 L ∧ Keep h0 h [li] ∧ Arv Z h li ki .int ((2 : Int32) * n) [(.int s1), (.int k1), (.int s2), (.int k2), (.int (0 : Int32)), (.int (0 : Int32))] (.int (0 : Int32))
set_option maxRecDepth 65536 in
set_option maxHeartbeats 40000000 in
theorem path2c (l : Launch) (Z : State) (a0 : Array Value) (hw : ∀ d ∈ tables_1, d.before a0 Z = true) (ws : List Jvm.Cond) (a : Addr) (n : Int32) (lo : Addr) (ea : Addr) (li : Addr) (kl : ClassId) (ke : ClassId) (ki : ClassId) (s0 : Int32) (k0 : Int32) (s1 : Int32) (k1 : Int32) (s2 : Int32) (k2 : Int32) (h0 : Heap) (n0 : Nat) (O : Old Z n0 h0) (f0 : Fld Z h0 a "com/example/dodder/dodder/engine/PathWrites" "logged" "[I" (.ref lo)) (f1 : Fld Z h0 a "com/example/dodder/dodder/engine/PathWrites" "earlierWrites" "[I" (.ref ea)) (f2 : Fld Z h0 a "com/example/dodder/dodder/engine/PathWrites" "listed" "[I" (.ref li)) (v0 : Arv Z h0 lo kl .int ((2 : Int32) * n) [(.int s0), (.int k0), (.int s1), (.int k1), (.int s2), (.int k2)] (.int (0 : Int32))) (v1 : Arv Z h0 ea ke .int n [(.int (-1 : Int32)), (.int (-1 : Int32)), (.int (1 : Int32)), (.int (0 : Int32)), (.int (0 : Int32)), (.int (0 : Int32))] (.int (0 : Int32))) (v2 : Arv Z h0 li ki .int ((2 : Int32) * n) [(.int (0 : Int32)), (.int (0 : Int32)), (.int (0 : Int32)), (.int (0 : Int32)), (.int (0 : Int32)), (.int (0 : Int32))] (.int (0 : Int32))) (gl : n0 ≤ li) (n1 : lo ≠ li) (n2 : ea ≠ li) (n3 : a ≠ li) (hn : 3 ≤ n.toInt ∧ n.toInt ≤ 16) :
    Ctr l Z y_8 prog_20_method_6_code 5 (some .int) ws ({ frames := 0, cells := 0, slots := 0, locals := 0 } : Room) #[(.ref a), (.int (2 : Int32))] h0 (Q_path2c Z a n lo ea li kl ke ki s0 k0 s1 k1 s2 k2 h0 n0) := by
  refine MetFree.of_bodySF (plainFor_of_name pn_1) hisR ?_
  intro p e s m args below meth c s₁ Bd hml0 hP hK
  obtain ⟨rfl, hZ, hh⟩ := hP
  have W := fun (i : Nat) {d : Jvm.Cond} (h : tables_1[i]? = some d) => hw d (List.mem_of_getElem? h)
  have hx := Bd.exec
  have hby := Bd.bytes
  have hml : c.maxLocals = 5 := hml0
  have hown : s.vm.findClass "com/example/dodder/dodder/engine/PathWrites" = some m.cls := findClass_of_methodNamed Bd.named
  have hnm := (name_of_methodNamed Bd.named Bd.method).1
  have X0 : Stand p l e ({ frames := 0, cells := 0, slots := 0, locals := 0 } : Room) s m #[(.ref a), (.int (2 : Int32))] below meth c s₁ [] 0 0 := Stand.of_body Bd
  have e0 : s₁.heap = h0 := by rw [← hh, Bd.state]; rfl
  have N0 := Fr.nil n0
  have pre0 : ∀ t, Steps p.tables e below (s₁.setTop (mkF m 0 #[.val (.ref a), .val (.int (2 : Int32)), .unset, .unset, .unset] [])) t → Steps p.tables e below (s₁.setTop (entryFrame m #[(.ref a), (.int (2 : Int32))] 5)) t := fun t kk_ => castTop (ef_13 m a (2 : Int32)) kk_
  have K0 := Keep.refl h0 [li]
  obtain ⟨T1, X1, e1, st1⟩ := getF X0 hx hZ hown (host := "") (Or.inl (W 14 rfl)) Via.refl e0 f1 (g := (mkF m 13 #[rv a, iv 2, iv 1, iv 2, .unset] [.ref a])) rfl rfl (hb hby d10_13)
  obtain ⟨cl2, Ar2, q2, S2, Ng2, Hh2, Gg2⟩ := id v1
  have st2 := X1.iaload hx (j := (2 : Int32)) (v := (.int (1 : Int32))) (by rw [e1]; exact Ar2.1) (State.isArrayOf_alike hZ.alike Ar2.2.1) Ar2.2.2 (inb_of S2 (own_j1 hn (by decide) (by decide))) (Hh2.at (inb_of S2 (own_j1 hn (by decide) (by decide))) rfl) (g := (mkF m 17 #[rv a, iv 2, iv 1, iv 2, .unset] [.int 2, .ref ea])) rfl rfl (hb hby d10_17)
  obtain ⟨T3, X3, e3, st3⟩ := getF X1 hx hZ hown (host := "") (Or.inl (W 14 rfl)) Via.refl e1 f1 (g := (mkF m 13 #[rv a, iv 2, iv 2, iv 1, .unset] [.ref a])) rfl rfl (hb hby d10_13)
  obtain ⟨cl4, Ar4, q4, S4, Ng4, Hh4, Gg4⟩ := id v1
  have st4 := X3.iaload hx (j := (1 : Int32)) (v := (.int (-1 : Int32))) (by rw [e3]; exact Ar4.1) (State.isArrayOf_alike hZ.alike Ar4.2.1) Ar4.2.2 (inb_of S4 (own_j1 hn (by decide) (by decide))) (Hh4.at (inb_of S4 (own_j1 hn (by decide) (by decide))) rfl) (g := (mkF m 17 #[rv a, iv 2, iv 2, iv 1, .unset] [.int 1, .ref ea])) rfl rfl (hb hby d10_17)
  obtain ⟨T5, X5, e5, st5⟩ := getF X3 hx hZ hown (host := "") (Or.inl (W 22 rfl)) Via.refl e3 f2 (g := (mkF m 37 #[rv a, iv 2, iv 2, iv 1, iv 2] [.ref a])) rfl rfl (hb hby d10_37)
  obtain ⟨T6, X6, e6, st6⟩ := getF X5 hx hZ hown (host := "") (Or.inl (W 12 rfl)) Via.refl e5 f0 (g := (mkF m 44 #[rv a, iv 2, iv 2, iv 1, iv 2] [.ref a, .int 2, .ref li])) rfl rfl (hb hby d10_44)
  obtain ⟨cl7, Ar7, q7, S7, Ng7, Hh7, Gg7⟩ := id v0
  have st7 := X6.iaload hx (j := (4 : Int32)) (v := (.int s2)) (by rw [e6]; exact Ar7.1) (State.isArrayOf_alike hZ.alike Ar7.2.1) Ar7.2.2 (inb_of S7 (own_j2 hn (by decide) (by decide))) (Hh7.at (inb_of S7 (own_j2 hn (by decide) (by decide))) rfl) (g := (mkF m 51 #[rv a, iv 2, iv 2, iv 1, iv 2] [.int 4, .ref lo, .int 2, .ref li])) rfl rfl (hb hby d10_51)
  obtain ⟨cl8, Ar8, q8, S8, Ng8, Hh8, Gg8⟩ := id v2
  obtain ⟨T8, h8, X8, e8, W8, st8⟩ := stI X6 hx hZ e6 Ar8 (j := (2 : Int32)) (inb_of S8 (own_j2 hn (by decide) (by decide))) (g := (mkF m 52 #[rv a, iv 2, iv 2, iv 1, iv 2] [.int s2, .int 2, .ref li])) rfl rfl (hb hby d10_52)
  have V8 : Arv Z h8 li ki .int ((2 : Int32) * n) [(.int (0 : Int32)), (.int (0 : Int32)), (.int s2), (.int (0 : Int32)), (.int (0 : Int32)), (.int (0 : Int32))] (.int (0 : Int32)) := Arv.set Ar8 q8 S8 Ng8 Hh8 Gg8 rfl W8 2 rfl (Nat.le_of_ble_eq_true rfl)
  have f0 := f0.other W8 (Or.inl n3)
  have f1 := f1.other W8 (Or.inl n3)
  have f2 := f2.other W8 (Or.inl n3)
  have v0 := v0.other W8 n1
  have v1 := v1.other W8 n2
  have K10 := K0.wr W8 (Or.inl (List.mem_of_getElem? (i := 0) rfl))
  have N11 := Fr.snoc X8 N0 gl
  obtain ⟨T12, X12, e12, st12⟩ := getF X8 hx hZ hown (host := "") (Or.inl (W 22 rfl)) Via.refl e8 f2 (g := (mkF m 54 #[rv a, iv 2, iv 2, iv 1, iv 2] [.ref a])) rfl rfl (hb hby d10_54)
  obtain ⟨T13, X13, e13, st13⟩ := getF X12 hx hZ hown (host := "") (Or.inl (W 12 rfl)) Via.refl e12 f0 (g := (mkF m 63 #[rv a, iv 2, iv 2, iv 1, iv 2] [.ref a, .int 3, .ref li])) rfl rfl (hb hby d10_63)
  obtain ⟨cl14, Ar14, q14, S14, Ng14, Hh14, Gg14⟩ := id v0
  have st14 := X13.iaload hx (j := (5 : Int32)) (v := (.int k2)) (by rw [e13]; exact Ar14.1) (State.isArrayOf_alike hZ.alike Ar14.2.1) Ar14.2.2 (inb_of S14 (own_j2 hn (by decide) (by decide))) (Hh14.at (inb_of S14 (own_j2 hn (by decide) (by decide))) rfl) (g := (mkF m 72 #[rv a, iv 2, iv 2, iv 1, iv 2] [.int 5, .ref lo, .int 3, .ref li])) rfl rfl (hb hby d10_72)
  obtain ⟨cl15, Ar15, q15, S15, Ng15, Hh15, Gg15⟩ := id V8
  obtain ⟨T15, h15, X15, e15, W15, st15⟩ := stI X13 hx hZ e13 Ar15 (j := (3 : Int32)) (inb_of S15 (own_j2 hn (by decide) (by decide))) (g := (mkF m 73 #[rv a, iv 2, iv 2, iv 1, iv 2] [.int k2, .int 3, .ref li])) rfl rfl (hb hby d10_73)
  have V15 : Arv Z h15 li ki .int ((2 : Int32) * n) [(.int (0 : Int32)), (.int (0 : Int32)), (.int s2), (.int k2), (.int (0 : Int32)), (.int (0 : Int32))] (.int (0 : Int32)) := Arv.set Ar15 q15 S15 Ng15 Hh15 Gg15 rfl W15 3 rfl (Nat.le_of_ble_eq_true rfl)
  have f0 := f0.other W15 (Or.inl n3)
  have f1 := f1.other W15 (Or.inl n3)
  have f2 := f2.other W15 (Or.inl n3)
  have v0 := v0.other W15 n1
  have v1 := v1.other W15 n2
  have K17 := K10.wr W15 (Or.inl (List.mem_of_getElem? (i := 0) rfl))
  have N18 := Fr.snoc X15 N11 gl
  obtain ⟨T19, X19, e19, st19⟩ := getF X15 hx hZ hown (host := "") (Or.inl (W 14 rfl)) Via.refl e15 f1 (g := (mkF m 75 #[rv a, iv 2, iv 2, iv 1, iv 2] [.ref a])) rfl rfl (hb hby d10_75)
  obtain ⟨cl20, Ar20, q20, S20, Ng20, Hh20, Gg20⟩ := id v1
  have st20 := X19.iaload hx (j := (2 : Int32)) (v := (.int (1 : Int32))) (by rw [e19]; exact Ar20.1) (State.isArrayOf_alike hZ.alike Ar20.2.1) Ar20.2.2 (inb_of S20 (own_j1 hn (by decide) (by decide))) (Hh20.at (inb_of S20 (own_j1 hn (by decide) (by decide))) rfl) (g := (mkF m 80 #[rv a, iv 2, iv 2, iv 1, iv 2] [.int 2, .ref ea])) rfl rfl (hb hby d10_80)
  obtain ⟨T21, X21, e21, st21⟩ := getF X19 hx hZ hown (host := "") (Or.inl (W 22 rfl)) Via.refl e19 f2 (g := (mkF m 37 #[rv a, iv 2, iv 2, iv 0, iv 1] [.ref a])) rfl rfl (hb hby d10_37)
  obtain ⟨T22, X22, e22, st22⟩ := getF X21 hx hZ hown (host := "") (Or.inl (W 12 rfl)) Via.refl e21 f0 (g := (mkF m 44 #[rv a, iv 2, iv 2, iv 0, iv 1] [.ref a, .int 0, .ref li])) rfl rfl (hb hby d10_44)
  obtain ⟨cl23, Ar23, q23, S23, Ng23, Hh23, Gg23⟩ := id v0
  have st23 := X22.iaload hx (j := (2 : Int32)) (v := (.int s1)) (by rw [e22]; exact Ar23.1) (State.isArrayOf_alike hZ.alike Ar23.2.1) Ar23.2.2 (inb_of S23 (own_j2 hn (by decide) (by decide))) (Hh23.at (inb_of S23 (own_j2 hn (by decide) (by decide))) rfl) (g := (mkF m 51 #[rv a, iv 2, iv 2, iv 0, iv 1] [.int 2, .ref lo, .int 0, .ref li])) rfl rfl (hb hby d10_51)
  obtain ⟨cl24, Ar24, q24, S24, Ng24, Hh24, Gg24⟩ := id V15
  obtain ⟨T24, h24, X24, e24, W24, st24⟩ := stI X22 hx hZ e22 Ar24 (j := (0 : Int32)) (inb_of S24 (own_j2 hn (by decide) (by decide))) (g := (mkF m 52 #[rv a, iv 2, iv 2, iv 0, iv 1] [.int s1, .int 0, .ref li])) rfl rfl (hb hby d10_52)
  have V24 : Arv Z h24 li ki .int ((2 : Int32) * n) [(.int s1), (.int (0 : Int32)), (.int s2), (.int k2), (.int (0 : Int32)), (.int (0 : Int32))] (.int (0 : Int32)) := Arv.set Ar24 q24 S24 Ng24 Hh24 Gg24 rfl W24 0 rfl (Nat.le_of_ble_eq_true rfl)
  have f0 := f0.other W24 (Or.inl n3)
  have f1 := f1.other W24 (Or.inl n3)
  have f2 := f2.other W24 (Or.inl n3)
  have v0 := v0.other W24 n1
  have v1 := v1.other W24 n2
  have K26 := K17.wr W24 (Or.inl (List.mem_of_getElem? (i := 0) rfl))
  have N27 := Fr.snoc X24 N18 gl
  obtain ⟨T28, X28, e28, st28⟩ := getF X24 hx hZ hown (host := "") (Or.inl (W 22 rfl)) Via.refl e24 f2 (g := (mkF m 54 #[rv a, iv 2, iv 2, iv 0, iv 1] [.ref a])) rfl rfl (hb hby d10_54)
  obtain ⟨T29, X29, e29, st29⟩ := getF X28 hx hZ hown (host := "") (Or.inl (W 12 rfl)) Via.refl e28 f0 (g := (mkF m 63 #[rv a, iv 2, iv 2, iv 0, iv 1] [.ref a, .int 1, .ref li])) rfl rfl (hb hby d10_63)
  obtain ⟨cl30, Ar30, q30, S30, Ng30, Hh30, Gg30⟩ := id v0
  have st30 := X29.iaload hx (j := (3 : Int32)) (v := (.int k1)) (by rw [e29]; exact Ar30.1) (State.isArrayOf_alike hZ.alike Ar30.2.1) Ar30.2.2 (inb_of S30 (own_j2 hn (by decide) (by decide))) (Hh30.at (inb_of S30 (own_j2 hn (by decide) (by decide))) rfl) (g := (mkF m 72 #[rv a, iv 2, iv 2, iv 0, iv 1] [.int 3, .ref lo, .int 1, .ref li])) rfl rfl (hb hby d10_72)
  obtain ⟨cl31, Ar31, q31, S31, Ng31, Hh31, Gg31⟩ := id V24
  obtain ⟨T31, h31, X31, e31, W31, st31⟩ := stI X29 hx hZ e29 Ar31 (j := (1 : Int32)) (inb_of S31 (own_j2 hn (by decide) (by decide))) (g := (mkF m 73 #[rv a, iv 2, iv 2, iv 0, iv 1] [.int k1, .int 1, .ref li])) rfl rfl (hb hby d10_73)
  have V31 : Arv Z h31 li ki .int ((2 : Int32) * n) [(.int s1), (.int k1), (.int s2), (.int k2), (.int (0 : Int32)), (.int (0 : Int32))] (.int (0 : Int32)) := Arv.set Ar31 q31 S31 Ng31 Hh31 Gg31 rfl W31 1 rfl (Nat.le_of_ble_eq_true rfl)
  have f1 := f1.other W31 (Or.inl n3)
  have v1 := v1.other W31 n2
  have K33 := K26.wr W31 (Or.inl (List.mem_of_getElem? (i := 0) rfl))
  have N34 := Fr.snoc X31 N27 gl
  obtain ⟨T35, X35, e35, st35⟩ := getF X31 hx hZ hown (host := "") (Or.inl (W 14 rfl)) Via.refl e31 f1 (g := (mkF m 75 #[rv a, iv 2, iv 2, iv 0, iv 1] [.ref a])) rfl rfl (hb hby d10_75)
  obtain ⟨cl36, Ar36, q36, S36, Ng36, Hh36, Gg36⟩ := id v1
  have st36 := X35.iaload hx (j := (1 : Int32)) (v := (.int (-1 : Int32))) (by rw [e35]; exact Ar36.1) (State.isArrayOf_alike hZ.alike Ar36.2.1) Ar36.2.2 (inb_of S36 (own_j1 hn (by decide) (by decide))) (Hh36.at (inb_of S36 (own_j1 hn (by decide) (by decide))) rfl) (g := (mkF m 80 #[rv a, iv 2, iv 2, iv 0, iv 1] [.int 1, .ref ea])) rfl rfl (hb hby d10_80)
  obtain ⟨fs, hr, hrun, hended, hW, hsame⟩ := X35.leave (v := some (.int (2 : Int32))) (fun h => by rw [Bd.returns] at h; cases h)
  refine ⟨_, _, pre0 _ ?_, hrun, hended, _, _, rfl, ?_, ⟨_, rfl⟩, hW, hsame.mono (by decide) (by decide)⟩
  · show Sq p e below m s₁ 0 #[rv a, iv 2, .unset, .unset, .unset] [] _
    refine XS.iconst X0.here hx rfl (hb hby d10_0) ?_
    refine XS.istoreN X0.here hx rfl (hb hby d10_1) rfl rfl ?_
    show Sq p e below m s₁ 2 #[rv a, iv 2, iv 0, .unset, .unset] [] _
    refine XS.iloadN X0.here hx rfl (hb hby d10_2) rfl ?_
    refine XS.istoreN X0.here hx rfl (hb hby d10_3) rfl rfl ?_
    show Sq p e below m s₁ 4 #[rv a, iv 2, iv 0, iv 2, .unset] [] _
    refine XS.iloadN X0.here hx rfl (hb hby d10_4) rfl ?_
    refine XS.iconst X0.here hx rfl (hb hby d10_5) ?_
    show Sq p e below m s₁ 6 #[rv a, iv 2, iv 0, iv 2, .unset] [.int (-1), .int 2] _
    refine XS.icmpNo X0.here hx rfl (hb hby d10_6) rfl (feq (by decide)).1 ?_
    show Sq p e below m s₁ 9 #[rv a, iv 2, iv 0, iv 2, .unset] [] _
    refine XS.iinc X0.here hx rfl (hb hby d10_9) rfl rfl ?_
    show Sq p e below m s₁ 12 #[rv a, iv 2, iv ((0 : Int32) + (1 : Int32)), iv 2, .unset] [] _
    rw [show ((0 : Int32) + (1 : Int32)) = (1 : Int32) from by decide]
    show Sq p e below m s₁ 12 #[rv a, iv 2, iv 1, iv 2, .unset] [] _
    refine XS.aloadN X0.here hx rfl (hb hby d10_12) rfl rfl ?_
    show Sq p e below m s₁ 13 #[rv a, iv 2, iv 1, iv 2, .unset] [.ref a] _
    refine st1 _ ?_
    show Sq p e below m T1 16 #[rv a, iv 2, iv 1, iv 2, .unset] [.ref ea] _
    refine XS.iloadN X1.here hx rfl (hb hby d10_16) rfl ?_
    show Sq p e below m T1 17 #[rv a, iv 2, iv 1, iv 2, .unset] [.int 2, .ref ea] _
    refine st2 _ ?_
    show Sq p e below m T1 18 #[rv a, iv 2, iv 1, iv 2, .unset] [.int 1] _
    refine XS.istoreN X1.here hx rfl (hb hby d10_18) rfl rfl ?_
    refine XS.goto X1.here hx rfl (pc0 := 19) (pc' := 4) rfl (hb hby d10_19) (by decide) (by decide) ?_
    show Sq p e below m T1 4 #[rv a, iv 2, iv 1, iv 1, .unset] [] _
    refine XS.iloadN X1.here hx rfl (hb hby d10_4) rfl ?_
    refine XS.iconst X1.here hx rfl (hb hby d10_5) ?_
    show Sq p e below m T1 6 #[rv a, iv 2, iv 1, iv 1, .unset] [.int (-1), .int 1] _
    refine XS.icmpNo X1.here hx rfl (hb hby d10_6) rfl (feq (by decide)).1 ?_
    show Sq p e below m T1 9 #[rv a, iv 2, iv 1, iv 1, .unset] [] _
    refine XS.iinc X1.here hx rfl (hb hby d10_9) rfl rfl ?_
    show Sq p e below m T1 12 #[rv a, iv 2, iv ((1 : Int32) + (1 : Int32)), iv 1, .unset] [] _
    rw [show ((1 : Int32) + (1 : Int32)) = (2 : Int32) from by decide]
    show Sq p e below m T1 12 #[rv a, iv 2, iv 2, iv 1, .unset] [] _
    refine XS.aloadN X1.here hx rfl (hb hby d10_12) rfl rfl ?_
    show Sq p e below m T1 13 #[rv a, iv 2, iv 2, iv 1, .unset] [.ref a] _
    refine st3 _ ?_
    show Sq p e below m T3 16 #[rv a, iv 2, iv 2, iv 1, .unset] [.ref ea] _
    refine XS.iloadN X3.here hx rfl (hb hby d10_16) rfl ?_
    show Sq p e below m T3 17 #[rv a, iv 2, iv 2, iv 1, .unset] [.int 1, .ref ea] _
    refine st4 _ ?_
    show Sq p e below m T3 18 #[rv a, iv 2, iv 2, iv 1, .unset] [.int (-1)] _
    refine XS.istoreN X3.here hx rfl (hb hby d10_18) rfl rfl ?_
    refine XS.goto X3.here hx rfl (pc0 := 19) (pc' := 4) rfl (hb hby d10_19) (by decide) (by decide) ?_
    show Sq p e below m T3 4 #[rv a, iv 2, iv 2, iv (-1), .unset] [] _
    refine XS.iloadN X3.here hx rfl (hb hby d10_4) rfl ?_
    refine XS.iconst X3.here hx rfl (hb hby d10_5) ?_
    show Sq p e below m T3 6 #[rv a, iv 2, iv 2, iv (-1), .unset] [.int (-1), .int (-1)] _
    refine XS.icmpYes X3.here hx rfl (pc0 := 6) (pc' := 22) rfl (hb hby d10_6) rfl (teq (rfl : (-1 : Int32) = (-1 : Int32))).1 (by decide) (by decide) ?_
    refine XS.iloadN X3.here hx rfl (hb hby d10_22) rfl ?_
    show Sq p e below m T3 23 #[rv a, iv 2, iv 2, iv (-1), .unset] [.int 2] _
    refine XS.istoreN X3.here hx rfl (hb hby d10_23) rfl rfl ?_
    refine XS.iloadN X3.here hx rfl (hb hby d10_24) rfl ?_
    show Sq p e below m T3 25 #[rv a, iv 2, iv 2, iv 2, .unset] [.int 2] _
    refine XS.istore X3.here hx rfl (hb hby d10_25) rfl rfl ?_
    refine XS.iload X3.here hx rfl (hb hby d10_27) rfl ?_
    show Sq p e below m T3 29 #[rv a, iv 2, iv 2, iv 2, iv 2] [.int 2] _
    refine XS.iconst X3.here hx rfl (hb hby d10_29) ?_
    refine XS.icmpNo X3.here hx rfl (hb hby d10_30) rfl (feq (by decide)).1 ?_
    show Sq p e below m T3 33 #[rv a, iv 2, iv 2, iv 2, iv 2] [] _
    refine XS.iinc X3.here hx rfl (hb hby d10_33) rfl rfl ?_
    show Sq p e below m T3 36 #[rv a, iv 2, iv 2, iv ((2 : Int32) + (-1 : Int32)), iv 2] [] _
    rw [show ((2 : Int32) + (-1 : Int32)) = (1 : Int32) from by decide]
    show Sq p e below m T3 36 #[rv a, iv 2, iv 2, iv 1, iv 2] [] _
    refine XS.aloadN X3.here hx rfl (hb hby d10_36) rfl rfl ?_
    show Sq p e below m T3 37 #[rv a, iv 2, iv 2, iv 1, iv 2] [.ref a] _
    refine st5 _ ?_
    show Sq p e below m T5 40 #[rv a, iv 2, iv 2, iv 1, iv 2] [.ref li] _
    refine XS.iconst X5.here hx rfl (hb hby d10_40) ?_
    refine XS.iloadN X5.here hx rfl (hb hby d10_41) rfl ?_
    show Sq p e below m T5 42 #[rv a, iv 2, iv 2, iv 1, iv 2] [.int 1, .int 2, .ref li] _
    refine XS.imul X5.here hx rfl (hb hby d10_42) rfl ?_
    show Sq p e below m T5 43 #[rv a, iv 2, iv 2, iv 1, iv 2] [.int ((2 : Int32) * (1 : Int32)), .ref li] _
    rw [show ((2 : Int32) * (1 : Int32)) = (2 : Int32) from by decide]
    show Sq p e below m T5 43 #[rv a, iv 2, iv 2, iv 1, iv 2] [.int 2, .ref li] _
    refine XS.aloadN X5.here hx rfl (hb hby d10_43) rfl rfl ?_
    show Sq p e below m T5 44 #[rv a, iv 2, iv 2, iv 1, iv 2] [.ref a, .int 2, .ref li] _
    refine st6 _ ?_
    show Sq p e below m T6 47 #[rv a, iv 2, iv 2, iv 1, iv 2] [.ref lo, .int 2, .ref li] _
    refine XS.iconst X6.here hx rfl (hb hby d10_47) ?_
    refine XS.iload X6.here hx rfl (hb hby d10_48) rfl ?_
    show Sq p e below m T6 50 #[rv a, iv 2, iv 2, iv 1, iv 2] [.int 2, .int 2, .ref lo, .int 2, .ref li] _
    refine XS.imul X6.here hx rfl (hb hby d10_50) rfl ?_
    show Sq p e below m T6 51 #[rv a, iv 2, iv 2, iv 1, iv 2] [.int ((2 : Int32) * (2 : Int32)), .ref lo, .int 2, .ref li] _
    rw [show ((2 : Int32) * (2 : Int32)) = (4 : Int32) from by decide]
    show Sq p e below m T6 51 #[rv a, iv 2, iv 2, iv 1, iv 2] [.int 4, .ref lo, .int 2, .ref li] _
    refine st7 _ ?_
    show Sq p e below m T6 52 #[rv a, iv 2, iv 2, iv 1, iv 2] [.int s2, .int 2, .ref li] _
    refine st8 _ ?_
    show Sq p e below m T8 53 #[rv a, iv 2, iv 2, iv 1, iv 2] [] _
    refine XS.aloadN X8.here hx rfl (hb hby d10_53) rfl rfl ?_
    show Sq p e below m T8 54 #[rv a, iv 2, iv 2, iv 1, iv 2] [.ref a] _
    refine st12 _ ?_
    show Sq p e below m T12 57 #[rv a, iv 2, iv 2, iv 1, iv 2] [.ref li] _
    refine XS.iconst X12.here hx rfl (hb hby d10_57) ?_
    refine XS.iloadN X12.here hx rfl (hb hby d10_58) rfl ?_
    show Sq p e below m T12 59 #[rv a, iv 2, iv 2, iv 1, iv 2] [.int 1, .int 2, .ref li] _
    refine XS.imul X12.here hx rfl (hb hby d10_59) rfl ?_
    show Sq p e below m T12 60 #[rv a, iv 2, iv 2, iv 1, iv 2] [.int ((2 : Int32) * (1 : Int32)), .ref li] _
    rw [show ((2 : Int32) * (1 : Int32)) = (2 : Int32) from by decide]
    show Sq p e below m T12 60 #[rv a, iv 2, iv 2, iv 1, iv 2] [.int 2, .ref li] _
    refine XS.iconst X12.here hx rfl (hb hby d10_60) ?_
    refine XS.iadd X12.here hx rfl (hb hby d10_61) rfl ?_
    show Sq p e below m T12 62 #[rv a, iv 2, iv 2, iv 1, iv 2] [.int ((2 : Int32) + (1 : Int32)), .ref li] _
    rw [show ((2 : Int32) + (1 : Int32)) = (3 : Int32) from by decide]
    show Sq p e below m T12 62 #[rv a, iv 2, iv 2, iv 1, iv 2] [.int 3, .ref li] _
    refine XS.aloadN X12.here hx rfl (hb hby d10_62) rfl rfl ?_
    show Sq p e below m T12 63 #[rv a, iv 2, iv 2, iv 1, iv 2] [.ref a, .int 3, .ref li] _
    refine st13 _ ?_
    show Sq p e below m T13 66 #[rv a, iv 2, iv 2, iv 1, iv 2] [.ref lo, .int 3, .ref li] _
    refine XS.iconst X13.here hx rfl (hb hby d10_66) ?_
    refine XS.iload X13.here hx rfl (hb hby d10_67) rfl ?_
    show Sq p e below m T13 69 #[rv a, iv 2, iv 2, iv 1, iv 2] [.int 2, .int 2, .ref lo, .int 3, .ref li] _
    refine XS.imul X13.here hx rfl (hb hby d10_69) rfl ?_
    show Sq p e below m T13 70 #[rv a, iv 2, iv 2, iv 1, iv 2] [.int ((2 : Int32) * (2 : Int32)), .ref lo, .int 3, .ref li] _
    rw [show ((2 : Int32) * (2 : Int32)) = (4 : Int32) from by decide]
    show Sq p e below m T13 70 #[rv a, iv 2, iv 2, iv 1, iv 2] [.int 4, .ref lo, .int 3, .ref li] _
    refine XS.iconst X13.here hx rfl (hb hby d10_70) ?_
    refine XS.iadd X13.here hx rfl (hb hby d10_71) rfl ?_
    show Sq p e below m T13 72 #[rv a, iv 2, iv 2, iv 1, iv 2] [.int ((4 : Int32) + (1 : Int32)), .ref lo, .int 3, .ref li] _
    rw [show ((4 : Int32) + (1 : Int32)) = (5 : Int32) from by decide]
    show Sq p e below m T13 72 #[rv a, iv 2, iv 2, iv 1, iv 2] [.int 5, .ref lo, .int 3, .ref li] _
    refine st14 _ ?_
    show Sq p e below m T13 73 #[rv a, iv 2, iv 2, iv 1, iv 2] [.int k2, .int 3, .ref li] _
    refine st15 _ ?_
    show Sq p e below m T15 74 #[rv a, iv 2, iv 2, iv 1, iv 2] [] _
    refine XS.aloadN X15.here hx rfl (hb hby d10_74) rfl rfl ?_
    show Sq p e below m T15 75 #[rv a, iv 2, iv 2, iv 1, iv 2] [.ref a] _
    refine st19 _ ?_
    show Sq p e below m T19 78 #[rv a, iv 2, iv 2, iv 1, iv 2] [.ref ea] _
    refine XS.iload X19.here hx rfl (hb hby d10_78) rfl ?_
    show Sq p e below m T19 80 #[rv a, iv 2, iv 2, iv 1, iv 2] [.int 2, .ref ea] _
    refine st20 _ ?_
    show Sq p e below m T19 81 #[rv a, iv 2, iv 2, iv 1, iv 2] [.int 1] _
    refine XS.istore X19.here hx rfl (hb hby d10_81) rfl rfl ?_
    refine XS.goto X19.here hx rfl (pc0 := 83) (pc' := 27) rfl (hb hby d10_83) (by decide) (by decide) ?_
    show Sq p e below m T19 27 #[rv a, iv 2, iv 2, iv 1, iv 1] [] _
    refine XS.iload X19.here hx rfl (hb hby d10_27) rfl ?_
    refine XS.iconst X19.here hx rfl (hb hby d10_29) ?_
    show Sq p e below m T19 30 #[rv a, iv 2, iv 2, iv 1, iv 1] [.int (-1), .int 1] _
    refine XS.icmpNo X19.here hx rfl (hb hby d10_30) rfl (feq (by decide)).1 ?_
    show Sq p e below m T19 33 #[rv a, iv 2, iv 2, iv 1, iv 1] [] _
    refine XS.iinc X19.here hx rfl (hb hby d10_33) rfl rfl ?_
    show Sq p e below m T19 36 #[rv a, iv 2, iv 2, iv ((1 : Int32) + (-1 : Int32)), iv 1] [] _
    rw [show ((1 : Int32) + (-1 : Int32)) = (0 : Int32) from by decide]
    show Sq p e below m T19 36 #[rv a, iv 2, iv 2, iv 0, iv 1] [] _
    refine XS.aloadN X19.here hx rfl (hb hby d10_36) rfl rfl ?_
    show Sq p e below m T19 37 #[rv a, iv 2, iv 2, iv 0, iv 1] [.ref a] _
    refine st21 _ ?_
    show Sq p e below m T21 40 #[rv a, iv 2, iv 2, iv 0, iv 1] [.ref li] _
    refine XS.iconst X21.here hx rfl (hb hby d10_40) ?_
    refine XS.iloadN X21.here hx rfl (hb hby d10_41) rfl ?_
    show Sq p e below m T21 42 #[rv a, iv 2, iv 2, iv 0, iv 1] [.int 0, .int 2, .ref li] _
    refine XS.imul X21.here hx rfl (hb hby d10_42) rfl ?_
    show Sq p e below m T21 43 #[rv a, iv 2, iv 2, iv 0, iv 1] [.int ((2 : Int32) * (0 : Int32)), .ref li] _
    rw [show ((2 : Int32) * (0 : Int32)) = (0 : Int32) from by decide]
    show Sq p e below m T21 43 #[rv a, iv 2, iv 2, iv 0, iv 1] [.int 0, .ref li] _
    refine XS.aloadN X21.here hx rfl (hb hby d10_43) rfl rfl ?_
    show Sq p e below m T21 44 #[rv a, iv 2, iv 2, iv 0, iv 1] [.ref a, .int 0, .ref li] _
    refine st22 _ ?_
    show Sq p e below m T22 47 #[rv a, iv 2, iv 2, iv 0, iv 1] [.ref lo, .int 0, .ref li] _
    refine XS.iconst X22.here hx rfl (hb hby d10_47) ?_
    refine XS.iload X22.here hx rfl (hb hby d10_48) rfl ?_
    show Sq p e below m T22 50 #[rv a, iv 2, iv 2, iv 0, iv 1] [.int 1, .int 2, .ref lo, .int 0, .ref li] _
    refine XS.imul X22.here hx rfl (hb hby d10_50) rfl ?_
    show Sq p e below m T22 51 #[rv a, iv 2, iv 2, iv 0, iv 1] [.int ((2 : Int32) * (1 : Int32)), .ref lo, .int 0, .ref li] _
    rw [show ((2 : Int32) * (1 : Int32)) = (2 : Int32) from by decide]
    show Sq p e below m T22 51 #[rv a, iv 2, iv 2, iv 0, iv 1] [.int 2, .ref lo, .int 0, .ref li] _
    refine st23 _ ?_
    show Sq p e below m T22 52 #[rv a, iv 2, iv 2, iv 0, iv 1] [.int s1, .int 0, .ref li] _
    refine st24 _ ?_
    show Sq p e below m T24 53 #[rv a, iv 2, iv 2, iv 0, iv 1] [] _
    refine XS.aloadN X24.here hx rfl (hb hby d10_53) rfl rfl ?_
    show Sq p e below m T24 54 #[rv a, iv 2, iv 2, iv 0, iv 1] [.ref a] _
    refine st28 _ ?_
    show Sq p e below m T28 57 #[rv a, iv 2, iv 2, iv 0, iv 1] [.ref li] _
    refine XS.iconst X28.here hx rfl (hb hby d10_57) ?_
    refine XS.iloadN X28.here hx rfl (hb hby d10_58) rfl ?_
    show Sq p e below m T28 59 #[rv a, iv 2, iv 2, iv 0, iv 1] [.int 0, .int 2, .ref li] _
    refine XS.imul X28.here hx rfl (hb hby d10_59) rfl ?_
    show Sq p e below m T28 60 #[rv a, iv 2, iv 2, iv 0, iv 1] [.int ((2 : Int32) * (0 : Int32)), .ref li] _
    rw [show ((2 : Int32) * (0 : Int32)) = (0 : Int32) from by decide]
    show Sq p e below m T28 60 #[rv a, iv 2, iv 2, iv 0, iv 1] [.int 0, .ref li] _
    refine XS.iconst X28.here hx rfl (hb hby d10_60) ?_
    refine XS.iadd X28.here hx rfl (hb hby d10_61) rfl ?_
    show Sq p e below m T28 62 #[rv a, iv 2, iv 2, iv 0, iv 1] [.int ((0 : Int32) + (1 : Int32)), .ref li] _
    rw [show ((0 : Int32) + (1 : Int32)) = (1 : Int32) from by decide]
    show Sq p e below m T28 62 #[rv a, iv 2, iv 2, iv 0, iv 1] [.int 1, .ref li] _
    refine XS.aloadN X28.here hx rfl (hb hby d10_62) rfl rfl ?_
    show Sq p e below m T28 63 #[rv a, iv 2, iv 2, iv 0, iv 1] [.ref a, .int 1, .ref li] _
    refine st29 _ ?_
    show Sq p e below m T29 66 #[rv a, iv 2, iv 2, iv 0, iv 1] [.ref lo, .int 1, .ref li] _
    refine XS.iconst X29.here hx rfl (hb hby d10_66) ?_
    refine XS.iload X29.here hx rfl (hb hby d10_67) rfl ?_
    show Sq p e below m T29 69 #[rv a, iv 2, iv 2, iv 0, iv 1] [.int 1, .int 2, .ref lo, .int 1, .ref li] _
    refine XS.imul X29.here hx rfl (hb hby d10_69) rfl ?_
    show Sq p e below m T29 70 #[rv a, iv 2, iv 2, iv 0, iv 1] [.int ((2 : Int32) * (1 : Int32)), .ref lo, .int 1, .ref li] _
    rw [show ((2 : Int32) * (1 : Int32)) = (2 : Int32) from by decide]
    show Sq p e below m T29 70 #[rv a, iv 2, iv 2, iv 0, iv 1] [.int 2, .ref lo, .int 1, .ref li] _
    refine XS.iconst X29.here hx rfl (hb hby d10_70) ?_
    refine XS.iadd X29.here hx rfl (hb hby d10_71) rfl ?_
    show Sq p e below m T29 72 #[rv a, iv 2, iv 2, iv 0, iv 1] [.int ((2 : Int32) + (1 : Int32)), .ref lo, .int 1, .ref li] _
    rw [show ((2 : Int32) + (1 : Int32)) = (3 : Int32) from by decide]
    show Sq p e below m T29 72 #[rv a, iv 2, iv 2, iv 0, iv 1] [.int 3, .ref lo, .int 1, .ref li] _
    refine st30 _ ?_
    show Sq p e below m T29 73 #[rv a, iv 2, iv 2, iv 0, iv 1] [.int k1, .int 1, .ref li] _
    refine st31 _ ?_
    show Sq p e below m T31 74 #[rv a, iv 2, iv 2, iv 0, iv 1] [] _
    refine XS.aloadN X31.here hx rfl (hb hby d10_74) rfl rfl ?_
    show Sq p e below m T31 75 #[rv a, iv 2, iv 2, iv 0, iv 1] [.ref a] _
    refine st35 _ ?_
    show Sq p e below m T35 78 #[rv a, iv 2, iv 2, iv 0, iv 1] [.ref ea] _
    refine XS.iload X35.here hx rfl (hb hby d10_78) rfl ?_
    show Sq p e below m T35 80 #[rv a, iv 2, iv 2, iv 0, iv 1] [.int 1, .ref ea] _
    refine st36 _ ?_
    show Sq p e below m T35 81 #[rv a, iv 2, iv 2, iv 0, iv 1] [.int (-1)] _
    refine XS.istore X35.here hx rfl (hb hby d10_81) rfl rfl ?_
    refine XS.goto X35.here hx rfl (pc0 := 83) (pc' := 27) rfl (hb hby d10_83) (by decide) (by decide) ?_
    show Sq p e below m T35 27 #[rv a, iv 2, iv 2, iv 0, iv (-1)] [] _
    refine XS.iload X35.here hx rfl (hb hby d10_27) rfl ?_
    refine XS.iconst X35.here hx rfl (hb hby d10_29) ?_
    show Sq p e below m T35 30 #[rv a, iv 2, iv 2, iv 0, iv (-1)] [.int (-1), .int (-1)] _
    refine XS.icmpYes X35.here hx rfl (pc0 := 30) (pc' := 86) rfl (hb hby d10_30) rfl (teq (rfl : (-1 : Int32) = (-1 : Int32))).1 (by decide) (by decide) ?_
    refine XS.iloadN X35.here hx rfl (hb hby d10_86) rfl ?_
    show Sq p e below m T35 87 #[rv a, iv 2, iv 2, iv 0, iv (-1)] [.int 2] _
    exact retI X35 hx Bd.returns (hb hby d10_87) hr
  · show Q_path2c Z a n lo ea li kl ke ki s0 k0 s1 k1 s2 k2 h0 n0 _ T35.heap _
    rw [e35]
    exact ⟨rfl, N34, K33, V31⟩
def Q_path2d (Z : State) (a : Addr) (n : Int32) (lo : Addr) (ea : Addr) (li : Addr) (kl : ClassId) (ke : ClassId) (ki : ClassId) (s0 : Int32) (k0 : Int32) (s1 : Int32) (k1 : Int32) (s2 : Int32) (k2 : Int32) (h0 : Heap) (n0 : Nat) (v : Option Value) (h : Heap) (L : List Loc) : Prop := v = some (.int (3 : Int32)) ∧ Fr n0 L ∧ Keep h0 h [li] ∧ Arv Z h li ki .int ((2 : Int32) * n) [(.int s0), (.int k0), (.int s1), (.int k1), (.int s2), (.int k2)] (.int (0 : Int32))
set_option maxRecDepth 65536 in
set_option maxHeartbeats 40000000 in
theorem path2d (l : Launch) (Z : State) (a0 : Array Value) (hw : ∀ d ∈ tables_1, d.before a0 Z = true) (ws : List Jvm.Cond) (a : Addr) (n : Int32) (lo : Addr) (ea : Addr) (li : Addr) (kl : ClassId) (ke : ClassId) (ki : ClassId) (s0 : Int32) (k0 : Int32) (s1 : Int32) (k1 : Int32) (s2 : Int32) (k2 : Int32) (h0 : Heap) (n0 : Nat) (O : Old Z n0 h0) (f0 : Fld Z h0 a "com/example/dodder/dodder/engine/PathWrites" "logged" "[I" (.ref lo)) (f1 : Fld Z h0 a "com/example/dodder/dodder/engine/PathWrites" "earlierWrites" "[I" (.ref ea)) (f2 : Fld Z h0 a "com/example/dodder/dodder/engine/PathWrites" "listed" "[I" (.ref li)) (v0 : Arv Z h0 lo kl .int ((2 : Int32) * n) [(.int s0), (.int k0), (.int s1), (.int k1), (.int s2), (.int k2)] (.int (0 : Int32))) (v1 : Arv Z h0 ea ke .int n [(.int (-1 : Int32)), (.int (0 : Int32)), (.int (1 : Int32)), (.int (0 : Int32)), (.int (0 : Int32)), (.int (0 : Int32))] (.int (0 : Int32))) (v2 : Arv Z h0 li ki .int ((2 : Int32) * n) [(.int (0 : Int32)), (.int (0 : Int32)), (.int (0 : Int32)), (.int (0 : Int32)), (.int (0 : Int32)), (.int (0 : Int32))] (.int (0 : Int32))) (gl : n0 ≤ li) (n1 : lo ≠ li) (n2 : ea ≠ li) (n3 : a ≠ li) (hn : 3 ≤ n.toInt ∧ n.toInt ≤ 16) :
    Ctr l Z y_8 prog_20_method_6_code 5 (some .int) ws ({ frames := 0, cells := 0, slots := 0, locals := 0 } : Room) #[(.ref a), (.int (2 : Int32))] h0 (Q_path2d Z a n lo ea li kl ke ki s0 k0 s1 k1 s2 k2 h0 n0) := by
  refine MetFree.of_bodySF (plainFor_of_name pn_1) hisR ?_
  intro p e s m args below meth c s₁ Bd hml0 hP hK
  obtain ⟨rfl, hZ, hh⟩ := hP
  have W := fun (i : Nat) {d : Jvm.Cond} (h : tables_1[i]? = some d) => hw d (List.mem_of_getElem? h)
  have hx := Bd.exec
  have hby := Bd.bytes
  have hml : c.maxLocals = 5 := hml0
  have hown : s.vm.findClass "com/example/dodder/dodder/engine/PathWrites" = some m.cls := findClass_of_methodNamed Bd.named
  have hnm := (name_of_methodNamed Bd.named Bd.method).1
  have X0 : Stand p l e ({ frames := 0, cells := 0, slots := 0, locals := 0 } : Room) s m #[(.ref a), (.int (2 : Int32))] below meth c s₁ [] 0 0 := Stand.of_body Bd
  have e0 : s₁.heap = h0 := by rw [← hh, Bd.state]; rfl
  have N0 := Fr.nil n0
  have pre0 : ∀ t, Steps p.tables e below (s₁.setTop (mkF m 0 #[.val (.ref a), .val (.int (2 : Int32)), .unset, .unset, .unset] [])) t → Steps p.tables e below (s₁.setTop (entryFrame m #[(.ref a), (.int (2 : Int32))] 5)) t := fun t kk_ => castTop (ef_13 m a (2 : Int32)) kk_
  have K0 := Keep.refl h0 [li]
  obtain ⟨T1, X1, e1, st1⟩ := getF X0 hx hZ hown (host := "") (Or.inl (W 14 rfl)) Via.refl e0 f1 (g := (mkF m 13 #[rv a, iv 2, iv 1, iv 2, .unset] [.ref a])) rfl rfl (hb hby d10_13)
  obtain ⟨cl2, Ar2, q2, S2, Ng2, Hh2, Gg2⟩ := id v1
  have st2 := X1.iaload hx (j := (2 : Int32)) (v := (.int (1 : Int32))) (by rw [e1]; exact Ar2.1) (State.isArrayOf_alike hZ.alike Ar2.2.1) Ar2.2.2 (inb_of S2 (own_j1 hn (by decide) (by decide))) (Hh2.at (inb_of S2 (own_j1 hn (by decide) (by decide))) rfl) (g := (mkF m 17 #[rv a, iv 2, iv 1, iv 2, .unset] [.int 2, .ref ea])) rfl rfl (hb hby d10_17)
  obtain ⟨T3, X3, e3, st3⟩ := getF X1 hx hZ hown (host := "") (Or.inl (W 14 rfl)) Via.refl e1 f1 (g := (mkF m 13 #[rv a, iv 2, iv 2, iv 1, .unset] [.ref a])) rfl rfl (hb hby d10_13)
  obtain ⟨cl4, Ar4, q4, S4, Ng4, Hh4, Gg4⟩ := id v1
  have st4 := X3.iaload hx (j := (1 : Int32)) (v := (.int (0 : Int32))) (by rw [e3]; exact Ar4.1) (State.isArrayOf_alike hZ.alike Ar4.2.1) Ar4.2.2 (inb_of S4 (own_j1 hn (by decide) (by decide))) (Hh4.at (inb_of S4 (own_j1 hn (by decide) (by decide))) rfl) (g := (mkF m 17 #[rv a, iv 2, iv 2, iv 1, .unset] [.int 1, .ref ea])) rfl rfl (hb hby d10_17)
  obtain ⟨T5, X5, e5, st5⟩ := getF X3 hx hZ hown (host := "") (Or.inl (W 14 rfl)) Via.refl e3 f1 (g := (mkF m 13 #[rv a, iv 2, iv 3, iv 0, .unset] [.ref a])) rfl rfl (hb hby d10_13)
  obtain ⟨cl6, Ar6, q6, S6, Ng6, Hh6, Gg6⟩ := id v1
  have st6 := X5.iaload hx (j := (0 : Int32)) (v := (.int (-1 : Int32))) (by rw [e5]; exact Ar6.1) (State.isArrayOf_alike hZ.alike Ar6.2.1) Ar6.2.2 (inb_of S6 (own_j1 hn (by decide) (by decide))) (Hh6.at (inb_of S6 (own_j1 hn (by decide) (by decide))) rfl) (g := (mkF m 17 #[rv a, iv 2, iv 3, iv 0, .unset] [.int 0, .ref ea])) rfl rfl (hb hby d10_17)
  obtain ⟨T7, X7, e7, st7⟩ := getF X5 hx hZ hown (host := "") (Or.inl (W 22 rfl)) Via.refl e5 f2 (g := (mkF m 37 #[rv a, iv 2, iv 3, iv 2, iv 2] [.ref a])) rfl rfl (hb hby d10_37)
  obtain ⟨T8, X8, e8, st8⟩ := getF X7 hx hZ hown (host := "") (Or.inl (W 12 rfl)) Via.refl e7 f0 (g := (mkF m 44 #[rv a, iv 2, iv 3, iv 2, iv 2] [.ref a, .int 4, .ref li])) rfl rfl (hb hby d10_44)
  obtain ⟨cl9, Ar9, q9, S9, Ng9, Hh9, Gg9⟩ := id v0
  have st9 := X8.iaload hx (j := (4 : Int32)) (v := (.int s2)) (by rw [e8]; exact Ar9.1) (State.isArrayOf_alike hZ.alike Ar9.2.1) Ar9.2.2 (inb_of S9 (own_j2 hn (by decide) (by decide))) (Hh9.at (inb_of S9 (own_j2 hn (by decide) (by decide))) rfl) (g := (mkF m 51 #[rv a, iv 2, iv 3, iv 2, iv 2] [.int 4, .ref lo, .int 4, .ref li])) rfl rfl (hb hby d10_51)
  obtain ⟨cl10, Ar10, q10, S10, Ng10, Hh10, Gg10⟩ := id v2
  obtain ⟨T10, h10, X10, e10, W10, st10⟩ := stI X8 hx hZ e8 Ar10 (j := (4 : Int32)) (inb_of S10 (own_j2 hn (by decide) (by decide))) (g := (mkF m 52 #[rv a, iv 2, iv 3, iv 2, iv 2] [.int s2, .int 4, .ref li])) rfl rfl (hb hby d10_52)
  have V10 : Arv Z h10 li ki .int ((2 : Int32) * n) [(.int (0 : Int32)), (.int (0 : Int32)), (.int (0 : Int32)), (.int (0 : Int32)), (.int s2), (.int (0 : Int32))] (.int (0 : Int32)) := Arv.set Ar10 q10 S10 Ng10 Hh10 Gg10 rfl W10 4 rfl (Nat.le_of_ble_eq_true rfl)
  have f0 := f0.other W10 (Or.inl n3)
  have f1 := f1.other W10 (Or.inl n3)
  have f2 := f2.other W10 (Or.inl n3)
  have v0 := v0.other W10 n1
  have v1 := v1.other W10 n2
  have K12 := K0.wr W10 (Or.inl (List.mem_of_getElem? (i := 0) rfl))
  have N13 := Fr.snoc X10 N0 gl
  obtain ⟨T14, X14, e14, st14⟩ := getF X10 hx hZ hown (host := "") (Or.inl (W 22 rfl)) Via.refl e10 f2 (g := (mkF m 54 #[rv a, iv 2, iv 3, iv 2, iv 2] [.ref a])) rfl rfl (hb hby d10_54)
  obtain ⟨T15, X15, e15, st15⟩ := getF X14 hx hZ hown (host := "") (Or.inl (W 12 rfl)) Via.refl e14 f0 (g := (mkF m 63 #[rv a, iv 2, iv 3, iv 2, iv 2] [.ref a, .int 5, .ref li])) rfl rfl (hb hby d10_63)
  obtain ⟨cl16, Ar16, q16, S16, Ng16, Hh16, Gg16⟩ := id v0
  have st16 := X15.iaload hx (j := (5 : Int32)) (v := (.int k2)) (by rw [e15]; exact Ar16.1) (State.isArrayOf_alike hZ.alike Ar16.2.1) Ar16.2.2 (inb_of S16 (own_j2 hn (by decide) (by decide))) (Hh16.at (inb_of S16 (own_j2 hn (by decide) (by decide))) rfl) (g := (mkF m 72 #[rv a, iv 2, iv 3, iv 2, iv 2] [.int 5, .ref lo, .int 5, .ref li])) rfl rfl (hb hby d10_72)
  obtain ⟨cl17, Ar17, q17, S17, Ng17, Hh17, Gg17⟩ := id V10
  obtain ⟨T17, h17, X17, e17, W17, st17⟩ := stI X15 hx hZ e15 Ar17 (j := (5 : Int32)) (inb_of S17 (own_j2 hn (by decide) (by decide))) (g := (mkF m 73 #[rv a, iv 2, iv 3, iv 2, iv 2] [.int k2, .int 5, .ref li])) rfl rfl (hb hby d10_73)
  have V17 : Arv Z h17 li ki .int ((2 : Int32) * n) [(.int (0 : Int32)), (.int (0 : Int32)), (.int (0 : Int32)), (.int (0 : Int32)), (.int s2), (.int k2)] (.int (0 : Int32)) := Arv.set Ar17 q17 S17 Ng17 Hh17 Gg17 rfl W17 5 rfl (Nat.le_of_ble_eq_true rfl)
  have f0 := f0.other W17 (Or.inl n3)
  have f1 := f1.other W17 (Or.inl n3)
  have f2 := f2.other W17 (Or.inl n3)
  have v0 := v0.other W17 n1
  have v1 := v1.other W17 n2
  have K19 := K12.wr W17 (Or.inl (List.mem_of_getElem? (i := 0) rfl))
  have N20 := Fr.snoc X17 N13 gl
  obtain ⟨T21, X21, e21, st21⟩ := getF X17 hx hZ hown (host := "") (Or.inl (W 14 rfl)) Via.refl e17 f1 (g := (mkF m 75 #[rv a, iv 2, iv 3, iv 2, iv 2] [.ref a])) rfl rfl (hb hby d10_75)
  obtain ⟨cl22, Ar22, q22, S22, Ng22, Hh22, Gg22⟩ := id v1
  have st22 := X21.iaload hx (j := (2 : Int32)) (v := (.int (1 : Int32))) (by rw [e21]; exact Ar22.1) (State.isArrayOf_alike hZ.alike Ar22.2.1) Ar22.2.2 (inb_of S22 (own_j1 hn (by decide) (by decide))) (Hh22.at (inb_of S22 (own_j1 hn (by decide) (by decide))) rfl) (g := (mkF m 80 #[rv a, iv 2, iv 3, iv 2, iv 2] [.int 2, .ref ea])) rfl rfl (hb hby d10_80)
  obtain ⟨T23, X23, e23, st23⟩ := getF X21 hx hZ hown (host := "") (Or.inl (W 22 rfl)) Via.refl e21 f2 (g := (mkF m 37 #[rv a, iv 2, iv 3, iv 1, iv 1] [.ref a])) rfl rfl (hb hby d10_37)
  obtain ⟨T24, X24, e24, st24⟩ := getF X23 hx hZ hown (host := "") (Or.inl (W 12 rfl)) Via.refl e23 f0 (g := (mkF m 44 #[rv a, iv 2, iv 3, iv 1, iv 1] [.ref a, .int 2, .ref li])) rfl rfl (hb hby d10_44)
  obtain ⟨cl25, Ar25, q25, S25, Ng25, Hh25, Gg25⟩ := id v0
  have st25 := X24.iaload hx (j := (2 : Int32)) (v := (.int s1)) (by rw [e24]; exact Ar25.1) (State.isArrayOf_alike hZ.alike Ar25.2.1) Ar25.2.2 (inb_of S25 (own_j2 hn (by decide) (by decide))) (Hh25.at (inb_of S25 (own_j2 hn (by decide) (by decide))) rfl) (g := (mkF m 51 #[rv a, iv 2, iv 3, iv 1, iv 1] [.int 2, .ref lo, .int 2, .ref li])) rfl rfl (hb hby d10_51)
  obtain ⟨cl26, Ar26, q26, S26, Ng26, Hh26, Gg26⟩ := id V17
  obtain ⟨T26, h26, X26, e26, W26, st26⟩ := stI X24 hx hZ e24 Ar26 (j := (2 : Int32)) (inb_of S26 (own_j2 hn (by decide) (by decide))) (g := (mkF m 52 #[rv a, iv 2, iv 3, iv 1, iv 1] [.int s1, .int 2, .ref li])) rfl rfl (hb hby d10_52)
  have V26 : Arv Z h26 li ki .int ((2 : Int32) * n) [(.int (0 : Int32)), (.int (0 : Int32)), (.int s1), (.int (0 : Int32)), (.int s2), (.int k2)] (.int (0 : Int32)) := Arv.set Ar26 q26 S26 Ng26 Hh26 Gg26 rfl W26 2 rfl (Nat.le_of_ble_eq_true rfl)
  have f0 := f0.other W26 (Or.inl n3)
  have f1 := f1.other W26 (Or.inl n3)
  have f2 := f2.other W26 (Or.inl n3)
  have v0 := v0.other W26 n1
  have v1 := v1.other W26 n2
  have K28 := K19.wr W26 (Or.inl (List.mem_of_getElem? (i := 0) rfl))
  have N29 := Fr.snoc X26 N20 gl
  obtain ⟨T30, X30, e30, st30⟩ := getF X26 hx hZ hown (host := "") (Or.inl (W 22 rfl)) Via.refl e26 f2 (g := (mkF m 54 #[rv a, iv 2, iv 3, iv 1, iv 1] [.ref a])) rfl rfl (hb hby d10_54)
  obtain ⟨T31, X31, e31, st31⟩ := getF X30 hx hZ hown (host := "") (Or.inl (W 12 rfl)) Via.refl e30 f0 (g := (mkF m 63 #[rv a, iv 2, iv 3, iv 1, iv 1] [.ref a, .int 3, .ref li])) rfl rfl (hb hby d10_63)
  obtain ⟨cl32, Ar32, q32, S32, Ng32, Hh32, Gg32⟩ := id v0
  have st32 := X31.iaload hx (j := (3 : Int32)) (v := (.int k1)) (by rw [e31]; exact Ar32.1) (State.isArrayOf_alike hZ.alike Ar32.2.1) Ar32.2.2 (inb_of S32 (own_j2 hn (by decide) (by decide))) (Hh32.at (inb_of S32 (own_j2 hn (by decide) (by decide))) rfl) (g := (mkF m 72 #[rv a, iv 2, iv 3, iv 1, iv 1] [.int 3, .ref lo, .int 3, .ref li])) rfl rfl (hb hby d10_72)
  obtain ⟨cl33, Ar33, q33, S33, Ng33, Hh33, Gg33⟩ := id V26
  obtain ⟨T33, h33, X33, e33, W33, st33⟩ := stI X31 hx hZ e31 Ar33 (j := (3 : Int32)) (inb_of S33 (own_j2 hn (by decide) (by decide))) (g := (mkF m 73 #[rv a, iv 2, iv 3, iv 1, iv 1] [.int k1, .int 3, .ref li])) rfl rfl (hb hby d10_73)
  have V33 : Arv Z h33 li ki .int ((2 : Int32) * n) [(.int (0 : Int32)), (.int (0 : Int32)), (.int s1), (.int k1), (.int s2), (.int k2)] (.int (0 : Int32)) := Arv.set Ar33 q33 S33 Ng33 Hh33 Gg33 rfl W33 3 rfl (Nat.le_of_ble_eq_true rfl)
  have f0 := f0.other W33 (Or.inl n3)
  have f1 := f1.other W33 (Or.inl n3)
  have f2 := f2.other W33 (Or.inl n3)
  have v0 := v0.other W33 n1
  have v1 := v1.other W33 n2
  have K35 := K28.wr W33 (Or.inl (List.mem_of_getElem? (i := 0) rfl))
  have N36 := Fr.snoc X33 N29 gl
  obtain ⟨T37, X37, e37, st37⟩ := getF X33 hx hZ hown (host := "") (Or.inl (W 14 rfl)) Via.refl e33 f1 (g := (mkF m 75 #[rv a, iv 2, iv 3, iv 1, iv 1] [.ref a])) rfl rfl (hb hby d10_75)
  obtain ⟨cl38, Ar38, q38, S38, Ng38, Hh38, Gg38⟩ := id v1
  have st38 := X37.iaload hx (j := (1 : Int32)) (v := (.int (0 : Int32))) (by rw [e37]; exact Ar38.1) (State.isArrayOf_alike hZ.alike Ar38.2.1) Ar38.2.2 (inb_of S38 (own_j1 hn (by decide) (by decide))) (Hh38.at (inb_of S38 (own_j1 hn (by decide) (by decide))) rfl) (g := (mkF m 80 #[rv a, iv 2, iv 3, iv 1, iv 1] [.int 1, .ref ea])) rfl rfl (hb hby d10_80)
  obtain ⟨T39, X39, e39, st39⟩ := getF X37 hx hZ hown (host := "") (Or.inl (W 22 rfl)) Via.refl e37 f2 (g := (mkF m 37 #[rv a, iv 2, iv 3, iv 0, iv 0] [.ref a])) rfl rfl (hb hby d10_37)
  obtain ⟨T40, X40, e40, st40⟩ := getF X39 hx hZ hown (host := "") (Or.inl (W 12 rfl)) Via.refl e39 f0 (g := (mkF m 44 #[rv a, iv 2, iv 3, iv 0, iv 0] [.ref a, .int 0, .ref li])) rfl rfl (hb hby d10_44)
  obtain ⟨cl41, Ar41, q41, S41, Ng41, Hh41, Gg41⟩ := id v0
  have st41 := X40.iaload hx (j := (0 : Int32)) (v := (.int s0)) (by rw [e40]; exact Ar41.1) (State.isArrayOf_alike hZ.alike Ar41.2.1) Ar41.2.2 (inb_of S41 (own_j2 hn (by decide) (by decide))) (Hh41.at (inb_of S41 (own_j2 hn (by decide) (by decide))) rfl) (g := (mkF m 51 #[rv a, iv 2, iv 3, iv 0, iv 0] [.int 0, .ref lo, .int 0, .ref li])) rfl rfl (hb hby d10_51)
  obtain ⟨cl42, Ar42, q42, S42, Ng42, Hh42, Gg42⟩ := id V33
  obtain ⟨T42, h42, X42, e42, W42, st42⟩ := stI X40 hx hZ e40 Ar42 (j := (0 : Int32)) (inb_of S42 (own_j2 hn (by decide) (by decide))) (g := (mkF m 52 #[rv a, iv 2, iv 3, iv 0, iv 0] [.int s0, .int 0, .ref li])) rfl rfl (hb hby d10_52)
  have V42 : Arv Z h42 li ki .int ((2 : Int32) * n) [(.int s0), (.int (0 : Int32)), (.int s1), (.int k1), (.int s2), (.int k2)] (.int (0 : Int32)) := Arv.set Ar42 q42 S42 Ng42 Hh42 Gg42 rfl W42 0 rfl (Nat.le_of_ble_eq_true rfl)
  have f0 := f0.other W42 (Or.inl n3)
  have f1 := f1.other W42 (Or.inl n3)
  have f2 := f2.other W42 (Or.inl n3)
  have v0 := v0.other W42 n1
  have v1 := v1.other W42 n2
  have K44 := K35.wr W42 (Or.inl (List.mem_of_getElem? (i := 0) rfl))
  have N45 := Fr.snoc X42 N36 gl
  obtain ⟨T46, X46, e46, st46⟩ := getF X42 hx hZ hown (host := "") (Or.inl (W 22 rfl)) Via.refl e42 f2 (g := (mkF m 54 #[rv a, iv 2, iv 3, iv 0, iv 0] [.ref a])) rfl rfl (hb hby d10_54)
  obtain ⟨T47, X47, e47, st47⟩ := getF X46 hx hZ hown (host := "") (Or.inl (W 12 rfl)) Via.refl e46 f0 (g := (mkF m 63 #[rv a, iv 2, iv 3, iv 0, iv 0] [.ref a, .int 1, .ref li])) rfl rfl (hb hby d10_63)
  obtain ⟨cl48, Ar48, q48, S48, Ng48, Hh48, Gg48⟩ := id v0
  have st48 := X47.iaload hx (j := (1 : Int32)) (v := (.int k0)) (by rw [e47]; exact Ar48.1) (State.isArrayOf_alike hZ.alike Ar48.2.1) Ar48.2.2 (inb_of S48 (own_j2 hn (by decide) (by decide))) (Hh48.at (inb_of S48 (own_j2 hn (by decide) (by decide))) rfl) (g := (mkF m 72 #[rv a, iv 2, iv 3, iv 0, iv 0] [.int 1, .ref lo, .int 1, .ref li])) rfl rfl (hb hby d10_72)
  obtain ⟨cl49, Ar49, q49, S49, Ng49, Hh49, Gg49⟩ := id V42
  obtain ⟨T49, h49, X49, e49, W49, st49⟩ := stI X47 hx hZ e47 Ar49 (j := (1 : Int32)) (inb_of S49 (own_j2 hn (by decide) (by decide))) (g := (mkF m 73 #[rv a, iv 2, iv 3, iv 0, iv 0] [.int k0, .int 1, .ref li])) rfl rfl (hb hby d10_73)
  have V49 : Arv Z h49 li ki .int ((2 : Int32) * n) [(.int s0), (.int k0), (.int s1), (.int k1), (.int s2), (.int k2)] (.int (0 : Int32)) := Arv.set Ar49 q49 S49 Ng49 Hh49 Gg49 rfl W49 1 rfl (Nat.le_of_ble_eq_true rfl)
  have f1 := f1.other W49 (Or.inl n3)
  have v1 := v1.other W49 n2
  have K51 := K44.wr W49 (Or.inl (List.mem_of_getElem? (i := 0) rfl))
  have N52 := Fr.snoc X49 N45 gl
  obtain ⟨T53, X53, e53, st53⟩ := getF X49 hx hZ hown (host := "") (Or.inl (W 14 rfl)) Via.refl e49 f1 (g := (mkF m 75 #[rv a, iv 2, iv 3, iv 0, iv 0] [.ref a])) rfl rfl (hb hby d10_75)
  obtain ⟨cl54, Ar54, q54, S54, Ng54, Hh54, Gg54⟩ := id v1
  have st54 := X53.iaload hx (j := (0 : Int32)) (v := (.int (-1 : Int32))) (by rw [e53]; exact Ar54.1) (State.isArrayOf_alike hZ.alike Ar54.2.1) Ar54.2.2 (inb_of S54 (own_j1 hn (by decide) (by decide))) (Hh54.at (inb_of S54 (own_j1 hn (by decide) (by decide))) rfl) (g := (mkF m 80 #[rv a, iv 2, iv 3, iv 0, iv 0] [.int 0, .ref ea])) rfl rfl (hb hby d10_80)
  obtain ⟨fs, hr, hrun, hended, hW, hsame⟩ := X53.leave (v := some (.int (3 : Int32))) (fun h => by rw [Bd.returns] at h; cases h)
  refine ⟨_, _, pre0 _ ?_, hrun, hended, _, _, rfl, ?_, ⟨_, rfl⟩, hW, hsame.mono (by decide) (by decide)⟩
  · show Sq p e below m s₁ 0 #[rv a, iv 2, .unset, .unset, .unset] [] _
    refine XS.iconst X0.here hx rfl (hb hby d10_0) ?_
    refine XS.istoreN X0.here hx rfl (hb hby d10_1) rfl rfl ?_
    show Sq p e below m s₁ 2 #[rv a, iv 2, iv 0, .unset, .unset] [] _
    refine XS.iloadN X0.here hx rfl (hb hby d10_2) rfl ?_
    refine XS.istoreN X0.here hx rfl (hb hby d10_3) rfl rfl ?_
    show Sq p e below m s₁ 4 #[rv a, iv 2, iv 0, iv 2, .unset] [] _
    refine XS.iloadN X0.here hx rfl (hb hby d10_4) rfl ?_
    refine XS.iconst X0.here hx rfl (hb hby d10_5) ?_
    show Sq p e below m s₁ 6 #[rv a, iv 2, iv 0, iv 2, .unset] [.int (-1), .int 2] _
    refine XS.icmpNo X0.here hx rfl (hb hby d10_6) rfl (feq (by decide)).1 ?_
    show Sq p e below m s₁ 9 #[rv a, iv 2, iv 0, iv 2, .unset] [] _
    refine XS.iinc X0.here hx rfl (hb hby d10_9) rfl rfl ?_
    show Sq p e below m s₁ 12 #[rv a, iv 2, iv ((0 : Int32) + (1 : Int32)), iv 2, .unset] [] _
    rw [show ((0 : Int32) + (1 : Int32)) = (1 : Int32) from by decide]
    show Sq p e below m s₁ 12 #[rv a, iv 2, iv 1, iv 2, .unset] [] _
    refine XS.aloadN X0.here hx rfl (hb hby d10_12) rfl rfl ?_
    show Sq p e below m s₁ 13 #[rv a, iv 2, iv 1, iv 2, .unset] [.ref a] _
    refine st1 _ ?_
    show Sq p e below m T1 16 #[rv a, iv 2, iv 1, iv 2, .unset] [.ref ea] _
    refine XS.iloadN X1.here hx rfl (hb hby d10_16) rfl ?_
    show Sq p e below m T1 17 #[rv a, iv 2, iv 1, iv 2, .unset] [.int 2, .ref ea] _
    refine st2 _ ?_
    show Sq p e below m T1 18 #[rv a, iv 2, iv 1, iv 2, .unset] [.int 1] _
    refine XS.istoreN X1.here hx rfl (hb hby d10_18) rfl rfl ?_
    refine XS.goto X1.here hx rfl (pc0 := 19) (pc' := 4) rfl (hb hby d10_19) (by decide) (by decide) ?_
    show Sq p e below m T1 4 #[rv a, iv 2, iv 1, iv 1, .unset] [] _
    refine XS.iloadN X1.here hx rfl (hb hby d10_4) rfl ?_
    refine XS.iconst X1.here hx rfl (hb hby d10_5) ?_
    show Sq p e below m T1 6 #[rv a, iv 2, iv 1, iv 1, .unset] [.int (-1), .int 1] _
    refine XS.icmpNo X1.here hx rfl (hb hby d10_6) rfl (feq (by decide)).1 ?_
    show Sq p e below m T1 9 #[rv a, iv 2, iv 1, iv 1, .unset] [] _
    refine XS.iinc X1.here hx rfl (hb hby d10_9) rfl rfl ?_
    show Sq p e below m T1 12 #[rv a, iv 2, iv ((1 : Int32) + (1 : Int32)), iv 1, .unset] [] _
    rw [show ((1 : Int32) + (1 : Int32)) = (2 : Int32) from by decide]
    show Sq p e below m T1 12 #[rv a, iv 2, iv 2, iv 1, .unset] [] _
    refine XS.aloadN X1.here hx rfl (hb hby d10_12) rfl rfl ?_
    show Sq p e below m T1 13 #[rv a, iv 2, iv 2, iv 1, .unset] [.ref a] _
    refine st3 _ ?_
    show Sq p e below m T3 16 #[rv a, iv 2, iv 2, iv 1, .unset] [.ref ea] _
    refine XS.iloadN X3.here hx rfl (hb hby d10_16) rfl ?_
    show Sq p e below m T3 17 #[rv a, iv 2, iv 2, iv 1, .unset] [.int 1, .ref ea] _
    refine st4 _ ?_
    show Sq p e below m T3 18 #[rv a, iv 2, iv 2, iv 1, .unset] [.int 0] _
    refine XS.istoreN X3.here hx rfl (hb hby d10_18) rfl rfl ?_
    refine XS.goto X3.here hx rfl (pc0 := 19) (pc' := 4) rfl (hb hby d10_19) (by decide) (by decide) ?_
    show Sq p e below m T3 4 #[rv a, iv 2, iv 2, iv 0, .unset] [] _
    refine XS.iloadN X3.here hx rfl (hb hby d10_4) rfl ?_
    refine XS.iconst X3.here hx rfl (hb hby d10_5) ?_
    show Sq p e below m T3 6 #[rv a, iv 2, iv 2, iv 0, .unset] [.int (-1), .int 0] _
    refine XS.icmpNo X3.here hx rfl (hb hby d10_6) rfl (feq (by decide)).1 ?_
    show Sq p e below m T3 9 #[rv a, iv 2, iv 2, iv 0, .unset] [] _
    refine XS.iinc X3.here hx rfl (hb hby d10_9) rfl rfl ?_
    show Sq p e below m T3 12 #[rv a, iv 2, iv ((2 : Int32) + (1 : Int32)), iv 0, .unset] [] _
    rw [show ((2 : Int32) + (1 : Int32)) = (3 : Int32) from by decide]
    show Sq p e below m T3 12 #[rv a, iv 2, iv 3, iv 0, .unset] [] _
    refine XS.aloadN X3.here hx rfl (hb hby d10_12) rfl rfl ?_
    show Sq p e below m T3 13 #[rv a, iv 2, iv 3, iv 0, .unset] [.ref a] _
    refine st5 _ ?_
    show Sq p e below m T5 16 #[rv a, iv 2, iv 3, iv 0, .unset] [.ref ea] _
    refine XS.iloadN X5.here hx rfl (hb hby d10_16) rfl ?_
    show Sq p e below m T5 17 #[rv a, iv 2, iv 3, iv 0, .unset] [.int 0, .ref ea] _
    refine st6 _ ?_
    show Sq p e below m T5 18 #[rv a, iv 2, iv 3, iv 0, .unset] [.int (-1)] _
    refine XS.istoreN X5.here hx rfl (hb hby d10_18) rfl rfl ?_
    refine XS.goto X5.here hx rfl (pc0 := 19) (pc' := 4) rfl (hb hby d10_19) (by decide) (by decide) ?_
    show Sq p e below m T5 4 #[rv a, iv 2, iv 3, iv (-1), .unset] [] _
    refine XS.iloadN X5.here hx rfl (hb hby d10_4) rfl ?_
    refine XS.iconst X5.here hx rfl (hb hby d10_5) ?_
    show Sq p e below m T5 6 #[rv a, iv 2, iv 3, iv (-1), .unset] [.int (-1), .int (-1)] _
    refine XS.icmpYes X5.here hx rfl (pc0 := 6) (pc' := 22) rfl (hb hby d10_6) rfl (teq (rfl : (-1 : Int32) = (-1 : Int32))).1 (by decide) (by decide) ?_
    refine XS.iloadN X5.here hx rfl (hb hby d10_22) rfl ?_
    show Sq p e below m T5 23 #[rv a, iv 2, iv 3, iv (-1), .unset] [.int 3] _
    refine XS.istoreN X5.here hx rfl (hb hby d10_23) rfl rfl ?_
    refine XS.iloadN X5.here hx rfl (hb hby d10_24) rfl ?_
    show Sq p e below m T5 25 #[rv a, iv 2, iv 3, iv 3, .unset] [.int 2] _
    refine XS.istore X5.here hx rfl (hb hby d10_25) rfl rfl ?_
    refine XS.iload X5.here hx rfl (hb hby d10_27) rfl ?_
    show Sq p e below m T5 29 #[rv a, iv 2, iv 3, iv 3, iv 2] [.int 2] _
    refine XS.iconst X5.here hx rfl (hb hby d10_29) ?_
    refine XS.icmpNo X5.here hx rfl (hb hby d10_30) rfl (feq (by decide)).1 ?_
    show Sq p e below m T5 33 #[rv a, iv 2, iv 3, iv 3, iv 2] [] _
    refine XS.iinc X5.here hx rfl (hb hby d10_33) rfl rfl ?_
    show Sq p e below m T5 36 #[rv a, iv 2, iv 3, iv ((3 : Int32) + (-1 : Int32)), iv 2] [] _
    rw [show ((3 : Int32) + (-1 : Int32)) = (2 : Int32) from by decide]
    show Sq p e below m T5 36 #[rv a, iv 2, iv 3, iv 2, iv 2] [] _
    refine XS.aloadN X5.here hx rfl (hb hby d10_36) rfl rfl ?_
    show Sq p e below m T5 37 #[rv a, iv 2, iv 3, iv 2, iv 2] [.ref a] _
    refine st7 _ ?_
    show Sq p e below m T7 40 #[rv a, iv 2, iv 3, iv 2, iv 2] [.ref li] _
    refine XS.iconst X7.here hx rfl (hb hby d10_40) ?_
    refine XS.iloadN X7.here hx rfl (hb hby d10_41) rfl ?_
    show Sq p e below m T7 42 #[rv a, iv 2, iv 3, iv 2, iv 2] [.int 2, .int 2, .ref li] _
    refine XS.imul X7.here hx rfl (hb hby d10_42) rfl ?_
    show Sq p e below m T7 43 #[rv a, iv 2, iv 3, iv 2, iv 2] [.int ((2 : Int32) * (2 : Int32)), .ref li] _
    rw [show ((2 : Int32) * (2 : Int32)) = (4 : Int32) from by decide]
    show Sq p e below m T7 43 #[rv a, iv 2, iv 3, iv 2, iv 2] [.int 4, .ref li] _
    refine XS.aloadN X7.here hx rfl (hb hby d10_43) rfl rfl ?_
    show Sq p e below m T7 44 #[rv a, iv 2, iv 3, iv 2, iv 2] [.ref a, .int 4, .ref li] _
    refine st8 _ ?_
    show Sq p e below m T8 47 #[rv a, iv 2, iv 3, iv 2, iv 2] [.ref lo, .int 4, .ref li] _
    refine XS.iconst X8.here hx rfl (hb hby d10_47) ?_
    refine XS.iload X8.here hx rfl (hb hby d10_48) rfl ?_
    show Sq p e below m T8 50 #[rv a, iv 2, iv 3, iv 2, iv 2] [.int 2, .int 2, .ref lo, .int 4, .ref li] _
    refine XS.imul X8.here hx rfl (hb hby d10_50) rfl ?_
    show Sq p e below m T8 51 #[rv a, iv 2, iv 3, iv 2, iv 2] [.int ((2 : Int32) * (2 : Int32)), .ref lo, .int 4, .ref li] _
    rw [show ((2 : Int32) * (2 : Int32)) = (4 : Int32) from by decide]
    show Sq p e below m T8 51 #[rv a, iv 2, iv 3, iv 2, iv 2] [.int 4, .ref lo, .int 4, .ref li] _
    refine st9 _ ?_
    show Sq p e below m T8 52 #[rv a, iv 2, iv 3, iv 2, iv 2] [.int s2, .int 4, .ref li] _
    refine st10 _ ?_
    show Sq p e below m T10 53 #[rv a, iv 2, iv 3, iv 2, iv 2] [] _
    refine XS.aloadN X10.here hx rfl (hb hby d10_53) rfl rfl ?_
    show Sq p e below m T10 54 #[rv a, iv 2, iv 3, iv 2, iv 2] [.ref a] _
    refine st14 _ ?_
    show Sq p e below m T14 57 #[rv a, iv 2, iv 3, iv 2, iv 2] [.ref li] _
    refine XS.iconst X14.here hx rfl (hb hby d10_57) ?_
    refine XS.iloadN X14.here hx rfl (hb hby d10_58) rfl ?_
    show Sq p e below m T14 59 #[rv a, iv 2, iv 3, iv 2, iv 2] [.int 2, .int 2, .ref li] _
    refine XS.imul X14.here hx rfl (hb hby d10_59) rfl ?_
    show Sq p e below m T14 60 #[rv a, iv 2, iv 3, iv 2, iv 2] [.int ((2 : Int32) * (2 : Int32)), .ref li] _
    rw [show ((2 : Int32) * (2 : Int32)) = (4 : Int32) from by decide]
    show Sq p e below m T14 60 #[rv a, iv 2, iv 3, iv 2, iv 2] [.int 4, .ref li] _
    refine XS.iconst X14.here hx rfl (hb hby d10_60) ?_
    refine XS.iadd X14.here hx rfl (hb hby d10_61) rfl ?_
    show Sq p e below m T14 62 #[rv a, iv 2, iv 3, iv 2, iv 2] [.int ((4 : Int32) + (1 : Int32)), .ref li] _
    rw [show ((4 : Int32) + (1 : Int32)) = (5 : Int32) from by decide]
    show Sq p e below m T14 62 #[rv a, iv 2, iv 3, iv 2, iv 2] [.int 5, .ref li] _
    refine XS.aloadN X14.here hx rfl (hb hby d10_62) rfl rfl ?_
    show Sq p e below m T14 63 #[rv a, iv 2, iv 3, iv 2, iv 2] [.ref a, .int 5, .ref li] _
    refine st15 _ ?_
    show Sq p e below m T15 66 #[rv a, iv 2, iv 3, iv 2, iv 2] [.ref lo, .int 5, .ref li] _
    refine XS.iconst X15.here hx rfl (hb hby d10_66) ?_
    refine XS.iload X15.here hx rfl (hb hby d10_67) rfl ?_
    show Sq p e below m T15 69 #[rv a, iv 2, iv 3, iv 2, iv 2] [.int 2, .int 2, .ref lo, .int 5, .ref li] _
    refine XS.imul X15.here hx rfl (hb hby d10_69) rfl ?_
    show Sq p e below m T15 70 #[rv a, iv 2, iv 3, iv 2, iv 2] [.int ((2 : Int32) * (2 : Int32)), .ref lo, .int 5, .ref li] _
    rw [show ((2 : Int32) * (2 : Int32)) = (4 : Int32) from by decide]
    show Sq p e below m T15 70 #[rv a, iv 2, iv 3, iv 2, iv 2] [.int 4, .ref lo, .int 5, .ref li] _
    refine XS.iconst X15.here hx rfl (hb hby d10_70) ?_
    refine XS.iadd X15.here hx rfl (hb hby d10_71) rfl ?_
    show Sq p e below m T15 72 #[rv a, iv 2, iv 3, iv 2, iv 2] [.int ((4 : Int32) + (1 : Int32)), .ref lo, .int 5, .ref li] _
    rw [show ((4 : Int32) + (1 : Int32)) = (5 : Int32) from by decide]
    show Sq p e below m T15 72 #[rv a, iv 2, iv 3, iv 2, iv 2] [.int 5, .ref lo, .int 5, .ref li] _
    refine st16 _ ?_
    show Sq p e below m T15 73 #[rv a, iv 2, iv 3, iv 2, iv 2] [.int k2, .int 5, .ref li] _
    refine st17 _ ?_
    show Sq p e below m T17 74 #[rv a, iv 2, iv 3, iv 2, iv 2] [] _
    refine XS.aloadN X17.here hx rfl (hb hby d10_74) rfl rfl ?_
    show Sq p e below m T17 75 #[rv a, iv 2, iv 3, iv 2, iv 2] [.ref a] _
    refine st21 _ ?_
    show Sq p e below m T21 78 #[rv a, iv 2, iv 3, iv 2, iv 2] [.ref ea] _
    refine XS.iload X21.here hx rfl (hb hby d10_78) rfl ?_
    show Sq p e below m T21 80 #[rv a, iv 2, iv 3, iv 2, iv 2] [.int 2, .ref ea] _
    refine st22 _ ?_
    show Sq p e below m T21 81 #[rv a, iv 2, iv 3, iv 2, iv 2] [.int 1] _
    refine XS.istore X21.here hx rfl (hb hby d10_81) rfl rfl ?_
    refine XS.goto X21.here hx rfl (pc0 := 83) (pc' := 27) rfl (hb hby d10_83) (by decide) (by decide) ?_
    show Sq p e below m T21 27 #[rv a, iv 2, iv 3, iv 2, iv 1] [] _
    refine XS.iload X21.here hx rfl (hb hby d10_27) rfl ?_
    refine XS.iconst X21.here hx rfl (hb hby d10_29) ?_
    show Sq p e below m T21 30 #[rv a, iv 2, iv 3, iv 2, iv 1] [.int (-1), .int 1] _
    refine XS.icmpNo X21.here hx rfl (hb hby d10_30) rfl (feq (by decide)).1 ?_
    show Sq p e below m T21 33 #[rv a, iv 2, iv 3, iv 2, iv 1] [] _
    refine XS.iinc X21.here hx rfl (hb hby d10_33) rfl rfl ?_
    show Sq p e below m T21 36 #[rv a, iv 2, iv 3, iv ((2 : Int32) + (-1 : Int32)), iv 1] [] _
    rw [show ((2 : Int32) + (-1 : Int32)) = (1 : Int32) from by decide]
    show Sq p e below m T21 36 #[rv a, iv 2, iv 3, iv 1, iv 1] [] _
    refine XS.aloadN X21.here hx rfl (hb hby d10_36) rfl rfl ?_
    show Sq p e below m T21 37 #[rv a, iv 2, iv 3, iv 1, iv 1] [.ref a] _
    refine st23 _ ?_
    show Sq p e below m T23 40 #[rv a, iv 2, iv 3, iv 1, iv 1] [.ref li] _
    refine XS.iconst X23.here hx rfl (hb hby d10_40) ?_
    refine XS.iloadN X23.here hx rfl (hb hby d10_41) rfl ?_
    show Sq p e below m T23 42 #[rv a, iv 2, iv 3, iv 1, iv 1] [.int 1, .int 2, .ref li] _
    refine XS.imul X23.here hx rfl (hb hby d10_42) rfl ?_
    show Sq p e below m T23 43 #[rv a, iv 2, iv 3, iv 1, iv 1] [.int ((2 : Int32) * (1 : Int32)), .ref li] _
    rw [show ((2 : Int32) * (1 : Int32)) = (2 : Int32) from by decide]
    show Sq p e below m T23 43 #[rv a, iv 2, iv 3, iv 1, iv 1] [.int 2, .ref li] _
    refine XS.aloadN X23.here hx rfl (hb hby d10_43) rfl rfl ?_
    show Sq p e below m T23 44 #[rv a, iv 2, iv 3, iv 1, iv 1] [.ref a, .int 2, .ref li] _
    refine st24 _ ?_
    show Sq p e below m T24 47 #[rv a, iv 2, iv 3, iv 1, iv 1] [.ref lo, .int 2, .ref li] _
    refine XS.iconst X24.here hx rfl (hb hby d10_47) ?_
    refine XS.iload X24.here hx rfl (hb hby d10_48) rfl ?_
    show Sq p e below m T24 50 #[rv a, iv 2, iv 3, iv 1, iv 1] [.int 1, .int 2, .ref lo, .int 2, .ref li] _
    refine XS.imul X24.here hx rfl (hb hby d10_50) rfl ?_
    show Sq p e below m T24 51 #[rv a, iv 2, iv 3, iv 1, iv 1] [.int ((2 : Int32) * (1 : Int32)), .ref lo, .int 2, .ref li] _
    rw [show ((2 : Int32) * (1 : Int32)) = (2 : Int32) from by decide]
    show Sq p e below m T24 51 #[rv a, iv 2, iv 3, iv 1, iv 1] [.int 2, .ref lo, .int 2, .ref li] _
    refine st25 _ ?_
    show Sq p e below m T24 52 #[rv a, iv 2, iv 3, iv 1, iv 1] [.int s1, .int 2, .ref li] _
    refine st26 _ ?_
    show Sq p e below m T26 53 #[rv a, iv 2, iv 3, iv 1, iv 1] [] _
    refine XS.aloadN X26.here hx rfl (hb hby d10_53) rfl rfl ?_
    show Sq p e below m T26 54 #[rv a, iv 2, iv 3, iv 1, iv 1] [.ref a] _
    refine st30 _ ?_
    show Sq p e below m T30 57 #[rv a, iv 2, iv 3, iv 1, iv 1] [.ref li] _
    refine XS.iconst X30.here hx rfl (hb hby d10_57) ?_
    refine XS.iloadN X30.here hx rfl (hb hby d10_58) rfl ?_
    show Sq p e below m T30 59 #[rv a, iv 2, iv 3, iv 1, iv 1] [.int 1, .int 2, .ref li] _
    refine XS.imul X30.here hx rfl (hb hby d10_59) rfl ?_
    show Sq p e below m T30 60 #[rv a, iv 2, iv 3, iv 1, iv 1] [.int ((2 : Int32) * (1 : Int32)), .ref li] _
    rw [show ((2 : Int32) * (1 : Int32)) = (2 : Int32) from by decide]
    show Sq p e below m T30 60 #[rv a, iv 2, iv 3, iv 1, iv 1] [.int 2, .ref li] _
    refine XS.iconst X30.here hx rfl (hb hby d10_60) ?_
    refine XS.iadd X30.here hx rfl (hb hby d10_61) rfl ?_
    show Sq p e below m T30 62 #[rv a, iv 2, iv 3, iv 1, iv 1] [.int ((2 : Int32) + (1 : Int32)), .ref li] _
    rw [show ((2 : Int32) + (1 : Int32)) = (3 : Int32) from by decide]
    show Sq p e below m T30 62 #[rv a, iv 2, iv 3, iv 1, iv 1] [.int 3, .ref li] _
    refine XS.aloadN X30.here hx rfl (hb hby d10_62) rfl rfl ?_
    show Sq p e below m T30 63 #[rv a, iv 2, iv 3, iv 1, iv 1] [.ref a, .int 3, .ref li] _
    refine st31 _ ?_
    show Sq p e below m T31 66 #[rv a, iv 2, iv 3, iv 1, iv 1] [.ref lo, .int 3, .ref li] _
    refine XS.iconst X31.here hx rfl (hb hby d10_66) ?_
    refine XS.iload X31.here hx rfl (hb hby d10_67) rfl ?_
    show Sq p e below m T31 69 #[rv a, iv 2, iv 3, iv 1, iv 1] [.int 1, .int 2, .ref lo, .int 3, .ref li] _
    refine XS.imul X31.here hx rfl (hb hby d10_69) rfl ?_
    show Sq p e below m T31 70 #[rv a, iv 2, iv 3, iv 1, iv 1] [.int ((2 : Int32) * (1 : Int32)), .ref lo, .int 3, .ref li] _
    rw [show ((2 : Int32) * (1 : Int32)) = (2 : Int32) from by decide]
    show Sq p e below m T31 70 #[rv a, iv 2, iv 3, iv 1, iv 1] [.int 2, .ref lo, .int 3, .ref li] _
    refine XS.iconst X31.here hx rfl (hb hby d10_70) ?_
    refine XS.iadd X31.here hx rfl (hb hby d10_71) rfl ?_
    show Sq p e below m T31 72 #[rv a, iv 2, iv 3, iv 1, iv 1] [.int ((2 : Int32) + (1 : Int32)), .ref lo, .int 3, .ref li] _
    rw [show ((2 : Int32) + (1 : Int32)) = (3 : Int32) from by decide]
    show Sq p e below m T31 72 #[rv a, iv 2, iv 3, iv 1, iv 1] [.int 3, .ref lo, .int 3, .ref li] _
    refine st32 _ ?_
    show Sq p e below m T31 73 #[rv a, iv 2, iv 3, iv 1, iv 1] [.int k1, .int 3, .ref li] _
    refine st33 _ ?_
    show Sq p e below m T33 74 #[rv a, iv 2, iv 3, iv 1, iv 1] [] _
    refine XS.aloadN X33.here hx rfl (hb hby d10_74) rfl rfl ?_
    show Sq p e below m T33 75 #[rv a, iv 2, iv 3, iv 1, iv 1] [.ref a] _
    refine st37 _ ?_
    show Sq p e below m T37 78 #[rv a, iv 2, iv 3, iv 1, iv 1] [.ref ea] _
    refine XS.iload X37.here hx rfl (hb hby d10_78) rfl ?_
    show Sq p e below m T37 80 #[rv a, iv 2, iv 3, iv 1, iv 1] [.int 1, .ref ea] _
    refine st38 _ ?_
    show Sq p e below m T37 81 #[rv a, iv 2, iv 3, iv 1, iv 1] [.int 0] _
    refine XS.istore X37.here hx rfl (hb hby d10_81) rfl rfl ?_
    refine XS.goto X37.here hx rfl (pc0 := 83) (pc' := 27) rfl (hb hby d10_83) (by decide) (by decide) ?_
    show Sq p e below m T37 27 #[rv a, iv 2, iv 3, iv 1, iv 0] [] _
    refine XS.iload X37.here hx rfl (hb hby d10_27) rfl ?_
    refine XS.iconst X37.here hx rfl (hb hby d10_29) ?_
    show Sq p e below m T37 30 #[rv a, iv 2, iv 3, iv 1, iv 0] [.int (-1), .int 0] _
    refine XS.icmpNo X37.here hx rfl (hb hby d10_30) rfl (feq (by decide)).1 ?_
    show Sq p e below m T37 33 #[rv a, iv 2, iv 3, iv 1, iv 0] [] _
    refine XS.iinc X37.here hx rfl (hb hby d10_33) rfl rfl ?_
    show Sq p e below m T37 36 #[rv a, iv 2, iv 3, iv ((1 : Int32) + (-1 : Int32)), iv 0] [] _
    rw [show ((1 : Int32) + (-1 : Int32)) = (0 : Int32) from by decide]
    show Sq p e below m T37 36 #[rv a, iv 2, iv 3, iv 0, iv 0] [] _
    refine XS.aloadN X37.here hx rfl (hb hby d10_36) rfl rfl ?_
    show Sq p e below m T37 37 #[rv a, iv 2, iv 3, iv 0, iv 0] [.ref a] _
    refine st39 _ ?_
    show Sq p e below m T39 40 #[rv a, iv 2, iv 3, iv 0, iv 0] [.ref li] _
    refine XS.iconst X39.here hx rfl (hb hby d10_40) ?_
    refine XS.iloadN X39.here hx rfl (hb hby d10_41) rfl ?_
    show Sq p e below m T39 42 #[rv a, iv 2, iv 3, iv 0, iv 0] [.int 0, .int 2, .ref li] _
    refine XS.imul X39.here hx rfl (hb hby d10_42) rfl ?_
    show Sq p e below m T39 43 #[rv a, iv 2, iv 3, iv 0, iv 0] [.int ((2 : Int32) * (0 : Int32)), .ref li] _
    rw [show ((2 : Int32) * (0 : Int32)) = (0 : Int32) from by decide]
    show Sq p e below m T39 43 #[rv a, iv 2, iv 3, iv 0, iv 0] [.int 0, .ref li] _
    refine XS.aloadN X39.here hx rfl (hb hby d10_43) rfl rfl ?_
    show Sq p e below m T39 44 #[rv a, iv 2, iv 3, iv 0, iv 0] [.ref a, .int 0, .ref li] _
    refine st40 _ ?_
    show Sq p e below m T40 47 #[rv a, iv 2, iv 3, iv 0, iv 0] [.ref lo, .int 0, .ref li] _
    refine XS.iconst X40.here hx rfl (hb hby d10_47) ?_
    refine XS.iload X40.here hx rfl (hb hby d10_48) rfl ?_
    show Sq p e below m T40 50 #[rv a, iv 2, iv 3, iv 0, iv 0] [.int 0, .int 2, .ref lo, .int 0, .ref li] _
    refine XS.imul X40.here hx rfl (hb hby d10_50) rfl ?_
    show Sq p e below m T40 51 #[rv a, iv 2, iv 3, iv 0, iv 0] [.int ((2 : Int32) * (0 : Int32)), .ref lo, .int 0, .ref li] _
    rw [show ((2 : Int32) * (0 : Int32)) = (0 : Int32) from by decide]
    show Sq p e below m T40 51 #[rv a, iv 2, iv 3, iv 0, iv 0] [.int 0, .ref lo, .int 0, .ref li] _
    refine st41 _ ?_
    show Sq p e below m T40 52 #[rv a, iv 2, iv 3, iv 0, iv 0] [.int s0, .int 0, .ref li] _
    refine st42 _ ?_
    show Sq p e below m T42 53 #[rv a, iv 2, iv 3, iv 0, iv 0] [] _
    refine XS.aloadN X42.here hx rfl (hb hby d10_53) rfl rfl ?_
    show Sq p e below m T42 54 #[rv a, iv 2, iv 3, iv 0, iv 0] [.ref a] _
    refine st46 _ ?_
    show Sq p e below m T46 57 #[rv a, iv 2, iv 3, iv 0, iv 0] [.ref li] _
    refine XS.iconst X46.here hx rfl (hb hby d10_57) ?_
    refine XS.iloadN X46.here hx rfl (hb hby d10_58) rfl ?_
    show Sq p e below m T46 59 #[rv a, iv 2, iv 3, iv 0, iv 0] [.int 0, .int 2, .ref li] _
    refine XS.imul X46.here hx rfl (hb hby d10_59) rfl ?_
    show Sq p e below m T46 60 #[rv a, iv 2, iv 3, iv 0, iv 0] [.int ((2 : Int32) * (0 : Int32)), .ref li] _
    rw [show ((2 : Int32) * (0 : Int32)) = (0 : Int32) from by decide]
    show Sq p e below m T46 60 #[rv a, iv 2, iv 3, iv 0, iv 0] [.int 0, .ref li] _
    refine XS.iconst X46.here hx rfl (hb hby d10_60) ?_
    refine XS.iadd X46.here hx rfl (hb hby d10_61) rfl ?_
    show Sq p e below m T46 62 #[rv a, iv 2, iv 3, iv 0, iv 0] [.int ((0 : Int32) + (1 : Int32)), .ref li] _
    rw [show ((0 : Int32) + (1 : Int32)) = (1 : Int32) from by decide]
    show Sq p e below m T46 62 #[rv a, iv 2, iv 3, iv 0, iv 0] [.int 1, .ref li] _
    refine XS.aloadN X46.here hx rfl (hb hby d10_62) rfl rfl ?_
    show Sq p e below m T46 63 #[rv a, iv 2, iv 3, iv 0, iv 0] [.ref a, .int 1, .ref li] _
    refine st47 _ ?_
    show Sq p e below m T47 66 #[rv a, iv 2, iv 3, iv 0, iv 0] [.ref lo, .int 1, .ref li] _
    refine XS.iconst X47.here hx rfl (hb hby d10_66) ?_
    refine XS.iload X47.here hx rfl (hb hby d10_67) rfl ?_
    show Sq p e below m T47 69 #[rv a, iv 2, iv 3, iv 0, iv 0] [.int 0, .int 2, .ref lo, .int 1, .ref li] _
    refine XS.imul X47.here hx rfl (hb hby d10_69) rfl ?_
    show Sq p e below m T47 70 #[rv a, iv 2, iv 3, iv 0, iv 0] [.int ((2 : Int32) * (0 : Int32)), .ref lo, .int 1, .ref li] _
    rw [show ((2 : Int32) * (0 : Int32)) = (0 : Int32) from by decide]
    show Sq p e below m T47 70 #[rv a, iv 2, iv 3, iv 0, iv 0] [.int 0, .ref lo, .int 1, .ref li] _
    refine XS.iconst X47.here hx rfl (hb hby d10_70) ?_
    refine XS.iadd X47.here hx rfl (hb hby d10_71) rfl ?_
    show Sq p e below m T47 72 #[rv a, iv 2, iv 3, iv 0, iv 0] [.int ((0 : Int32) + (1 : Int32)), .ref lo, .int 1, .ref li] _
    rw [show ((0 : Int32) + (1 : Int32)) = (1 : Int32) from by decide]
    show Sq p e below m T47 72 #[rv a, iv 2, iv 3, iv 0, iv 0] [.int 1, .ref lo, .int 1, .ref li] _
    refine st48 _ ?_
    show Sq p e below m T47 73 #[rv a, iv 2, iv 3, iv 0, iv 0] [.int k0, .int 1, .ref li] _
    refine st49 _ ?_
    show Sq p e below m T49 74 #[rv a, iv 2, iv 3, iv 0, iv 0] [] _
    refine XS.aloadN X49.here hx rfl (hb hby d10_74) rfl rfl ?_
    show Sq p e below m T49 75 #[rv a, iv 2, iv 3, iv 0, iv 0] [.ref a] _
    refine st53 _ ?_
    show Sq p e below m T53 78 #[rv a, iv 2, iv 3, iv 0, iv 0] [.ref ea] _
    refine XS.iload X53.here hx rfl (hb hby d10_78) rfl ?_
    show Sq p e below m T53 80 #[rv a, iv 2, iv 3, iv 0, iv 0] [.int 0, .ref ea] _
    refine st54 _ ?_
    show Sq p e below m T53 81 #[rv a, iv 2, iv 3, iv 0, iv 0] [.int (-1)] _
    refine XS.istore X53.here hx rfl (hb hby d10_81) rfl rfl ?_
    refine XS.goto X53.here hx rfl (pc0 := 83) (pc' := 27) rfl (hb hby d10_83) (by decide) (by decide) ?_
    show Sq p e below m T53 27 #[rv a, iv 2, iv 3, iv 0, iv (-1)] [] _
    refine XS.iload X53.here hx rfl (hb hby d10_27) rfl ?_
    refine XS.iconst X53.here hx rfl (hb hby d10_29) ?_
    show Sq p e below m T53 30 #[rv a, iv 2, iv 3, iv 0, iv (-1)] [.int (-1), .int (-1)] _
    refine XS.icmpYes X53.here hx rfl (pc0 := 30) (pc' := 86) rfl (hb hby d10_30) rfl (teq (rfl : (-1 : Int32) = (-1 : Int32))).1 (by decide) (by decide) ?_
    refine XS.iloadN X53.here hx rfl (hb hby d10_86) rfl ?_
    show Sq p e below m T53 87 #[rv a, iv 2, iv 3, iv 0, iv (-1)] [.int 3] _
    exact retI X53 hx Bd.returns (hb hby d10_87) hr
  · show Q_path2d Z a n lo ea li kl ke ki s0 k0 s1 k1 s2 k2 h0 n0 _ T53.heap _
    rw [e53]
    exact ⟨rfl, N52, K51, V49⟩
theorem d13_0 : decode prog_8_method_6_code 0 = .ok (.iconst (-1), 1) := by decide +kernel
theorem d13_1 : decode prog_8_method_6_code 1 = .ok (.istore_n 3, 1) := by decide +kernel
theorem d13_2 : decode prog_8_method_6_code 2 = .ok (.iload_n 0, 1) := by decide +kernel
theorem d13_3 : decode prog_8_method_6_code 3 = .ok (.ifCond .ne 8, 3) := by decide +kernel
theorem d13_6 : decode prog_8_method_6_code 6 = .ok (.iload_n 1, 1) := by decide +kernel
theorem d13_7 : decode prog_8_method_6_code 7 = .ok (.istore_n 3, 1) := by decide +kernel
theorem d13_8 : decode prog_8_method_6_code 8 = .ok (.goto 10, 3) := by decide +kernel
theorem d13_18 : decode prog_8_method_6_code 18 = .ok (.iload_n 3, 1) := by decide +kernel
theorem d13_19 : decode prog_8_method_6_code 19 = .ok (.ireturn, 1) := by decide +kernel
theorem d13_11 : decode prog_8_method_6_code 11 = .ok (.iload_n 0, 1) := by decide +kernel
theorem d13_12 : decode prog_8_method_6_code 12 = .ok (.iconst 1, 1) := by decide +kernel
theorem d13_13 : decode prog_8_method_6_code 13 = .ok (.if_icmp .ne 5, 3) := by decide +kernel
theorem d13_16 : decode prog_8_method_6_code 16 = .ok (.iload_n 2, 1) := by decide +kernel
theorem d13_17 : decode prog_8_method_6_code 17 = .ok (.istore_n 3, 1) := by decide +kernel
def Q_capval (Z : State) (kd : Int32) (ps : Int32) (h0 : Heap) (n0 : Nat) (v : Option Value) (h : Heap) (L : List Loc) : Prop := v = some (.int (own_ev kd ps)) ∧ Fr n0 L ∧ h = h0
theorem ef_14 (m : MethodId) (x0 : Int32) (x1 : Int32) (x2 : Int32) : entryFrame m #[(.int x0), (.int x1), (.int x2)] 4 = mkF m 0 #[.val (.int x0), .val (.int x1), .val (.int x2), .unset] [] := by first | (simp [entryFrame, mkF, argsToLocals, Value.category]; done) | rfl
theorem pn_2 : plainName "com/example/dodder/dodder/engine/Captures" = true := by first | (simp [plainName, overriddenIn]; done) | decide +kernel
abbrev y_9 : MethodName := ⟨"com/example/dodder/dodder/engine/Captures", "valueOf", "(III)I"⟩
set_option maxRecDepth 65536 in
set_option maxHeartbeats 40000000 in
theorem capval_0 (l : Launch) (Z : State) (a0 : Array Value) (hw : ∀ d ∈ tables_1, d.before a0 Z = true) (ws : List Jvm.Cond) (kd : Int32) (ps : Int32) (h0 : Heap) (n0 : Nat) (O : Old Z n0 h0) (hc3 : kd = (0 : Int32)) :
    Ctr l Z y_9 prog_8_method_6_code 4 (some .int) ws ({ frames := 0, cells := 0, slots := 0, locals := 0 } : Room) #[(.int kd), (.int ps), (.int ps)] h0 (Q_capval Z kd ps h0 n0) := by
  refine MetFree.of_bodySF (plainFor_of_name pn_2) hisR ?_
  intro p e s m args below meth c s₁ Bd hml0 hP hK
  obtain ⟨rfl, hZ, hh⟩ := hP
  have W := fun (i : Nat) {d : Jvm.Cond} (h : tables_1[i]? = some d) => hw d (List.mem_of_getElem? h)
  have hx := Bd.exec
  have hby := Bd.bytes
  have hml : c.maxLocals = 4 := hml0
  have hown : s.vm.findClass "com/example/dodder/dodder/engine/Captures" = some m.cls := findClass_of_methodNamed Bd.named
  have hnm := (name_of_methodNamed Bd.named Bd.method).1
  have X0 : Stand p l e ({ frames := 0, cells := 0, slots := 0, locals := 0 } : Room) s m #[(.int kd), (.int ps), (.int ps)] below meth c s₁ [] 0 0 := Stand.of_body Bd
  have e0 : s₁.heap = h0 := by rw [← hh, Bd.state]; rfl
  have N0 := Fr.nil n0
  have pre0 : ∀ t, Steps p.tables e below (s₁.setTop (mkF m 0 #[.val (.int kd), .val (.int ps), .val (.int ps), .unset] [])) t → Steps p.tables e below (s₁.setTop (entryFrame m #[(.int kd), (.int ps), (.int ps)] 4)) t := fun t kk_ => castTop (ef_14 m kd ps ps) kk_
  obtain ⟨fs, hr, hrun, hended, hW, hsame⟩ := X0.leave (v := some (.int ps)) (fun h => by rw [Bd.returns] at h; cases h)
  refine ⟨_, _, pre0 _ ?_, hrun, hended, _, _, rfl, ?_, ⟨_, rfl⟩, hW, hsame.mono (by decide) (by decide)⟩
  · show Sq p e below m s₁ 0 #[iv kd, iv ps, iv ps, .unset] [] _
    refine XS.iconst X0.here hx rfl (hb hby d13_0) ?_
    refine XS.istoreN X0.here hx rfl (hb hby d13_1) rfl rfl ?_
    show Sq p e below m s₁ 2 #[iv kd, iv ps, iv ps, iv (-1)] [] _
    refine XS.iloadN X0.here hx rfl (hb hby d13_2) rfl ?_
    refine XS.ifNo X0.here hx rfl (hb hby d13_3) rfl ((if0 _ _).trans (teq hc3).2) ?_
    show Sq p e below m s₁ 6 #[iv kd, iv ps, iv ps, iv (-1)] [] _
    refine XS.iloadN X0.here hx rfl (hb hby d13_6) rfl ?_
    refine XS.istoreN X0.here hx rfl (hb hby d13_7) rfl rfl ?_
    show Sq p e below m s₁ 8 #[iv kd, iv ps, iv ps, iv ps] [] _
    refine XS.goto X0.here hx rfl (pc0 := 8) (pc' := 18) rfl (hb hby d13_8) (by decide) (by decide) ?_
    refine XS.iloadN X0.here hx rfl (hb hby d13_18) rfl ?_
    show Sq p e below m s₁ 19 #[iv kd, iv ps, iv ps, iv ps] [.int ps] _
    exact retI X0 hx Bd.returns (hb hby d13_19) hr
  · show Q_capval Z kd ps h0 n0 _ s₁.heap _
    rw [e0]
    exact ⟨(by rw [own_ev, if_pos hc3]), N0, rfl⟩
set_option maxRecDepth 65536 in
set_option maxHeartbeats 40000000 in
theorem capval_1 (l : Launch) (Z : State) (a0 : Array Value) (hw : ∀ d ∈ tables_1, d.before a0 Z = true) (ws : List Jvm.Cond) (kd : Int32) (ps : Int32) (h0 : Heap) (n0 : Nat) (O : Old Z n0 h0) (hc3 : ¬ (kd = (0 : Int32))) (hc13 : kd = (1 : Int32)) :
    Ctr l Z y_9 prog_8_method_6_code 4 (some .int) ws ({ frames := 0, cells := 0, slots := 0, locals := 0 } : Room) #[(.int kd), (.int ps), (.int ps)] h0 (Q_capval Z kd ps h0 n0) := by
  refine MetFree.of_bodySF (plainFor_of_name pn_2) hisR ?_
  intro p e s m args below meth c s₁ Bd hml0 hP hK
  obtain ⟨rfl, hZ, hh⟩ := hP
  have W := fun (i : Nat) {d : Jvm.Cond} (h : tables_1[i]? = some d) => hw d (List.mem_of_getElem? h)
  have hx := Bd.exec
  have hby := Bd.bytes
  have hml : c.maxLocals = 4 := hml0
  have hown : s.vm.findClass "com/example/dodder/dodder/engine/Captures" = some m.cls := findClass_of_methodNamed Bd.named
  have hnm := (name_of_methodNamed Bd.named Bd.method).1
  have X0 : Stand p l e ({ frames := 0, cells := 0, slots := 0, locals := 0 } : Room) s m #[(.int kd), (.int ps), (.int ps)] below meth c s₁ [] 0 0 := Stand.of_body Bd
  have e0 : s₁.heap = h0 := by rw [← hh, Bd.state]; rfl
  have N0 := Fr.nil n0
  have pre0 : ∀ t, Steps p.tables e below (s₁.setTop (mkF m 0 #[.val (.int kd), .val (.int ps), .val (.int ps), .unset] [])) t → Steps p.tables e below (s₁.setTop (entryFrame m #[(.int kd), (.int ps), (.int ps)] 4)) t := fun t kk_ => castTop (ef_14 m kd ps ps) kk_
  obtain ⟨fs, hr, hrun, hended, hW, hsame⟩ := X0.leave (v := some (.int ps)) (fun h => by rw [Bd.returns] at h; cases h)
  refine ⟨_, _, pre0 _ ?_, hrun, hended, _, _, rfl, ?_, ⟨_, rfl⟩, hW, hsame.mono (by decide) (by decide)⟩
  · show Sq p e below m s₁ 0 #[iv kd, iv ps, iv ps, .unset] [] _
    refine XS.iconst X0.here hx rfl (hb hby d13_0) ?_
    refine XS.istoreN X0.here hx rfl (hb hby d13_1) rfl rfl ?_
    show Sq p e below m s₁ 2 #[iv kd, iv ps, iv ps, iv (-1)] [] _
    refine XS.iloadN X0.here hx rfl (hb hby d13_2) rfl ?_
    refine XS.ifYes X0.here hx rfl (pc0 := 3) (pc' := 11) rfl (hb hby d13_3) rfl ((if0 _ _).trans (feq hc3).2) (by decide) (by decide) ?_
    show Sq p e below m s₁ 11 #[iv kd, iv ps, iv ps, iv (-1)] [] _
    refine XS.iloadN X0.here hx rfl (hb hby d13_11) rfl ?_
    refine XS.iconst X0.here hx rfl (hb hby d13_12) ?_
    show Sq p e below m s₁ 13 #[iv kd, iv ps, iv ps, iv (-1)] [.int 1, .int kd] _
    refine XS.icmpNo X0.here hx rfl (hb hby d13_13) rfl (teq hc13).2 ?_
    refine XS.iloadN X0.here hx rfl (hb hby d13_16) rfl ?_
    show Sq p e below m s₁ 17 #[iv kd, iv ps, iv ps, iv (-1)] [.int ps] _
    refine XS.istoreN X0.here hx rfl (hb hby d13_17) rfl rfl ?_
    refine XS.iloadN X0.here hx rfl (hb hby d13_18) rfl ?_
    show Sq p e below m s₁ 19 #[iv kd, iv ps, iv ps, iv ps] [.int ps] _
    exact retI X0 hx Bd.returns (hb hby d13_19) hr
  · show Q_capval Z kd ps h0 n0 _ s₁.heap _
    rw [e0]
    exact ⟨(by rw [own_ev, if_neg hc3, if_pos hc13]), N0, rfl⟩
set_option maxRecDepth 65536 in
set_option maxHeartbeats 40000000 in
theorem capval_2 (l : Launch) (Z : State) (a0 : Array Value) (hw : ∀ d ∈ tables_1, d.before a0 Z = true) (ws : List Jvm.Cond) (kd : Int32) (ps : Int32) (h0 : Heap) (n0 : Nat) (O : Old Z n0 h0) (hc3 : ¬ (kd = (0 : Int32))) (hc13 : ¬ (kd = (1 : Int32))) :
    Ctr l Z y_9 prog_8_method_6_code 4 (some .int) ws ({ frames := 0, cells := 0, slots := 0, locals := 0 } : Room) #[(.int kd), (.int ps), (.int ps)] h0 (Q_capval Z kd ps h0 n0) := by
  refine MetFree.of_bodySF (plainFor_of_name pn_2) hisR ?_
  intro p e s m args below meth c s₁ Bd hml0 hP hK
  obtain ⟨rfl, hZ, hh⟩ := hP
  have W := fun (i : Nat) {d : Jvm.Cond} (h : tables_1[i]? = some d) => hw d (List.mem_of_getElem? h)
  have hx := Bd.exec
  have hby := Bd.bytes
  have hml : c.maxLocals = 4 := hml0
  have hown : s.vm.findClass "com/example/dodder/dodder/engine/Captures" = some m.cls := findClass_of_methodNamed Bd.named
  have hnm := (name_of_methodNamed Bd.named Bd.method).1
  have X0 : Stand p l e ({ frames := 0, cells := 0, slots := 0, locals := 0 } : Room) s m #[(.int kd), (.int ps), (.int ps)] below meth c s₁ [] 0 0 := Stand.of_body Bd
  have e0 : s₁.heap = h0 := by rw [← hh, Bd.state]; rfl
  have N0 := Fr.nil n0
  have pre0 : ∀ t, Steps p.tables e below (s₁.setTop (mkF m 0 #[.val (.int kd), .val (.int ps), .val (.int ps), .unset] [])) t → Steps p.tables e below (s₁.setTop (entryFrame m #[(.int kd), (.int ps), (.int ps)] 4)) t := fun t kk_ => castTop (ef_14 m kd ps ps) kk_
  obtain ⟨fs, hr, hrun, hended, hW, hsame⟩ := X0.leave (v := some (.int (-1 : Int32))) (fun h => by rw [Bd.returns] at h; cases h)
  refine ⟨_, _, pre0 _ ?_, hrun, hended, _, _, rfl, ?_, ⟨_, rfl⟩, hW, hsame.mono (by decide) (by decide)⟩
  · show Sq p e below m s₁ 0 #[iv kd, iv ps, iv ps, .unset] [] _
    refine XS.iconst X0.here hx rfl (hb hby d13_0) ?_
    refine XS.istoreN X0.here hx rfl (hb hby d13_1) rfl rfl ?_
    show Sq p e below m s₁ 2 #[iv kd, iv ps, iv ps, iv (-1)] [] _
    refine XS.iloadN X0.here hx rfl (hb hby d13_2) rfl ?_
    refine XS.ifYes X0.here hx rfl (pc0 := 3) (pc' := 11) rfl (hb hby d13_3) rfl ((if0 _ _).trans (feq hc3).2) (by decide) (by decide) ?_
    show Sq p e below m s₁ 11 #[iv kd, iv ps, iv ps, iv (-1)] [] _
    refine XS.iloadN X0.here hx rfl (hb hby d13_11) rfl ?_
    refine XS.iconst X0.here hx rfl (hb hby d13_12) ?_
    show Sq p e below m s₁ 13 #[iv kd, iv ps, iv ps, iv (-1)] [.int 1, .int kd] _
    refine XS.icmpYes X0.here hx rfl (pc0 := 13) (pc' := 18) rfl (hb hby d13_13) rfl (feq hc13).2 (by decide) (by decide) ?_
    refine XS.iloadN X0.here hx rfl (hb hby d13_18) rfl ?_
    show Sq p e below m s₁ 19 #[iv kd, iv ps, iv ps, iv (-1)] [.int (-1)] _
    exact retI X0 hx Bd.returns (hb hby d13_19) hr
  · show Q_capval Z kd ps h0 n0 _ s₁.heap _
    rw [e0]
    exact ⟨(by rw [own_ev, if_neg hc3, if_neg hc13]), N0, rfl⟩
set_option maxRecDepth 65536 in
theorem capval (l : Launch) (Z : State) (a0 : Array Value) (hw : ∀ d ∈ tables_1, d.before a0 Z = true) (ws : List Jvm.Cond) (kd : Int32) (ps : Int32) (h0 : Heap) (n0 : Nat) (O : Old Z n0 h0) :
    Ctr l Z y_9 prog_8_method_6_code 4 (some .int) ws ({ frames := 0, cells := 0, slots := 0, locals := 0 } : Room) #[(.int kd), (.int ps), (.int ps)] h0 (Q_capval Z kd ps h0 n0) := by
  by_cases hc3 : kd = (0 : Int32)
  · exact capval_0 l Z a0 hw ws kd ps h0 n0 O hc3
  · by_cases hc13 : kd = (1 : Int32)
    · exact capval_1 l Z a0 hw ws kd ps h0 n0 O hc3 hc13
    · exact capval_2 l Z a0 hw ws kd ps h0 n0 O hc3 hc13
theorem d14_0 : decode method_3_code 0 = .ok (.iload_n 0, 1) := by decide +kernel
theorem d14_1 : decode method_3_code 1 = .ok (.ifCond .eq 8, 3) := by decide +kernel
theorem d14_9 : decode method_3_code 9 = .ok (.iload_n 1, 1) := by decide +kernel
theorem d14_10 : decode method_3_code 10 = .ok (.goto 4, 3) := by decide +kernel
theorem d14_14 : decode method_3_code 14 = .ok (.ireturn, 1) := by decide +kernel
theorem d14_4 : decode method_3_code 4 = .ok (.iload_n 0, 1) := by decide +kernel
theorem d14_5 : decode method_3_code 5 = .ok (.iconst 1, 1) := by decide +kernel
theorem d14_6 : decode method_3_code 6 = .ok (.if_icmp .ne 7, 3) := by decide +kernel
theorem d14_13 : decode method_3_code 13 = .ok (.iconst (-1), 1) := by decide +kernel
def Q_expval (Z : State) (kd : Int32) (ps : Int32) (h0 : Heap) (n0 : Nat) (v : Option Value) (h : Heap) (L : List Loc) : Prop := v = some (.int (own_ev kd ps)) ∧ Fr n0 L ∧ h = h0
theorem ef_15 (m : MethodId) (x0 : Int32) (x1 : Int32) : entryFrame m #[(.int x0), (.int x1)] 2 = mkF m 0 #[.val (.int x0), .val (.int x1)] [] := by first | (simp [entryFrame, mkF, argsToLocals, Value.category]; done) | rfl
theorem pn_3 : plainName "com/example/dodder/dodder/engine/PathWritesPathPinLaw" = true := by first | (simp [plainName, overriddenIn]; done) | decide +kernel
abbrev y_10 : MethodName := ⟨"com/example/dodder/dodder/engine/PathWritesPathPinLaw", "expectedValue", "(II)I"⟩
set_option maxRecDepth 65536 in
set_option maxHeartbeats 40000000 in
theorem expval_0 (l : Launch) (Z : State) (a0 : Array Value) (hw : ∀ d ∈ tables_1, d.before a0 Z = true) (ws : List Jvm.Cond) (kd : Int32) (ps : Int32) (h0 : Heap) (n0 : Nat) (O : Old Z n0 h0) (hc1 : kd = (0 : Int32)) :
    Ctr l Z y_10 method_3_code 2 (some .int) ws ({ frames := 0, cells := 0, slots := 0, locals := 0 } : Room) #[(.int kd), (.int ps)] h0 (Q_expval Z kd ps h0 n0) := by
  refine MetFree.of_bodySF (plainFor_of_name pn_3) hisR ?_
  intro p e s m args below meth c s₁ Bd hml0 hP hK
  obtain ⟨rfl, hZ, hh⟩ := hP
  have W := fun (i : Nat) {d : Jvm.Cond} (h : tables_1[i]? = some d) => hw d (List.mem_of_getElem? h)
  have hx := Bd.exec
  have hby := Bd.bytes
  have hml : c.maxLocals = 2 := hml0
  have hown : s.vm.findClass "com/example/dodder/dodder/engine/PathWritesPathPinLaw" = some m.cls := findClass_of_methodNamed Bd.named
  have hnm := (name_of_methodNamed Bd.named Bd.method).1
  have X0 : Stand p l e ({ frames := 0, cells := 0, slots := 0, locals := 0 } : Room) s m #[(.int kd), (.int ps)] below meth c s₁ [] 0 0 := Stand.of_body Bd
  have e0 : s₁.heap = h0 := by rw [← hh, Bd.state]; rfl
  have N0 := Fr.nil n0
  have pre0 : ∀ t, Steps p.tables e below (s₁.setTop (mkF m 0 #[.val (.int kd), .val (.int ps)] [])) t → Steps p.tables e below (s₁.setTop (entryFrame m #[(.int kd), (.int ps)] 2)) t := fun t kk_ => castTop (ef_15 m kd ps) kk_
  obtain ⟨fs, hr, hrun, hended, hW, hsame⟩ := X0.leave (v := some (.int ps)) (fun h => by rw [Bd.returns] at h; cases h)
  refine ⟨_, _, pre0 _ ?_, hrun, hended, _, _, rfl, ?_, ⟨_, rfl⟩, hW, hsame.mono (by decide) (by decide)⟩
  · show Sq p e below m s₁ 0 #[iv kd, iv ps] [] _
    refine XS.iloadN X0.here hx rfl (hb hby d14_0) rfl ?_
    refine XS.ifYes X0.here hx rfl (pc0 := 1) (pc' := 9) rfl (hb hby d14_1) rfl ((if0 _ _).trans (teq hc1).1) (by decide) (by decide) ?_
    show Sq p e below m s₁ 9 #[iv kd, iv ps] [] _
    refine XS.iloadN X0.here hx rfl (hb hby d14_9) rfl ?_
    refine XS.goto X0.here hx rfl (pc0 := 10) (pc' := 14) rfl (hb hby d14_10) (by decide) (by decide) ?_
    show Sq p e below m s₁ 14 #[iv kd, iv ps] [.int ps] _
    exact retI X0 hx Bd.returns (hb hby d14_14) hr
  · show Q_expval Z kd ps h0 n0 _ s₁.heap _
    rw [e0]
    exact ⟨(by rw [own_ev, if_pos hc1]), N0, rfl⟩
set_option maxRecDepth 65536 in
set_option maxHeartbeats 40000000 in
theorem expval_1 (l : Launch) (Z : State) (a0 : Array Value) (hw : ∀ d ∈ tables_1, d.before a0 Z = true) (ws : List Jvm.Cond) (kd : Int32) (ps : Int32) (h0 : Heap) (n0 : Nat) (O : Old Z n0 h0) (hc1 : ¬ (kd = (0 : Int32))) (hc6 : kd = (1 : Int32)) :
    Ctr l Z y_10 method_3_code 2 (some .int) ws ({ frames := 0, cells := 0, slots := 0, locals := 0 } : Room) #[(.int kd), (.int ps)] h0 (Q_expval Z kd ps h0 n0) := by
  refine MetFree.of_bodySF (plainFor_of_name pn_3) hisR ?_
  intro p e s m args below meth c s₁ Bd hml0 hP hK
  obtain ⟨rfl, hZ, hh⟩ := hP
  have W := fun (i : Nat) {d : Jvm.Cond} (h : tables_1[i]? = some d) => hw d (List.mem_of_getElem? h)
  have hx := Bd.exec
  have hby := Bd.bytes
  have hml : c.maxLocals = 2 := hml0
  have hown : s.vm.findClass "com/example/dodder/dodder/engine/PathWritesPathPinLaw" = some m.cls := findClass_of_methodNamed Bd.named
  have hnm := (name_of_methodNamed Bd.named Bd.method).1
  have X0 : Stand p l e ({ frames := 0, cells := 0, slots := 0, locals := 0 } : Room) s m #[(.int kd), (.int ps)] below meth c s₁ [] 0 0 := Stand.of_body Bd
  have e0 : s₁.heap = h0 := by rw [← hh, Bd.state]; rfl
  have N0 := Fr.nil n0
  have pre0 : ∀ t, Steps p.tables e below (s₁.setTop (mkF m 0 #[.val (.int kd), .val (.int ps)] [])) t → Steps p.tables e below (s₁.setTop (entryFrame m #[(.int kd), (.int ps)] 2)) t := fun t kk_ => castTop (ef_15 m kd ps) kk_
  obtain ⟨fs, hr, hrun, hended, hW, hsame⟩ := X0.leave (v := some (.int ps)) (fun h => by rw [Bd.returns] at h; cases h)
  refine ⟨_, _, pre0 _ ?_, hrun, hended, _, _, rfl, ?_, ⟨_, rfl⟩, hW, hsame.mono (by decide) (by decide)⟩
  · show Sq p e below m s₁ 0 #[iv kd, iv ps] [] _
    refine XS.iloadN X0.here hx rfl (hb hby d14_0) rfl ?_
    refine XS.ifNo X0.here hx rfl (hb hby d14_1) rfl ((if0 _ _).trans (feq hc1).1) ?_
    show Sq p e below m s₁ 4 #[iv kd, iv ps] [] _
    refine XS.iloadN X0.here hx rfl (hb hby d14_4) rfl ?_
    refine XS.iconst X0.here hx rfl (hb hby d14_5) ?_
    show Sq p e below m s₁ 6 #[iv kd, iv ps] [.int 1, .int kd] _
    refine XS.icmpNo X0.here hx rfl (hb hby d14_6) rfl (teq hc6).2 ?_
    refine XS.iloadN X0.here hx rfl (hb hby d14_9) rfl ?_
    show Sq p e below m s₁ 10 #[iv kd, iv ps] [.int ps] _
    refine XS.goto X0.here hx rfl (pc0 := 10) (pc' := 14) rfl (hb hby d14_10) (by decide) (by decide) ?_
    show Sq p e below m s₁ 14 #[iv kd, iv ps] [.int ps] _
    exact retI X0 hx Bd.returns (hb hby d14_14) hr
  · show Q_expval Z kd ps h0 n0 _ s₁.heap _
    rw [e0]
    exact ⟨(by rw [own_ev, if_neg hc1, if_pos hc6]), N0, rfl⟩
set_option maxRecDepth 65536 in
set_option maxHeartbeats 40000000 in
theorem expval_2 (l : Launch) (Z : State) (a0 : Array Value) (hw : ∀ d ∈ tables_1, d.before a0 Z = true) (ws : List Jvm.Cond) (kd : Int32) (ps : Int32) (h0 : Heap) (n0 : Nat) (O : Old Z n0 h0) (hc1 : ¬ (kd = (0 : Int32))) (hc6 : ¬ (kd = (1 : Int32))) :
    Ctr l Z y_10 method_3_code 2 (some .int) ws ({ frames := 0, cells := 0, slots := 0, locals := 0 } : Room) #[(.int kd), (.int ps)] h0 (Q_expval Z kd ps h0 n0) := by
  refine MetFree.of_bodySF (plainFor_of_name pn_3) hisR ?_
  intro p e s m args below meth c s₁ Bd hml0 hP hK
  obtain ⟨rfl, hZ, hh⟩ := hP
  have W := fun (i : Nat) {d : Jvm.Cond} (h : tables_1[i]? = some d) => hw d (List.mem_of_getElem? h)
  have hx := Bd.exec
  have hby := Bd.bytes
  have hml : c.maxLocals = 2 := hml0
  have hown : s.vm.findClass "com/example/dodder/dodder/engine/PathWritesPathPinLaw" = some m.cls := findClass_of_methodNamed Bd.named
  have hnm := (name_of_methodNamed Bd.named Bd.method).1
  have X0 : Stand p l e ({ frames := 0, cells := 0, slots := 0, locals := 0 } : Room) s m #[(.int kd), (.int ps)] below meth c s₁ [] 0 0 := Stand.of_body Bd
  have e0 : s₁.heap = h0 := by rw [← hh, Bd.state]; rfl
  have N0 := Fr.nil n0
  have pre0 : ∀ t, Steps p.tables e below (s₁.setTop (mkF m 0 #[.val (.int kd), .val (.int ps)] [])) t → Steps p.tables e below (s₁.setTop (entryFrame m #[(.int kd), (.int ps)] 2)) t := fun t kk_ => castTop (ef_15 m kd ps) kk_
  obtain ⟨fs, hr, hrun, hended, hW, hsame⟩ := X0.leave (v := some (.int (-1 : Int32))) (fun h => by rw [Bd.returns] at h; cases h)
  refine ⟨_, _, pre0 _ ?_, hrun, hended, _, _, rfl, ?_, ⟨_, rfl⟩, hW, hsame.mono (by decide) (by decide)⟩
  · show Sq p e below m s₁ 0 #[iv kd, iv ps] [] _
    refine XS.iloadN X0.here hx rfl (hb hby d14_0) rfl ?_
    refine XS.ifNo X0.here hx rfl (hb hby d14_1) rfl ((if0 _ _).trans (feq hc1).1) ?_
    show Sq p e below m s₁ 4 #[iv kd, iv ps] [] _
    refine XS.iloadN X0.here hx rfl (hb hby d14_4) rfl ?_
    refine XS.iconst X0.here hx rfl (hb hby d14_5) ?_
    show Sq p e below m s₁ 6 #[iv kd, iv ps] [.int 1, .int kd] _
    refine XS.icmpYes X0.here hx rfl (pc0 := 6) (pc' := 13) rfl (hb hby d14_6) rfl (feq hc6).2 (by decide) (by decide) ?_
    refine XS.iconst X0.here hx rfl (hb hby d14_13) ?_
    show Sq p e below m s₁ 14 #[iv kd, iv ps] [.int (-1)] _
    exact retI X0 hx Bd.returns (hb hby d14_14) hr
  · show Q_expval Z kd ps h0 n0 _ s₁.heap _
    rw [e0]
    exact ⟨(by rw [own_ev, if_neg hc1, if_neg hc6]), N0, rfl⟩
set_option maxRecDepth 65536 in
theorem expval (l : Launch) (Z : State) (a0 : Array Value) (hw : ∀ d ∈ tables_1, d.before a0 Z = true) (ws : List Jvm.Cond) (kd : Int32) (ps : Int32) (h0 : Heap) (n0 : Nat) (O : Old Z n0 h0) :
    Ctr l Z y_10 method_3_code 2 (some .int) ws ({ frames := 0, cells := 0, slots := 0, locals := 0 } : Room) #[(.int kd), (.int ps)] h0 (Q_expval Z kd ps h0 n0) := by
  by_cases hc1 : kd = (0 : Int32)
  · exact expval_0 l Z a0 hw ws kd ps h0 n0 O hc1
  · by_cases hc6 : kd = (1 : Int32)
    · exact expval_1 l Z a0 hw ws kd ps h0 n0 O hc1 hc6
    · exact expval_2 l Z a0 hw ws kd ps h0 n0 O hc1 hc6
theorem d11_0 : decode prog_20_method_7_code 0 = .ok (.aload_n 0, 1) := by decide +kernel
theorem d11_1 : decode prog_20_method_7_code 1 = .ok (.getfield 26, 3) := by decide +kernel
theorem d11_4 : decode prog_20_method_7_code 4 = .ok (.iconst 2, 1) := by decide +kernel
theorem d11_5 : decode prog_20_method_7_code 5 = .ok (.iload_n 1, 1) := by decide +kernel
theorem d11_6 : decode prog_20_method_7_code 6 = .ok (.imul, 1) := by decide +kernel
theorem d11_7 : decode prog_20_method_7_code 7 = .ok (.iaload, 1) := by decide +kernel
theorem d11_8 : decode prog_20_method_7_code 8 = .ok (.ireturn, 1) := by decide +kernel
def Q_slot0 (Z : State) (a : Addr) (li : Addr) (ki : ClassId) (n : Int32) (z : Int32) (w1 : Value) (w2 : Value) (w3 : Value) (w4 : Value) (w5 : Value) (h0 : Heap) (n0 : Nat) (v : Option Value) (h : Heap) (L : List Loc) : Prop := v = some (.int z) ∧ Fr n0 L ∧ h = h0
theorem ef_16 (m : MethodId) (x0 : Addr) (x1 : Int32) : entryFrame m #[(.ref x0), (.int x1)] 2 = mkF m 0 #[.val (.ref x0), .val (.int x1)] [] := by first | (simp [entryFrame, mkF, argsToLocals, Value.category]; done) | rfl
abbrev y_11 : MethodName := ⟨"com/example/dodder/dodder/engine/PathWrites", "slot", "(I)I"⟩
set_option maxRecDepth 65536 in
set_option maxHeartbeats 40000000 in
theorem slot0 (l : Launch) (Z : State) (a0 : Array Value) (hw : ∀ d ∈ tables_1, d.before a0 Z = true) (ws : List Jvm.Cond) (a : Addr) (li : Addr) (ki : ClassId) (n : Int32) (z : Int32) (w1 : Value) (w2 : Value) (w3 : Value) (w4 : Value) (w5 : Value) (h0 : Heap) (n0 : Nat) (O : Old Z n0 h0) (fl : Fld Z h0 a "com/example/dodder/dodder/engine/PathWrites" "listed" "[I" (.ref li)) (vl : Arv Z h0 li ki .int ((2 : Int32) * n) [(.int z), w1, w2, w3, w4, w5] (.int (0 : Int32))) (hn : 3 ≤ n.toInt ∧ n.toInt ≤ 16) :
    Ctr l Z y_11 prog_20_method_7_code 2 (some .int) ws ({ frames := 0, cells := 0, slots := 0, locals := 0 } : Room) #[(.ref a), (.int (0 : Int32))] h0 (Q_slot0 Z a li ki n z w1 w2 w3 w4 w5 h0 n0) := by
  refine MetFree.of_bodySF (plainFor_of_name pn_1) hisR ?_
  intro p e s m args below meth c s₁ Bd hml0 hP hK
  obtain ⟨rfl, hZ, hh⟩ := hP
  have W := fun (i : Nat) {d : Jvm.Cond} (h : tables_1[i]? = some d) => hw d (List.mem_of_getElem? h)
  have hx := Bd.exec
  have hby := Bd.bytes
  have hml : c.maxLocals = 2 := hml0
  have hown : s.vm.findClass "com/example/dodder/dodder/engine/PathWrites" = some m.cls := findClass_of_methodNamed Bd.named
  have hnm := (name_of_methodNamed Bd.named Bd.method).1
  have X0 : Stand p l e ({ frames := 0, cells := 0, slots := 0, locals := 0 } : Room) s m #[(.ref a), (.int (0 : Int32))] below meth c s₁ [] 0 0 := Stand.of_body Bd
  have e0 : s₁.heap = h0 := by rw [← hh, Bd.state]; rfl
  have N0 := Fr.nil n0
  have pre0 : ∀ t, Steps p.tables e below (s₁.setTop (mkF m 0 #[.val (.ref a), .val (.int (0 : Int32))] [])) t → Steps p.tables e below (s₁.setTop (entryFrame m #[(.ref a), (.int (0 : Int32))] 2)) t := fun t kk_ => castTop (ef_16 m a (0 : Int32)) kk_
  obtain ⟨T1, X1, e1, st1⟩ := getF X0 hx hZ hown (host := "") (Or.inl (W 22 rfl)) Via.refl e0 fl (g := (mkF m 1 #[rv a, iv 0] [.ref a])) rfl rfl (hb hby d11_1)
  obtain ⟨cl2, Ar2, q2, S2, Ng2, Hh2, Gg2⟩ := id vl
  have st2 := X1.iaload hx (j := (0 : Int32)) (v := (.int z)) (by rw [e1]; exact Ar2.1) (State.isArrayOf_alike hZ.alike Ar2.2.1) Ar2.2.2 (inb_of S2 (own_j2 hn (by decide) (by decide))) (Hh2.at (inb_of S2 (own_j2 hn (by decide) (by decide))) rfl) (g := (mkF m 7 #[rv a, iv 0] [.int 0, .ref li])) rfl rfl (hb hby d11_7)
  obtain ⟨fs, hr, hrun, hended, hW, hsame⟩ := X1.leave (v := some (.int z)) (fun h => by rw [Bd.returns] at h; cases h)
  refine ⟨_, _, pre0 _ ?_, hrun, hended, _, _, rfl, ?_, ⟨_, rfl⟩, hW, hsame.mono (by decide) (by decide)⟩
  · show Sq p e below m s₁ 0 #[rv a, iv 0] [] _
    refine XS.aloadN X0.here hx rfl (hb hby d11_0) rfl rfl ?_
    show Sq p e below m s₁ 1 #[rv a, iv 0] [.ref a] _
    refine st1 _ ?_
    show Sq p e below m T1 4 #[rv a, iv 0] [.ref li] _
    refine XS.iconst X1.here hx rfl (hb hby d11_4) ?_
    refine XS.iloadN X1.here hx rfl (hb hby d11_5) rfl ?_
    show Sq p e below m T1 6 #[rv a, iv 0] [.int 0, .int 2, .ref li] _
    refine XS.imul X1.here hx rfl (hb hby d11_6) rfl ?_
    show Sq p e below m T1 7 #[rv a, iv 0] [.int ((2 : Int32) * (0 : Int32)), .ref li] _
    rw [show ((2 : Int32) * (0 : Int32)) = (0 : Int32) from by decide]
    show Sq p e below m T1 7 #[rv a, iv 0] [.int 0, .ref li] _
    refine st2 _ ?_
    show Sq p e below m T1 8 #[rv a, iv 0] [.int z] _
    exact retI X1 hx Bd.returns (hb hby d11_8) hr
  · show Q_slot0 Z a li ki n z w1 w2 w3 w4 w5 h0 n0 _ T1.heap _
    rw [e1]
    exact ⟨rfl, N0, rfl⟩
theorem d12_0 : decode prog_20_method_8_code 0 = .ok (.aload_n 0, 1) := by decide +kernel
theorem d12_1 : decode prog_20_method_8_code 1 = .ok (.getfield 26, 3) := by decide +kernel
theorem d12_4 : decode prog_20_method_8_code 4 = .ok (.iconst 2, 1) := by decide +kernel
theorem d12_5 : decode prog_20_method_8_code 5 = .ok (.iload_n 1, 1) := by decide +kernel
theorem d12_6 : decode prog_20_method_8_code 6 = .ok (.imul, 1) := by decide +kernel
theorem d12_7 : decode prog_20_method_8_code 7 = .ok (.iconst 1, 1) := by decide +kernel
theorem d12_8 : decode prog_20_method_8_code 8 = .ok (.iadd, 1) := by decide +kernel
theorem d12_9 : decode prog_20_method_8_code 9 = .ok (.iaload, 1) := by decide +kernel
theorem d12_10 : decode prog_20_method_8_code 10 = .ok (.aload_n 0, 1) := by decide +kernel
theorem d12_11 : decode prog_20_method_8_code 11 = .ok (.getfield 33, 3) := by decide +kernel
theorem d12_14 : decode prog_20_method_8_code 14 = .ok (.aload_n 0, 1) := by decide +kernel
theorem d12_15 : decode prog_20_method_8_code 15 = .ok (.getfield 33, 3) := by decide +kernel
theorem d12_18 : decode prog_20_method_8_code 18 = .ok (.invokestatic 66, 3) := by decide +kernel
theorem pd_4 : parseMethodDescriptor "(III)I" = some ⟨[.int, .int, .int], some .int⟩ := by decide +kernel
theorem d12_21 : decode prog_20_method_8_code 21 = .ok (.ireturn, 1) := by decide +kernel
def Q_valu0 (Z : State) (a : Addr) (li : Addr) (ki : ClassId) (n : Int32) (z : Int32) (ps : Int32) (w0 : Value) (w2 : Value) (w3 : Value) (w4 : Value) (w5 : Value) (h0 : Heap) (n0 : Nat) (v : Option Value) (h : Heap) (L : List Loc) : Prop := v = some (.int (own_ev z ps)) ∧ Fr n0 L ∧ h = h0
theorem ef_17 (m : MethodId) (x0 : Addr) (x1 : Int32) : entryFrame m #[(.ref x0), (.int x1)] 2 = mkF m 0 #[.val (.ref x0), .val (.int x1)] [] := by first | (simp [entryFrame, mkF, argsToLocals, Value.category]; done) | rfl
abbrev y_12 : MethodName := ⟨"com/example/dodder/dodder/engine/PathWrites", "value", "(I)I"⟩
set_option maxRecDepth 65536 in
set_option maxHeartbeats 40000000 in
theorem valu0 (l : Launch) (Z : State) (a0 : Array Value) (hw : ∀ d ∈ tables_1, d.before a0 Z = true) (ws : List Jvm.Cond) (a : Addr) (li : Addr) (ki : ClassId) (n : Int32) (z : Int32) (ps : Int32) (w0 : Value) (w2 : Value) (w3 : Value) (w4 : Value) (w5 : Value) (h0 : Heap) (n0 : Nat) (O : Old Z n0 h0) (fl : Fld Z h0 a "com/example/dodder/dodder/engine/PathWrites" "listed" "[I" (.ref li)) (fp : Fld Z h0 a "com/example/dodder/dodder/engine/PathWrites" "position" "I" (.int ps)) (vl : Arv Z h0 li ki .int ((2 : Int32) * n) [w0, (.int z), w2, w3, w4, w5] (.int (0 : Int32))) (hn : 3 ≤ n.toInt ∧ n.toInt ≤ 16) :
    Ctr l Z y_12 prog_20_method_8_code 2 (some .int) ws ({ frames := 1, cells := 0, slots := 0, locals := 15 } : Room) #[(.ref a), (.int (0 : Int32))] h0 (Q_valu0 Z a li ki n z ps w0 w2 w3 w4 w5 h0 n0) := by
  refine MetFree.of_bodySF (plainFor_of_name pn_1) hisR ?_
  intro p e s m args below meth c s₁ Bd hml0 hP hK
  obtain ⟨rfl, hZ, hh⟩ := hP
  have W := fun (i : Nat) {d : Jvm.Cond} (h : tables_1[i]? = some d) => hw d (List.mem_of_getElem? h)
  have hx := Bd.exec
  have hby := Bd.bytes
  have hml : c.maxLocals = 2 := hml0
  have hown : s.vm.findClass "com/example/dodder/dodder/engine/PathWrites" = some m.cls := findClass_of_methodNamed Bd.named
  have hnm := (name_of_methodNamed Bd.named Bd.method).1
  have X0 : Stand p l e ({ frames := 1, cells := 0, slots := 0, locals := 15 } : Room) s m #[(.ref a), (.int (0 : Int32))] below meth c s₁ [] 0 0 := Stand.of_body Bd
  have e0 : s₁.heap = h0 := by rw [← hh, Bd.state]; rfl
  have N0 := Fr.nil n0
  have pre0 : ∀ t, Steps p.tables e below (s₁.setTop (mkF m 0 #[.val (.ref a), .val (.int (0 : Int32))] [])) t → Steps p.tables e below (s₁.setTop (entryFrame m #[(.ref a), (.int (0 : Int32))] 2)) t := fun t kk_ => castTop (ef_17 m a (0 : Int32)) kk_
  obtain ⟨T1, X1, e1, st1⟩ := getF X0 hx hZ hown (host := "") (Or.inl (W 22 rfl)) Via.refl e0 fl (g := (mkF m 1 #[rv a, iv 0] [.ref a])) rfl rfl (hb hby d12_1)
  obtain ⟨cl2, Ar2, q2, S2, Ng2, Hh2, Gg2⟩ := id vl
  have st2 := X1.iaload hx (j := (1 : Int32)) (v := (.int z)) (by rw [e1]; exact Ar2.1) (State.isArrayOf_alike hZ.alike Ar2.2.1) Ar2.2.2 (inb_of S2 (own_j2 hn (by decide) (by decide))) (Hh2.at (inb_of S2 (own_j2 hn (by decide) (by decide))) rfl) (g := (mkF m 9 #[rv a, iv 0] [.int 1, .ref li])) rfl rfl (hb hby d12_9)
  obtain ⟨T3, X3, e3, st3⟩ := getF X1 hx hZ hown (host := "") (Or.inl (W 31 rfl)) Via.refl e1 fp (g := (mkF m 11 #[rv a, iv 0] [.ref a, .int z])) rfl rfl (hb hby d12_11)
  obtain ⟨T4, X4, e4, st4⟩ := getF X3 hx hZ hown (host := "") (Or.inl (W 31 rfl)) Via.refl e3 fp (g := (mkF m 15 #[rv a, iv 0] [.ref a, .int ps, .int z])) rfl rfl (hb hby d12_15)
  obtain ⟨_, _, ⟨T5, L5, k5, n5⟩, -, X5, ⟨Lc5, hQ5, l5, y5, z5⟩, st5⟩ := Jvm.LawKit.callS X4 hx (y := y_9) hown (mvT hZ (W 82 rfl)) (mvT hZ (W 83 rfl)) (mvT hZ (W 84 rfl)) (mvT hZ (W 85 rfl)) (by decide) (backOf (W := 0) (capval l Z a0 hw [] z ps h0 n0 O ) hZ (W 85 rfl) (W 84 rfl) (by decide) (by decide)) (g := (mkF m 18 #[rv a, iv 0] [.int ps, .int ps, .int z])) rfl (by rw [hml]; rfl) (argsL := [.int z, .int ps, .int ps]) (rest := []) (lenOf pd_4 rfl) rfl (by show 2 * 0 + _ ≤ _; exact Nat.le_of_eq rfl) (hb hby d12_18) (fun _ _ => ⟨rfl, e4, (by decide : 0 + 0 ≤ _), (by decide : 0 + 0 ≤ _)⟩)
  dsimp only [Pt.U, Pt.locs, Pt.cells, Pt.slots] at X5 l5 y5 z5 st5 hQ5
  subst l5 y5 z5
  obtain ⟨h5, e5⟩ : ∃ z, T5.heap = z := ⟨_, rfl⟩
  rw [e5] at hQ5
  obtain ⟨rfl, N5q, p5_0⟩ := hQ5
  have N5 := Fr.app N0 N5q
  rw [p5_0] at e5
  obtain ⟨fs, hr, hrun, hended, hW, hsame⟩ := X5.leave (v := some (.int (own_ev z ps))) (fun h => by rw [Bd.returns] at h; cases h)
  refine ⟨_, _, pre0 _ ?_, hrun, hended, _, _, rfl, ?_, ⟨_, rfl⟩, hW, hsame.mono (by decide) (by decide)⟩
  · show Sq p e below m s₁ 0 #[rv a, iv 0] [] _
    refine XS.aloadN X0.here hx rfl (hb hby d12_0) rfl rfl ?_
    show Sq p e below m s₁ 1 #[rv a, iv 0] [.ref a] _
    refine st1 _ ?_
    show Sq p e below m T1 4 #[rv a, iv 0] [.ref li] _
    refine XS.iconst X1.here hx rfl (hb hby d12_4) ?_
    refine XS.iloadN X1.here hx rfl (hb hby d12_5) rfl ?_
    show Sq p e below m T1 6 #[rv a, iv 0] [.int 0, .int 2, .ref li] _
    refine XS.imul X1.here hx rfl (hb hby d12_6) rfl ?_
    show Sq p e below m T1 7 #[rv a, iv 0] [.int ((2 : Int32) * (0 : Int32)), .ref li] _
    rw [show ((2 : Int32) * (0 : Int32)) = (0 : Int32) from by decide]
    show Sq p e below m T1 7 #[rv a, iv 0] [.int 0, .ref li] _
    refine XS.iconst X1.here hx rfl (hb hby d12_7) ?_
    refine XS.iadd X1.here hx rfl (hb hby d12_8) rfl ?_
    show Sq p e below m T1 9 #[rv a, iv 0] [.int ((0 : Int32) + (1 : Int32)), .ref li] _
    rw [show ((0 : Int32) + (1 : Int32)) = (1 : Int32) from by decide]
    show Sq p e below m T1 9 #[rv a, iv 0] [.int 1, .ref li] _
    refine st2 _ ?_
    show Sq p e below m T1 10 #[rv a, iv 0] [.int z] _
    refine XS.aloadN X1.here hx rfl (hb hby d12_10) rfl rfl ?_
    show Sq p e below m T1 11 #[rv a, iv 0] [.ref a, .int z] _
    refine st3 _ ?_
    show Sq p e below m T3 14 #[rv a, iv 0] [.int ps, .int z] _
    refine XS.aloadN X3.here hx rfl (hb hby d12_14) rfl rfl ?_
    show Sq p e below m T3 15 #[rv a, iv 0] [.ref a, .int ps, .int z] _
    refine st4 _ ?_
    show Sq p e below m T4 18 #[rv a, iv 0] [.int ps, .int ps, .int z] _
    refine st5 _ ?_
    show Sq p e below m T5 21 #[rv a, iv 0] [.int (own_ev z ps)] _
    exact retI X5 hx Bd.returns (hb hby d12_21) hr
  · show Q_valu0 Z a li ki n z ps w0 w2 w3 w4 w5 h0 n0 _ T5.heap _
    rw [e5]
    exact ⟨rfl, N5, rfl⟩
def Q_slot1 (Z : State) (a : Addr) (li : Addr) (ki : ClassId) (n : Int32) (z : Int32) (w0 : Value) (w1 : Value) (w3 : Value) (w4 : Value) (w5 : Value) (h0 : Heap) (n0 : Nat) (v : Option Value) (h : Heap) (L : List Loc) : Prop := v = some (.int z) ∧ Fr n0 L ∧ h = h0
theorem ef_18 (m : MethodId) (x0 : Addr) (x1 : Int32) : entryFrame m #[(.ref x0), (.int x1)] 2 = mkF m 0 #[.val (.ref x0), .val (.int x1)] [] := by first | (simp [entryFrame, mkF, argsToLocals, Value.category]; done) | rfl
set_option maxRecDepth 65536 in
set_option maxHeartbeats 40000000 in
theorem slot1 (l : Launch) (Z : State) (a0 : Array Value) (hw : ∀ d ∈ tables_1, d.before a0 Z = true) (ws : List Jvm.Cond) (a : Addr) (li : Addr) (ki : ClassId) (n : Int32) (z : Int32) (w0 : Value) (w1 : Value) (w3 : Value) (w4 : Value) (w5 : Value) (h0 : Heap) (n0 : Nat) (O : Old Z n0 h0) (fl : Fld Z h0 a "com/example/dodder/dodder/engine/PathWrites" "listed" "[I" (.ref li)) (vl : Arv Z h0 li ki .int ((2 : Int32) * n) [w0, w1, (.int z), w3, w4, w5] (.int (0 : Int32))) (hn : 3 ≤ n.toInt ∧ n.toInt ≤ 16) :
    Ctr l Z y_11 prog_20_method_7_code 2 (some .int) ws ({ frames := 0, cells := 0, slots := 0, locals := 0 } : Room) #[(.ref a), (.int (1 : Int32))] h0 (Q_slot1 Z a li ki n z w0 w1 w3 w4 w5 h0 n0) := by
  refine MetFree.of_bodySF (plainFor_of_name pn_1) hisR ?_
  intro p e s m args below meth c s₁ Bd hml0 hP hK
  obtain ⟨rfl, hZ, hh⟩ := hP
  have W := fun (i : Nat) {d : Jvm.Cond} (h : tables_1[i]? = some d) => hw d (List.mem_of_getElem? h)
  have hx := Bd.exec
  have hby := Bd.bytes
  have hml : c.maxLocals = 2 := hml0
  have hown : s.vm.findClass "com/example/dodder/dodder/engine/PathWrites" = some m.cls := findClass_of_methodNamed Bd.named
  have hnm := (name_of_methodNamed Bd.named Bd.method).1
  have X0 : Stand p l e ({ frames := 0, cells := 0, slots := 0, locals := 0 } : Room) s m #[(.ref a), (.int (1 : Int32))] below meth c s₁ [] 0 0 := Stand.of_body Bd
  have e0 : s₁.heap = h0 := by rw [← hh, Bd.state]; rfl
  have N0 := Fr.nil n0
  have pre0 : ∀ t, Steps p.tables e below (s₁.setTop (mkF m 0 #[.val (.ref a), .val (.int (1 : Int32))] [])) t → Steps p.tables e below (s₁.setTop (entryFrame m #[(.ref a), (.int (1 : Int32))] 2)) t := fun t kk_ => castTop (ef_18 m a (1 : Int32)) kk_
  obtain ⟨T1, X1, e1, st1⟩ := getF X0 hx hZ hown (host := "") (Or.inl (W 22 rfl)) Via.refl e0 fl (g := (mkF m 1 #[rv a, iv 1] [.ref a])) rfl rfl (hb hby d11_1)
  obtain ⟨cl2, Ar2, q2, S2, Ng2, Hh2, Gg2⟩ := id vl
  have st2 := X1.iaload hx (j := (2 : Int32)) (v := (.int z)) (by rw [e1]; exact Ar2.1) (State.isArrayOf_alike hZ.alike Ar2.2.1) Ar2.2.2 (inb_of S2 (own_j2 hn (by decide) (by decide))) (Hh2.at (inb_of S2 (own_j2 hn (by decide) (by decide))) rfl) (g := (mkF m 7 #[rv a, iv 1] [.int 2, .ref li])) rfl rfl (hb hby d11_7)
  obtain ⟨fs, hr, hrun, hended, hW, hsame⟩ := X1.leave (v := some (.int z)) (fun h => by rw [Bd.returns] at h; cases h)
  refine ⟨_, _, pre0 _ ?_, hrun, hended, _, _, rfl, ?_, ⟨_, rfl⟩, hW, hsame.mono (by decide) (by decide)⟩
  · show Sq p e below m s₁ 0 #[rv a, iv 1] [] _
    refine XS.aloadN X0.here hx rfl (hb hby d11_0) rfl rfl ?_
    show Sq p e below m s₁ 1 #[rv a, iv 1] [.ref a] _
    refine st1 _ ?_
    show Sq p e below m T1 4 #[rv a, iv 1] [.ref li] _
    refine XS.iconst X1.here hx rfl (hb hby d11_4) ?_
    refine XS.iloadN X1.here hx rfl (hb hby d11_5) rfl ?_
    show Sq p e below m T1 6 #[rv a, iv 1] [.int 1, .int 2, .ref li] _
    refine XS.imul X1.here hx rfl (hb hby d11_6) rfl ?_
    show Sq p e below m T1 7 #[rv a, iv 1] [.int ((2 : Int32) * (1 : Int32)), .ref li] _
    rw [show ((2 : Int32) * (1 : Int32)) = (2 : Int32) from by decide]
    show Sq p e below m T1 7 #[rv a, iv 1] [.int 2, .ref li] _
    refine st2 _ ?_
    show Sq p e below m T1 8 #[rv a, iv 1] [.int z] _
    exact retI X1 hx Bd.returns (hb hby d11_8) hr
  · show Q_slot1 Z a li ki n z w0 w1 w3 w4 w5 h0 n0 _ T1.heap _
    rw [e1]
    exact ⟨rfl, N0, rfl⟩
def Q_valu1 (Z : State) (a : Addr) (li : Addr) (ki : ClassId) (n : Int32) (z : Int32) (ps : Int32) (w0 : Value) (w1 : Value) (w2 : Value) (w4 : Value) (w5 : Value) (h0 : Heap) (n0 : Nat) (v : Option Value) (h : Heap) (L : List Loc) : Prop := v = some (.int (own_ev z ps)) ∧ Fr n0 L ∧ h = h0
theorem ef_19 (m : MethodId) (x0 : Addr) (x1 : Int32) : entryFrame m #[(.ref x0), (.int x1)] 2 = mkF m 0 #[.val (.ref x0), .val (.int x1)] [] := by first | (simp [entryFrame, mkF, argsToLocals, Value.category]; done) | rfl
set_option maxRecDepth 65536 in
set_option maxHeartbeats 40000000 in
theorem valu1 (l : Launch) (Z : State) (a0 : Array Value) (hw : ∀ d ∈ tables_1, d.before a0 Z = true) (ws : List Jvm.Cond) (a : Addr) (li : Addr) (ki : ClassId) (n : Int32) (z : Int32) (ps : Int32) (w0 : Value) (w1 : Value) (w2 : Value) (w4 : Value) (w5 : Value) (h0 : Heap) (n0 : Nat) (O : Old Z n0 h0) (fl : Fld Z h0 a "com/example/dodder/dodder/engine/PathWrites" "listed" "[I" (.ref li)) (fp : Fld Z h0 a "com/example/dodder/dodder/engine/PathWrites" "position" "I" (.int ps)) (vl : Arv Z h0 li ki .int ((2 : Int32) * n) [w0, w1, w2, (.int z), w4, w5] (.int (0 : Int32))) (hn : 3 ≤ n.toInt ∧ n.toInt ≤ 16) :
    Ctr l Z y_12 prog_20_method_8_code 2 (some .int) ws ({ frames := 1, cells := 0, slots := 0, locals := 15 } : Room) #[(.ref a), (.int (1 : Int32))] h0 (Q_valu1 Z a li ki n z ps w0 w1 w2 w4 w5 h0 n0) := by
  refine MetFree.of_bodySF (plainFor_of_name pn_1) hisR ?_
  intro p e s m args below meth c s₁ Bd hml0 hP hK
  obtain ⟨rfl, hZ, hh⟩ := hP
  have W := fun (i : Nat) {d : Jvm.Cond} (h : tables_1[i]? = some d) => hw d (List.mem_of_getElem? h)
  have hx := Bd.exec
  have hby := Bd.bytes
  have hml : c.maxLocals = 2 := hml0
  have hown : s.vm.findClass "com/example/dodder/dodder/engine/PathWrites" = some m.cls := findClass_of_methodNamed Bd.named
  have hnm := (name_of_methodNamed Bd.named Bd.method).1
  have X0 : Stand p l e ({ frames := 1, cells := 0, slots := 0, locals := 15 } : Room) s m #[(.ref a), (.int (1 : Int32))] below meth c s₁ [] 0 0 := Stand.of_body Bd
  have e0 : s₁.heap = h0 := by rw [← hh, Bd.state]; rfl
  have N0 := Fr.nil n0
  have pre0 : ∀ t, Steps p.tables e below (s₁.setTop (mkF m 0 #[.val (.ref a), .val (.int (1 : Int32))] [])) t → Steps p.tables e below (s₁.setTop (entryFrame m #[(.ref a), (.int (1 : Int32))] 2)) t := fun t kk_ => castTop (ef_19 m a (1 : Int32)) kk_
  obtain ⟨T1, X1, e1, st1⟩ := getF X0 hx hZ hown (host := "") (Or.inl (W 22 rfl)) Via.refl e0 fl (g := (mkF m 1 #[rv a, iv 1] [.ref a])) rfl rfl (hb hby d12_1)
  obtain ⟨cl2, Ar2, q2, S2, Ng2, Hh2, Gg2⟩ := id vl
  have st2 := X1.iaload hx (j := (3 : Int32)) (v := (.int z)) (by rw [e1]; exact Ar2.1) (State.isArrayOf_alike hZ.alike Ar2.2.1) Ar2.2.2 (inb_of S2 (own_j2 hn (by decide) (by decide))) (Hh2.at (inb_of S2 (own_j2 hn (by decide) (by decide))) rfl) (g := (mkF m 9 #[rv a, iv 1] [.int 3, .ref li])) rfl rfl (hb hby d12_9)
  obtain ⟨T3, X3, e3, st3⟩ := getF X1 hx hZ hown (host := "") (Or.inl (W 31 rfl)) Via.refl e1 fp (g := (mkF m 11 #[rv a, iv 1] [.ref a, .int z])) rfl rfl (hb hby d12_11)
  obtain ⟨T4, X4, e4, st4⟩ := getF X3 hx hZ hown (host := "") (Or.inl (W 31 rfl)) Via.refl e3 fp (g := (mkF m 15 #[rv a, iv 1] [.ref a, .int ps, .int z])) rfl rfl (hb hby d12_15)
  obtain ⟨_, _, ⟨T5, L5, k5, n5⟩, -, X5, ⟨Lc5, hQ5, l5, y5, z5⟩, st5⟩ := Jvm.LawKit.callS X4 hx (y := y_9) hown (mvT hZ (W 82 rfl)) (mvT hZ (W 83 rfl)) (mvT hZ (W 84 rfl)) (mvT hZ (W 85 rfl)) (by decide) (backOf (W := 0) (capval l Z a0 hw [] z ps h0 n0 O ) hZ (W 85 rfl) (W 84 rfl) (by decide) (by decide)) (g := (mkF m 18 #[rv a, iv 1] [.int ps, .int ps, .int z])) rfl (by rw [hml]; rfl) (argsL := [.int z, .int ps, .int ps]) (rest := []) (lenOf pd_4 rfl) rfl (by show 2 * 0 + _ ≤ _; exact Nat.le_of_eq rfl) (hb hby d12_18) (fun _ _ => ⟨rfl, e4, (by decide : 0 + 0 ≤ _), (by decide : 0 + 0 ≤ _)⟩)
  dsimp only [Pt.U, Pt.locs, Pt.cells, Pt.slots] at X5 l5 y5 z5 st5 hQ5
  subst l5 y5 z5
  obtain ⟨h5, e5⟩ : ∃ z, T5.heap = z := ⟨_, rfl⟩
  rw [e5] at hQ5
  obtain ⟨rfl, N5q, p5_0⟩ := hQ5
  have N5 := Fr.app N0 N5q
  rw [p5_0] at e5
  obtain ⟨fs, hr, hrun, hended, hW, hsame⟩ := X5.leave (v := some (.int (own_ev z ps))) (fun h => by rw [Bd.returns] at h; cases h)
  refine ⟨_, _, pre0 _ ?_, hrun, hended, _, _, rfl, ?_, ⟨_, rfl⟩, hW, hsame.mono (by decide) (by decide)⟩
  · show Sq p e below m s₁ 0 #[rv a, iv 1] [] _
    refine XS.aloadN X0.here hx rfl (hb hby d12_0) rfl rfl ?_
    show Sq p e below m s₁ 1 #[rv a, iv 1] [.ref a] _
    refine st1 _ ?_
    show Sq p e below m T1 4 #[rv a, iv 1] [.ref li] _
    refine XS.iconst X1.here hx rfl (hb hby d12_4) ?_
    refine XS.iloadN X1.here hx rfl (hb hby d12_5) rfl ?_
    show Sq p e below m T1 6 #[rv a, iv 1] [.int 1, .int 2, .ref li] _
    refine XS.imul X1.here hx rfl (hb hby d12_6) rfl ?_
    show Sq p e below m T1 7 #[rv a, iv 1] [.int ((2 : Int32) * (1 : Int32)), .ref li] _
    rw [show ((2 : Int32) * (1 : Int32)) = (2 : Int32) from by decide]
    show Sq p e below m T1 7 #[rv a, iv 1] [.int 2, .ref li] _
    refine XS.iconst X1.here hx rfl (hb hby d12_7) ?_
    refine XS.iadd X1.here hx rfl (hb hby d12_8) rfl ?_
    show Sq p e below m T1 9 #[rv a, iv 1] [.int ((2 : Int32) + (1 : Int32)), .ref li] _
    rw [show ((2 : Int32) + (1 : Int32)) = (3 : Int32) from by decide]
    show Sq p e below m T1 9 #[rv a, iv 1] [.int 3, .ref li] _
    refine st2 _ ?_
    show Sq p e below m T1 10 #[rv a, iv 1] [.int z] _
    refine XS.aloadN X1.here hx rfl (hb hby d12_10) rfl rfl ?_
    show Sq p e below m T1 11 #[rv a, iv 1] [.ref a, .int z] _
    refine st3 _ ?_
    show Sq p e below m T3 14 #[rv a, iv 1] [.int ps, .int z] _
    refine XS.aloadN X3.here hx rfl (hb hby d12_14) rfl rfl ?_
    show Sq p e below m T3 15 #[rv a, iv 1] [.ref a, .int ps, .int z] _
    refine st4 _ ?_
    show Sq p e below m T4 18 #[rv a, iv 1] [.int ps, .int ps, .int z] _
    refine st5 _ ?_
    show Sq p e below m T5 21 #[rv a, iv 1] [.int (own_ev z ps)] _
    exact retI X5 hx Bd.returns (hb hby d12_21) hr
  · show Q_valu1 Z a li ki n z ps w0 w1 w2 w4 w5 h0 n0 _ T5.heap _
    rw [e5]
    exact ⟨rfl, N5, rfl⟩
def Q_slot2 (Z : State) (a : Addr) (li : Addr) (ki : ClassId) (n : Int32) (z : Int32) (w0 : Value) (w1 : Value) (w2 : Value) (w3 : Value) (w5 : Value) (h0 : Heap) (n0 : Nat) (v : Option Value) (h : Heap) (L : List Loc) : Prop := v = some (.int z) ∧ Fr n0 L ∧ h = h0
theorem ef_20 (m : MethodId) (x0 : Addr) (x1 : Int32) : entryFrame m #[(.ref x0), (.int x1)] 2 = mkF m 0 #[.val (.ref x0), .val (.int x1)] [] := by first | (simp [entryFrame, mkF, argsToLocals, Value.category]; done) | rfl
set_option maxRecDepth 65536 in
set_option maxHeartbeats 40000000 in
theorem slot2 (l : Launch) (Z : State) (a0 : Array Value) (hw : ∀ d ∈ tables_1, d.before a0 Z = true) (ws : List Jvm.Cond) (a : Addr) (li : Addr) (ki : ClassId) (n : Int32) (z : Int32) (w0 : Value) (w1 : Value) (w2 : Value) (w3 : Value) (w5 : Value) (h0 : Heap) (n0 : Nat) (O : Old Z n0 h0) (fl : Fld Z h0 a "com/example/dodder/dodder/engine/PathWrites" "listed" "[I" (.ref li)) (vl : Arv Z h0 li ki .int ((2 : Int32) * n) [w0, w1, w2, w3, (.int z), w5] (.int (0 : Int32))) (hn : 3 ≤ n.toInt ∧ n.toInt ≤ 16) :
    Ctr l Z y_11 prog_20_method_7_code 2 (some .int) ws ({ frames := 0, cells := 0, slots := 0, locals := 0 } : Room) #[(.ref a), (.int (2 : Int32))] h0 (Q_slot2 Z a li ki n z w0 w1 w2 w3 w5 h0 n0) := by
  refine MetFree.of_bodySF (plainFor_of_name pn_1) hisR ?_
  intro p e s m args below meth c s₁ Bd hml0 hP hK
  obtain ⟨rfl, hZ, hh⟩ := hP
  have W := fun (i : Nat) {d : Jvm.Cond} (h : tables_1[i]? = some d) => hw d (List.mem_of_getElem? h)
  have hx := Bd.exec
  have hby := Bd.bytes
  have hml : c.maxLocals = 2 := hml0
  have hown : s.vm.findClass "com/example/dodder/dodder/engine/PathWrites" = some m.cls := findClass_of_methodNamed Bd.named
  have hnm := (name_of_methodNamed Bd.named Bd.method).1
  have X0 : Stand p l e ({ frames := 0, cells := 0, slots := 0, locals := 0 } : Room) s m #[(.ref a), (.int (2 : Int32))] below meth c s₁ [] 0 0 := Stand.of_body Bd
  have e0 : s₁.heap = h0 := by rw [← hh, Bd.state]; rfl
  have N0 := Fr.nil n0
  have pre0 : ∀ t, Steps p.tables e below (s₁.setTop (mkF m 0 #[.val (.ref a), .val (.int (2 : Int32))] [])) t → Steps p.tables e below (s₁.setTop (entryFrame m #[(.ref a), (.int (2 : Int32))] 2)) t := fun t kk_ => castTop (ef_20 m a (2 : Int32)) kk_
  obtain ⟨T1, X1, e1, st1⟩ := getF X0 hx hZ hown (host := "") (Or.inl (W 22 rfl)) Via.refl e0 fl (g := (mkF m 1 #[rv a, iv 2] [.ref a])) rfl rfl (hb hby d11_1)
  obtain ⟨cl2, Ar2, q2, S2, Ng2, Hh2, Gg2⟩ := id vl
  have st2 := X1.iaload hx (j := (4 : Int32)) (v := (.int z)) (by rw [e1]; exact Ar2.1) (State.isArrayOf_alike hZ.alike Ar2.2.1) Ar2.2.2 (inb_of S2 (own_j2 hn (by decide) (by decide))) (Hh2.at (inb_of S2 (own_j2 hn (by decide) (by decide))) rfl) (g := (mkF m 7 #[rv a, iv 2] [.int 4, .ref li])) rfl rfl (hb hby d11_7)
  obtain ⟨fs, hr, hrun, hended, hW, hsame⟩ := X1.leave (v := some (.int z)) (fun h => by rw [Bd.returns] at h; cases h)
  refine ⟨_, _, pre0 _ ?_, hrun, hended, _, _, rfl, ?_, ⟨_, rfl⟩, hW, hsame.mono (by decide) (by decide)⟩
  · show Sq p e below m s₁ 0 #[rv a, iv 2] [] _
    refine XS.aloadN X0.here hx rfl (hb hby d11_0) rfl rfl ?_
    show Sq p e below m s₁ 1 #[rv a, iv 2] [.ref a] _
    refine st1 _ ?_
    show Sq p e below m T1 4 #[rv a, iv 2] [.ref li] _
    refine XS.iconst X1.here hx rfl (hb hby d11_4) ?_
    refine XS.iloadN X1.here hx rfl (hb hby d11_5) rfl ?_
    show Sq p e below m T1 6 #[rv a, iv 2] [.int 2, .int 2, .ref li] _
    refine XS.imul X1.here hx rfl (hb hby d11_6) rfl ?_
    show Sq p e below m T1 7 #[rv a, iv 2] [.int ((2 : Int32) * (2 : Int32)), .ref li] _
    rw [show ((2 : Int32) * (2 : Int32)) = (4 : Int32) from by decide]
    show Sq p e below m T1 7 #[rv a, iv 2] [.int 4, .ref li] _
    refine st2 _ ?_
    show Sq p e below m T1 8 #[rv a, iv 2] [.int z] _
    exact retI X1 hx Bd.returns (hb hby d11_8) hr
  · show Q_slot2 Z a li ki n z w0 w1 w2 w3 w5 h0 n0 _ T1.heap _
    rw [e1]
    exact ⟨rfl, N0, rfl⟩
def Q_valu2 (Z : State) (a : Addr) (li : Addr) (ki : ClassId) (n : Int32) (z : Int32) (ps : Int32) (w0 : Value) (w1 : Value) (w2 : Value) (w3 : Value) (w4 : Value) (h0 : Heap) (n0 : Nat) (v : Option Value) (h : Heap) (L : List Loc) : Prop := v = some (.int (own_ev z ps)) ∧ Fr n0 L ∧ h = h0
theorem ef_21 (m : MethodId) (x0 : Addr) (x1 : Int32) : entryFrame m #[(.ref x0), (.int x1)] 2 = mkF m 0 #[.val (.ref x0), .val (.int x1)] [] := by first | (simp [entryFrame, mkF, argsToLocals, Value.category]; done) | rfl
set_option maxRecDepth 65536 in
set_option maxHeartbeats 40000000 in
theorem valu2 (l : Launch) (Z : State) (a0 : Array Value) (hw : ∀ d ∈ tables_1, d.before a0 Z = true) (ws : List Jvm.Cond) (a : Addr) (li : Addr) (ki : ClassId) (n : Int32) (z : Int32) (ps : Int32) (w0 : Value) (w1 : Value) (w2 : Value) (w3 : Value) (w4 : Value) (h0 : Heap) (n0 : Nat) (O : Old Z n0 h0) (fl : Fld Z h0 a "com/example/dodder/dodder/engine/PathWrites" "listed" "[I" (.ref li)) (fp : Fld Z h0 a "com/example/dodder/dodder/engine/PathWrites" "position" "I" (.int ps)) (vl : Arv Z h0 li ki .int ((2 : Int32) * n) [w0, w1, w2, w3, w4, (.int z)] (.int (0 : Int32))) (hn : 3 ≤ n.toInt ∧ n.toInt ≤ 16) :
    Ctr l Z y_12 prog_20_method_8_code 2 (some .int) ws ({ frames := 1, cells := 0, slots := 0, locals := 15 } : Room) #[(.ref a), (.int (2 : Int32))] h0 (Q_valu2 Z a li ki n z ps w0 w1 w2 w3 w4 h0 n0) := by
  refine MetFree.of_bodySF (plainFor_of_name pn_1) hisR ?_
  intro p e s m args below meth c s₁ Bd hml0 hP hK
  obtain ⟨rfl, hZ, hh⟩ := hP
  have W := fun (i : Nat) {d : Jvm.Cond} (h : tables_1[i]? = some d) => hw d (List.mem_of_getElem? h)
  have hx := Bd.exec
  have hby := Bd.bytes
  have hml : c.maxLocals = 2 := hml0
  have hown : s.vm.findClass "com/example/dodder/dodder/engine/PathWrites" = some m.cls := findClass_of_methodNamed Bd.named
  have hnm := (name_of_methodNamed Bd.named Bd.method).1
  have X0 : Stand p l e ({ frames := 1, cells := 0, slots := 0, locals := 15 } : Room) s m #[(.ref a), (.int (2 : Int32))] below meth c s₁ [] 0 0 := Stand.of_body Bd
  have e0 : s₁.heap = h0 := by rw [← hh, Bd.state]; rfl
  have N0 := Fr.nil n0
  have pre0 : ∀ t, Steps p.tables e below (s₁.setTop (mkF m 0 #[.val (.ref a), .val (.int (2 : Int32))] [])) t → Steps p.tables e below (s₁.setTop (entryFrame m #[(.ref a), (.int (2 : Int32))] 2)) t := fun t kk_ => castTop (ef_21 m a (2 : Int32)) kk_
  obtain ⟨T1, X1, e1, st1⟩ := getF X0 hx hZ hown (host := "") (Or.inl (W 22 rfl)) Via.refl e0 fl (g := (mkF m 1 #[rv a, iv 2] [.ref a])) rfl rfl (hb hby d12_1)
  obtain ⟨cl2, Ar2, q2, S2, Ng2, Hh2, Gg2⟩ := id vl
  have st2 := X1.iaload hx (j := (5 : Int32)) (v := (.int z)) (by rw [e1]; exact Ar2.1) (State.isArrayOf_alike hZ.alike Ar2.2.1) Ar2.2.2 (inb_of S2 (own_j2 hn (by decide) (by decide))) (Hh2.at (inb_of S2 (own_j2 hn (by decide) (by decide))) rfl) (g := (mkF m 9 #[rv a, iv 2] [.int 5, .ref li])) rfl rfl (hb hby d12_9)
  obtain ⟨T3, X3, e3, st3⟩ := getF X1 hx hZ hown (host := "") (Or.inl (W 31 rfl)) Via.refl e1 fp (g := (mkF m 11 #[rv a, iv 2] [.ref a, .int z])) rfl rfl (hb hby d12_11)
  obtain ⟨T4, X4, e4, st4⟩ := getF X3 hx hZ hown (host := "") (Or.inl (W 31 rfl)) Via.refl e3 fp (g := (mkF m 15 #[rv a, iv 2] [.ref a, .int ps, .int z])) rfl rfl (hb hby d12_15)
  obtain ⟨_, _, ⟨T5, L5, k5, n5⟩, -, X5, ⟨Lc5, hQ5, l5, y5, z5⟩, st5⟩ := Jvm.LawKit.callS X4 hx (y := y_9) hown (mvT hZ (W 82 rfl)) (mvT hZ (W 83 rfl)) (mvT hZ (W 84 rfl)) (mvT hZ (W 85 rfl)) (by decide) (backOf (W := 0) (capval l Z a0 hw [] z ps h0 n0 O ) hZ (W 85 rfl) (W 84 rfl) (by decide) (by decide)) (g := (mkF m 18 #[rv a, iv 2] [.int ps, .int ps, .int z])) rfl (by rw [hml]; rfl) (argsL := [.int z, .int ps, .int ps]) (rest := []) (lenOf pd_4 rfl) rfl (by show 2 * 0 + _ ≤ _; exact Nat.le_of_eq rfl) (hb hby d12_18) (fun _ _ => ⟨rfl, e4, (by decide : 0 + 0 ≤ _), (by decide : 0 + 0 ≤ _)⟩)
  dsimp only [Pt.U, Pt.locs, Pt.cells, Pt.slots] at X5 l5 y5 z5 st5 hQ5
  subst l5 y5 z5
  obtain ⟨h5, e5⟩ : ∃ z, T5.heap = z := ⟨_, rfl⟩
  rw [e5] at hQ5
  obtain ⟨rfl, N5q, p5_0⟩ := hQ5
  have N5 := Fr.app N0 N5q
  rw [p5_0] at e5
  obtain ⟨fs, hr, hrun, hended, hW, hsame⟩ := X5.leave (v := some (.int (own_ev z ps))) (fun h => by rw [Bd.returns] at h; cases h)
  refine ⟨_, _, pre0 _ ?_, hrun, hended, _, _, rfl, ?_, ⟨_, rfl⟩, hW, hsame.mono (by decide) (by decide)⟩
  · show Sq p e below m s₁ 0 #[rv a, iv 2] [] _
    refine XS.aloadN X0.here hx rfl (hb hby d12_0) rfl rfl ?_
    show Sq p e below m s₁ 1 #[rv a, iv 2] [.ref a] _
    refine st1 _ ?_
    show Sq p e below m T1 4 #[rv a, iv 2] [.ref li] _
    refine XS.iconst X1.here hx rfl (hb hby d12_4) ?_
    refine XS.iloadN X1.here hx rfl (hb hby d12_5) rfl ?_
    show Sq p e below m T1 6 #[rv a, iv 2] [.int 2, .int 2, .ref li] _
    refine XS.imul X1.here hx rfl (hb hby d12_6) rfl ?_
    show Sq p e below m T1 7 #[rv a, iv 2] [.int ((2 : Int32) * (2 : Int32)), .ref li] _
    rw [show ((2 : Int32) * (2 : Int32)) = (4 : Int32) from by decide]
    show Sq p e below m T1 7 #[rv a, iv 2] [.int 4, .ref li] _
    refine XS.iconst X1.here hx rfl (hb hby d12_7) ?_
    refine XS.iadd X1.here hx rfl (hb hby d12_8) rfl ?_
    show Sq p e below m T1 9 #[rv a, iv 2] [.int ((4 : Int32) + (1 : Int32)), .ref li] _
    rw [show ((4 : Int32) + (1 : Int32)) = (5 : Int32) from by decide]
    show Sq p e below m T1 9 #[rv a, iv 2] [.int 5, .ref li] _
    refine st2 _ ?_
    show Sq p e below m T1 10 #[rv a, iv 2] [.int z] _
    refine XS.aloadN X1.here hx rfl (hb hby d12_10) rfl rfl ?_
    show Sq p e below m T1 11 #[rv a, iv 2] [.ref a, .int z] _
    refine st3 _ ?_
    show Sq p e below m T3 14 #[rv a, iv 2] [.int ps, .int z] _
    refine XS.aloadN X3.here hx rfl (hb hby d12_14) rfl rfl ?_
    show Sq p e below m T3 15 #[rv a, iv 2] [.ref a, .int ps, .int z] _
    refine st4 _ ?_
    show Sq p e below m T4 18 #[rv a, iv 2] [.int ps, .int ps, .int z] _
    refine st5 _ ?_
    show Sq p e below m T5 21 #[rv a, iv 2] [.int (own_ev z ps)] _
    exact retI X5 hx Bd.returns (hb hby d12_21) hr
  · show Q_valu2 Z a li ki n z ps w0 w1 w2 w3 w4 h0 n0 _ T5.heap _
    rw [e5]
    exact ⟨rfl, N5, rfl⟩
theorem pd_5 : parseMethodDescriptor "(I)V" = some ⟨[.int], none⟩ := by decide +kernel
theorem pd_6 : parseMethodDescriptor "(I)I" = some ⟨[.int], some .int⟩ := by decide +kernel
def Q_rm0 (Z : State) (p1 : Int32) (p2 : Int32) (p3 : Int32) (p4 : Int32) (p5 : Int32) (cp : Int32) (kk0 : Int32) (kk1 : Int32) (kk2 : Int32) (v : Int32) (qv : Int32) (w_MIR : Addr) (h0 : Heap) (n0 : Nat) (v : Option Value) (h : Heap) (L : List Loc) : Prop := v = some (.int (1 : Int32)) ∧ Fr n0 L
theorem ef_22 (m : MethodId) (x0 : Int32) (x1 : Int32) (x2 : Int32) (x3 : Int32) (x4 : Int32) : entryFrame m #[(.int x0), (.int x1), (.int x2), (.int x3), (.int x4)] maxLocals = mkF m 0 #[.val (.int x0), .val (.int x1), .val (.int x2), .val (.int x3), .val (.int x4), .unset, .unset, .unset, .unset, .unset, .unset, .unset, .unset, .unset, .unset, .unset, .unset, .unset, .unset, .unset, .unset, .unset, .unset, .unset, .unset, .unset] [] := by first | (simp [entryFrame, mkF, argsToLocals, Value.category, maxLocals]; done) | rfl
set_option maxRecDepth 65536 in
set_option maxHeartbeats 40000000 in
theorem rm0 (l : Launch) (Z : State) (a0 : Array Value) (hw : ∀ d ∈ tables_1, d.before a0 Z = true) (ws : List Jvm.Cond) (p1 : Int32) (p2 : Int32) (p3 : Int32) (p4 : Int32) (p5 : Int32) (cp : Int32) (kk0 : Int32) (kk1 : Int32) (kk2 : Int32) (v : Int32) (qv : Int32) (w_MIR : Addr) (h0 : Heap) (n0 : Nat) (O : Old Z n0 h0) (Mo : Mirr Z "[Ljava/lang/Object;" w_MIR) (hcp : (((p5.toUInt32 >>> ((11 : Int32) &&& 31).toUInt32).toInt32) &&& (3 : Int32)) = cp) (hkk0 : (((p5.toUInt32 >>> ((5 : Int32) &&& 31).toUInt32).toInt32) &&& (3 : Int32)) = kk0) (hkk1 : (((p5.toUInt32 >>> ((7 : Int32) &&& 31).toUInt32).toInt32) &&& (3 : Int32)) = kk1) (hkk2 : (((p5.toUInt32 >>> ((9 : Int32) &&& 31).toUInt32).toInt32) &&& (3 : Int32)) = kk2) (hv : (((p5.toUInt32 >>> ((1 : Int32) &&& 31).toUInt32).toInt32) &&& (3 : Int32)) = v) (hqv : (((p5.toUInt32 >>> ((3 : Int32) &&& 31).toUInt32).toInt32) &&& (3 : Int32)) = qv) :
    Ctr l Z x code maxLocals ret ws room_1 #[(.int p1), (.int p2), (.int p3), (.int p4), (.int p5)] h0 (Q_rm0 Z p1 p2 p3 p4 p5 cp kk0 kk1 kk2 v qv w_MIR h0 n0) := by
  refine MetFree.of_bodySF (plainFor_of_name pn_3) hisR ?_
  intro p e s m args below meth c s₁ Bd hml0 hP hK
  obtain ⟨rfl, hZ, hh⟩ := hP
  have W := fun (i : Nat) {d : Jvm.Cond} (h : tables_1[i]? = some d) => hw d (List.mem_of_getElem? h)
  have hx := Bd.exec
  have hby := Bd.bytes
  have hml : c.maxLocals = 26 := hml0
  have hown : s.vm.findClass "com/example/dodder/dodder/engine/PathWritesPathPinLaw" = some m.cls := findClass_of_methodNamed Bd.named
  have hnm := (name_of_methodNamed Bd.named Bd.method).1
  have X0 : Stand p l e room_1 s m #[(.int p1), (.int p2), (.int p3), (.int p4), (.int p5)] below meth c s₁ [] 0 0 := Stand.of_body Bd
  have e0 : s₁.heap = h0 := by rw [← hh, Bd.state]; rfl
  have N0 := Fr.nil n0
  have pre0 : ∀ t, Steps p.tables e below (s₁.setTop (mkF m 0 #[.val (.int p1), .val (.int p2), .val (.int p3), .val (.int p4), .val (.int p5), .unset, .unset, .unset, .unset, .unset, .unset, .unset, .unset, .unset, .unset, .unset, .unset, .unset, .unset, .unset, .unset, .unset, .unset, .unset, .unset, .unset] [])) t → Steps p.tables e below (s₁.setTop (entryFrame m #[(.int p1), (.int p2), (.int p3), (.int p4), (.int p5)] maxLocals)) t := fun t kk_ => castTop (ef_22 m p1 p2 p3 p4 p5) kk_
  obtain ⟨T1, h1, X1, e1, E1, A1, D1, -, st1⟩ := newO X0 hx hZ hown (W 0 rfl) (W 1 rfl) (W 2 rfl) e0 (g := (mkF m 35 #[iv p1, iv p2, iv p3, iv p4, iv p5, iv cp, iv kk0, iv kk1, iv kk2, .unset, .unset, .unset, .unset, .unset, .unset, .unset, .unset, .unset, .unset, .unset, .unset, .unset, .unset, .unset, .unset, .unset] [])) rfl (hb hby at_35) (by decide) (by decide)
  obtain ⟨b1, g1⟩ : ∃ z, z = h0.size := ⟨_, rfl⟩
  rw [← g1] at A1 D1 st1
  have g_b1 : n0 ≤ b1 := Nat.le_trans (own_sz O) (Nat.le_of_eq g1.symm)
  have O2 := O.ext E1
  have Fz4 : Fld Z h1 b1 "com/example/dodder/dodder/engine/PathWrites" "run" "[I" .null := D1 (Or.inr (W 11 rfl)) (ty := (.array .int)) (by decide)
  have Fz5 : Fld Z h1 b1 "com/example/dodder/dodder/engine/PathWrites" "logged" "[I" .null := D1 (Or.inl (W 13 rfl)) (ty := (.array .int)) (by decide)
  have Fz6 : Fld Z h1 b1 "com/example/dodder/dodder/engine/PathWrites" "earlierWrites" "[I" .null := D1 (Or.inl (W 15 rfl)) (ty := (.array .int)) (by decide)
  have Fz7 : Fld Z h1 b1 "com/example/dodder/dodder/engine/PathWrites" "madeAfter" "[Ljava/lang/Object;" .null := D1 (Or.inl (W 19 rfl)) (ty := (.array (.object "java/lang/Object"))) (by decide)
  have Fz8 : Fld Z h1 b1 "com/example/dodder/dodder/engine/PathWrites" "unmade" "[I" .null := D1 (Or.inl (W 21 rfl)) (ty := (.array .int)) (by decide)
  have Fz9 : Fld Z h1 b1 "com/example/dodder/dodder/engine/PathWrites" "listed" "[I" .null := D1 (Or.inl (W 23 rfl)) (ty := (.array .int)) (by decide)
  have Fz10 : Fld Z h1 b1 "com/example/dodder/dodder/engine/PathWrites" "writes" "I" (.int (0 : Int32)) := D1 (Or.inl (W 30 rfl)) (ty := .int) (by decide)
  have Fz11 : Fld Z h1 b1 "com/example/dodder/dodder/engine/PathWrites" "position" "I" (.int (0 : Int32)) := D1 (Or.inl (W 32 rfl)) (ty := .int) (by decide)
  obtain ⟨_, _, ⟨T12, L12, k12, n12⟩, -, X12, ⟨Lc12, hQ12, l12, y12, z12⟩, st12⟩ := X1.specialBack hx (y := y_5) rfl hown (mvT hZ (W 3 rfl)) (mvT hZ (W 4 rfl)) (mvT hZ (W 5 rfl)) (by decide) (backOf (W := 1) (pwinit l Z a0 hw [] b1 cp h1 n0 O2 A1 Fz4 Fz10 Fz11 Fz5 Fz6 Fz7 Fz8 Fz9 g_b1 (own_c03 hcp)) hZ (W 5 rfl) (W 2 rfl) (by decide) (by decide)) (g := (mkF m 41 #[iv p1, iv p2, iv p3, iv p4, iv p5, iv cp, iv kk0, iv kk1, iv kk2, .unset, .unset, .unset, .unset, .unset, .unset, .unset, .unset, .unset, .unset, .unset, .unset, .unset, .unset, .unset, .unset, .unset] [.int cp, .ref b1, .ref b1])) rfl (by rw [hml]; rfl) (Steps.refl _) (a := b1) (argsL := [.int cp]) (rest := [.ref b1]) (lenOf pd_5 rfl) rfl (by show 2 * 0 + _ ≤ _; exact Nat.le_of_eq rfl) (hb hby at_41) (fun _ _ => ⟨rfl, e1, (by decide : 1 + 6 ≤ _), (by decide : 8 + 85 ≤ _)⟩)
  dsimp only [Pt.U, Pt.locs, Pt.cells, Pt.slots] at X12 l12 y12 z12 st12 hQ12
  subst l12 y12 z12
  obtain ⟨h12, e12⟩ : ∃ z, T12.heap = z := ⟨_, rfl⟩
  rw [e12] at hQ12
  obtain ⟨b12lo, b12ea, b12ma, b12un, b12li, b12kl, b12ke, b12km, b12ku, b12ki, rfl, N12q, p12_0, p12_1, p12_2, p12_3, p12_4, p12_5, p12_6, p12_7, p12_8, p12_9, p12_10, p12_11, p12_12, p12_13, p12_14, p12_15, p12_16, p12_17, p12_18, p12_19, p12_20, p12_21, p12_22, p12_23, p12_24, p12_25, p12_26, p12_27, p12_28⟩ := hQ12
  have N12 := Fr.app N0 N12q
  have g_b12lo : n0 ≤ b12lo := Nat.le_trans (own_sz O2) p12_1
  have ne_b1_b12lo : b1 ≠ b12lo := Nat.ne_of_lt (Nat.lt_of_lt_of_le A1.lt p12_1)
  have g_b12ea : n0 ≤ b12ea := Nat.le_trans (own_sz O2) p12_2
  have ne_b1_b12ea : b1 ≠ b12ea := Nat.ne_of_lt (Nat.lt_of_lt_of_le A1.lt p12_2)
  have g_b12ma : n0 ≤ b12ma := Nat.le_trans (own_sz O2) p12_3
  have ne_b1_b12ma : b1 ≠ b12ma := Nat.ne_of_lt (Nat.lt_of_lt_of_le A1.lt p12_3)
  have g_b12un : n0 ≤ b12un := Nat.le_trans (own_sz O2) p12_4
  have ne_b1_b12un : b1 ≠ b12un := Nat.ne_of_lt (Nat.lt_of_lt_of_le A1.lt p12_4)
  have g_b12li : n0 ≤ b12li := Nat.le_trans (own_sz O2) p12_5
  have ne_b1_b12li : b1 ≠ b12li := Nat.ne_of_lt (Nat.lt_of_lt_of_le A1.lt p12_5)
  have A1 := A1.keep p12_0
  have O13 := O2.keep p12_0 (allS g_b1 all0)
  obtain ⟨cq15, kq15, q15a, q15b, q15c⟩ := isOf hZ e12 A1
  obtain ⟨_, _, ⟨T15, L15, k15, n15⟩, -, X15, ⟨Lc15, hQ15, l15, y15, z15⟩, st15⟩ := X12.virtualBack hx (y := y_6) (z := y_6) hown (mvT hZ (W 24 rfl)) (mvT hZ (W 25 rfl)) (notFace_of_selects (args := #[]) (mvT hZ (W 27 rfl))) (mvT hZ (W 27 rfl)) (mvT hZ (W 26 rfl)) (by decide) (backOf (W := 0) (pwclear l Z a0 hw [] b1 p4 b12lo b12ea b12ma b12un b12li h12 n0 O13 A1 p12_6 p12_7 p12_8 p12_9 p12_10 p12_11 p12_12 g_b1) hZ (W 28 rfl) (W 2 rfl) (by decide) (by decide)) q15a q15c (g := (mkF m 49 #[iv p1, iv p2, iv p3, iv p4, iv p5, iv cp, iv kk0, iv kk1, iv kk2, rv b1, .unset, .unset, .unset, .unset, .unset, .unset, .unset, .unset, .unset, .unset, .unset, .unset, .unset, .unset, .unset, .unset] [.int p4, .ref b1])) rfl (by rw [hml]; rfl) (Steps.refl _) (argsL := [.int p4]) (rest := []) (lenOf pd_5 rfl) rfl (by show 2 * 0 + _ ≤ _; exact Nat.le_of_eq rfl) (hb hby at_49) (fun _ _ => ⟨rfl, e12, (by decide : 7 + 0 ≤ _), (by decide : 93 + 0 ≤ _)⟩)
  dsimp only [Pt.U, Pt.locs, Pt.cells, Pt.slots] at X15 l15 y15 z15 st15 hQ15
  subst l15 y15 z15
  obtain ⟨h15, e15⟩ : ∃ z, T15.heap = z := ⟨_, rfl⟩
  rw [e15] at hQ15
  obtain ⟨rfl, N15q, p15_0, p15_1, p15_2, p15_3, p15_4, p15_5, p15_6, p15_7⟩ := hQ15
  have N15 := Fr.app N12 N15q
  have A1 := A1.keep p15_0
  have p12_13 := p12_13.keep p15_0 (ninS (Ne.symm ne_b1_b12lo) nin0)
  have p12_14 := p12_14.keep p15_0 (ninS (Ne.symm ne_b1_b12ea) nin0)
  have p12_15 := p12_15.keep p15_0 (ninS (Ne.symm ne_b1_b12ma) nin0)
  have p12_16 := p12_16.keep p15_0 (ninS (Ne.symm ne_b1_b12un) nin0)
  have p12_17 := p12_17.keep p15_0 (ninS (Ne.symm ne_b1_b12li) nin0)
  have p12_18 := p12_18.keep p15_0
  have O16 := O13.keep p15_0 (allS g_b1 all0)
  obtain ⟨cq18, kq18, q18a, q18b, q18c⟩ := isOf hZ e15 A1
  obtain ⟨_, _, ⟨T18, L18, k18, n18⟩, -, X18, ⟨Lc18, hQ18, l18, y18, z18⟩, st18⟩ := X15.virtualBack hx (y := y_7) (z := y_7) hown (mvT hZ (W 33 rfl)) (mvT hZ (W 34 rfl)) (notFace_of_selects (args := #[]) (mvT hZ (W 36 rfl))) (mvT hZ (W 36 rfl)) (mvT hZ (W 35 rfl)) (by decide) (backOf (W := 0) (write0 l Z a0 hw [] b1 p1 kk0 (-1 : Int32) cp p4 w_MIR b12lo b12ea b12ma b12un b12li b12kl b12ke b12km b12ku b12ki h15 n0 O16 A1 p12_18 Mo p15_1 p15_2 p15_3 p15_4 p15_5 p15_6 p15_7 p12_13 p12_14 p12_15 p12_16 p12_17 g_b1 g_b12lo g_b12ea g_b12ma g_b12un g_b12li p12_19 p12_20 p12_21 p12_22 p12_23 p12_24 p12_25 p12_26 p12_27 p12_28 ne_b1_b12lo ne_b1_b12ea ne_b1_b12ma ne_b1_b12un ne_b1_b12li (own_c03' hcp)) hZ (W 37 rfl) (W 2 rfl) (by decide) (by decide)) q18a q18c (g := (mkF m 58 #[iv p1, iv p2, iv p3, iv p4, iv p5, iv cp, iv kk0, iv kk1, iv kk2, rv b1, .unset, .unset, .unset, .unset, .unset, .unset, .unset, .unset, .unset, .unset, .unset, .unset, .unset, .unset, .unset, .unset] [.int (-1), .int kk0, .int p1, .ref b1])) rfl (by rw [hml]; rfl) (Steps.refl _) (argsL := [.int p1, .int kk0, .int (-1)]) (rest := []) (lenOf pd_4 rfl) rfl (by show 2 * 0 + _ ≤ _; exact Nat.le_of_eq rfl) (hb hby at_58) (fun _ _ => ⟨rfl, e15, (by decide : 7 + 5 ≤ _), (by decide : 93 + 112 ≤ _)⟩)
  dsimp only [Pt.U, Pt.locs, Pt.cells, Pt.slots] at X18 l18 y18 z18 st18 hQ18
  subst l18 y18 z18
  obtain ⟨h18, e18⟩ : ∃ z, T18.heap = z := ⟨_, rfl⟩
  rw [e18] at hQ18
  obtain ⟨b18lo', b18ea', b18ma', b18un', b18li', b18kl', b18ke', b18km', b18ku', b18ki', b18n', rfl, N18q, p18_0, p18_1, p18_2, p18_3, p18_4, p18_5, p18_6, p18_7, p18_8, p18_9, p18_10, p18_11, p18_12, p18_13, p18_14, p18_15, p18_16, p18_17, p18_18, p18_19, p18_20, p18_21, p18_22, p18_23, p18_24, p18_25, p18_26, p18_27, p18_28, p18_29, p18_30, p18_31, p18_32, p18_33, p18_34⟩ := hQ18
  have N18 := Fr.app N15 N18q
  have A1 := A1.keep p18_0
  have O19 := O16.keep p18_0 (allS g_b1 (allS g_b12lo (allS g_b12ea (allS g_b12ma all0))))
  have pre21 : ∀ t, Steps p.tables e below (T18.setTop (mkF m 76 #[iv p1, iv p2, iv p3, iv p4, iv p5, iv cp, iv kk0, iv kk1, iv kk2, rv b1, iv 0, .unset, .unset, .unset, .unset, .unset, .unset, .unset, .unset, .unset, .unset, .unset, .unset, .unset, .unset, .unset] [.int (if (p5 &&& (1 : Int32)) = (0 : Int32) then (-1 : Int32) else (0 : Int32))])) t → Steps p.tables e below (s₁.setTop (entryFrame m #[(.int p1), (.int p2), (.int p3), (.int p4), (.int p5)] maxLocals)) t := by
    intro t kt
    refine pre0 _ ?_
    show Sq p e below m s₁ 0 #[iv p1, iv p2, iv p3, iv p4, iv p5, .unset, .unset, .unset, .unset, .unset, .unset, .unset, .unset, .unset, .unset, .unset, .unset, .unset, .unset, .unset, .unset, .unset, .unset, .unset, .unset, .unset] [] _
    refine XS.iload X0.here hx rfl (hb hby at_0) rfl ?_
    refine XS.bipush X0.here hx rfl (hb hby at_2) ?_
    show Sq p e below m s₁ 4 #[iv p1, iv p2, iv p3, iv p4, iv p5, .unset, .unset, .unset, .unset, .unset, .unset, .unset, .unset, .unset, .unset, .unset, .unset, .unset, .unset, .unset, .unset, .unset, .unset, .unset, .unset, .unset] [.int 11, .int p5] _
    refine XS.iushr X0.here hx rfl (hb hby at_4) rfl ?_
    refine XS.iconst X0.here hx rfl (hb hby at_5) ?_
    show Sq p e below m s₁ 6 #[iv p1, iv p2, iv p3, iv p4, iv p5, .unset, .unset, .unset, .unset, .unset, .unset, .unset, .unset, .unset, .unset, .unset, .unset, .unset, .unset, .unset, .unset, .unset, .unset, .unset, .unset, .unset] [.int 3, .int ((p5.toUInt32 >>> ((11 : Int32) &&& 31).toUInt32).toInt32)] _
    refine XS.iand X0.here hx rfl (hb hby at_6) rfl ?_
    show Sq p e below m s₁ 7 #[iv p1, iv p2, iv p3, iv p4, iv p5, .unset, .unset, .unset, .unset, .unset, .unset, .unset, .unset, .unset, .unset, .unset, .unset, .unset, .unset, .unset, .unset, .unset, .unset, .unset, .unset, .unset] [.int (((p5.toUInt32 >>> ((11 : Int32) &&& 31).toUInt32).toInt32) &&& (3 : Int32))] _
    rw [hcp]
    show Sq p e below m s₁ 7 #[iv p1, iv p2, iv p3, iv p4, iv p5, .unset, .unset, .unset, .unset, .unset, .unset, .unset, .unset, .unset, .unset, .unset, .unset, .unset, .unset, .unset, .unset, .unset, .unset, .unset, .unset, .unset] [.int cp] _
    refine XS.istore X0.here hx rfl (hb hby at_7) rfl rfl ?_
    refine XS.iload X0.here hx rfl (hb hby at_9) rfl ?_
    show Sq p e below m s₁ 11 #[iv p1, iv p2, iv p3, iv p4, iv p5, iv cp, .unset, .unset, .unset, .unset, .unset, .unset, .unset, .unset, .unset, .unset, .unset, .unset, .unset, .unset, .unset, .unset, .unset, .unset, .unset, .unset] [.int p5] _
    refine XS.iconst X0.here hx rfl (hb hby at_11) ?_
    refine XS.iushr X0.here hx rfl (hb hby at_12) rfl ?_
    show Sq p e below m s₁ 13 #[iv p1, iv p2, iv p3, iv p4, iv p5, iv cp, .unset, .unset, .unset, .unset, .unset, .unset, .unset, .unset, .unset, .unset, .unset, .unset, .unset, .unset, .unset, .unset, .unset, .unset, .unset, .unset] [.int ((p5.toUInt32 >>> ((5 : Int32) &&& 31).toUInt32).toInt32)] _
    refine XS.iconst X0.here hx rfl (hb hby at_13) ?_
    refine XS.iand X0.here hx rfl (hb hby at_14) rfl ?_
    show Sq p e below m s₁ 15 #[iv p1, iv p2, iv p3, iv p4, iv p5, iv cp, .unset, .unset, .unset, .unset, .unset, .unset, .unset, .unset, .unset, .unset, .unset, .unset, .unset, .unset, .unset, .unset, .unset, .unset, .unset, .unset] [.int (((p5.toUInt32 >>> ((5 : Int32) &&& 31).toUInt32).toInt32) &&& (3 : Int32))] _
    rw [hkk0]
    show Sq p e below m s₁ 15 #[iv p1, iv p2, iv p3, iv p4, iv p5, iv cp, .unset, .unset, .unset, .unset, .unset, .unset, .unset, .unset, .unset, .unset, .unset, .unset, .unset, .unset, .unset, .unset, .unset, .unset, .unset, .unset] [.int kk0] _
    refine XS.istore X0.here hx rfl (hb hby at_15) rfl rfl ?_
    refine XS.iload X0.here hx rfl (hb hby at_17) rfl ?_
    show Sq p e below m s₁ 19 #[iv p1, iv p2, iv p3, iv p4, iv p5, iv cp, iv kk0, .unset, .unset, .unset, .unset, .unset, .unset, .unset, .unset, .unset, .unset, .unset, .unset, .unset, .unset, .unset, .unset, .unset, .unset, .unset] [.int p5] _
    refine XS.bipush X0.here hx rfl (hb hby at_19) ?_
    refine XS.iushr X0.here hx rfl (hb hby at_21) rfl ?_
    show Sq p e below m s₁ 22 #[iv p1, iv p2, iv p3, iv p4, iv p5, iv cp, iv kk0, .unset, .unset, .unset, .unset, .unset, .unset, .unset, .unset, .unset, .unset, .unset, .unset, .unset, .unset, .unset, .unset, .unset, .unset, .unset] [.int ((p5.toUInt32 >>> ((7 : Int32) &&& 31).toUInt32).toInt32)] _
    refine XS.iconst X0.here hx rfl (hb hby at_22) ?_
    refine XS.iand X0.here hx rfl (hb hby at_23) rfl ?_
    show Sq p e below m s₁ 24 #[iv p1, iv p2, iv p3, iv p4, iv p5, iv cp, iv kk0, .unset, .unset, .unset, .unset, .unset, .unset, .unset, .unset, .unset, .unset, .unset, .unset, .unset, .unset, .unset, .unset, .unset, .unset, .unset] [.int (((p5.toUInt32 >>> ((7 : Int32) &&& 31).toUInt32).toInt32) &&& (3 : Int32))] _
    rw [hkk1]
    show Sq p e below m s₁ 24 #[iv p1, iv p2, iv p3, iv p4, iv p5, iv cp, iv kk0, .unset, .unset, .unset, .unset, .unset, .unset, .unset, .unset, .unset, .unset, .unset, .unset, .unset, .unset, .unset, .unset, .unset, .unset, .unset] [.int kk1] _
    refine XS.istore X0.here hx rfl (hb hby at_24) rfl rfl ?_
    refine XS.iload X0.here hx rfl (hb hby at_26) rfl ?_
    show Sq p e below m s₁ 28 #[iv p1, iv p2, iv p3, iv p4, iv p5, iv cp, iv kk0, iv kk1, .unset, .unset, .unset, .unset, .unset, .unset, .unset, .unset, .unset, .unset, .unset, .unset, .unset, .unset, .unset, .unset, .unset, .unset] [.int p5] _
    refine XS.bipush X0.here hx rfl (hb hby at_28) ?_
    refine XS.iushr X0.here hx rfl (hb hby at_30) rfl ?_
    show Sq p e below m s₁ 31 #[iv p1, iv p2, iv p3, iv p4, iv p5, iv cp, iv kk0, iv kk1, .unset, .unset, .unset, .unset, .unset, .unset, .unset, .unset, .unset, .unset, .unset, .unset, .unset, .unset, .unset, .unset, .unset, .unset] [.int ((p5.toUInt32 >>> ((9 : Int32) &&& 31).toUInt32).toInt32)] _
    refine XS.iconst X0.here hx rfl (hb hby at_31) ?_
    refine XS.iand X0.here hx rfl (hb hby at_32) rfl ?_
    show Sq p e below m s₁ 33 #[iv p1, iv p2, iv p3, iv p4, iv p5, iv cp, iv kk0, iv kk1, .unset, .unset, .unset, .unset, .unset, .unset, .unset, .unset, .unset, .unset, .unset, .unset, .unset, .unset, .unset, .unset, .unset, .unset] [.int (((p5.toUInt32 >>> ((9 : Int32) &&& 31).toUInt32).toInt32) &&& (3 : Int32))] _
    rw [hkk2]
    show Sq p e below m s₁ 33 #[iv p1, iv p2, iv p3, iv p4, iv p5, iv cp, iv kk0, iv kk1, .unset, .unset, .unset, .unset, .unset, .unset, .unset, .unset, .unset, .unset, .unset, .unset, .unset, .unset, .unset, .unset, .unset, .unset] [.int kk2] _
    refine XS.istore X0.here hx rfl (hb hby at_33) rfl rfl ?_
    show Sq p e below m s₁ 35 #[iv p1, iv p2, iv p3, iv p4, iv p5, iv cp, iv kk0, iv kk1, iv kk2, .unset, .unset, .unset, .unset, .unset, .unset, .unset, .unset, .unset, .unset, .unset, .unset, .unset, .unset, .unset, .unset, .unset] [] _
    refine st1 _ ?_
    show Sq p e below m T1 38 #[iv p1, iv p2, iv p3, iv p4, iv p5, iv cp, iv kk0, iv kk1, iv kk2, .unset, .unset, .unset, .unset, .unset, .unset, .unset, .unset, .unset, .unset, .unset, .unset, .unset, .unset, .unset, .unset, .unset] [.ref b1] _
    refine XS.dup X1.here hx rfl (hb hby at_38) rfl rfl ?_
    refine XS.iload X1.here hx rfl (hb hby at_39) rfl ?_
    show Sq p e below m T1 41 #[iv p1, iv p2, iv p3, iv p4, iv p5, iv cp, iv kk0, iv kk1, iv kk2, .unset, .unset, .unset, .unset, .unset, .unset, .unset, .unset, .unset, .unset, .unset, .unset, .unset, .unset, .unset, .unset, .unset] [.int cp, .ref b1, .ref b1] _
    refine st12.trans ?_
    show Sq p e below m T12 44 #[iv p1, iv p2, iv p3, iv p4, iv p5, iv cp, iv kk0, iv kk1, iv kk2, .unset, .unset, .unset, .unset, .unset, .unset, .unset, .unset, .unset, .unset, .unset, .unset, .unset, .unset, .unset, .unset, .unset] [.ref b1] _
    refine XS.astore X12.here hx rfl (hb hby at_44) rfl rfl rfl ?_
    refine XS.aload X12.here hx rfl (hb hby at_46) rfl rfl ?_
    show Sq p e below m T12 48 #[iv p1, iv p2, iv p3, iv p4, iv p5, iv cp, iv kk0, iv kk1, iv kk2, rv b1, .unset, .unset, .unset, .unset, .unset, .unset, .unset, .unset, .unset, .unset, .unset, .unset, .unset, .unset, .unset, .unset] [.ref b1] _
    refine XS.iloadN X12.here hx rfl (hb hby at_48) rfl ?_
    show Sq p e below m T12 49 #[iv p1, iv p2, iv p3, iv p4, iv p5, iv cp, iv kk0, iv kk1, iv kk2, rv b1, .unset, .unset, .unset, .unset, .unset, .unset, .unset, .unset, .unset, .unset, .unset, .unset, .unset, .unset, .unset, .unset] [.int p4, .ref b1] _
    refine st15.trans ?_
    show Sq p e below m T15 52 #[iv p1, iv p2, iv p3, iv p4, iv p5, iv cp, iv kk0, iv kk1, iv kk2, rv b1, .unset, .unset, .unset, .unset, .unset, .unset, .unset, .unset, .unset, .unset, .unset, .unset, .unset, .unset, .unset, .unset] [] _
    refine XS.aload X15.here hx rfl (hb hby at_52) rfl rfl ?_
    refine XS.iloadN X15.here hx rfl (hb hby at_54) rfl ?_
    show Sq p e below m T15 55 #[iv p1, iv p2, iv p3, iv p4, iv p5, iv cp, iv kk0, iv kk1, iv kk2, rv b1, .unset, .unset, .unset, .unset, .unset, .unset, .unset, .unset, .unset, .unset, .unset, .unset, .unset, .unset, .unset, .unset] [.int p1, .ref b1] _
    refine XS.iload X15.here hx rfl (hb hby at_55) rfl ?_
    refine XS.iconst X15.here hx rfl (hb hby at_57) ?_
    show Sq p e below m T15 58 #[iv p1, iv p2, iv p3, iv p4, iv p5, iv cp, iv kk0, iv kk1, iv kk2, rv b1, .unset, .unset, .unset, .unset, .unset, .unset, .unset, .unset, .unset, .unset, .unset, .unset, .unset, .unset, .unset, .unset] [.int (-1), .int kk0, .int p1, .ref b1] _
    refine st18.trans ?_
    show Sq p e below m T18 61 #[iv p1, iv p2, iv p3, iv p4, iv p5, iv cp, iv kk0, iv kk1, iv kk2, rv b1, .unset, .unset, .unset, .unset, .unset, .unset, .unset, .unset, .unset, .unset, .unset, .unset, .unset, .unset, .unset, .unset] [.int 0] _
    refine XS.istore X18.here hx rfl (hb hby at_61) rfl rfl ?_
    refine XS.iload X18.here hx rfl (hb hby at_63) rfl ?_
    show Sq p e below m T18 65 #[iv p1, iv p2, iv p3, iv p4, iv p5, iv cp, iv kk0, iv kk1, iv kk2, rv b1, iv 0, .unset, .unset, .unset, .unset, .unset, .unset, .unset, .unset, .unset, .unset, .unset, .unset, .unset, .unset, .unset] [.int p5] _
    refine XS.iconst X18.here hx rfl (hb hby at_65) ?_
    refine XS.iand X18.here hx rfl (hb hby at_66) rfl ?_
    by_cases hc67 : (p5 &&& (1 : Int32)) = (0 : Int32)
    · simp only [if_pos hc67] at kt
      show Sq p e below m T18 67 #[iv p1, iv p2, iv p3, iv p4, iv p5, iv cp, iv kk0, iv kk1, iv kk2, rv b1, iv 0, .unset, .unset, .unset, .unset, .unset, .unset, .unset, .unset, .unset, .unset, .unset, .unset, .unset, .unset, .unset] [.int (p5 &&& (1 : Int32))] _
      refine XS.ifNo X18.here hx rfl (hb hby at_67) rfl ((if0 _ _).trans (teq hc67).2) ?_
      refine XS.iconst X18.here hx rfl (hb hby at_70) ?_
      show Sq p e below m T18 71 #[iv p1, iv p2, iv p3, iv p4, iv p5, iv cp, iv kk0, iv kk1, iv kk2, rv b1, iv 0, .unset, .unset, .unset, .unset, .unset, .unset, .unset, .unset, .unset, .unset, .unset, .unset, .unset, .unset, .unset] [.int (-1)] _
      refine XS.goto X18.here hx rfl (pc0 := 71) (pc' := 76) rfl (hb hby at_71) (by decide) (by decide) ?_
      exact kt
    · simp only [if_neg hc67] at kt
      show Sq p e below m T18 67 #[iv p1, iv p2, iv p3, iv p4, iv p5, iv cp, iv kk0, iv kk1, iv kk2, rv b1, iv 0, .unset, .unset, .unset, .unset, .unset, .unset, .unset, .unset, .unset, .unset, .unset, .unset, .unset, .unset, .unset] [.int (p5 &&& (1 : Int32))] _
      refine XS.ifYes X18.here hx rfl (pc0 := 67) (pc' := 74) rfl (hb hby at_67) rfl ((if0 _ _).trans (feq hc67).2) (by decide) (by decide) ?_
      refine XS.iload X18.here hx rfl (hb hby at_74) rfl ?_
      exact kt
  obtain ⟨e1, he1⟩ : ∃ z, (if (p5 &&& (1 : Int32)) = (0 : Int32) then (-1 : Int32) else (0 : Int32)) = z := ⟨_, rfl⟩
  rw [he1] at pre21
  obtain ⟨cq22, kq22, q22a, q22b, q22c⟩ := isOf hZ e18 A1
  obtain ⟨_, _, ⟨T22, L22, k22, n22⟩, -, X22, ⟨Lc22, hQ22, l22, y22, z22⟩, st22⟩ := X18.virtualBack hx (y := y_7) (z := y_7) hown (mvT hZ (W 33 rfl)) (mvT hZ (W 34 rfl)) (notFace_of_selects (args := #[]) (mvT hZ (W 36 rfl))) (mvT hZ (W 36 rfl)) (mvT hZ (W 35 rfl)) (by decide) (backOf (W := 0) (write1 l Z a0 hw [] b1 p2 kk1 e1 b18n' p4 w_MIR b18lo' b18ea' b18ma' b18un' b18li' b18kl' b18ke' b18km' b18ku' b18ki' p1 kk0 (-1 : Int32) h18 n0 O19 A1 p18_13 Mo p18_1 p18_2 p18_3 p18_4 p18_5 p18_6 p18_7 p18_8 p18_9 p18_10 p18_11 p18_12 g_b1 p18_14 p18_15 p18_16 p18_17 p18_18 p18_19 p18_20 p18_21 p18_22 p18_23 p18_24 p18_25 p18_26 p18_27 p18_28 p18_29 p18_30 p18_31 p18_32 p18_33 p18_34) hZ (W 37 rfl) (W 2 rfl) (by decide) (by decide)) q22a q22c (g := (mkF m 85 #[iv p1, iv p2, iv p3, iv p4, iv p5, iv cp, iv kk0, iv kk1, iv kk2, rv b1, iv 0, iv e1, .unset, .unset, .unset, .unset, .unset, .unset, .unset, .unset, .unset, .unset, .unset, .unset, .unset, .unset] [.int e1, .int kk1, .int p2, .ref b1])) rfl (by rw [hml]; rfl) (Steps.refl _) (argsL := [.int p2, .int kk1, .int e1]) (rest := []) (lenOf pd_4 rfl) rfl (by show 2 * 0 + _ ≤ _; exact Nat.le_of_eq rfl) (hb hby at_85) (fun _ _ => ⟨rfl, e18, (by decide : 12 + 5 ≤ _), (by decide : 205 + 112 ≤ _)⟩)
  dsimp only [Pt.U, Pt.locs, Pt.cells, Pt.slots] at X22 l22 y22 z22 st22 hQ22
  subst l22 y22 z22
  obtain ⟨h22, e22⟩ : ∃ z, T22.heap = z := ⟨_, rfl⟩
  rw [e22] at hQ22
  obtain ⟨b22lo', b22ea', b22ma', b22un', b22li', b22kl', b22ke', b22km', b22ku', b22ki', b22n', rfl, N22q, p22_0, p22_1, p22_2, p22_3, p22_4, p22_5, p22_6, p22_7, p22_8, p22_9, p22_10, p22_11, p22_12, p22_13, p22_14, p22_15, p22_16, p22_17, p22_18, p22_19, p22_20, p22_21, p22_22, p22_23, p22_24, p22_25, p22_26, p22_27, p22_28, p22_29, p22_30, p22_31, p22_32, p22_33, p22_34⟩ := hQ22
  have N22 := Fr.app N18 N22q
  have A1 := A1.keep p22_0
  have O23 := O19.keep p22_0 (allS g_b1 (allS p18_14 (allS p18_15 (allS p18_16 all0))))
  have pre25 : ∀ t, Steps p.tables e below (T22.setTop (mkF m 120 #[iv p1, iv p2, iv p3, iv p4, iv p5, iv cp, iv kk0, iv kk1, iv kk2, rv b1, iv 0, iv e1, iv 1, iv v, .unset, .unset, .unset, .unset, .unset, .unset, .unset, .unset, .unset, .unset, .unset, .unset] [.int (if v = (0 : Int32) then (-1 : Int32) else (if v = (1 : Int32) then (0 : Int32) else (1 : Int32)))])) t → Steps p.tables e below (s₁.setTop (entryFrame m #[(.int p1), (.int p2), (.int p3), (.int p4), (.int p5)] maxLocals)) t := by
    intro t kt
    refine pre21 _ ?_
    show Sq p e below m T18 76 #[iv p1, iv p2, iv p3, iv p4, iv p5, iv cp, iv kk0, iv kk1, iv kk2, rv b1, iv 0, .unset, .unset, .unset, .unset, .unset, .unset, .unset, .unset, .unset, .unset, .unset, .unset, .unset, .unset, .unset] [.int e1] _
    refine XS.istore X18.here hx rfl (hb hby at_76) rfl rfl ?_
    refine XS.aload X18.here hx rfl (hb hby at_78) rfl rfl ?_
    show Sq p e below m T18 80 #[iv p1, iv p2, iv p3, iv p4, iv p5, iv cp, iv kk0, iv kk1, iv kk2, rv b1, iv 0, iv e1, .unset, .unset, .unset, .unset, .unset, .unset, .unset, .unset, .unset, .unset, .unset, .unset, .unset, .unset] [.ref b1] _
    refine XS.iloadN X18.here hx rfl (hb hby at_80) rfl ?_
    refine XS.iload X18.here hx rfl (hb hby at_81) rfl ?_
    show Sq p e below m T18 83 #[iv p1, iv p2, iv p3, iv p4, iv p5, iv cp, iv kk0, iv kk1, iv kk2, rv b1, iv 0, iv e1, .unset, .unset, .unset, .unset, .unset, .unset, .unset, .unset, .unset, .unset, .unset, .unset, .unset, .unset] [.int kk1, .int p2, .ref b1] _
    refine XS.iload X18.here hx rfl (hb hby at_83) rfl ?_
    show Sq p e below m T18 85 #[iv p1, iv p2, iv p3, iv p4, iv p5, iv cp, iv kk0, iv kk1, iv kk2, rv b1, iv 0, iv e1, .unset, .unset, .unset, .unset, .unset, .unset, .unset, .unset, .unset, .unset, .unset, .unset, .unset, .unset] [.int e1, .int kk1, .int p2, .ref b1] _
    refine st22.trans ?_
    show Sq p e below m T22 88 #[iv p1, iv p2, iv p3, iv p4, iv p5, iv cp, iv kk0, iv kk1, iv kk2, rv b1, iv 0, iv e1, .unset, .unset, .unset, .unset, .unset, .unset, .unset, .unset, .unset, .unset, .unset, .unset, .unset, .unset] [.int 1] _
    refine XS.istore X22.here hx rfl (hb hby at_88) rfl rfl ?_
    refine XS.iload X22.here hx rfl (hb hby at_90) rfl ?_
    show Sq p e below m T22 92 #[iv p1, iv p2, iv p3, iv p4, iv p5, iv cp, iv kk0, iv kk1, iv kk2, rv b1, iv 0, iv e1, iv 1, .unset, .unset, .unset, .unset, .unset, .unset, .unset, .unset, .unset, .unset, .unset, .unset, .unset] [.int p5] _
    refine XS.iconst X22.here hx rfl (hb hby at_92) ?_
    refine XS.iushr X22.here hx rfl (hb hby at_93) rfl ?_
    show Sq p e below m T22 94 #[iv p1, iv p2, iv p3, iv p4, iv p5, iv cp, iv kk0, iv kk1, iv kk2, rv b1, iv 0, iv e1, iv 1, .unset, .unset, .unset, .unset, .unset, .unset, .unset, .unset, .unset, .unset, .unset, .unset, .unset] [.int ((p5.toUInt32 >>> ((1 : Int32) &&& 31).toUInt32).toInt32)] _
    refine XS.iconst X22.here hx rfl (hb hby at_94) ?_
    refine XS.iand X22.here hx rfl (hb hby at_95) rfl ?_
    show Sq p e below m T22 96 #[iv p1, iv p2, iv p3, iv p4, iv p5, iv cp, iv kk0, iv kk1, iv kk2, rv b1, iv 0, iv e1, iv 1, .unset, .unset, .unset, .unset, .unset, .unset, .unset, .unset, .unset, .unset, .unset, .unset, .unset] [.int (((p5.toUInt32 >>> ((1 : Int32) &&& 31).toUInt32).toInt32) &&& (3 : Int32))] _
    rw [hv]
    show Sq p e below m T22 96 #[iv p1, iv p2, iv p3, iv p4, iv p5, iv cp, iv kk0, iv kk1, iv kk2, rv b1, iv 0, iv e1, iv 1, .unset, .unset, .unset, .unset, .unset, .unset, .unset, .unset, .unset, .unset, .unset, .unset, .unset] [.int v] _
    refine XS.istore X22.here hx rfl (hb hby at_96) rfl rfl ?_
    refine XS.iload X22.here hx rfl (hb hby at_98) rfl ?_
    by_cases hc100 : v = (0 : Int32)
    · simp only [if_pos hc100] at kt
      show Sq p e below m T22 100 #[iv p1, iv p2, iv p3, iv p4, iv p5, iv cp, iv kk0, iv kk1, iv kk2, rv b1, iv 0, iv e1, iv 1, iv v, .unset, .unset, .unset, .unset, .unset, .unset, .unset, .unset, .unset, .unset, .unset, .unset] [.int v] _
      refine XS.ifNo X22.here hx rfl (hb hby at_100) rfl ((if0 _ _).trans (teq hc100).2) ?_
      refine XS.iconst X22.here hx rfl (hb hby at_103) ?_
      show Sq p e below m T22 104 #[iv p1, iv p2, iv p3, iv p4, iv p5, iv cp, iv kk0, iv kk1, iv kk2, rv b1, iv 0, iv e1, iv 1, iv v, .unset, .unset, .unset, .unset, .unset, .unset, .unset, .unset, .unset, .unset, .unset, .unset] [.int (-1)] _
      refine XS.goto X22.here hx rfl (pc0 := 104) (pc' := 120) rfl (hb hby at_104) (by decide) (by decide) ?_
      exact kt
    · simp only [if_neg hc100] at kt
      show Sq p e below m T22 100 #[iv p1, iv p2, iv p3, iv p4, iv p5, iv cp, iv kk0, iv kk1, iv kk2, rv b1, iv 0, iv e1, iv 1, iv v, .unset, .unset, .unset, .unset, .unset, .unset, .unset, .unset, .unset, .unset, .unset, .unset] [.int v] _
      refine XS.ifYes X22.here hx rfl (pc0 := 100) (pc' := 107) rfl (hb hby at_100) rfl ((if0 _ _).trans (feq hc100).2) (by decide) (by decide) ?_
      refine XS.iload X22.here hx rfl (hb hby at_107) rfl ?_
      show Sq p e below m T22 109 #[iv p1, iv p2, iv p3, iv p4, iv p5, iv cp, iv kk0, iv kk1, iv kk2, rv b1, iv 0, iv e1, iv 1, iv v, .unset, .unset, .unset, .unset, .unset, .unset, .unset, .unset, .unset, .unset, .unset, .unset] [.int v] _
      refine XS.iconst X22.here hx rfl (hb hby at_109) ?_
      by_cases hc110 : v = (1 : Int32)
      · simp only [if_pos hc110] at kt
        show Sq p e below m T22 110 #[iv p1, iv p2, iv p3, iv p4, iv p5, iv cp, iv kk0, iv kk1, iv kk2, rv b1, iv 0, iv e1, iv 1, iv v, .unset, .unset, .unset, .unset, .unset, .unset, .unset, .unset, .unset, .unset, .unset, .unset] [.int 1, .int v] _
        refine XS.icmpNo X22.here hx rfl (hb hby at_110) rfl (teq hc110).2 ?_
        refine XS.iload X22.here hx rfl (hb hby at_113) rfl ?_
        show Sq p e below m T22 115 #[iv p1, iv p2, iv p3, iv p4, iv p5, iv cp, iv kk0, iv kk1, iv kk2, rv b1, iv 0, iv e1, iv 1, iv v, .unset, .unset, .unset, .unset, .unset, .unset, .unset, .unset, .unset, .unset, .unset, .unset] [.int 0] _
        refine XS.goto X22.here hx rfl (pc0 := 115) (pc' := 120) rfl (hb hby at_115) (by decide) (by decide) ?_
        exact kt
      · simp only [if_neg hc110] at kt
        show Sq p e below m T22 110 #[iv p1, iv p2, iv p3, iv p4, iv p5, iv cp, iv kk0, iv kk1, iv kk2, rv b1, iv 0, iv e1, iv 1, iv v, .unset, .unset, .unset, .unset, .unset, .unset, .unset, .unset, .unset, .unset, .unset, .unset] [.int 1, .int v] _
        refine XS.icmpYes X22.here hx rfl (pc0 := 110) (pc' := 118) rfl (hb hby at_110) rfl (feq hc110).2 (by decide) (by decide) ?_
        refine XS.iload X22.here hx rfl (hb hby at_118) rfl ?_
        exact kt
  obtain ⟨e2, he2⟩ : ∃ z, (if v = (0 : Int32) then (-1 : Int32) else (if v = (1 : Int32) then (0 : Int32) else (1 : Int32))) = z := ⟨_, rfl⟩
  rw [he2] at pre25
  obtain ⟨cq26, kq26, q26a, q26b, q26c⟩ := isOf hZ e22 A1
  obtain ⟨_, _, ⟨T26, L26, k26, n26⟩, -, X26, ⟨Lc26, hQ26, l26, y26, z26⟩, st26⟩ := X22.virtualBack hx (y := y_7) (z := y_7) hown (mvT hZ (W 33 rfl)) (mvT hZ (W 34 rfl)) (notFace_of_selects (args := #[]) (mvT hZ (W 36 rfl))) (mvT hZ (W 36 rfl)) (mvT hZ (W 35 rfl)) (by decide) (backOf (W := 0) (write2 l Z a0 hw [] b1 p3 kk2 e2 b22n' p4 w_MIR b22lo' b22ea' b22ma' b22un' b22li' b22kl' b22ke' b22km' b22ku' b22ki' p1 kk0 p2 kk1 (-1 : Int32) e1 h22 n0 O23 A1 p22_13 Mo p22_1 p22_2 p22_3 p22_4 p22_5 p22_6 p22_7 p22_8 p22_9 p22_10 p22_11 p22_12 g_b1 p22_14 p22_15 p22_16 p22_17 p22_18 p22_19 p22_20 p22_21 p22_22 p22_23 p22_24 p22_25 p22_26 p22_27 p22_28 p22_29 p22_30 p22_31 p22_32 p22_33 p22_34) hZ (W 37 rfl) (W 2 rfl) (by decide) (by decide)) q26a q26c (g := (mkF m 129 #[iv p1, iv p2, iv p3, iv p4, iv p5, iv cp, iv kk0, iv kk1, iv kk2, rv b1, iv 0, iv e1, iv 1, iv v, iv e2, .unset, .unset, .unset, .unset, .unset, .unset, .unset, .unset, .unset, .unset, .unset] [.int e2, .int kk2, .int p3, .ref b1])) rfl (by rw [hml]; rfl) (Steps.refl _) (argsL := [.int p3, .int kk2, .int e2]) (rest := []) (lenOf pd_4 rfl) rfl (by show 2 * 0 + _ ≤ _; exact Nat.le_of_eq rfl) (hb hby at_129) (fun _ _ => ⟨rfl, e22, (by decide : 17 + 5 ≤ _), (by decide : 317 + 112 ≤ _)⟩)
  dsimp only [Pt.U, Pt.locs, Pt.cells, Pt.slots] at X26 l26 y26 z26 st26 hQ26
  subst l26 y26 z26
  obtain ⟨h26, e26⟩ : ∃ z, T26.heap = z := ⟨_, rfl⟩
  rw [e26] at hQ26
  obtain ⟨b26lo', b26ea', b26ma', b26un', b26li', b26kl', b26ke', b26km', b26ku', b26ki', b26n', rfl, N26q, p26_0, p26_1, p26_2, p26_3, p26_4, p26_5, p26_6, p26_7, p26_8, p26_9, p26_10, p26_11, p26_12, p26_13, p26_14, p26_15, p26_16, p26_17, p26_18, p26_19, p26_20, p26_21, p26_22, p26_23, p26_24, p26_25, p26_26, p26_27, p26_28, p26_29, p26_30, p26_31, p26_32, p26_33, p26_34⟩ := hQ26
  have N26 := Fr.app N22 N26q
  have A1 := A1.keep p26_0
  have O27 := O23.keep p26_0 (allS g_b1 (allS p22_14 (allS p22_15 (allS p22_16 all0))))
  have pre29 : ∀ t, Steps p.tables e below (T26.setTop (mkF m 191 #[iv p1, iv p2, iv p3, iv p4, iv p5, iv cp, iv kk0, iv kk1, iv kk2, rv b1, iv 0, iv e1, iv 1, iv v, iv e2, iv 2, iv qv, .unset, .unset, .unset, .unset, .unset, .unset, .unset, .unset, .unset] [.int (if qv = (0 : Int32) then (2 : Int32) else (if qv = (1 : Int32) then (1 : Int32) else (if qv = (2 : Int32) then (0 : Int32) else (-1 : Int32))))])) t → Steps p.tables e below (s₁.setTop (entryFrame m #[(.int p1), (.int p2), (.int p3), (.int p4), (.int p5)] maxLocals)) t := by
    intro t kt
    refine pre25 _ ?_
    show Sq p e below m T22 120 #[iv p1, iv p2, iv p3, iv p4, iv p5, iv cp, iv kk0, iv kk1, iv kk2, rv b1, iv 0, iv e1, iv 1, iv v, .unset, .unset, .unset, .unset, .unset, .unset, .unset, .unset, .unset, .unset, .unset, .unset] [.int e2] _
    refine XS.istore X22.here hx rfl (hb hby at_120) rfl rfl ?_
    refine XS.aload X22.here hx rfl (hb hby at_122) rfl rfl ?_
    show Sq p e below m T22 124 #[iv p1, iv p2, iv p3, iv p4, iv p5, iv cp, iv kk0, iv kk1, iv kk2, rv b1, iv 0, iv e1, iv 1, iv v, iv e2, .unset, .unset, .unset, .unset, .unset, .unset, .unset, .unset, .unset, .unset, .unset] [.ref b1] _
    refine XS.iloadN X22.here hx rfl (hb hby at_124) rfl ?_
    refine XS.iload X22.here hx rfl (hb hby at_125) rfl ?_
    show Sq p e below m T22 127 #[iv p1, iv p2, iv p3, iv p4, iv p5, iv cp, iv kk0, iv kk1, iv kk2, rv b1, iv 0, iv e1, iv 1, iv v, iv e2, .unset, .unset, .unset, .unset, .unset, .unset, .unset, .unset, .unset, .unset, .unset] [.int kk2, .int p3, .ref b1] _
    refine XS.iload X22.here hx rfl (hb hby at_127) rfl ?_
    show Sq p e below m T22 129 #[iv p1, iv p2, iv p3, iv p4, iv p5, iv cp, iv kk0, iv kk1, iv kk2, rv b1, iv 0, iv e1, iv 1, iv v, iv e2, .unset, .unset, .unset, .unset, .unset, .unset, .unset, .unset, .unset, .unset, .unset] [.int e2, .int kk2, .int p3, .ref b1] _
    refine st26.trans ?_
    show Sq p e below m T26 132 #[iv p1, iv p2, iv p3, iv p4, iv p5, iv cp, iv kk0, iv kk1, iv kk2, rv b1, iv 0, iv e1, iv 1, iv v, iv e2, .unset, .unset, .unset, .unset, .unset, .unset, .unset, .unset, .unset, .unset, .unset] [.int 2] _
    refine XS.istore X26.here hx rfl (hb hby at_132) rfl rfl ?_
    refine XS.iload X26.here hx rfl (hb hby at_134) rfl ?_
    show Sq p e below m T26 136 #[iv p1, iv p2, iv p3, iv p4, iv p5, iv cp, iv kk0, iv kk1, iv kk2, rv b1, iv 0, iv e1, iv 1, iv v, iv e2, iv 2, .unset, .unset, .unset, .unset, .unset, .unset, .unset, .unset, .unset, .unset] [.int 0] _
    refine XS.ifNo X26.here hx rfl (hb hby at_136) rfl ((if0 _ _).trans (teq (rfl : (0 : Int32) = (0 : Int32))).2) ?_
    refine XS.iload X26.here hx rfl (hb hby at_139) rfl ?_
    show Sq p e below m T26 141 #[iv p1, iv p2, iv p3, iv p4, iv p5, iv cp, iv kk0, iv kk1, iv kk2, rv b1, iv 0, iv e1, iv 1, iv v, iv e2, iv 2, .unset, .unset, .unset, .unset, .unset, .unset, .unset, .unset, .unset, .unset] [.int 1] _
    refine XS.iconst X26.here hx rfl (hb hby at_141) ?_
    refine XS.icmpNo X26.here hx rfl (hb hby at_142) rfl (teq (rfl : (1 : Int32) = (1 : Int32))).2 ?_
    show Sq p e below m T26 145 #[iv p1, iv p2, iv p3, iv p4, iv p5, iv cp, iv kk0, iv kk1, iv kk2, rv b1, iv 0, iv e1, iv 1, iv v, iv e2, iv 2, .unset, .unset, .unset, .unset, .unset, .unset, .unset, .unset, .unset, .unset] [] _
    refine XS.iload X26.here hx rfl (hb hby at_145) rfl ?_
    refine XS.iconst X26.here hx rfl (hb hby at_147) ?_
    show Sq p e below m T26 148 #[iv p1, iv p2, iv p3, iv p4, iv p5, iv cp, iv kk0, iv kk1, iv kk2, rv b1, iv 0, iv e1, iv 1, iv v, iv e2, iv 2, .unset, .unset, .unset, .unset, .unset, .unset, .unset, .unset, .unset, .unset] [.int 2, .int 2] _
    refine XS.icmpYes X26.here hx rfl (pc0 := 148) (pc' := 153) rfl (hb hby at_148) rfl (teq (rfl : (2 : Int32) = (2 : Int32))).1 (by decide) (by decide) ?_
    refine XS.iload X26.here hx rfl (hb hby at_153) rfl ?_
    show Sq p e below m T26 155 #[iv p1, iv p2, iv p3, iv p4, iv p5, iv cp, iv kk0, iv kk1, iv kk2, rv b1, iv 0, iv e1, iv 1, iv v, iv e2, iv 2, .unset, .unset, .unset, .unset, .unset, .unset, .unset, .unset, .unset, .unset] [.int p5] _
    refine XS.iconst X26.here hx rfl (hb hby at_155) ?_
    refine XS.iushr X26.here hx rfl (hb hby at_156) rfl ?_
    show Sq p e below m T26 157 #[iv p1, iv p2, iv p3, iv p4, iv p5, iv cp, iv kk0, iv kk1, iv kk2, rv b1, iv 0, iv e1, iv 1, iv v, iv e2, iv 2, .unset, .unset, .unset, .unset, .unset, .unset, .unset, .unset, .unset, .unset] [.int ((p5.toUInt32 >>> ((3 : Int32) &&& 31).toUInt32).toInt32)] _
    refine XS.iconst X26.here hx rfl (hb hby at_157) ?_
    refine XS.iand X26.here hx rfl (hb hby at_158) rfl ?_
    show Sq p e below m T26 159 #[iv p1, iv p2, iv p3, iv p4, iv p5, iv cp, iv kk0, iv kk1, iv kk2, rv b1, iv 0, iv e1, iv 1, iv v, iv e2, iv 2, .unset, .unset, .unset, .unset, .unset, .unset, .unset, .unset, .unset, .unset] [.int (((p5.toUInt32 >>> ((3 : Int32) &&& 31).toUInt32).toInt32) &&& (3 : Int32))] _
    rw [hqv]
    show Sq p e below m T26 159 #[iv p1, iv p2, iv p3, iv p4, iv p5, iv cp, iv kk0, iv kk1, iv kk2, rv b1, iv 0, iv e1, iv 1, iv v, iv e2, iv 2, .unset, .unset, .unset, .unset, .unset, .unset, .unset, .unset, .unset, .unset] [.int qv] _
    refine XS.istore X26.here hx rfl (hb hby at_159) rfl rfl ?_
    refine XS.iload X26.here hx rfl (hb hby at_161) rfl ?_
    by_cases hc163 : qv = (0 : Int32)
    · simp only [if_pos hc163] at kt
      show Sq p e below m T26 163 #[iv p1, iv p2, iv p3, iv p4, iv p5, iv cp, iv kk0, iv kk1, iv kk2, rv b1, iv 0, iv e1, iv 1, iv v, iv e2, iv 2, iv qv, .unset, .unset, .unset, .unset, .unset, .unset, .unset, .unset, .unset] [.int qv] _
      refine XS.ifNo X26.here hx rfl (hb hby at_163) rfl ((if0 _ _).trans (teq hc163).2) ?_
      refine XS.iconst X26.here hx rfl (hb hby at_166) ?_
      show Sq p e below m T26 167 #[iv p1, iv p2, iv p3, iv p4, iv p5, iv cp, iv kk0, iv kk1, iv kk2, rv b1, iv 0, iv e1, iv 1, iv v, iv e2, iv 2, iv qv, .unset, .unset, .unset, .unset, .unset, .unset, .unset, .unset, .unset] [.int 2] _
      refine XS.goto X26.here hx rfl (pc0 := 167) (pc' := 191) rfl (hb hby at_167) (by decide) (by decide) ?_
      exact kt
    · simp only [if_neg hc163] at kt
      show Sq p e below m T26 163 #[iv p1, iv p2, iv p3, iv p4, iv p5, iv cp, iv kk0, iv kk1, iv kk2, rv b1, iv 0, iv e1, iv 1, iv v, iv e2, iv 2, iv qv, .unset, .unset, .unset, .unset, .unset, .unset, .unset, .unset, .unset] [.int qv] _
      refine XS.ifYes X26.here hx rfl (pc0 := 163) (pc' := 170) rfl (hb hby at_163) rfl ((if0 _ _).trans (feq hc163).2) (by decide) (by decide) ?_
      refine XS.iload X26.here hx rfl (hb hby at_170) rfl ?_
      show Sq p e below m T26 172 #[iv p1, iv p2, iv p3, iv p4, iv p5, iv cp, iv kk0, iv kk1, iv kk2, rv b1, iv 0, iv e1, iv 1, iv v, iv e2, iv 2, iv qv, .unset, .unset, .unset, .unset, .unset, .unset, .unset, .unset, .unset] [.int qv] _
      refine XS.iconst X26.here hx rfl (hb hby at_172) ?_
      by_cases hc173 : qv = (1 : Int32)
      · simp only [if_pos hc173] at kt
        show Sq p e below m T26 173 #[iv p1, iv p2, iv p3, iv p4, iv p5, iv cp, iv kk0, iv kk1, iv kk2, rv b1, iv 0, iv e1, iv 1, iv v, iv e2, iv 2, iv qv, .unset, .unset, .unset, .unset, .unset, .unset, .unset, .unset, .unset] [.int 1, .int qv] _
        refine XS.icmpNo X26.here hx rfl (hb hby at_173) rfl (teq hc173).2 ?_
        refine XS.iconst X26.here hx rfl (hb hby at_176) ?_
        show Sq p e below m T26 177 #[iv p1, iv p2, iv p3, iv p4, iv p5, iv cp, iv kk0, iv kk1, iv kk2, rv b1, iv 0, iv e1, iv 1, iv v, iv e2, iv 2, iv qv, .unset, .unset, .unset, .unset, .unset, .unset, .unset, .unset, .unset] [.int 1] _
        refine XS.goto X26.here hx rfl (pc0 := 177) (pc' := 191) rfl (hb hby at_177) (by decide) (by decide) ?_
        exact kt
      · simp only [if_neg hc173] at kt
        show Sq p e below m T26 173 #[iv p1, iv p2, iv p3, iv p4, iv p5, iv cp, iv kk0, iv kk1, iv kk2, rv b1, iv 0, iv e1, iv 1, iv v, iv e2, iv 2, iv qv, .unset, .unset, .unset, .unset, .unset, .unset, .unset, .unset, .unset] [.int 1, .int qv] _
        refine XS.icmpYes X26.here hx rfl (pc0 := 173) (pc' := 180) rfl (hb hby at_173) rfl (feq hc173).2 (by decide) (by decide) ?_
        refine XS.iload X26.here hx rfl (hb hby at_180) rfl ?_
        show Sq p e below m T26 182 #[iv p1, iv p2, iv p3, iv p4, iv p5, iv cp, iv kk0, iv kk1, iv kk2, rv b1, iv 0, iv e1, iv 1, iv v, iv e2, iv 2, iv qv, .unset, .unset, .unset, .unset, .unset, .unset, .unset, .unset, .unset] [.int qv] _
        refine XS.iconst X26.here hx rfl (hb hby at_182) ?_
        by_cases hc183 : qv = (2 : Int32)
        · simp only [if_pos hc183] at kt
          show Sq p e below m T26 183 #[iv p1, iv p2, iv p3, iv p4, iv p5, iv cp, iv kk0, iv kk1, iv kk2, rv b1, iv 0, iv e1, iv 1, iv v, iv e2, iv 2, iv qv, .unset, .unset, .unset, .unset, .unset, .unset, .unset, .unset, .unset] [.int 2, .int qv] _
          refine XS.icmpNo X26.here hx rfl (hb hby at_183) rfl (teq hc183).2 ?_
          refine XS.iconst X26.here hx rfl (hb hby at_186) ?_
          show Sq p e below m T26 187 #[iv p1, iv p2, iv p3, iv p4, iv p5, iv cp, iv kk0, iv kk1, iv kk2, rv b1, iv 0, iv e1, iv 1, iv v, iv e2, iv 2, iv qv, .unset, .unset, .unset, .unset, .unset, .unset, .unset, .unset, .unset] [.int 0] _
          refine XS.goto X26.here hx rfl (pc0 := 187) (pc' := 191) rfl (hb hby at_187) (by decide) (by decide) ?_
          exact kt
        · simp only [if_neg hc183] at kt
          show Sq p e below m T26 183 #[iv p1, iv p2, iv p3, iv p4, iv p5, iv cp, iv kk0, iv kk1, iv kk2, rv b1, iv 0, iv e1, iv 1, iv v, iv e2, iv 2, iv qv, .unset, .unset, .unset, .unset, .unset, .unset, .unset, .unset, .unset] [.int 2, .int qv] _
          refine XS.icmpYes X26.here hx rfl (pc0 := 183) (pc' := 190) rfl (hb hby at_183) rfl (feq hc183).2 (by decide) (by decide) ?_
          refine XS.iconst X26.here hx rfl (hb hby at_190) ?_
          exact kt
  obtain ⟨q, hq⟩ : ∃ z, (if qv = (0 : Int32) then (2 : Int32) else (if qv = (1 : Int32) then (1 : Int32) else (if qv = (2 : Int32) then (0 : Int32) else (-1 : Int32)))) = z := ⟨_, rfl⟩
  rw [hq] at pre29
  have pre30 : ∀ t, Steps p.tables e below (T26.setTop (mkF m 193 #[iv p1, iv p2, iv p3, iv p4, iv p5, iv cp, iv kk0, iv kk1, iv kk2, rv b1, iv 0, iv e1, iv 1, iv v, iv e2, iv 2, iv qv, iv q, .unset, .unset, .unset, .unset, .unset, .unset, .unset, .unset] [])) t → Steps p.tables e below (s₁.setTop (entryFrame m #[(.int p1), (.int p2), (.int p3), (.int p4), (.int p5)] maxLocals)) t := by
    intro t kt
    refine pre29 _ ?_
    show Sq p e below m T26 191 #[iv p1, iv p2, iv p3, iv p4, iv p5, iv cp, iv kk0, iv kk1, iv kk2, rv b1, iv 0, iv e1, iv 1, iv v, iv e2, iv 2, iv qv, .unset, .unset, .unset, .unset, .unset, .unset, .unset, .unset, .unset] [.int q] _
    refine XS.istore X26.here hx rfl (hb hby at_191) rfl rfl ?_
    exact kt
  rcases own_q hq with rfl | rfl | rfl | rfl
  · have pre31 : ∀ t, Steps p.tables e below (T26.setTop (mkF m 264 #[iv p1, iv p2, iv p3, iv p4, iv p5, iv cp, iv kk0, iv kk1, iv kk2, rv b1, iv 0, iv e1, iv 1, iv v, iv e2, iv 2, iv qv, iv 2, iv 0, iv 0, iv 0, iv 0, .unset, .unset, .unset, .unset] [])) t → Steps p.tables e below (s₁.setTop (entryFrame m #[(.int p1), (.int p2), (.int p3), (.int p4), (.int p5)] maxLocals)) t := by
      intro t kt
      refine pre30 _ ?_
      show Sq p e below m T26 193 #[iv p1, iv p2, iv p3, iv p4, iv p5, iv cp, iv kk0, iv kk1, iv kk2, rv b1, iv 0, iv e1, iv 1, iv v, iv e2, iv 2, iv qv, iv 2, .unset, .unset, .unset, .unset, .unset, .unset, .unset, .unset] [] _
      refine XS.iconst X26.here hx rfl (hb hby at_193) ?_
      refine XS.istore X26.here hx rfl (hb hby at_194) rfl rfl ?_
      show Sq p e below m T26 196 #[iv p1, iv p2, iv p3, iv p4, iv p5, iv cp, iv kk0, iv kk1, iv kk2, rv b1, iv 0, iv e1, iv 1, iv v, iv e2, iv 2, iv qv, iv 2, iv 0, .unset, .unset, .unset, .unset, .unset, .unset, .unset] [] _
      refine XS.iconst X26.here hx rfl (hb hby at_196) ?_
      refine XS.istore X26.here hx rfl (hb hby at_197) rfl rfl ?_
      show Sq p e below m T26 199 #[iv p1, iv p2, iv p3, iv p4, iv p5, iv cp, iv kk0, iv kk1, iv kk2, rv b1, iv 0, iv e1, iv 1, iv v, iv e2, iv 2, iv qv, iv 2, iv 0, iv 0, .unset, .unset, .unset, .unset, .unset, .unset] [] _
      refine XS.iconst X26.here hx rfl (hb hby at_199) ?_
      refine XS.istore X26.here hx rfl (hb hby at_200) rfl rfl ?_
      show Sq p e below m T26 202 #[iv p1, iv p2, iv p3, iv p4, iv p5, iv cp, iv kk0, iv kk1, iv kk2, rv b1, iv 0, iv e1, iv 1, iv v, iv e2, iv 2, iv qv, iv 2, iv 0, iv 0, iv 0, .unset, .unset, .unset, .unset, .unset] [] _
      refine XS.iconst X26.here hx rfl (hb hby at_202) ?_
      refine XS.istore X26.here hx rfl (hb hby at_203) rfl rfl ?_
      show Sq p e below m T26 205 #[iv p1, iv p2, iv p3, iv p4, iv p5, iv cp, iv kk0, iv kk1, iv kk2, rv b1, iv 0, iv e1, iv 1, iv v, iv e2, iv 2, iv qv, iv 2, iv 0, iv 0, iv 0, iv 0, .unset, .unset, .unset, .unset] [] _
      refine XS.iload X26.here hx rfl (hb hby at_205) rfl ?_
      refine XS.iconst X26.here hx rfl (hb hby at_207) ?_
      show Sq p e below m T26 208 #[iv p1, iv p2, iv p3, iv p4, iv p5, iv cp, iv kk0, iv kk1, iv kk2, rv b1, iv 0, iv e1, iv 1, iv v, iv e2, iv 2, iv qv, iv 2, iv 0, iv 0, iv 0, iv 0, .unset, .unset, .unset, .unset] [.int (-1), .int 2] _
      refine XS.icmpYes X26.here hx rfl (pc0 := 208) (pc' := 217) rfl (hb hby at_208) rfl (feq (by decide)).2 (by decide) (by decide) ?_
      refine XS.iload X26.here hx rfl (hb hby at_217) rfl ?_
      show Sq p e below m T26 219 #[iv p1, iv p2, iv p3, iv p4, iv p5, iv cp, iv kk0, iv kk1, iv kk2, rv b1, iv 0, iv e1, iv 1, iv v, iv e2, iv 2, iv qv, iv 2, iv 0, iv 0, iv 0, iv 0, .unset, .unset, .unset, .unset] [.int 2] _
      refine XS.ifYes X26.here hx rfl (pc0 := 219) (pc' := 231) rfl (hb hby at_219) rfl ((if0 _ _).trans (feq (by decide)).2) (by decide) (by decide) ?_
      refine XS.iload X26.here hx rfl (hb hby at_231) rfl ?_
      show Sq p e below m T26 233 #[iv p1, iv p2, iv p3, iv p4, iv p5, iv cp, iv kk0, iv kk1, iv kk2, rv b1, iv 0, iv e1, iv 1, iv v, iv e2, iv 2, iv qv, iv 2, iv 0, iv 0, iv 0, iv 0, .unset, .unset, .unset, .unset] [.int 2] _
      refine XS.iconst X26.here hx rfl (hb hby at_233) ?_
      refine XS.icmpYes X26.here hx rfl (pc0 := 234) (pc' := 264) rfl (hb hby at_234) rfl (feq (by decide)).2 (by decide) (by decide) ?_
      exact kt
    rcases own_e2 he2 with rfl | rfl | rfl
    · obtain ⟨T32, h32, k32, X32, e32, E32, A32, A32x, st32⟩ := newPE X26 hx hZ (W 9 rfl) e26 (g := (mkF m 327 #[iv p1, iv p2, iv p3, iv p4, iv p5, iv cp, iv kk0, iv kk1, iv kk2, rv b1, iv 0, iv e1, iv 1, iv v, iv (-1), iv 2, iv qv, iv 2, iv 1, iv 2, iv 0, iv 0, .unset, .unset, .unset, .unset] [.int 3])) rfl (hb hby at_327) rfl (by decide) (cap := 3) (by decide) (by decide) (by decide) (by decide) (ad := "[I") (by decide)
      obtain ⟨b32, g32⟩ : ∃ z, z = h26.size := ⟨_, rfl⟩
      rw [← g32] at A32 A32x st32
      have g_b32 : n0 ≤ b32 := Nat.le_trans (own_sz O27) (Nat.le_of_eq g32.symm)
      have ne_b1_b32 : b1 ≠ b32 := Nat.ne_of_lt (Nat.lt_of_lt_of_le A1.lt (Nat.le_of_eq g32.symm))
      have ne_b26lo__b32 : b26lo' ≠ b32 := Nat.ne_of_lt (Nat.lt_of_lt_of_le p26_8.lt (Nat.le_of_eq g32.symm))
      have ne_b26ea__b32 : b26ea' ≠ b32 := Nat.ne_of_lt (Nat.lt_of_lt_of_le p26_9.lt (Nat.le_of_eq g32.symm))
      have ne_b26li__b32 : b26li' ≠ b32 := Nat.ne_of_lt (Nat.lt_of_lt_of_le p26_12.lt (Nat.le_of_eq g32.symm))
      have A1 := A1.ext E32
      have p26_1 := p26_1.ext E32
      have p26_2 := p26_2.ext E32
      have p26_5 := p26_5.ext E32
      have p26_7 := p26_7.ext E32
      have p26_8 := p26_8.ext E32
      have p26_9 := p26_9.ext E32
      have p26_12 := p26_12.ext E32
      have O33 := O27.ext E32
      have V32 : Arv Z h32 b32 k32 .int (3 : Int32) [(.int (0 : Int32)), (.int (0 : Int32)), (.int (0 : Int32))] (.int (0 : Int32)) := (Arv.new A32 (by decide)).pad (pad_rep [] (.int (0 : Int32)) 3)
      obtain ⟨cl35, Ar35, q35, S35, Ng35, Hh35, Gg35⟩ := id V32
      obtain ⟨T35, h35, X35, e35, W35, st35⟩ := stI X32 hx hZ e32 Ar35 (j := (0 : Int32)) (inb_of S35 (by decide)) (g := (mkF m 332 #[iv p1, iv p2, iv p3, iv p4, iv p5, iv cp, iv kk0, iv kk1, iv kk2, rv b1, iv 0, iv e1, iv 1, iv v, iv (-1), iv 2, iv qv, iv 2, iv 1, iv 2, iv 0, iv 0, .unset, .unset, .unset, .unset] [.int p1, .int 0, .ref b32, .ref b32])) rfl rfl (hb hby at_332)
      have V35 : Arv Z h35 b32 k32 .int (3 : Int32) [(.int p1), (.int (0 : Int32)), (.int (0 : Int32))] (.int (0 : Int32)) := Arv.set Ar35 q35 S35 Ng35 Hh35 Gg35 rfl W35 0 rfl (Nat.le_of_ble_eq_true rfl)
      have A1 := A1.wr W35
      have p26_1 := p26_1.other W35 (Or.inl ne_b1_b32)
      have p26_2 := p26_2.other W35 (Or.inl ne_b1_b32)
      have p26_5 := p26_5.other W35 (Or.inl ne_b1_b32)
      have p26_7 := p26_7.other W35 (Or.inl ne_b1_b32)
      have p26_8 := p26_8.other W35 ne_b26lo__b32
      have p26_9 := p26_9.other W35 ne_b26ea__b32
      have p26_12 := p26_12.other W35 ne_b26li__b32
      have A32x := A32x.wr W35
      have O36 := O33.wr W35 g_b32
      have N38 := Fr.snoc X35 N26 g_b32
      obtain ⟨cl39, Ar39, q39, S39, Ng39, Hh39, Gg39⟩ := id V35
      obtain ⟨T39, h39, X39, e39, W39, st39⟩ := stI X35 hx hZ e35 Ar39 (j := (1 : Int32)) (inb_of S39 (by decide)) (g := (mkF m 336 #[iv p1, iv p2, iv p3, iv p4, iv p5, iv cp, iv kk0, iv kk1, iv kk2, rv b1, iv 0, iv e1, iv 1, iv v, iv (-1), iv 2, iv qv, iv 2, iv 1, iv 2, iv 0, iv 0, .unset, .unset, .unset, .unset] [.int p2, .int 1, .ref b32, .ref b32])) rfl rfl (hb hby at_336)
      have V39 : Arv Z h39 b32 k32 .int (3 : Int32) [(.int p1), (.int p2), (.int (0 : Int32))] (.int (0 : Int32)) := Arv.set Ar39 q39 S39 Ng39 Hh39 Gg39 rfl W39 1 rfl (Nat.le_of_ble_eq_true rfl)
      have A1 := A1.wr W39
      have p26_1 := p26_1.other W39 (Or.inl ne_b1_b32)
      have p26_2 := p26_2.other W39 (Or.inl ne_b1_b32)
      have p26_5 := p26_5.other W39 (Or.inl ne_b1_b32)
      have p26_7 := p26_7.other W39 (Or.inl ne_b1_b32)
      have p26_8 := p26_8.other W39 ne_b26lo__b32
      have p26_9 := p26_9.other W39 ne_b26ea__b32
      have p26_12 := p26_12.other W39 ne_b26li__b32
      have A32x := A32x.wr W39
      have O40 := O36.wr W39 g_b32
      have N42 := Fr.snoc X39 N38 g_b32
      obtain ⟨cl43, Ar43, q43, S43, Ng43, Hh43, Gg43⟩ := id V39
      obtain ⟨T43, h43, X43, e43, W43, st43⟩ := stI X39 hx hZ e39 Ar43 (j := (2 : Int32)) (inb_of S43 (by decide)) (g := (mkF m 340 #[iv p1, iv p2, iv p3, iv p4, iv p5, iv cp, iv kk0, iv kk1, iv kk2, rv b1, iv 0, iv e1, iv 1, iv v, iv (-1), iv 2, iv qv, iv 2, iv 1, iv 2, iv 0, iv 0, .unset, .unset, .unset, .unset] [.int p3, .int 2, .ref b32, .ref b32])) rfl rfl (hb hby at_340)
      have V43 : Arv Z h43 b32 k32 .int (3 : Int32) [(.int p1), (.int p2), (.int p3)] (.int (0 : Int32)) := Arv.set Ar43 q43 S43 Ng43 Hh43 Gg43 rfl W43 2 rfl (Nat.le_of_ble_eq_true rfl)
      have A1 := A1.wr W43
      have p26_1 := p26_1.other W43 (Or.inl ne_b1_b32)
      have p26_2 := p26_2.other W43 (Or.inl ne_b1_b32)
      have p26_5 := p26_5.other W43 (Or.inl ne_b1_b32)
      have p26_7 := p26_7.other W43 (Or.inl ne_b1_b32)
      have p26_8 := p26_8.other W43 ne_b26lo__b32
      have p26_9 := p26_9.other W43 ne_b26ea__b32
      have p26_12 := p26_12.other W43 ne_b26li__b32
      have A32x := A32x.wr W43
      have O44 := O40.wr W43 g_b32
      have N46 := Fr.snoc X43 N42 g_b32
      obtain ⟨T47, h47, k47, X47, e47, E47, A47, A47x, st47⟩ := newPE X43 hx hZ (W 9 rfl) e43 (g := (mkF m 344 #[iv p1, iv p2, iv p3, iv p4, iv p5, iv cp, iv kk0, iv kk1, iv kk2, rv b1, iv 0, iv e1, iv 1, iv v, iv (-1), iv 2, iv qv, iv 2, iv 1, iv 2, iv 0, iv 0, rv b32, .unset, .unset, .unset] [.int 3])) rfl (hb hby at_344) rfl (by decide) (cap := 3) (by decide) (by decide) (by decide) (by decide) (ad := "[I") (by decide)
      obtain ⟨b47, g47⟩ : ∃ z, z = h43.size := ⟨_, rfl⟩
      rw [← g47] at A47 A47x st47
      have g_b47 : n0 ≤ b47 := Nat.le_trans (own_sz O44) (Nat.le_of_eq g47.symm)
      have ne_b1_b47 : b1 ≠ b47 := Nat.ne_of_lt (Nat.lt_of_lt_of_le A1.lt (Nat.le_of_eq g47.symm))
      have ne_b26lo__b47 : b26lo' ≠ b47 := Nat.ne_of_lt (Nat.lt_of_lt_of_le p26_8.lt (Nat.le_of_eq g47.symm))
      have ne_b26ea__b47 : b26ea' ≠ b47 := Nat.ne_of_lt (Nat.lt_of_lt_of_le p26_9.lt (Nat.le_of_eq g47.symm))
      have ne_b26li__b47 : b26li' ≠ b47 := Nat.ne_of_lt (Nat.lt_of_lt_of_le p26_12.lt (Nat.le_of_eq g47.symm))
      have ne_b32_b47 : b32 ≠ b47 := Nat.ne_of_lt (Nat.lt_of_lt_of_le A32x.lt (Nat.le_of_eq g47.symm))
      have A1 := A1.ext E47
      have p26_1 := p26_1.ext E47
      have p26_2 := p26_2.ext E47
      have p26_5 := p26_5.ext E47
      have p26_7 := p26_7.ext E47
      have p26_8 := p26_8.ext E47
      have p26_9 := p26_9.ext E47
      have p26_12 := p26_12.ext E47
      have V43 := V43.ext E47
      have O48 := O44.ext E47
      have V47 : Arv Z h47 b47 k47 .int (3 : Int32) [(.int (0 : Int32)), (.int (0 : Int32)), (.int (0 : Int32))] (.int (0 : Int32)) := (Arv.new A47 (by decide)).pad (pad_rep [] (.int (0 : Int32)) 3)
      obtain ⟨cl50, Ar50, q50, S50, Ng50, Hh50, Gg50⟩ := id V47
      obtain ⟨T50, h50, X50, e50, W50, st50⟩ := stI X47 hx hZ e47 Ar50 (j := (0 : Int32)) (inb_of S50 (by decide)) (g := (mkF m 350 #[iv p1, iv p2, iv p3, iv p4, iv p5, iv cp, iv kk0, iv kk1, iv kk2, rv b1, iv 0, iv e1, iv 1, iv v, iv (-1), iv 2, iv qv, iv 2, iv 1, iv 2, iv 0, iv 0, rv b32, .unset, .unset, .unset] [.int kk0, .int 0, .ref b47, .ref b47])) rfl rfl (hb hby at_350)
      have V50 : Arv Z h50 b47 k47 .int (3 : Int32) [(.int kk0), (.int (0 : Int32)), (.int (0 : Int32))] (.int (0 : Int32)) := Arv.set Ar50 q50 S50 Ng50 Hh50 Gg50 rfl W50 0 rfl (Nat.le_of_ble_eq_true rfl)
      have A1 := A1.wr W50
      have p26_1 := p26_1.other W50 (Or.inl ne_b1_b47)
      have p26_2 := p26_2.other W50 (Or.inl ne_b1_b47)
      have p26_5 := p26_5.other W50 (Or.inl ne_b1_b47)
      have p26_7 := p26_7.other W50 (Or.inl ne_b1_b47)
      have p26_8 := p26_8.other W50 ne_b26lo__b47
      have p26_9 := p26_9.other W50 ne_b26ea__b47
      have p26_12 := p26_12.other W50 ne_b26li__b47
      have V43 := V43.other W50 ne_b32_b47
      have O51 := O48.wr W50 g_b47
      have N53 := Fr.snoc X50 N46 g_b47
      obtain ⟨cl54, Ar54, q54, S54, Ng54, Hh54, Gg54⟩ := id V50
      obtain ⟨T54, h54, X54, e54, W54, st54⟩ := stI X50 hx hZ e50 Ar54 (j := (1 : Int32)) (inb_of S54 (by decide)) (g := (mkF m 355 #[iv p1, iv p2, iv p3, iv p4, iv p5, iv cp, iv kk0, iv kk1, iv kk2, rv b1, iv 0, iv e1, iv 1, iv v, iv (-1), iv 2, iv qv, iv 2, iv 1, iv 2, iv 0, iv 0, rv b32, .unset, .unset, .unset] [.int kk1, .int 1, .ref b47, .ref b47])) rfl rfl (hb hby at_355)
      have V54 : Arv Z h54 b47 k47 .int (3 : Int32) [(.int kk0), (.int kk1), (.int (0 : Int32))] (.int (0 : Int32)) := Arv.set Ar54 q54 S54 Ng54 Hh54 Gg54 rfl W54 1 rfl (Nat.le_of_ble_eq_true rfl)
      have A1 := A1.wr W54
      have p26_1 := p26_1.other W54 (Or.inl ne_b1_b47)
      have p26_2 := p26_2.other W54 (Or.inl ne_b1_b47)
      have p26_5 := p26_5.other W54 (Or.inl ne_b1_b47)
      have p26_7 := p26_7.other W54 (Or.inl ne_b1_b47)
      have p26_8 := p26_8.other W54 ne_b26lo__b47
      have p26_9 := p26_9.other W54 ne_b26ea__b47
      have p26_12 := p26_12.other W54 ne_b26li__b47
      have V43 := V43.other W54 ne_b32_b47
      have O55 := O51.wr W54 g_b47
      have N57 := Fr.snoc X54 N53 g_b47
      obtain ⟨cl58, Ar58, q58, S58, Ng58, Hh58, Gg58⟩ := id V54
      obtain ⟨T58, h58, X58, e58, W58, st58⟩ := stI X54 hx hZ e54 Ar58 (j := (2 : Int32)) (inb_of S58 (by decide)) (g := (mkF m 360 #[iv p1, iv p2, iv p3, iv p4, iv p5, iv cp, iv kk0, iv kk1, iv kk2, rv b1, iv 0, iv e1, iv 1, iv v, iv (-1), iv 2, iv qv, iv 2, iv 1, iv 2, iv 0, iv 0, rv b32, .unset, .unset, .unset] [.int kk2, .int 2, .ref b47, .ref b47])) rfl rfl (hb hby at_360)
      have V58 : Arv Z h58 b47 k47 .int (3 : Int32) [(.int kk0), (.int kk1), (.int kk2)] (.int (0 : Int32)) := Arv.set Ar58 q58 S58 Ng58 Hh58 Gg58 rfl W58 2 rfl (Nat.le_of_ble_eq_true rfl)
      have A1 := A1.wr W58
      have p26_1 := p26_1.other W58 (Or.inl ne_b1_b47)
      have p26_2 := p26_2.other W58 (Or.inl ne_b1_b47)
      have p26_5 := p26_5.other W58 (Or.inl ne_b1_b47)
      have p26_7 := p26_7.other W58 (Or.inl ne_b1_b47)
      have p26_8 := p26_8.other W58 ne_b26lo__b47
      have p26_9 := p26_9.other W58 ne_b26ea__b47
      have p26_12 := p26_12.other W58 ne_b26li__b47
      have V43 := V43.other W58 ne_b32_b47
      have O59 := O55.wr W58 g_b47
      have N61 := Fr.snoc X58 N57 g_b47
      obtain ⟨cq62, kq62, q62a, q62b, q62c⟩ := isOf hZ e58 A1
      obtain ⟨_, _, ⟨T62, L62, k62, n62⟩, -, X62, ⟨Lc62, hQ62, l62, y62, z62⟩, st62⟩ := X58.virtualBack hx (y := y_8) (z := y_8) hown (mvT hZ (W 67 rfl)) (mvT hZ (W 68 rfl)) (notFace_of_selects (args := #[]) (mvT hZ (W 70 rfl))) (mvT hZ (W 70 rfl)) (mvT hZ (W 69 rfl)) (by decide) (backOf (W := 0) (path2a l Z a0 hw [] b1 b26n' b26lo' b26ea' b26li' b26kl' b26ke' b26ki' p1 kk0 p2 kk1 p3 kk2 e1 h58 n0 O59 p26_1 p26_2 p26_5 p26_8 p26_9 p26_12 p26_18 p26_22 p26_25 p26_33 p26_34) hZ (W 71 rfl) (W 2 rfl) (by decide) (by decide)) q62a q62c (g := (mkF m 367 #[iv p1, iv p2, iv p3, iv p4, iv p5, iv cp, iv kk0, iv kk1, iv kk2, rv b1, iv 0, iv e1, iv 1, iv v, iv (-1), iv 2, iv qv, iv 2, iv 1, iv 2, iv 0, iv 0, rv b32, rv b47, .unset, .unset] [.int 2, .ref b1])) rfl (by rw [hml]; rfl) (Steps.refl _) (argsL := [.int 2]) (rest := []) (lenOf pd_6 rfl) rfl (by show 2 * 0 + _ ≤ _; exact Nat.le_of_eq rfl) (hb hby at_367) (fun _ _ => ⟨rfl, e58, (by decide : 24 + 0 ≤ _), (by decide : 435 + 0 ≤ _)⟩)
      dsimp only [Pt.U, Pt.locs, Pt.cells, Pt.slots] at X62 l62 y62 z62 st62 hQ62
      subst l62 y62 z62
      obtain ⟨h62, e62⟩ : ∃ z, T62.heap = z := ⟨_, rfl⟩
      rw [e62] at hQ62
      obtain ⟨rfl, N62q, p62_0, p62_1⟩ := hQ62
      have N62 := Fr.app N61 N62q
      have A1 := A1.keep p62_0
      have p26_5 := p26_5.keep p62_0 (ninS p26_33 nin0)
      have p26_7 := p26_7.keep p62_0 (ninS p26_33 nin0)
      have V43 := V43.keep p62_0 (ninS (Ne.symm ne_b26li__b32) nin0)
      have V58 := V58.keep p62_0 (ninS (Ne.symm ne_b26li__b47) nin0)
      have O63 := O59.keep p62_0 (allS p26_18 all0)
      obtain ⟨cq65, kq65, q65a, q65b, q65c⟩ := isOf hZ e62 A1
      obtain ⟨_, _, ⟨T65, L65, k65, n65⟩, -, X65, ⟨Lc65, hQ65, l65, y65, z65⟩, st65⟩ := X62.virtualBack hx (y := y_11) (z := y_11) hown (mvT hZ (W 72 rfl)) (mvT hZ (W 73 rfl)) (notFace_of_selects (args := #[]) (mvT hZ (W 75 rfl))) (mvT hZ (W 75 rfl)) (mvT hZ (W 74 rfl)) (by decide) (backOf (W := 0) (slot0 l Z a0 hw [] b1 b26li' b26ki' b26n' p3 (.int kk2) (.int (0 : Int32)) (.int (0 : Int32)) (.int (0 : Int32)) (.int (0 : Int32)) h62 n0 O63 p26_5 p62_1 p26_34) hZ (W 76 rfl) (W 2 rfl) (by decide) (by decide)) q65a q65c (g := (mkF m 400 #[iv p1, iv p2, iv p3, iv p4, iv p5, iv cp, iv kk0, iv kk1, iv kk2, rv b1, iv 0, iv e1, iv 1, iv v, iv (-1), iv 2, iv qv, iv 2, iv 1, iv 2, iv 0, iv 0, rv b32, rv b47, iv 1, iv 1] [.int 0, .ref b1])) rfl (by rw [hml]; rfl) (Steps.refl _) (argsL := [.int 0]) (rest := []) (lenOf pd_6 rfl) rfl (by show 2 * 0 + _ ≤ _; exact Nat.le_of_eq rfl) (hb hby at_400) (fun _ _ => ⟨rfl, e62, (by decide : 24 + 0 ≤ _), (by decide : 435 + 0 ≤ _)⟩)
      dsimp only [Pt.U, Pt.locs, Pt.cells, Pt.slots] at X65 l65 y65 z65 st65 hQ65
      subst l65 y65 z65
      obtain ⟨h65, e65⟩ : ∃ z, T65.heap = z := ⟨_, rfl⟩
      rw [e65] at hQ65
      obtain ⟨rfl, N65q, p65_0⟩ := hQ65
      have N65 := Fr.app N62 N65q
      rw [p65_0] at e65
      obtain ⟨cl66, Ar66, q66, S66, Ng66, Hh66, Gg66⟩ := id V43
      have st66 := X65.iaload hx (j := (2 : Int32)) (v := (.int p3)) (by rw [e65]; exact Ar66.1) (State.isArrayOf_alike hZ.alike Ar66.2.1) Ar66.2.2 (inb_of S66 (by decide)) (Hh66.at (inb_of S66 (by decide)) rfl) (g := (mkF m 407 #[iv p1, iv p2, iv p3, iv p4, iv p5, iv cp, iv kk0, iv kk1, iv kk2, rv b1, iv 0, iv e1, iv 1, iv v, iv (-1), iv 2, iv qv, iv 2, iv 1, iv 2, iv 0, iv 0, rv b32, rv b47, iv 1, iv 1] [.int 2, .ref b32, .int p3])) rfl rfl (hb hby at_407)
      obtain ⟨cq67, kq67, q67a, q67b, q67c⟩ := isOf hZ e65 A1
      obtain ⟨_, _, ⟨T67, L67, k67, n67⟩, -, X67, ⟨Lc67, hQ67, l67, y67, z67⟩, st67⟩ := X65.virtualBack hx (y := y_12) (z := y_12) hown (mvT hZ (W 77 rfl)) (mvT hZ (W 78 rfl)) (notFace_of_selects (args := #[]) (mvT hZ (W 80 rfl))) (mvT hZ (W 80 rfl)) (mvT hZ (W 79 rfl)) (by decide) (backOf (W := 0) (valu0 l Z a0 hw [] b1 b26li' b26ki' b26n' kk2 p4 (.int p3) (.int (0 : Int32)) (.int (0 : Int32)) (.int (0 : Int32)) (.int (0 : Int32)) h62 n0 O63 p26_5 p26_7 p62_1 p26_34) hZ (W 81 rfl) (W 2 rfl) (by decide) (by decide)) q67a q67c (g := (mkF m 414 #[iv p1, iv p2, iv p3, iv p4, iv p5, iv cp, iv kk0, iv kk1, iv kk2, rv b1, iv 0, iv e1, iv 1, iv v, iv (-1), iv 2, iv qv, iv 2, iv 1, iv 2, iv 0, iv 0, rv b32, rv b47, iv 1, iv 1] [.int 0, .ref b1])) rfl (by rw [hml]; rfl) (Steps.refl _) (argsL := [.int 0]) (rest := []) (lenOf pd_6 rfl) rfl (by show 2 * 0 + _ ≤ _; exact Nat.le_of_eq rfl) (hb hby at_414) (fun _ _ => ⟨rfl, e65, (by decide : 24 + 0 ≤ _), (by decide : 435 + 0 ≤ _)⟩)
      dsimp only [Pt.U, Pt.locs, Pt.cells, Pt.slots] at X67 l67 y67 z67 st67 hQ67
      subst l67 y67 z67
      obtain ⟨h67, e67⟩ : ∃ z, T67.heap = z := ⟨_, rfl⟩
      rw [e67] at hQ67
      obtain ⟨rfl, N67q, p67_0⟩ := hQ67
      have N67 := Fr.app N65 N67q
      rw [p67_0] at e67
      obtain ⟨cl68, Ar68, q68, S68, Ng68, Hh68, Gg68⟩ := id V58
      have st68 := X67.iaload hx (j := (2 : Int32)) (v := (.int kk2)) (by rw [e67]; exact Ar68.1) (State.isArrayOf_alike hZ.alike Ar68.2.1) Ar68.2.2 (inb_of S68 (by decide)) (Hh68.at (inb_of S68 (by decide)) rfl) (g := (mkF m 421 #[iv p1, iv p2, iv p3, iv p4, iv p5, iv cp, iv kk0, iv kk1, iv kk2, rv b1, iv 0, iv e1, iv 1, iv v, iv (-1), iv 2, iv qv, iv 2, iv 1, iv 2, iv 0, iv 0, rv b32, rv b47, iv 1, iv 1] [.int 2, .ref b47, .int (own_ev kk2 p4)])) rfl rfl (hb hby at_421)
      obtain ⟨_, _, ⟨T69, L69, k69, n69⟩, -, X69, ⟨Lc69, hQ69, l69, y69, z69⟩, st69⟩ := Jvm.LawKit.callS X67 hx (y := y_10) hown (mvT hZ (W 86 rfl)) (mvT hZ (W 87 rfl)) (mvT hZ (W 88 rfl)) (mvT hZ (W 89 rfl)) (by decide) (backOf (W := 1) (expval l Z a0 hw [] kk2 p4 h62 n0 O63 ) hZ (W 89 rfl) (W 88 rfl) (by decide) (by decide)) (g := (mkF m 423 #[iv p1, iv p2, iv p3, iv p4, iv p5, iv cp, iv kk0, iv kk1, iv kk2, rv b1, iv 0, iv e1, iv 1, iv v, iv (-1), iv 2, iv qv, iv 2, iv 1, iv 2, iv 0, iv 0, rv b32, rv b47, iv 1, iv 1] [.int p4, .int kk2, .int (own_ev kk2 p4)])) rfl (by rw [hml]; rfl) (argsL := [.int kk2, .int p4]) (rest := [.int (own_ev kk2 p4)]) (lenOf pd_0 rfl) rfl (by show 2 * 0 + _ ≤ _; exact Nat.le_of_eq rfl) (hb hby at_423) (fun _ _ => ⟨rfl, e67, (by decide : 24 + 0 ≤ _), (by decide : 435 + 0 ≤ _)⟩)
      dsimp only [Pt.U, Pt.locs, Pt.cells, Pt.slots] at X69 l69 y69 z69 st69 hQ69
      subst l69 y69 z69
      obtain ⟨h69, e69⟩ : ∃ z, T69.heap = z := ⟨_, rfl⟩
      rw [e69] at hQ69
      obtain ⟨rfl, N69q, p69_0⟩ := hQ69
      have N69 := Fr.app N67 N69q
      rw [p69_0] at e69
      obtain ⟨fs, hr, hrun, hended, hW, hsame⟩ := X69.leave (v := some (.int (1 : Int32))) (fun h => by rw [Bd.returns] at h; cases h)
      refine ⟨_, _, pre31 _ ?_, hrun, hended, _, _, rfl, ?_, ⟨_, rfl⟩, hW, hsame.mono (by decide) (by decide)⟩
      · show Sq p e below m T26 264 #[iv p1, iv p2, iv p3, iv p4, iv p5, iv cp, iv kk0, iv kk1, iv kk2, rv b1, iv 0, iv e1, iv 1, iv v, iv (-1), iv 2, iv qv, iv 2, iv 0, iv 0, iv 0, iv 0, .unset, .unset, .unset, .unset] [] _
        refine XS.iload X26.here hx rfl (hb hby at_264) rfl ?_
        refine XS.iconst X26.here hx rfl (hb hby at_266) ?_
        show Sq p e below m T26 267 #[iv p1, iv p2, iv p3, iv p4, iv p5, iv cp, iv kk0, iv kk1, iv kk2, rv b1, iv 0, iv e1, iv 1, iv v, iv (-1), iv 2, iv qv, iv 2, iv 0, iv 0, iv 0, iv 0, .unset, .unset, .unset, .unset] [.int (-1), .int (-1)] _
        refine XS.icmpNo X26.here hx rfl (hb hby at_267) rfl (teq (rfl : (-1 : Int32) = (-1 : Int32))).2 ?_
        refine XS.iconst X26.here hx rfl (hb hby at_270) ?_
        show Sq p e below m T26 271 #[iv p1, iv p2, iv p3, iv p4, iv p5, iv cp, iv kk0, iv kk1, iv kk2, rv b1, iv 0, iv e1, iv 1, iv v, iv (-1), iv 2, iv qv, iv 2, iv 0, iv 0, iv 0, iv 0, .unset, .unset, .unset, .unset] [.int 1] _
        refine XS.istore X26.here hx rfl (hb hby at_271) rfl rfl ?_
        refine XS.iconst X26.here hx rfl (hb hby at_273) ?_
        show Sq p e below m T26 274 #[iv p1, iv p2, iv p3, iv p4, iv p5, iv cp, iv kk0, iv kk1, iv kk2, rv b1, iv 0, iv e1, iv 1, iv v, iv (-1), iv 2, iv qv, iv 2, iv 1, iv 0, iv 0, iv 0, .unset, .unset, .unset, .unset] [.int 2] _
        refine XS.istore X26.here hx rfl (hb hby at_274) rfl rfl ?_
        refine XS.goto X26.here hx rfl (pc0 := 276) (pc' := 326) rfl (hb hby at_276) (by decide) (by decide) ?_
        show Sq p e below m T26 326 #[iv p1, iv p2, iv p3, iv p4, iv p5, iv cp, iv kk0, iv kk1, iv kk2, rv b1, iv 0, iv e1, iv 1, iv v, iv (-1), iv 2, iv qv, iv 2, iv 1, iv 2, iv 0, iv 0, .unset, .unset, .unset, .unset] [] _
        refine XS.iconst X26.here hx rfl (hb hby at_326) ?_
        show Sq p e below m T26 327 #[iv p1, iv p2, iv p3, iv p4, iv p5, iv cp, iv kk0, iv kk1, iv kk2, rv b1, iv 0, iv e1, iv 1, iv v, iv (-1), iv 2, iv qv, iv 2, iv 1, iv 2, iv 0, iv 0, .unset, .unset, .unset, .unset] [.int 3] _
        refine st32 _ ?_
        show Sq p e below m T32 329 #[iv p1, iv p2, iv p3, iv p4, iv p5, iv cp, iv kk0, iv kk1, iv kk2, rv b1, iv 0, iv e1, iv 1, iv v, iv (-1), iv 2, iv qv, iv 2, iv 1, iv 2, iv 0, iv 0, .unset, .unset, .unset, .unset] [.ref b32] _
        refine XS.dup X32.here hx rfl (hb hby at_329) rfl rfl ?_
        refine XS.iconst X32.here hx rfl (hb hby at_330) ?_
        show Sq p e below m T32 331 #[iv p1, iv p2, iv p3, iv p4, iv p5, iv cp, iv kk0, iv kk1, iv kk2, rv b1, iv 0, iv e1, iv 1, iv v, iv (-1), iv 2, iv qv, iv 2, iv 1, iv 2, iv 0, iv 0, .unset, .unset, .unset, .unset] [.int 0, .ref b32, .ref b32] _
        refine XS.iloadN X32.here hx rfl (hb hby at_331) rfl ?_
        show Sq p e below m T32 332 #[iv p1, iv p2, iv p3, iv p4, iv p5, iv cp, iv kk0, iv kk1, iv kk2, rv b1, iv 0, iv e1, iv 1, iv v, iv (-1), iv 2, iv qv, iv 2, iv 1, iv 2, iv 0, iv 0, .unset, .unset, .unset, .unset] [.int p1, .int 0, .ref b32, .ref b32] _
        refine st35 _ ?_
        show Sq p e below m T35 333 #[iv p1, iv p2, iv p3, iv p4, iv p5, iv cp, iv kk0, iv kk1, iv kk2, rv b1, iv 0, iv e1, iv 1, iv v, iv (-1), iv 2, iv qv, iv 2, iv 1, iv 2, iv 0, iv 0, .unset, .unset, .unset, .unset] [.ref b32] _
        refine XS.dup X35.here hx rfl (hb hby at_333) rfl rfl ?_
        refine XS.iconst X35.here hx rfl (hb hby at_334) ?_
        show Sq p e below m T35 335 #[iv p1, iv p2, iv p3, iv p4, iv p5, iv cp, iv kk0, iv kk1, iv kk2, rv b1, iv 0, iv e1, iv 1, iv v, iv (-1), iv 2, iv qv, iv 2, iv 1, iv 2, iv 0, iv 0, .unset, .unset, .unset, .unset] [.int 1, .ref b32, .ref b32] _
        refine XS.iloadN X35.here hx rfl (hb hby at_335) rfl ?_
        show Sq p e below m T35 336 #[iv p1, iv p2, iv p3, iv p4, iv p5, iv cp, iv kk0, iv kk1, iv kk2, rv b1, iv 0, iv e1, iv 1, iv v, iv (-1), iv 2, iv qv, iv 2, iv 1, iv 2, iv 0, iv 0, .unset, .unset, .unset, .unset] [.int p2, .int 1, .ref b32, .ref b32] _
        refine st39 _ ?_
        show Sq p e below m T39 337 #[iv p1, iv p2, iv p3, iv p4, iv p5, iv cp, iv kk0, iv kk1, iv kk2, rv b1, iv 0, iv e1, iv 1, iv v, iv (-1), iv 2, iv qv, iv 2, iv 1, iv 2, iv 0, iv 0, .unset, .unset, .unset, .unset] [.ref b32] _
        refine XS.dup X39.here hx rfl (hb hby at_337) rfl rfl ?_
        refine XS.iconst X39.here hx rfl (hb hby at_338) ?_
        show Sq p e below m T39 339 #[iv p1, iv p2, iv p3, iv p4, iv p5, iv cp, iv kk0, iv kk1, iv kk2, rv b1, iv 0, iv e1, iv 1, iv v, iv (-1), iv 2, iv qv, iv 2, iv 1, iv 2, iv 0, iv 0, .unset, .unset, .unset, .unset] [.int 2, .ref b32, .ref b32] _
        refine XS.iloadN X39.here hx rfl (hb hby at_339) rfl ?_
        show Sq p e below m T39 340 #[iv p1, iv p2, iv p3, iv p4, iv p5, iv cp, iv kk0, iv kk1, iv kk2, rv b1, iv 0, iv e1, iv 1, iv v, iv (-1), iv 2, iv qv, iv 2, iv 1, iv 2, iv 0, iv 0, .unset, .unset, .unset, .unset] [.int p3, .int 2, .ref b32, .ref b32] _
        refine st43 _ ?_
        show Sq p e below m T43 341 #[iv p1, iv p2, iv p3, iv p4, iv p5, iv cp, iv kk0, iv kk1, iv kk2, rv b1, iv 0, iv e1, iv 1, iv v, iv (-1), iv 2, iv qv, iv 2, iv 1, iv 2, iv 0, iv 0, .unset, .unset, .unset, .unset] [.ref b32] _
        refine XS.astore X43.here hx rfl (hb hby at_341) rfl rfl rfl ?_
        refine XS.iconst X43.here hx rfl (hb hby at_343) ?_
        show Sq p e below m T43 344 #[iv p1, iv p2, iv p3, iv p4, iv p5, iv cp, iv kk0, iv kk1, iv kk2, rv b1, iv 0, iv e1, iv 1, iv v, iv (-1), iv 2, iv qv, iv 2, iv 1, iv 2, iv 0, iv 0, rv b32, .unset, .unset, .unset] [.int 3] _
        refine st47 _ ?_
        show Sq p e below m T47 346 #[iv p1, iv p2, iv p3, iv p4, iv p5, iv cp, iv kk0, iv kk1, iv kk2, rv b1, iv 0, iv e1, iv 1, iv v, iv (-1), iv 2, iv qv, iv 2, iv 1, iv 2, iv 0, iv 0, rv b32, .unset, .unset, .unset] [.ref b47] _
        refine XS.dup X47.here hx rfl (hb hby at_346) rfl rfl ?_
        refine XS.iconst X47.here hx rfl (hb hby at_347) ?_
        show Sq p e below m T47 348 #[iv p1, iv p2, iv p3, iv p4, iv p5, iv cp, iv kk0, iv kk1, iv kk2, rv b1, iv 0, iv e1, iv 1, iv v, iv (-1), iv 2, iv qv, iv 2, iv 1, iv 2, iv 0, iv 0, rv b32, .unset, .unset, .unset] [.int 0, .ref b47, .ref b47] _
        refine XS.iload X47.here hx rfl (hb hby at_348) rfl ?_
        show Sq p e below m T47 350 #[iv p1, iv p2, iv p3, iv p4, iv p5, iv cp, iv kk0, iv kk1, iv kk2, rv b1, iv 0, iv e1, iv 1, iv v, iv (-1), iv 2, iv qv, iv 2, iv 1, iv 2, iv 0, iv 0, rv b32, .unset, .unset, .unset] [.int kk0, .int 0, .ref b47, .ref b47] _
        refine st50 _ ?_
        show Sq p e below m T50 351 #[iv p1, iv p2, iv p3, iv p4, iv p5, iv cp, iv kk0, iv kk1, iv kk2, rv b1, iv 0, iv e1, iv 1, iv v, iv (-1), iv 2, iv qv, iv 2, iv 1, iv 2, iv 0, iv 0, rv b32, .unset, .unset, .unset] [.ref b47] _
        refine XS.dup X50.here hx rfl (hb hby at_351) rfl rfl ?_
        refine XS.iconst X50.here hx rfl (hb hby at_352) ?_
        show Sq p e below m T50 353 #[iv p1, iv p2, iv p3, iv p4, iv p5, iv cp, iv kk0, iv kk1, iv kk2, rv b1, iv 0, iv e1, iv 1, iv v, iv (-1), iv 2, iv qv, iv 2, iv 1, iv 2, iv 0, iv 0, rv b32, .unset, .unset, .unset] [.int 1, .ref b47, .ref b47] _
        refine XS.iload X50.here hx rfl (hb hby at_353) rfl ?_
        show Sq p e below m T50 355 #[iv p1, iv p2, iv p3, iv p4, iv p5, iv cp, iv kk0, iv kk1, iv kk2, rv b1, iv 0, iv e1, iv 1, iv v, iv (-1), iv 2, iv qv, iv 2, iv 1, iv 2, iv 0, iv 0, rv b32, .unset, .unset, .unset] [.int kk1, .int 1, .ref b47, .ref b47] _
        refine st54 _ ?_
        show Sq p e below m T54 356 #[iv p1, iv p2, iv p3, iv p4, iv p5, iv cp, iv kk0, iv kk1, iv kk2, rv b1, iv 0, iv e1, iv 1, iv v, iv (-1), iv 2, iv qv, iv 2, iv 1, iv 2, iv 0, iv 0, rv b32, .unset, .unset, .unset] [.ref b47] _
        refine XS.dup X54.here hx rfl (hb hby at_356) rfl rfl ?_
        refine XS.iconst X54.here hx rfl (hb hby at_357) ?_
        show Sq p e below m T54 358 #[iv p1, iv p2, iv p3, iv p4, iv p5, iv cp, iv kk0, iv kk1, iv kk2, rv b1, iv 0, iv e1, iv 1, iv v, iv (-1), iv 2, iv qv, iv 2, iv 1, iv 2, iv 0, iv 0, rv b32, .unset, .unset, .unset] [.int 2, .ref b47, .ref b47] _
        refine XS.iload X54.here hx rfl (hb hby at_358) rfl ?_
        show Sq p e below m T54 360 #[iv p1, iv p2, iv p3, iv p4, iv p5, iv cp, iv kk0, iv kk1, iv kk2, rv b1, iv 0, iv e1, iv 1, iv v, iv (-1), iv 2, iv qv, iv 2, iv 1, iv 2, iv 0, iv 0, rv b32, .unset, .unset, .unset] [.int kk2, .int 2, .ref b47, .ref b47] _
        refine st58 _ ?_
        show Sq p e below m T58 361 #[iv p1, iv p2, iv p3, iv p4, iv p5, iv cp, iv kk0, iv kk1, iv kk2, rv b1, iv 0, iv e1, iv 1, iv v, iv (-1), iv 2, iv qv, iv 2, iv 1, iv 2, iv 0, iv 0, rv b32, .unset, .unset, .unset] [.ref b47] _
        refine XS.astore X58.here hx rfl (hb hby at_361) rfl rfl rfl ?_
        refine XS.aload X58.here hx rfl (hb hby at_363) rfl rfl ?_
        show Sq p e below m T58 365 #[iv p1, iv p2, iv p3, iv p4, iv p5, iv cp, iv kk0, iv kk1, iv kk2, rv b1, iv 0, iv e1, iv 1, iv v, iv (-1), iv 2, iv qv, iv 2, iv 1, iv 2, iv 0, iv 0, rv b32, rv b47, .unset, .unset] [.ref b1] _
        refine XS.iload X58.here hx rfl (hb hby at_365) rfl ?_
        show Sq p e below m T58 367 #[iv p1, iv p2, iv p3, iv p4, iv p5, iv cp, iv kk0, iv kk1, iv kk2, rv b1, iv 0, iv e1, iv 1, iv v, iv (-1), iv 2, iv qv, iv 2, iv 1, iv 2, iv 0, iv 0, rv b32, rv b47, .unset, .unset] [.int 2, .ref b1] _
        refine st62.trans ?_
        show Sq p e below m T62 370 #[iv p1, iv p2, iv p3, iv p4, iv p5, iv cp, iv kk0, iv kk1, iv kk2, rv b1, iv 0, iv e1, iv 1, iv v, iv (-1), iv 2, iv qv, iv 2, iv 1, iv 2, iv 0, iv 0, rv b32, rv b47, .unset, .unset] [.int 1] _
        refine XS.istore X62.here hx rfl (hb hby at_370) rfl rfl ?_
        refine XS.iload X62.here hx rfl (hb hby at_372) rfl ?_
        show Sq p e below m T62 374 #[iv p1, iv p2, iv p3, iv p4, iv p5, iv cp, iv kk0, iv kk1, iv kk2, rv b1, iv 0, iv e1, iv 1, iv v, iv (-1), iv 2, iv qv, iv 2, iv 1, iv 2, iv 0, iv 0, rv b32, rv b47, iv 1, .unset] [.int 1] _
        refine XS.iload X62.here hx rfl (hb hby at_374) rfl ?_
        refine XS.icmpNo X62.here hx rfl (hb hby at_376) rfl (teq (rfl : (1 : Int32) = (1 : Int32))).2 ?_
        show Sq p e below m T62 379 #[iv p1, iv p2, iv p3, iv p4, iv p5, iv cp, iv kk0, iv kk1, iv kk2, rv b1, iv 0, iv e1, iv 1, iv v, iv (-1), iv 2, iv qv, iv 2, iv 1, iv 2, iv 0, iv 0, rv b32, rv b47, iv 1, .unset] [] _
        refine XS.iconst X62.here hx rfl (hb hby at_379) ?_
        refine XS.goto X62.here hx rfl (pc0 := 380) (pc' := 384) rfl (hb hby at_380) (by decide) (by decide) ?_
        show Sq p e below m T62 384 #[iv p1, iv p2, iv p3, iv p4, iv p5, iv cp, iv kk0, iv kk1, iv kk2, rv b1, iv 0, iv e1, iv 1, iv v, iv (-1), iv 2, iv qv, iv 2, iv 1, iv 2, iv 0, iv 0, rv b32, rv b47, iv 1, .unset] [.int 1] _
        refine XS.istore X62.here hx rfl (hb hby at_384) rfl rfl ?_
        refine XS.iload X62.here hx rfl (hb hby at_386) rfl ?_
        show Sq p e below m T62 388 #[iv p1, iv p2, iv p3, iv p4, iv p5, iv cp, iv kk0, iv kk1, iv kk2, rv b1, iv 0, iv e1, iv 1, iv v, iv (-1), iv 2, iv qv, iv 2, iv 1, iv 2, iv 0, iv 0, rv b32, rv b47, iv 1, iv 1] [.int 1] _
        refine XS.ifNo X62.here hx rfl (hb hby at_388) rfl ((if0 _ _).trans (feq (by decide)).1) ?_
        refine XS.iload X62.here hx rfl (hb hby at_391) rfl ?_
        show Sq p e below m T62 393 #[iv p1, iv p2, iv p3, iv p4, iv p5, iv cp, iv kk0, iv kk1, iv kk2, rv b1, iv 0, iv e1, iv 1, iv v, iv (-1), iv 2, iv qv, iv 2, iv 1, iv 2, iv 0, iv 0, rv b32, rv b47, iv 1, iv 1] [.int 1] _
        refine XS.iconst X62.here hx rfl (hb hby at_393) ?_
        refine XS.icmpNo X62.here hx rfl (hb hby at_394) rfl (flt (by decide)).1 ?_
        show Sq p e below m T62 397 #[iv p1, iv p2, iv p3, iv p4, iv p5, iv cp, iv kk0, iv kk1, iv kk2, rv b1, iv 0, iv e1, iv 1, iv v, iv (-1), iv 2, iv qv, iv 2, iv 1, iv 2, iv 0, iv 0, rv b32, rv b47, iv 1, iv 1] [] _
        refine XS.aload X62.here hx rfl (hb hby at_397) rfl rfl ?_
        refine XS.iconst X62.here hx rfl (hb hby at_399) ?_
        show Sq p e below m T62 400 #[iv p1, iv p2, iv p3, iv p4, iv p5, iv cp, iv kk0, iv kk1, iv kk2, rv b1, iv 0, iv e1, iv 1, iv v, iv (-1), iv 2, iv qv, iv 2, iv 1, iv 2, iv 0, iv 0, rv b32, rv b47, iv 1, iv 1] [.int 0, .ref b1] _
        refine st65.trans ?_
        show Sq p e below m T65 403 #[iv p1, iv p2, iv p3, iv p4, iv p5, iv cp, iv kk0, iv kk1, iv kk2, rv b1, iv 0, iv e1, iv 1, iv v, iv (-1), iv 2, iv qv, iv 2, iv 1, iv 2, iv 0, iv 0, rv b32, rv b47, iv 1, iv 1] [.int p3] _
        refine XS.aload X65.here hx rfl (hb hby at_403) rfl rfl ?_
        refine XS.iload X65.here hx rfl (hb hby at_405) rfl ?_
        show Sq p e below m T65 407 #[iv p1, iv p2, iv p3, iv p4, iv p5, iv cp, iv kk0, iv kk1, iv kk2, rv b1, iv 0, iv e1, iv 1, iv v, iv (-1), iv 2, iv qv, iv 2, iv 1, iv 2, iv 0, iv 0, rv b32, rv b47, iv 1, iv 1] [.int 2, .ref b32, .int p3] _
        refine st66 _ ?_
        show Sq p e below m T65 408 #[iv p1, iv p2, iv p3, iv p4, iv p5, iv cp, iv kk0, iv kk1, iv kk2, rv b1, iv 0, iv e1, iv 1, iv v, iv (-1), iv 2, iv qv, iv 2, iv 1, iv 2, iv 0, iv 0, rv b32, rv b47, iv 1, iv 1] [.int p3, .int p3] _
        refine XS.icmpNo X65.here hx rfl (hb hby at_408) rfl (teq (rfl : p3 = p3)).2 ?_
        refine XS.aload X65.here hx rfl (hb hby at_411) rfl rfl ?_
        show Sq p e below m T65 413 #[iv p1, iv p2, iv p3, iv p4, iv p5, iv cp, iv kk0, iv kk1, iv kk2, rv b1, iv 0, iv e1, iv 1, iv v, iv (-1), iv 2, iv qv, iv 2, iv 1, iv 2, iv 0, iv 0, rv b32, rv b47, iv 1, iv 1] [.ref b1] _
        refine XS.iconst X65.here hx rfl (hb hby at_413) ?_
        show Sq p e below m T65 414 #[iv p1, iv p2, iv p3, iv p4, iv p5, iv cp, iv kk0, iv kk1, iv kk2, rv b1, iv 0, iv e1, iv 1, iv v, iv (-1), iv 2, iv qv, iv 2, iv 1, iv 2, iv 0, iv 0, rv b32, rv b47, iv 1, iv 1] [.int 0, .ref b1] _
        refine st67.trans ?_
        show Sq p e below m T67 417 #[iv p1, iv p2, iv p3, iv p4, iv p5, iv cp, iv kk0, iv kk1, iv kk2, rv b1, iv 0, iv e1, iv 1, iv v, iv (-1), iv 2, iv qv, iv 2, iv 1, iv 2, iv 0, iv 0, rv b32, rv b47, iv 1, iv 1] [.int (own_ev kk2 p4)] _
        refine XS.aload X67.here hx rfl (hb hby at_417) rfl rfl ?_
        refine XS.iload X67.here hx rfl (hb hby at_419) rfl ?_
        show Sq p e below m T67 421 #[iv p1, iv p2, iv p3, iv p4, iv p5, iv cp, iv kk0, iv kk1, iv kk2, rv b1, iv 0, iv e1, iv 1, iv v, iv (-1), iv 2, iv qv, iv 2, iv 1, iv 2, iv 0, iv 0, rv b32, rv b47, iv 1, iv 1] [.int 2, .ref b47, .int (own_ev kk2 p4)] _
        refine st68 _ ?_
        show Sq p e below m T67 422 #[iv p1, iv p2, iv p3, iv p4, iv p5, iv cp, iv kk0, iv kk1, iv kk2, rv b1, iv 0, iv e1, iv 1, iv v, iv (-1), iv 2, iv qv, iv 2, iv 1, iv 2, iv 0, iv 0, rv b32, rv b47, iv 1, iv 1] [.int kk2, .int (own_ev kk2 p4)] _
        refine XS.iloadN X67.here hx rfl (hb hby at_422) rfl ?_
        show Sq p e below m T67 423 #[iv p1, iv p2, iv p3, iv p4, iv p5, iv cp, iv kk0, iv kk1, iv kk2, rv b1, iv 0, iv e1, iv 1, iv v, iv (-1), iv 2, iv qv, iv 2, iv 1, iv 2, iv 0, iv 0, rv b32, rv b47, iv 1, iv 1] [.int p4, .int kk2, .int (own_ev kk2 p4)] _
        refine st69 _ ?_
        show Sq p e below m T69 426 #[iv p1, iv p2, iv p3, iv p4, iv p5, iv cp, iv kk0, iv kk1, iv kk2, rv b1, iv 0, iv e1, iv 1, iv v, iv (-1), iv 2, iv qv, iv 2, iv 1, iv 2, iv 0, iv 0, rv b32, rv b47, iv 1, iv 1] [.int (own_ev kk2 p4), .int (own_ev kk2 p4)] _
        refine XS.icmpNo X69.here hx rfl (hb hby at_426) rfl (teq (rfl : (own_ev kk2 p4) = (own_ev kk2 p4))).2 ?_
        refine XS.iconst X69.here hx rfl (hb hby at_429) ?_
        show Sq p e below m T69 430 #[iv p1, iv p2, iv p3, iv p4, iv p5, iv cp, iv kk0, iv kk1, iv kk2, rv b1, iv 0, iv e1, iv 1, iv v, iv (-1), iv 2, iv qv, iv 2, iv 1, iv 2, iv 0, iv 0, rv b32, rv b47, iv 1, iv 1] [.int 1] _
        refine XS.goto X69.here hx rfl (pc0 := 430) (pc' := 434) rfl (hb hby at_430) (by decide) (by decide) ?_
        refine XS.istore X69.here hx rfl (hb hby at_434) rfl rfl ?_
        show Sq p e below m T69 436 #[iv p1, iv p2, iv p3, iv p4, iv p5, iv cp, iv kk0, iv kk1, iv kk2, rv b1, iv 0, iv e1, iv 1, iv v, iv (-1), iv 2, iv qv, iv 2, iv 1, iv 2, iv 0, iv 0, rv b32, rv b47, iv 1, iv 1] [] _
        refine XS.iload X69.here hx rfl (hb hby at_436) rfl ?_
        refine XS.ifNo X69.here hx rfl (hb hby at_438) rfl ((if0 _ _).trans (feq (by decide)).1) ?_
        show Sq p e below m T69 441 #[iv p1, iv p2, iv p3, iv p4, iv p5, iv cp, iv kk0, iv kk1, iv kk2, rv b1, iv 0, iv e1, iv 1, iv v, iv (-1), iv 2, iv qv, iv 2, iv 1, iv 2, iv 0, iv 0, rv b32, rv b47, iv 1, iv 1] [] _
        refine XS.iload X69.here hx rfl (hb hby at_441) rfl ?_
        refine XS.iconst X69.here hx rfl (hb hby at_443) ?_
        show Sq p e below m T69 444 #[iv p1, iv p2, iv p3, iv p4, iv p5, iv cp, iv kk0, iv kk1, iv kk2, rv b1, iv 0, iv e1, iv 1, iv v, iv (-1), iv 2, iv qv, iv 2, iv 1, iv 2, iv 0, iv 0, rv b32, rv b47, iv 1, iv 1] [.int 2, .int 1] _
        refine XS.icmpYes X69.here hx rfl (pc0 := 444) (pc' := 486) rfl (hb hby at_444) rfl (tlt (by decide)).1 (by decide) (by decide) ?_
        refine XS.iload X69.here hx rfl (hb hby at_486) rfl ?_
        show Sq p e below m T69 488 #[iv p1, iv p2, iv p3, iv p4, iv p5, iv cp, iv kk0, iv kk1, iv kk2, rv b1, iv 0, iv e1, iv 1, iv v, iv (-1), iv 2, iv qv, iv 2, iv 1, iv 2, iv 0, iv 0, rv b32, rv b47, iv 1, iv 1] [.int 1] _
        refine XS.ifNo X69.here hx rfl (hb hby at_488) rfl ((if0 _ _).trans (feq (by decide)).1) ?_
        refine XS.iload X69.here hx rfl (hb hby at_491) rfl ?_
        show Sq p e below m T69 493 #[iv p1, iv p2, iv p3, iv p4, iv p5, iv cp, iv kk0, iv kk1, iv kk2, rv b1, iv 0, iv e1, iv 1, iv v, iv (-1), iv 2, iv qv, iv 2, iv 1, iv 2, iv 0, iv 0, rv b32, rv b47, iv 1, iv 1] [.int 1] _
        refine XS.iconst X69.here hx rfl (hb hby at_493) ?_
        refine XS.icmpYes X69.here hx rfl (pc0 := 494) (pc' := 536) rfl (hb hby at_494) rfl (tlt (by decide)).1 (by decide) (by decide) ?_
        show Sq p e below m T69 536 #[iv p1, iv p2, iv p3, iv p4, iv p5, iv cp, iv kk0, iv kk1, iv kk2, rv b1, iv 0, iv e1, iv 1, iv v, iv (-1), iv 2, iv qv, iv 2, iv 1, iv 2, iv 0, iv 0, rv b32, rv b47, iv 1, iv 1] [] _
        refine XS.iload X69.here hx rfl (hb hby at_536) rfl ?_
        show Sq p e below m T69 538 #[iv p1, iv p2, iv p3, iv p4, iv p5, iv cp, iv kk0, iv kk1, iv kk2, rv b1, iv 0, iv e1, iv 1, iv v, iv (-1), iv 2, iv qv, iv 2, iv 1, iv 2, iv 0, iv 0, rv b32, rv b47, iv 1, iv 1] [.int 1] _
        exact retN X69 hx (t := .boolean) Bd.returns (by simp) (hb hby at_538) hr
      · show Q_rm0 Z p1 p2 p3 p4 p5 cp kk0 kk1 kk2 v qv w_MIR h0 n0 _ T69.heap _
        rw [e69]
        exact ⟨rfl, N69⟩
    · obtain ⟨T32, h32, k32, X32, e32, E32, A32, A32x, st32⟩ := newPE X26 hx hZ (W 9 rfl) e26 (g := (mkF m 327 #[iv p1, iv p2, iv p3, iv p4, iv p5, iv cp, iv kk0, iv kk1, iv kk2, rv b1, iv 0, iv e1, iv 1, iv v, iv 0, iv 2, iv qv, iv 2, iv 2, iv 0, iv 2, iv 0, .unset, .unset, .unset, .unset] [.int 3])) rfl (hb hby at_327) rfl (by decide) (cap := 3) (by decide) (by decide) (by decide) (by decide) (ad := "[I") (by decide)
      obtain ⟨b32, g32⟩ : ∃ z, z = h26.size := ⟨_, rfl⟩
      rw [← g32] at A32 A32x st32
      have g_b32 : n0 ≤ b32 := Nat.le_trans (own_sz O27) (Nat.le_of_eq g32.symm)
      have ne_b1_b32 : b1 ≠ b32 := Nat.ne_of_lt (Nat.lt_of_lt_of_le A1.lt (Nat.le_of_eq g32.symm))
      have ne_b26lo__b32 : b26lo' ≠ b32 := Nat.ne_of_lt (Nat.lt_of_lt_of_le p26_8.lt (Nat.le_of_eq g32.symm))
      have ne_b26ea__b32 : b26ea' ≠ b32 := Nat.ne_of_lt (Nat.lt_of_lt_of_le p26_9.lt (Nat.le_of_eq g32.symm))
      have ne_b26li__b32 : b26li' ≠ b32 := Nat.ne_of_lt (Nat.lt_of_lt_of_le p26_12.lt (Nat.le_of_eq g32.symm))
      have A1 := A1.ext E32
      have p26_1 := p26_1.ext E32
      have p26_2 := p26_2.ext E32
      have p26_5 := p26_5.ext E32
      have p26_7 := p26_7.ext E32
      have p26_8 := p26_8.ext E32
      have p26_9 := p26_9.ext E32
      have p26_12 := p26_12.ext E32
      have O33 := O27.ext E32
      have V32 : Arv Z h32 b32 k32 .int (3 : Int32) [(.int (0 : Int32)), (.int (0 : Int32)), (.int (0 : Int32))] (.int (0 : Int32)) := (Arv.new A32 (by decide)).pad (pad_rep [] (.int (0 : Int32)) 3)
      obtain ⟨cl35, Ar35, q35, S35, Ng35, Hh35, Gg35⟩ := id V32
      obtain ⟨T35, h35, X35, e35, W35, st35⟩ := stI X32 hx hZ e32 Ar35 (j := (0 : Int32)) (inb_of S35 (by decide)) (g := (mkF m 332 #[iv p1, iv p2, iv p3, iv p4, iv p5, iv cp, iv kk0, iv kk1, iv kk2, rv b1, iv 0, iv e1, iv 1, iv v, iv 0, iv 2, iv qv, iv 2, iv 2, iv 0, iv 2, iv 0, .unset, .unset, .unset, .unset] [.int p1, .int 0, .ref b32, .ref b32])) rfl rfl (hb hby at_332)
      have V35 : Arv Z h35 b32 k32 .int (3 : Int32) [(.int p1), (.int (0 : Int32)), (.int (0 : Int32))] (.int (0 : Int32)) := Arv.set Ar35 q35 S35 Ng35 Hh35 Gg35 rfl W35 0 rfl (Nat.le_of_ble_eq_true rfl)
      have A1 := A1.wr W35
      have p26_1 := p26_1.other W35 (Or.inl ne_b1_b32)
      have p26_2 := p26_2.other W35 (Or.inl ne_b1_b32)
      have p26_5 := p26_5.other W35 (Or.inl ne_b1_b32)
      have p26_7 := p26_7.other W35 (Or.inl ne_b1_b32)
      have p26_8 := p26_8.other W35 ne_b26lo__b32
      have p26_9 := p26_9.other W35 ne_b26ea__b32
      have p26_12 := p26_12.other W35 ne_b26li__b32
      have A32x := A32x.wr W35
      have O36 := O33.wr W35 g_b32
      have N38 := Fr.snoc X35 N26 g_b32
      obtain ⟨cl39, Ar39, q39, S39, Ng39, Hh39, Gg39⟩ := id V35
      obtain ⟨T39, h39, X39, e39, W39, st39⟩ := stI X35 hx hZ e35 Ar39 (j := (1 : Int32)) (inb_of S39 (by decide)) (g := (mkF m 336 #[iv p1, iv p2, iv p3, iv p4, iv p5, iv cp, iv kk0, iv kk1, iv kk2, rv b1, iv 0, iv e1, iv 1, iv v, iv 0, iv 2, iv qv, iv 2, iv 2, iv 0, iv 2, iv 0, .unset, .unset, .unset, .unset] [.int p2, .int 1, .ref b32, .ref b32])) rfl rfl (hb hby at_336)
      have V39 : Arv Z h39 b32 k32 .int (3 : Int32) [(.int p1), (.int p2), (.int (0 : Int32))] (.int (0 : Int32)) := Arv.set Ar39 q39 S39 Ng39 Hh39 Gg39 rfl W39 1 rfl (Nat.le_of_ble_eq_true rfl)
      have A1 := A1.wr W39
      have p26_1 := p26_1.other W39 (Or.inl ne_b1_b32)
      have p26_2 := p26_2.other W39 (Or.inl ne_b1_b32)
      have p26_5 := p26_5.other W39 (Or.inl ne_b1_b32)
      have p26_7 := p26_7.other W39 (Or.inl ne_b1_b32)
      have p26_8 := p26_8.other W39 ne_b26lo__b32
      have p26_9 := p26_9.other W39 ne_b26ea__b32
      have p26_12 := p26_12.other W39 ne_b26li__b32
      have A32x := A32x.wr W39
      have O40 := O36.wr W39 g_b32
      have N42 := Fr.snoc X39 N38 g_b32
      obtain ⟨cl43, Ar43, q43, S43, Ng43, Hh43, Gg43⟩ := id V39
      obtain ⟨T43, h43, X43, e43, W43, st43⟩ := stI X39 hx hZ e39 Ar43 (j := (2 : Int32)) (inb_of S43 (by decide)) (g := (mkF m 340 #[iv p1, iv p2, iv p3, iv p4, iv p5, iv cp, iv kk0, iv kk1, iv kk2, rv b1, iv 0, iv e1, iv 1, iv v, iv 0, iv 2, iv qv, iv 2, iv 2, iv 0, iv 2, iv 0, .unset, .unset, .unset, .unset] [.int p3, .int 2, .ref b32, .ref b32])) rfl rfl (hb hby at_340)
      have V43 : Arv Z h43 b32 k32 .int (3 : Int32) [(.int p1), (.int p2), (.int p3)] (.int (0 : Int32)) := Arv.set Ar43 q43 S43 Ng43 Hh43 Gg43 rfl W43 2 rfl (Nat.le_of_ble_eq_true rfl)
      have A1 := A1.wr W43
      have p26_1 := p26_1.other W43 (Or.inl ne_b1_b32)
      have p26_2 := p26_2.other W43 (Or.inl ne_b1_b32)
      have p26_5 := p26_5.other W43 (Or.inl ne_b1_b32)
      have p26_7 := p26_7.other W43 (Or.inl ne_b1_b32)
      have p26_8 := p26_8.other W43 ne_b26lo__b32
      have p26_9 := p26_9.other W43 ne_b26ea__b32
      have p26_12 := p26_12.other W43 ne_b26li__b32
      have A32x := A32x.wr W43
      have O44 := O40.wr W43 g_b32
      have N46 := Fr.snoc X43 N42 g_b32
      obtain ⟨T47, h47, k47, X47, e47, E47, A47, A47x, st47⟩ := newPE X43 hx hZ (W 9 rfl) e43 (g := (mkF m 344 #[iv p1, iv p2, iv p3, iv p4, iv p5, iv cp, iv kk0, iv kk1, iv kk2, rv b1, iv 0, iv e1, iv 1, iv v, iv 0, iv 2, iv qv, iv 2, iv 2, iv 0, iv 2, iv 0, rv b32, .unset, .unset, .unset] [.int 3])) rfl (hb hby at_344) rfl (by decide) (cap := 3) (by decide) (by decide) (by decide) (by decide) (ad := "[I") (by decide)
      obtain ⟨b47, g47⟩ : ∃ z, z = h43.size := ⟨_, rfl⟩
      rw [← g47] at A47 A47x st47
      have g_b47 : n0 ≤ b47 := Nat.le_trans (own_sz O44) (Nat.le_of_eq g47.symm)
      have ne_b1_b47 : b1 ≠ b47 := Nat.ne_of_lt (Nat.lt_of_lt_of_le A1.lt (Nat.le_of_eq g47.symm))
      have ne_b26lo__b47 : b26lo' ≠ b47 := Nat.ne_of_lt (Nat.lt_of_lt_of_le p26_8.lt (Nat.le_of_eq g47.symm))
      have ne_b26ea__b47 : b26ea' ≠ b47 := Nat.ne_of_lt (Nat.lt_of_lt_of_le p26_9.lt (Nat.le_of_eq g47.symm))
      have ne_b26li__b47 : b26li' ≠ b47 := Nat.ne_of_lt (Nat.lt_of_lt_of_le p26_12.lt (Nat.le_of_eq g47.symm))
      have ne_b32_b47 : b32 ≠ b47 := Nat.ne_of_lt (Nat.lt_of_lt_of_le A32x.lt (Nat.le_of_eq g47.symm))
      have A1 := A1.ext E47
      have p26_1 := p26_1.ext E47
      have p26_2 := p26_2.ext E47
      have p26_5 := p26_5.ext E47
      have p26_7 := p26_7.ext E47
      have p26_8 := p26_8.ext E47
      have p26_9 := p26_9.ext E47
      have p26_12 := p26_12.ext E47
      have V43 := V43.ext E47
      have O48 := O44.ext E47
      have V47 : Arv Z h47 b47 k47 .int (3 : Int32) [(.int (0 : Int32)), (.int (0 : Int32)), (.int (0 : Int32))] (.int (0 : Int32)) := (Arv.new A47 (by decide)).pad (pad_rep [] (.int (0 : Int32)) 3)
      obtain ⟨cl50, Ar50, q50, S50, Ng50, Hh50, Gg50⟩ := id V47
      obtain ⟨T50, h50, X50, e50, W50, st50⟩ := stI X47 hx hZ e47 Ar50 (j := (0 : Int32)) (inb_of S50 (by decide)) (g := (mkF m 350 #[iv p1, iv p2, iv p3, iv p4, iv p5, iv cp, iv kk0, iv kk1, iv kk2, rv b1, iv 0, iv e1, iv 1, iv v, iv 0, iv 2, iv qv, iv 2, iv 2, iv 0, iv 2, iv 0, rv b32, .unset, .unset, .unset] [.int kk0, .int 0, .ref b47, .ref b47])) rfl rfl (hb hby at_350)
      have V50 : Arv Z h50 b47 k47 .int (3 : Int32) [(.int kk0), (.int (0 : Int32)), (.int (0 : Int32))] (.int (0 : Int32)) := Arv.set Ar50 q50 S50 Ng50 Hh50 Gg50 rfl W50 0 rfl (Nat.le_of_ble_eq_true rfl)
      have A1 := A1.wr W50
      have p26_1 := p26_1.other W50 (Or.inl ne_b1_b47)
      have p26_2 := p26_2.other W50 (Or.inl ne_b1_b47)
      have p26_5 := p26_5.other W50 (Or.inl ne_b1_b47)
      have p26_7 := p26_7.other W50 (Or.inl ne_b1_b47)
      have p26_8 := p26_8.other W50 ne_b26lo__b47
      have p26_9 := p26_9.other W50 ne_b26ea__b47
      have p26_12 := p26_12.other W50 ne_b26li__b47
      have V43 := V43.other W50 ne_b32_b47
      have O51 := O48.wr W50 g_b47
      have N53 := Fr.snoc X50 N46 g_b47
      obtain ⟨cl54, Ar54, q54, S54, Ng54, Hh54, Gg54⟩ := id V50
      obtain ⟨T54, h54, X54, e54, W54, st54⟩ := stI X50 hx hZ e50 Ar54 (j := (1 : Int32)) (inb_of S54 (by decide)) (g := (mkF m 355 #[iv p1, iv p2, iv p3, iv p4, iv p5, iv cp, iv kk0, iv kk1, iv kk2, rv b1, iv 0, iv e1, iv 1, iv v, iv 0, iv 2, iv qv, iv 2, iv 2, iv 0, iv 2, iv 0, rv b32, .unset, .unset, .unset] [.int kk1, .int 1, .ref b47, .ref b47])) rfl rfl (hb hby at_355)
      have V54 : Arv Z h54 b47 k47 .int (3 : Int32) [(.int kk0), (.int kk1), (.int (0 : Int32))] (.int (0 : Int32)) := Arv.set Ar54 q54 S54 Ng54 Hh54 Gg54 rfl W54 1 rfl (Nat.le_of_ble_eq_true rfl)
      have A1 := A1.wr W54
      have p26_1 := p26_1.other W54 (Or.inl ne_b1_b47)
      have p26_2 := p26_2.other W54 (Or.inl ne_b1_b47)
      have p26_5 := p26_5.other W54 (Or.inl ne_b1_b47)
      have p26_7 := p26_7.other W54 (Or.inl ne_b1_b47)
      have p26_8 := p26_8.other W54 ne_b26lo__b47
      have p26_9 := p26_9.other W54 ne_b26ea__b47
      have p26_12 := p26_12.other W54 ne_b26li__b47
      have V43 := V43.other W54 ne_b32_b47
      have O55 := O51.wr W54 g_b47
      have N57 := Fr.snoc X54 N53 g_b47
      obtain ⟨cl58, Ar58, q58, S58, Ng58, Hh58, Gg58⟩ := id V54
      obtain ⟨T58, h58, X58, e58, W58, st58⟩ := stI X54 hx hZ e54 Ar58 (j := (2 : Int32)) (inb_of S58 (by decide)) (g := (mkF m 360 #[iv p1, iv p2, iv p3, iv p4, iv p5, iv cp, iv kk0, iv kk1, iv kk2, rv b1, iv 0, iv e1, iv 1, iv v, iv 0, iv 2, iv qv, iv 2, iv 2, iv 0, iv 2, iv 0, rv b32, .unset, .unset, .unset] [.int kk2, .int 2, .ref b47, .ref b47])) rfl rfl (hb hby at_360)
      have V58 : Arv Z h58 b47 k47 .int (3 : Int32) [(.int kk0), (.int kk1), (.int kk2)] (.int (0 : Int32)) := Arv.set Ar58 q58 S58 Ng58 Hh58 Gg58 rfl W58 2 rfl (Nat.le_of_ble_eq_true rfl)
      have A1 := A1.wr W58
      have p26_1 := p26_1.other W58 (Or.inl ne_b1_b47)
      have p26_2 := p26_2.other W58 (Or.inl ne_b1_b47)
      have p26_5 := p26_5.other W58 (Or.inl ne_b1_b47)
      have p26_7 := p26_7.other W58 (Or.inl ne_b1_b47)
      have p26_8 := p26_8.other W58 ne_b26lo__b47
      have p26_9 := p26_9.other W58 ne_b26ea__b47
      have p26_12 := p26_12.other W58 ne_b26li__b47
      have V43 := V43.other W58 ne_b32_b47
      have O59 := O55.wr W58 g_b47
      have N61 := Fr.snoc X58 N57 g_b47
      obtain ⟨cq62, kq62, q62a, q62b, q62c⟩ := isOf hZ e58 A1
      obtain ⟨_, _, ⟨T62, L62, k62, n62⟩, -, X62, ⟨Lc62, hQ62, l62, y62, z62⟩, st62⟩ := X58.virtualBack hx (y := y_8) (z := y_8) hown (mvT hZ (W 67 rfl)) (mvT hZ (W 68 rfl)) (notFace_of_selects (args := #[]) (mvT hZ (W 70 rfl))) (mvT hZ (W 70 rfl)) (mvT hZ (W 69 rfl)) (by decide) (backOf (W := 0) (path2b l Z a0 hw [] b1 b26n' b26lo' b26ea' b26li' b26kl' b26ke' b26ki' p1 kk0 p2 kk1 p3 kk2 e1 h58 n0 O59 p26_1 p26_2 p26_5 p26_8 p26_9 p26_12 p26_18 p26_22 p26_25 p26_33 p26_34) hZ (W 71 rfl) (W 2 rfl) (by decide) (by decide)) q62a q62c (g := (mkF m 367 #[iv p1, iv p2, iv p3, iv p4, iv p5, iv cp, iv kk0, iv kk1, iv kk2, rv b1, iv 0, iv e1, iv 1, iv v, iv 0, iv 2, iv qv, iv 2, iv 2, iv 0, iv 2, iv 0, rv b32, rv b47, .unset, .unset] [.int 2, .ref b1])) rfl (by rw [hml]; rfl) (Steps.refl _) (argsL := [.int 2]) (rest := []) (lenOf pd_6 rfl) rfl (by show 2 * 0 + _ ≤ _; exact Nat.le_of_eq rfl) (hb hby at_367) (fun _ _ => ⟨rfl, e58, (by decide : 24 + 0 ≤ _), (by decide : 435 + 0 ≤ _)⟩)
      dsimp only [Pt.U, Pt.locs, Pt.cells, Pt.slots] at X62 l62 y62 z62 st62 hQ62
      subst l62 y62 z62
      obtain ⟨h62, e62⟩ : ∃ z, T62.heap = z := ⟨_, rfl⟩
      rw [e62] at hQ62
      obtain ⟨rfl, N62q, p62_0, p62_1⟩ := hQ62
      have N62 := Fr.app N61 N62q
      have A1 := A1.keep p62_0
      have p26_5 := p26_5.keep p62_0 (ninS p26_33 nin0)
      have p26_7 := p26_7.keep p62_0 (ninS p26_33 nin0)
      have V43 := V43.keep p62_0 (ninS (Ne.symm ne_b26li__b32) nin0)
      have V58 := V58.keep p62_0 (ninS (Ne.symm ne_b26li__b47) nin0)
      have O63 := O59.keep p62_0 (allS p26_18 all0)
      obtain ⟨cq65, kq65, q65a, q65b, q65c⟩ := isOf hZ e62 A1
      obtain ⟨_, _, ⟨T65, L65, k65, n65⟩, -, X65, ⟨Lc65, hQ65, l65, y65, z65⟩, st65⟩ := X62.virtualBack hx (y := y_11) (z := y_11) hown (mvT hZ (W 72 rfl)) (mvT hZ (W 73 rfl)) (notFace_of_selects (args := #[]) (mvT hZ (W 75 rfl))) (mvT hZ (W 75 rfl)) (mvT hZ (W 74 rfl)) (by decide) (backOf (W := 0) (slot0 l Z a0 hw [] b1 b26li' b26ki' b26n' p1 (.int kk0) (.int p3) (.int kk2) (.int (0 : Int32)) (.int (0 : Int32)) h62 n0 O63 p26_5 p62_1 p26_34) hZ (W 76 rfl) (W 2 rfl) (by decide) (by decide)) q65a q65c (g := (mkF m 400 #[iv p1, iv p2, iv p3, iv p4, iv p5, iv cp, iv kk0, iv kk1, iv kk2, rv b1, iv 0, iv e1, iv 1, iv v, iv 0, iv 2, iv qv, iv 2, iv 2, iv 0, iv 2, iv 0, rv b32, rv b47, iv 2, iv 1] [.int 0, .ref b1])) rfl (by rw [hml]; rfl) (Steps.refl _) (argsL := [.int 0]) (rest := []) (lenOf pd_6 rfl) rfl (by show 2 * 0 + _ ≤ _; exact Nat.le_of_eq rfl) (hb hby at_400) (fun _ _ => ⟨rfl, e62, (by decide : 24 + 0 ≤ _), (by decide : 435 + 0 ≤ _)⟩)
      dsimp only [Pt.U, Pt.locs, Pt.cells, Pt.slots] at X65 l65 y65 z65 st65 hQ65
      subst l65 y65 z65
      obtain ⟨h65, e65⟩ : ∃ z, T65.heap = z := ⟨_, rfl⟩
      rw [e65] at hQ65
      obtain ⟨rfl, N65q, p65_0⟩ := hQ65
      have N65 := Fr.app N62 N65q
      rw [p65_0] at e65
      obtain ⟨cl66, Ar66, q66, S66, Ng66, Hh66, Gg66⟩ := id V43
      have st66 := X65.iaload hx (j := (0 : Int32)) (v := (.int p1)) (by rw [e65]; exact Ar66.1) (State.isArrayOf_alike hZ.alike Ar66.2.1) Ar66.2.2 (inb_of S66 (by decide)) (Hh66.at (inb_of S66 (by decide)) rfl) (g := (mkF m 407 #[iv p1, iv p2, iv p3, iv p4, iv p5, iv cp, iv kk0, iv kk1, iv kk2, rv b1, iv 0, iv e1, iv 1, iv v, iv 0, iv 2, iv qv, iv 2, iv 2, iv 0, iv 2, iv 0, rv b32, rv b47, iv 2, iv 1] [.int 0, .ref b32, .int p1])) rfl rfl (hb hby at_407)
      obtain ⟨cq67, kq67, q67a, q67b, q67c⟩ := isOf hZ e65 A1
      obtain ⟨_, _, ⟨T67, L67, k67, n67⟩, -, X67, ⟨Lc67, hQ67, l67, y67, z67⟩, st67⟩ := X65.virtualBack hx (y := y_12) (z := y_12) hown (mvT hZ (W 77 rfl)) (mvT hZ (W 78 rfl)) (notFace_of_selects (args := #[]) (mvT hZ (W 80 rfl))) (mvT hZ (W 80 rfl)) (mvT hZ (W 79 rfl)) (by decide) (backOf (W := 0) (valu0 l Z a0 hw [] b1 b26li' b26ki' b26n' kk0 p4 (.int p1) (.int p3) (.int kk2) (.int (0 : Int32)) (.int (0 : Int32)) h62 n0 O63 p26_5 p26_7 p62_1 p26_34) hZ (W 81 rfl) (W 2 rfl) (by decide) (by decide)) q67a q67c (g := (mkF m 414 #[iv p1, iv p2, iv p3, iv p4, iv p5, iv cp, iv kk0, iv kk1, iv kk2, rv b1, iv 0, iv e1, iv 1, iv v, iv 0, iv 2, iv qv, iv 2, iv 2, iv 0, iv 2, iv 0, rv b32, rv b47, iv 2, iv 1] [.int 0, .ref b1])) rfl (by rw [hml]; rfl) (Steps.refl _) (argsL := [.int 0]) (rest := []) (lenOf pd_6 rfl) rfl (by show 2 * 0 + _ ≤ _; exact Nat.le_of_eq rfl) (hb hby at_414) (fun _ _ => ⟨rfl, e65, (by decide : 24 + 0 ≤ _), (by decide : 435 + 0 ≤ _)⟩)
      dsimp only [Pt.U, Pt.locs, Pt.cells, Pt.slots] at X67 l67 y67 z67 st67 hQ67
      subst l67 y67 z67
      obtain ⟨h67, e67⟩ : ∃ z, T67.heap = z := ⟨_, rfl⟩
      rw [e67] at hQ67
      obtain ⟨rfl, N67q, p67_0⟩ := hQ67
      have N67 := Fr.app N65 N67q
      rw [p67_0] at e67
      obtain ⟨cl68, Ar68, q68, S68, Ng68, Hh68, Gg68⟩ := id V58
      have st68 := X67.iaload hx (j := (0 : Int32)) (v := (.int kk0)) (by rw [e67]; exact Ar68.1) (State.isArrayOf_alike hZ.alike Ar68.2.1) Ar68.2.2 (inb_of S68 (by decide)) (Hh68.at (inb_of S68 (by decide)) rfl) (g := (mkF m 421 #[iv p1, iv p2, iv p3, iv p4, iv p5, iv cp, iv kk0, iv kk1, iv kk2, rv b1, iv 0, iv e1, iv 1, iv v, iv 0, iv 2, iv qv, iv 2, iv 2, iv 0, iv 2, iv 0, rv b32, rv b47, iv 2, iv 1] [.int 0, .ref b47, .int (own_ev kk0 p4)])) rfl rfl (hb hby at_421)
      obtain ⟨_, _, ⟨T69, L69, k69, n69⟩, -, X69, ⟨Lc69, hQ69, l69, y69, z69⟩, st69⟩ := Jvm.LawKit.callS X67 hx (y := y_10) hown (mvT hZ (W 86 rfl)) (mvT hZ (W 87 rfl)) (mvT hZ (W 88 rfl)) (mvT hZ (W 89 rfl)) (by decide) (backOf (W := 1) (expval l Z a0 hw [] kk0 p4 h62 n0 O63 ) hZ (W 89 rfl) (W 88 rfl) (by decide) (by decide)) (g := (mkF m 423 #[iv p1, iv p2, iv p3, iv p4, iv p5, iv cp, iv kk0, iv kk1, iv kk2, rv b1, iv 0, iv e1, iv 1, iv v, iv 0, iv 2, iv qv, iv 2, iv 2, iv 0, iv 2, iv 0, rv b32, rv b47, iv 2, iv 1] [.int p4, .int kk0, .int (own_ev kk0 p4)])) rfl (by rw [hml]; rfl) (argsL := [.int kk0, .int p4]) (rest := [.int (own_ev kk0 p4)]) (lenOf pd_0 rfl) rfl (by show 2 * 0 + _ ≤ _; exact Nat.le_of_eq rfl) (hb hby at_423) (fun _ _ => ⟨rfl, e67, (by decide : 24 + 0 ≤ _), (by decide : 435 + 0 ≤ _)⟩)
      dsimp only [Pt.U, Pt.locs, Pt.cells, Pt.slots] at X69 l69 y69 z69 st69 hQ69
      subst l69 y69 z69
      obtain ⟨h69, e69⟩ : ∃ z, T69.heap = z := ⟨_, rfl⟩
      rw [e69] at hQ69
      obtain ⟨rfl, N69q, p69_0⟩ := hQ69
      have N69 := Fr.app N67 N69q
      rw [p69_0] at e69
      obtain ⟨cq70, kq70, q70a, q70b, q70c⟩ := isOf hZ e69 A1
      obtain ⟨_, _, ⟨T70, L70, k70, n70⟩, -, X70, ⟨Lc70, hQ70, l70, y70, z70⟩, st70⟩ := X69.virtualBack hx (y := y_11) (z := y_11) hown (mvT hZ (W 72 rfl)) (mvT hZ (W 73 rfl)) (notFace_of_selects (args := #[]) (mvT hZ (W 75 rfl))) (mvT hZ (W 75 rfl)) (mvT hZ (W 74 rfl)) (by decide) (backOf (W := 0) (slot1 l Z a0 hw [] b1 b26li' b26ki' b26n' p3 (.int p1) (.int kk0) (.int kk2) (.int (0 : Int32)) (.int (0 : Int32)) h62 n0 O63 p26_5 p62_1 p26_34) hZ (W 76 rfl) (W 2 rfl) (by decide) (by decide)) q70a q70c (g := (mkF m 450 #[iv p1, iv p2, iv p3, iv p4, iv p5, iv cp, iv kk0, iv kk1, iv kk2, rv b1, iv 0, iv e1, iv 1, iv v, iv 0, iv 2, iv qv, iv 2, iv 2, iv 0, iv 2, iv 0, rv b32, rv b47, iv 2, iv 1] [.int 1, .ref b1])) rfl (by rw [hml]; rfl) (Steps.refl _) (argsL := [.int 1]) (rest := []) (lenOf pd_6 rfl) rfl (by show 2 * 0 + _ ≤ _; exact Nat.le_of_eq rfl) (hb hby at_450) (fun _ _ => ⟨rfl, e69, (by decide : 24 + 0 ≤ _), (by decide : 435 + 0 ≤ _)⟩)
      dsimp only [Pt.U, Pt.locs, Pt.cells, Pt.slots] at X70 l70 y70 z70 st70 hQ70
      subst l70 y70 z70
      obtain ⟨h70, e70⟩ : ∃ z, T70.heap = z := ⟨_, rfl⟩
      rw [e70] at hQ70
      obtain ⟨rfl, N70q, p70_0⟩ := hQ70
      have N70 := Fr.app N69 N70q
      rw [p70_0] at e70
      obtain ⟨cl71, Ar71, q71, S71, Ng71, Hh71, Gg71⟩ := id V43
      have st71 := X70.iaload hx (j := (2 : Int32)) (v := (.int p3)) (by rw [e70]; exact Ar71.1) (State.isArrayOf_alike hZ.alike Ar71.2.1) Ar71.2.2 (inb_of S71 (by decide)) (Hh71.at (inb_of S71 (by decide)) rfl) (g := (mkF m 457 #[iv p1, iv p2, iv p3, iv p4, iv p5, iv cp, iv kk0, iv kk1, iv kk2, rv b1, iv 0, iv e1, iv 1, iv v, iv 0, iv 2, iv qv, iv 2, iv 2, iv 0, iv 2, iv 0, rv b32, rv b47, iv 2, iv 1] [.int 2, .ref b32, .int p3])) rfl rfl (hb hby at_457)
      obtain ⟨cq72, kq72, q72a, q72b, q72c⟩ := isOf hZ e70 A1
      obtain ⟨_, _, ⟨T72, L72, k72, n72⟩, -, X72, ⟨Lc72, hQ72, l72, y72, z72⟩, st72⟩ := X70.virtualBack hx (y := y_12) (z := y_12) hown (mvT hZ (W 77 rfl)) (mvT hZ (W 78 rfl)) (notFace_of_selects (args := #[]) (mvT hZ (W 80 rfl))) (mvT hZ (W 80 rfl)) (mvT hZ (W 79 rfl)) (by decide) (backOf (W := 0) (valu1 l Z a0 hw [] b1 b26li' b26ki' b26n' kk2 p4 (.int p1) (.int kk0) (.int p3) (.int (0 : Int32)) (.int (0 : Int32)) h62 n0 O63 p26_5 p26_7 p62_1 p26_34) hZ (W 81 rfl) (W 2 rfl) (by decide) (by decide)) q72a q72c (g := (mkF m 464 #[iv p1, iv p2, iv p3, iv p4, iv p5, iv cp, iv kk0, iv kk1, iv kk2, rv b1, iv 0, iv e1, iv 1, iv v, iv 0, iv 2, iv qv, iv 2, iv 2, iv 0, iv 2, iv 0, rv b32, rv b47, iv 2, iv 1] [.int 1, .ref b1])) rfl (by rw [hml]; rfl) (Steps.refl _) (argsL := [.int 1]) (rest := []) (lenOf pd_6 rfl) rfl (by show 2 * 0 + _ ≤ _; exact Nat.le_of_eq rfl) (hb hby at_464) (fun _ _ => ⟨rfl, e70, (by decide : 24 + 0 ≤ _), (by decide : 435 + 0 ≤ _)⟩)
      dsimp only [Pt.U, Pt.locs, Pt.cells, Pt.slots] at X72 l72 y72 z72 st72 hQ72
      subst l72 y72 z72
      obtain ⟨h72, e72⟩ : ∃ z, T72.heap = z := ⟨_, rfl⟩
      rw [e72] at hQ72
      obtain ⟨rfl, N72q, p72_0⟩ := hQ72
      have N72 := Fr.app N70 N72q
      rw [p72_0] at e72
      obtain ⟨cl73, Ar73, q73, S73, Ng73, Hh73, Gg73⟩ := id V58
      have st73 := X72.iaload hx (j := (2 : Int32)) (v := (.int kk2)) (by rw [e72]; exact Ar73.1) (State.isArrayOf_alike hZ.alike Ar73.2.1) Ar73.2.2 (inb_of S73 (by decide)) (Hh73.at (inb_of S73 (by decide)) rfl) (g := (mkF m 471 #[iv p1, iv p2, iv p3, iv p4, iv p5, iv cp, iv kk0, iv kk1, iv kk2, rv b1, iv 0, iv e1, iv 1, iv v, iv 0, iv 2, iv qv, iv 2, iv 2, iv 0, iv 2, iv 0, rv b32, rv b47, iv 2, iv 1] [.int 2, .ref b47, .int (own_ev kk2 p4)])) rfl rfl (hb hby at_471)
      obtain ⟨_, _, ⟨T74, L74, k74, n74⟩, -, X74, ⟨Lc74, hQ74, l74, y74, z74⟩, st74⟩ := Jvm.LawKit.callS X72 hx (y := y_10) hown (mvT hZ (W 86 rfl)) (mvT hZ (W 87 rfl)) (mvT hZ (W 88 rfl)) (mvT hZ (W 89 rfl)) (by decide) (backOf (W := 1) (expval l Z a0 hw [] kk2 p4 h62 n0 O63 ) hZ (W 89 rfl) (W 88 rfl) (by decide) (by decide)) (g := (mkF m 473 #[iv p1, iv p2, iv p3, iv p4, iv p5, iv cp, iv kk0, iv kk1, iv kk2, rv b1, iv 0, iv e1, iv 1, iv v, iv 0, iv 2, iv qv, iv 2, iv 2, iv 0, iv 2, iv 0, rv b32, rv b47, iv 2, iv 1] [.int p4, .int kk2, .int (own_ev kk2 p4)])) rfl (by rw [hml]; rfl) (argsL := [.int kk2, .int p4]) (rest := [.int (own_ev kk2 p4)]) (lenOf pd_0 rfl) rfl (by show 2 * 0 + _ ≤ _; exact Nat.le_of_eq rfl) (hb hby at_473) (fun _ _ => ⟨rfl, e72, (by decide : 24 + 0 ≤ _), (by decide : 435 + 0 ≤ _)⟩)
      dsimp only [Pt.U, Pt.locs, Pt.cells, Pt.slots] at X74 l74 y74 z74 st74 hQ74
      subst l74 y74 z74
      obtain ⟨h74, e74⟩ : ∃ z, T74.heap = z := ⟨_, rfl⟩
      rw [e74] at hQ74
      obtain ⟨rfl, N74q, p74_0⟩ := hQ74
      have N74 := Fr.app N72 N74q
      rw [p74_0] at e74
      obtain ⟨fs, hr, hrun, hended, hW, hsame⟩ := X74.leave (v := some (.int (1 : Int32))) (fun h => by rw [Bd.returns] at h; cases h)
      refine ⟨_, _, pre31 _ ?_, hrun, hended, _, _, rfl, ?_, ⟨_, rfl⟩, hW, hsame.mono (by decide) (by decide)⟩
      · show Sq p e below m T26 264 #[iv p1, iv p2, iv p3, iv p4, iv p5, iv cp, iv kk0, iv kk1, iv kk2, rv b1, iv 0, iv e1, iv 1, iv v, iv 0, iv 2, iv qv, iv 2, iv 0, iv 0, iv 0, iv 0, .unset, .unset, .unset, .unset] [] _
        refine XS.iload X26.here hx rfl (hb hby at_264) rfl ?_
        refine XS.iconst X26.here hx rfl (hb hby at_266) ?_
        show Sq p e below m T26 267 #[iv p1, iv p2, iv p3, iv p4, iv p5, iv cp, iv kk0, iv kk1, iv kk2, rv b1, iv 0, iv e1, iv 1, iv v, iv 0, iv 2, iv qv, iv 2, iv 0, iv 0, iv 0, iv 0, .unset, .unset, .unset, .unset] [.int (-1), .int 0] _
        refine XS.icmpYes X26.here hx rfl (pc0 := 267) (pc' := 279) rfl (hb hby at_267) rfl (feq (by decide)).2 (by decide) (by decide) ?_
        refine XS.iload X26.here hx rfl (hb hby at_279) rfl ?_
        show Sq p e below m T26 281 #[iv p1, iv p2, iv p3, iv p4, iv p5, iv cp, iv kk0, iv kk1, iv kk2, rv b1, iv 0, iv e1, iv 1, iv v, iv 0, iv 2, iv qv, iv 2, iv 0, iv 0, iv 0, iv 0, .unset, .unset, .unset, .unset] [.int 0] _
        refine XS.ifNo X26.here hx rfl (hb hby at_281) rfl ((if0 _ _).trans (teq (rfl : (0 : Int32) = (0 : Int32))).2) ?_
        refine XS.iconst X26.here hx rfl (hb hby at_284) ?_
        show Sq p e below m T26 285 #[iv p1, iv p2, iv p3, iv p4, iv p5, iv cp, iv kk0, iv kk1, iv kk2, rv b1, iv 0, iv e1, iv 1, iv v, iv 0, iv 2, iv qv, iv 2, iv 0, iv 0, iv 0, iv 0, .unset, .unset, .unset, .unset] [.int 2] _
        refine XS.istore X26.here hx rfl (hb hby at_285) rfl rfl ?_
        refine XS.iconst X26.here hx rfl (hb hby at_287) ?_
        show Sq p e below m T26 288 #[iv p1, iv p2, iv p3, iv p4, iv p5, iv cp, iv kk0, iv kk1, iv kk2, rv b1, iv 0, iv e1, iv 1, iv v, iv 0, iv 2, iv qv, iv 2, iv 2, iv 0, iv 0, iv 0, .unset, .unset, .unset, .unset] [.int 0] _
        refine XS.istore X26.here hx rfl (hb hby at_288) rfl rfl ?_
        refine XS.iconst X26.here hx rfl (hb hby at_290) ?_
        show Sq p e below m T26 291 #[iv p1, iv p2, iv p3, iv p4, iv p5, iv cp, iv kk0, iv kk1, iv kk2, rv b1, iv 0, iv e1, iv 1, iv v, iv 0, iv 2, iv qv, iv 2, iv 2, iv 0, iv 0, iv 0, .unset, .unset, .unset, .unset] [.int 2] _
        refine XS.istore X26.here hx rfl (hb hby at_291) rfl rfl ?_
        refine XS.goto X26.here hx rfl (pc0 := 293) (pc' := 326) rfl (hb hby at_293) (by decide) (by decide) ?_
        show Sq p e below m T26 326 #[iv p1, iv p2, iv p3, iv p4, iv p5, iv cp, iv kk0, iv kk1, iv kk2, rv b1, iv 0, iv e1, iv 1, iv v, iv 0, iv 2, iv qv, iv 2, iv 2, iv 0, iv 2, iv 0, .unset, .unset, .unset, .unset] [] _
        refine XS.iconst X26.here hx rfl (hb hby at_326) ?_
        show Sq p e below m T26 327 #[iv p1, iv p2, iv p3, iv p4, iv p5, iv cp, iv kk0, iv kk1, iv kk2, rv b1, iv 0, iv e1, iv 1, iv v, iv 0, iv 2, iv qv, iv 2, iv 2, iv 0, iv 2, iv 0, .unset, .unset, .unset, .unset] [.int 3] _
        refine st32 _ ?_
        show Sq p e below m T32 329 #[iv p1, iv p2, iv p3, iv p4, iv p5, iv cp, iv kk0, iv kk1, iv kk2, rv b1, iv 0, iv e1, iv 1, iv v, iv 0, iv 2, iv qv, iv 2, iv 2, iv 0, iv 2, iv 0, .unset, .unset, .unset, .unset] [.ref b32] _
        refine XS.dup X32.here hx rfl (hb hby at_329) rfl rfl ?_
        refine XS.iconst X32.here hx rfl (hb hby at_330) ?_
        show Sq p e below m T32 331 #[iv p1, iv p2, iv p3, iv p4, iv p5, iv cp, iv kk0, iv kk1, iv kk2, rv b1, iv 0, iv e1, iv 1, iv v, iv 0, iv 2, iv qv, iv 2, iv 2, iv 0, iv 2, iv 0, .unset, .unset, .unset, .unset] [.int 0, .ref b32, .ref b32] _
        refine XS.iloadN X32.here hx rfl (hb hby at_331) rfl ?_
        show Sq p e below m T32 332 #[iv p1, iv p2, iv p3, iv p4, iv p5, iv cp, iv kk0, iv kk1, iv kk2, rv b1, iv 0, iv e1, iv 1, iv v, iv 0, iv 2, iv qv, iv 2, iv 2, iv 0, iv 2, iv 0, .unset, .unset, .unset, .unset] [.int p1, .int 0, .ref b32, .ref b32] _
        refine st35 _ ?_
        show Sq p e below m T35 333 #[iv p1, iv p2, iv p3, iv p4, iv p5, iv cp, iv kk0, iv kk1, iv kk2, rv b1, iv 0, iv e1, iv 1, iv v, iv 0, iv 2, iv qv, iv 2, iv 2, iv 0, iv 2, iv 0, .unset, .unset, .unset, .unset] [.ref b32] _
        refine XS.dup X35.here hx rfl (hb hby at_333) rfl rfl ?_
        refine XS.iconst X35.here hx rfl (hb hby at_334) ?_
        show Sq p e below m T35 335 #[iv p1, iv p2, iv p3, iv p4, iv p5, iv cp, iv kk0, iv kk1, iv kk2, rv b1, iv 0, iv e1, iv 1, iv v, iv 0, iv 2, iv qv, iv 2, iv 2, iv 0, iv 2, iv 0, .unset, .unset, .unset, .unset] [.int 1, .ref b32, .ref b32] _
        refine XS.iloadN X35.here hx rfl (hb hby at_335) rfl ?_
        show Sq p e below m T35 336 #[iv p1, iv p2, iv p3, iv p4, iv p5, iv cp, iv kk0, iv kk1, iv kk2, rv b1, iv 0, iv e1, iv 1, iv v, iv 0, iv 2, iv qv, iv 2, iv 2, iv 0, iv 2, iv 0, .unset, .unset, .unset, .unset] [.int p2, .int 1, .ref b32, .ref b32] _
        refine st39 _ ?_
        show Sq p e below m T39 337 #[iv p1, iv p2, iv p3, iv p4, iv p5, iv cp, iv kk0, iv kk1, iv kk2, rv b1, iv 0, iv e1, iv 1, iv v, iv 0, iv 2, iv qv, iv 2, iv 2, iv 0, iv 2, iv 0, .unset, .unset, .unset, .unset] [.ref b32] _
        refine XS.dup X39.here hx rfl (hb hby at_337) rfl rfl ?_
        refine XS.iconst X39.here hx rfl (hb hby at_338) ?_
        show Sq p e below m T39 339 #[iv p1, iv p2, iv p3, iv p4, iv p5, iv cp, iv kk0, iv kk1, iv kk2, rv b1, iv 0, iv e1, iv 1, iv v, iv 0, iv 2, iv qv, iv 2, iv 2, iv 0, iv 2, iv 0, .unset, .unset, .unset, .unset] [.int 2, .ref b32, .ref b32] _
        refine XS.iloadN X39.here hx rfl (hb hby at_339) rfl ?_
        show Sq p e below m T39 340 #[iv p1, iv p2, iv p3, iv p4, iv p5, iv cp, iv kk0, iv kk1, iv kk2, rv b1, iv 0, iv e1, iv 1, iv v, iv 0, iv 2, iv qv, iv 2, iv 2, iv 0, iv 2, iv 0, .unset, .unset, .unset, .unset] [.int p3, .int 2, .ref b32, .ref b32] _
        refine st43 _ ?_
        show Sq p e below m T43 341 #[iv p1, iv p2, iv p3, iv p4, iv p5, iv cp, iv kk0, iv kk1, iv kk2, rv b1, iv 0, iv e1, iv 1, iv v, iv 0, iv 2, iv qv, iv 2, iv 2, iv 0, iv 2, iv 0, .unset, .unset, .unset, .unset] [.ref b32] _
        refine XS.astore X43.here hx rfl (hb hby at_341) rfl rfl rfl ?_
        refine XS.iconst X43.here hx rfl (hb hby at_343) ?_
        show Sq p e below m T43 344 #[iv p1, iv p2, iv p3, iv p4, iv p5, iv cp, iv kk0, iv kk1, iv kk2, rv b1, iv 0, iv e1, iv 1, iv v, iv 0, iv 2, iv qv, iv 2, iv 2, iv 0, iv 2, iv 0, rv b32, .unset, .unset, .unset] [.int 3] _
        refine st47 _ ?_
        show Sq p e below m T47 346 #[iv p1, iv p2, iv p3, iv p4, iv p5, iv cp, iv kk0, iv kk1, iv kk2, rv b1, iv 0, iv e1, iv 1, iv v, iv 0, iv 2, iv qv, iv 2, iv 2, iv 0, iv 2, iv 0, rv b32, .unset, .unset, .unset] [.ref b47] _
        refine XS.dup X47.here hx rfl (hb hby at_346) rfl rfl ?_
        refine XS.iconst X47.here hx rfl (hb hby at_347) ?_
        show Sq p e below m T47 348 #[iv p1, iv p2, iv p3, iv p4, iv p5, iv cp, iv kk0, iv kk1, iv kk2, rv b1, iv 0, iv e1, iv 1, iv v, iv 0, iv 2, iv qv, iv 2, iv 2, iv 0, iv 2, iv 0, rv b32, .unset, .unset, .unset] [.int 0, .ref b47, .ref b47] _
        refine XS.iload X47.here hx rfl (hb hby at_348) rfl ?_
        show Sq p e below m T47 350 #[iv p1, iv p2, iv p3, iv p4, iv p5, iv cp, iv kk0, iv kk1, iv kk2, rv b1, iv 0, iv e1, iv 1, iv v, iv 0, iv 2, iv qv, iv 2, iv 2, iv 0, iv 2, iv 0, rv b32, .unset, .unset, .unset] [.int kk0, .int 0, .ref b47, .ref b47] _
        refine st50 _ ?_
        show Sq p e below m T50 351 #[iv p1, iv p2, iv p3, iv p4, iv p5, iv cp, iv kk0, iv kk1, iv kk2, rv b1, iv 0, iv e1, iv 1, iv v, iv 0, iv 2, iv qv, iv 2, iv 2, iv 0, iv 2, iv 0, rv b32, .unset, .unset, .unset] [.ref b47] _
        refine XS.dup X50.here hx rfl (hb hby at_351) rfl rfl ?_
        refine XS.iconst X50.here hx rfl (hb hby at_352) ?_
        show Sq p e below m T50 353 #[iv p1, iv p2, iv p3, iv p4, iv p5, iv cp, iv kk0, iv kk1, iv kk2, rv b1, iv 0, iv e1, iv 1, iv v, iv 0, iv 2, iv qv, iv 2, iv 2, iv 0, iv 2, iv 0, rv b32, .unset, .unset, .unset] [.int 1, .ref b47, .ref b47] _
        refine XS.iload X50.here hx rfl (hb hby at_353) rfl ?_
        show Sq p e below m T50 355 #[iv p1, iv p2, iv p3, iv p4, iv p5, iv cp, iv kk0, iv kk1, iv kk2, rv b1, iv 0, iv e1, iv 1, iv v, iv 0, iv 2, iv qv, iv 2, iv 2, iv 0, iv 2, iv 0, rv b32, .unset, .unset, .unset] [.int kk1, .int 1, .ref b47, .ref b47] _
        refine st54 _ ?_
        show Sq p e below m T54 356 #[iv p1, iv p2, iv p3, iv p4, iv p5, iv cp, iv kk0, iv kk1, iv kk2, rv b1, iv 0, iv e1, iv 1, iv v, iv 0, iv 2, iv qv, iv 2, iv 2, iv 0, iv 2, iv 0, rv b32, .unset, .unset, .unset] [.ref b47] _
        refine XS.dup X54.here hx rfl (hb hby at_356) rfl rfl ?_
        refine XS.iconst X54.here hx rfl (hb hby at_357) ?_
        show Sq p e below m T54 358 #[iv p1, iv p2, iv p3, iv p4, iv p5, iv cp, iv kk0, iv kk1, iv kk2, rv b1, iv 0, iv e1, iv 1, iv v, iv 0, iv 2, iv qv, iv 2, iv 2, iv 0, iv 2, iv 0, rv b32, .unset, .unset, .unset] [.int 2, .ref b47, .ref b47] _
        refine XS.iload X54.here hx rfl (hb hby at_358) rfl ?_
        show Sq p e below m T54 360 #[iv p1, iv p2, iv p3, iv p4, iv p5, iv cp, iv kk0, iv kk1, iv kk2, rv b1, iv 0, iv e1, iv 1, iv v, iv 0, iv 2, iv qv, iv 2, iv 2, iv 0, iv 2, iv 0, rv b32, .unset, .unset, .unset] [.int kk2, .int 2, .ref b47, .ref b47] _
        refine st58 _ ?_
        show Sq p e below m T58 361 #[iv p1, iv p2, iv p3, iv p4, iv p5, iv cp, iv kk0, iv kk1, iv kk2, rv b1, iv 0, iv e1, iv 1, iv v, iv 0, iv 2, iv qv, iv 2, iv 2, iv 0, iv 2, iv 0, rv b32, .unset, .unset, .unset] [.ref b47] _
        refine XS.astore X58.here hx rfl (hb hby at_361) rfl rfl rfl ?_
        refine XS.aload X58.here hx rfl (hb hby at_363) rfl rfl ?_
        show Sq p e below m T58 365 #[iv p1, iv p2, iv p3, iv p4, iv p5, iv cp, iv kk0, iv kk1, iv kk2, rv b1, iv 0, iv e1, iv 1, iv v, iv 0, iv 2, iv qv, iv 2, iv 2, iv 0, iv 2, iv 0, rv b32, rv b47, .unset, .unset] [.ref b1] _
        refine XS.iload X58.here hx rfl (hb hby at_365) rfl ?_
        show Sq p e below m T58 367 #[iv p1, iv p2, iv p3, iv p4, iv p5, iv cp, iv kk0, iv kk1, iv kk2, rv b1, iv 0, iv e1, iv 1, iv v, iv 0, iv 2, iv qv, iv 2, iv 2, iv 0, iv 2, iv 0, rv b32, rv b47, .unset, .unset] [.int 2, .ref b1] _
        refine st62.trans ?_
        show Sq p e below m T62 370 #[iv p1, iv p2, iv p3, iv p4, iv p5, iv cp, iv kk0, iv kk1, iv kk2, rv b1, iv 0, iv e1, iv 1, iv v, iv 0, iv 2, iv qv, iv 2, iv 2, iv 0, iv 2, iv 0, rv b32, rv b47, .unset, .unset] [.int 2] _
        refine XS.istore X62.here hx rfl (hb hby at_370) rfl rfl ?_
        refine XS.iload X62.here hx rfl (hb hby at_372) rfl ?_
        show Sq p e below m T62 374 #[iv p1, iv p2, iv p3, iv p4, iv p5, iv cp, iv kk0, iv kk1, iv kk2, rv b1, iv 0, iv e1, iv 1, iv v, iv 0, iv 2, iv qv, iv 2, iv 2, iv 0, iv 2, iv 0, rv b32, rv b47, iv 2, .unset] [.int 2] _
        refine XS.iload X62.here hx rfl (hb hby at_374) rfl ?_
        refine XS.icmpNo X62.here hx rfl (hb hby at_376) rfl (teq (rfl : (2 : Int32) = (2 : Int32))).2 ?_
        show Sq p e below m T62 379 #[iv p1, iv p2, iv p3, iv p4, iv p5, iv cp, iv kk0, iv kk1, iv kk2, rv b1, iv 0, iv e1, iv 1, iv v, iv 0, iv 2, iv qv, iv 2, iv 2, iv 0, iv 2, iv 0, rv b32, rv b47, iv 2, .unset] [] _
        refine XS.iconst X62.here hx rfl (hb hby at_379) ?_
        refine XS.goto X62.here hx rfl (pc0 := 380) (pc' := 384) rfl (hb hby at_380) (by decide) (by decide) ?_
        show Sq p e below m T62 384 #[iv p1, iv p2, iv p3, iv p4, iv p5, iv cp, iv kk0, iv kk1, iv kk2, rv b1, iv 0, iv e1, iv 1, iv v, iv 0, iv 2, iv qv, iv 2, iv 2, iv 0, iv 2, iv 0, rv b32, rv b47, iv 2, .unset] [.int 1] _
        refine XS.istore X62.here hx rfl (hb hby at_384) rfl rfl ?_
        refine XS.iload X62.here hx rfl (hb hby at_386) rfl ?_
        show Sq p e below m T62 388 #[iv p1, iv p2, iv p3, iv p4, iv p5, iv cp, iv kk0, iv kk1, iv kk2, rv b1, iv 0, iv e1, iv 1, iv v, iv 0, iv 2, iv qv, iv 2, iv 2, iv 0, iv 2, iv 0, rv b32, rv b47, iv 2, iv 1] [.int 1] _
        refine XS.ifNo X62.here hx rfl (hb hby at_388) rfl ((if0 _ _).trans (feq (by decide)).1) ?_
        refine XS.iload X62.here hx rfl (hb hby at_391) rfl ?_
        show Sq p e below m T62 393 #[iv p1, iv p2, iv p3, iv p4, iv p5, iv cp, iv kk0, iv kk1, iv kk2, rv b1, iv 0, iv e1, iv 1, iv v, iv 0, iv 2, iv qv, iv 2, iv 2, iv 0, iv 2, iv 0, rv b32, rv b47, iv 2, iv 1] [.int 2] _
        refine XS.iconst X62.here hx rfl (hb hby at_393) ?_
        refine XS.icmpNo X62.here hx rfl (hb hby at_394) rfl (flt (by decide)).1 ?_
        show Sq p e below m T62 397 #[iv p1, iv p2, iv p3, iv p4, iv p5, iv cp, iv kk0, iv kk1, iv kk2, rv b1, iv 0, iv e1, iv 1, iv v, iv 0, iv 2, iv qv, iv 2, iv 2, iv 0, iv 2, iv 0, rv b32, rv b47, iv 2, iv 1] [] _
        refine XS.aload X62.here hx rfl (hb hby at_397) rfl rfl ?_
        refine XS.iconst X62.here hx rfl (hb hby at_399) ?_
        show Sq p e below m T62 400 #[iv p1, iv p2, iv p3, iv p4, iv p5, iv cp, iv kk0, iv kk1, iv kk2, rv b1, iv 0, iv e1, iv 1, iv v, iv 0, iv 2, iv qv, iv 2, iv 2, iv 0, iv 2, iv 0, rv b32, rv b47, iv 2, iv 1] [.int 0, .ref b1] _
        refine st65.trans ?_
        show Sq p e below m T65 403 #[iv p1, iv p2, iv p3, iv p4, iv p5, iv cp, iv kk0, iv kk1, iv kk2, rv b1, iv 0, iv e1, iv 1, iv v, iv 0, iv 2, iv qv, iv 2, iv 2, iv 0, iv 2, iv 0, rv b32, rv b47, iv 2, iv 1] [.int p1] _
        refine XS.aload X65.here hx rfl (hb hby at_403) rfl rfl ?_
        refine XS.iload X65.here hx rfl (hb hby at_405) rfl ?_
        show Sq p e below m T65 407 #[iv p1, iv p2, iv p3, iv p4, iv p5, iv cp, iv kk0, iv kk1, iv kk2, rv b1, iv 0, iv e1, iv 1, iv v, iv 0, iv 2, iv qv, iv 2, iv 2, iv 0, iv 2, iv 0, rv b32, rv b47, iv 2, iv 1] [.int 0, .ref b32, .int p1] _
        refine st66 _ ?_
        show Sq p e below m T65 408 #[iv p1, iv p2, iv p3, iv p4, iv p5, iv cp, iv kk0, iv kk1, iv kk2, rv b1, iv 0, iv e1, iv 1, iv v, iv 0, iv 2, iv qv, iv 2, iv 2, iv 0, iv 2, iv 0, rv b32, rv b47, iv 2, iv 1] [.int p1, .int p1] _
        refine XS.icmpNo X65.here hx rfl (hb hby at_408) rfl (teq (rfl : p1 = p1)).2 ?_
        refine XS.aload X65.here hx rfl (hb hby at_411) rfl rfl ?_
        show Sq p e below m T65 413 #[iv p1, iv p2, iv p3, iv p4, iv p5, iv cp, iv kk0, iv kk1, iv kk2, rv b1, iv 0, iv e1, iv 1, iv v, iv 0, iv 2, iv qv, iv 2, iv 2, iv 0, iv 2, iv 0, rv b32, rv b47, iv 2, iv 1] [.ref b1] _
        refine XS.iconst X65.here hx rfl (hb hby at_413) ?_
        show Sq p e below m T65 414 #[iv p1, iv p2, iv p3, iv p4, iv p5, iv cp, iv kk0, iv kk1, iv kk2, rv b1, iv 0, iv e1, iv 1, iv v, iv 0, iv 2, iv qv, iv 2, iv 2, iv 0, iv 2, iv 0, rv b32, rv b47, iv 2, iv 1] [.int 0, .ref b1] _
        refine st67.trans ?_
        show Sq p e below m T67 417 #[iv p1, iv p2, iv p3, iv p4, iv p5, iv cp, iv kk0, iv kk1, iv kk2, rv b1, iv 0, iv e1, iv 1, iv v, iv 0, iv 2, iv qv, iv 2, iv 2, iv 0, iv 2, iv 0, rv b32, rv b47, iv 2, iv 1] [.int (own_ev kk0 p4)] _
        refine XS.aload X67.here hx rfl (hb hby at_417) rfl rfl ?_
        refine XS.iload X67.here hx rfl (hb hby at_419) rfl ?_
        show Sq p e below m T67 421 #[iv p1, iv p2, iv p3, iv p4, iv p5, iv cp, iv kk0, iv kk1, iv kk2, rv b1, iv 0, iv e1, iv 1, iv v, iv 0, iv 2, iv qv, iv 2, iv 2, iv 0, iv 2, iv 0, rv b32, rv b47, iv 2, iv 1] [.int 0, .ref b47, .int (own_ev kk0 p4)] _
        refine st68 _ ?_
        show Sq p e below m T67 422 #[iv p1, iv p2, iv p3, iv p4, iv p5, iv cp, iv kk0, iv kk1, iv kk2, rv b1, iv 0, iv e1, iv 1, iv v, iv 0, iv 2, iv qv, iv 2, iv 2, iv 0, iv 2, iv 0, rv b32, rv b47, iv 2, iv 1] [.int kk0, .int (own_ev kk0 p4)] _
        refine XS.iloadN X67.here hx rfl (hb hby at_422) rfl ?_
        show Sq p e below m T67 423 #[iv p1, iv p2, iv p3, iv p4, iv p5, iv cp, iv kk0, iv kk1, iv kk2, rv b1, iv 0, iv e1, iv 1, iv v, iv 0, iv 2, iv qv, iv 2, iv 2, iv 0, iv 2, iv 0, rv b32, rv b47, iv 2, iv 1] [.int p4, .int kk0, .int (own_ev kk0 p4)] _
        refine st69 _ ?_
        show Sq p e below m T69 426 #[iv p1, iv p2, iv p3, iv p4, iv p5, iv cp, iv kk0, iv kk1, iv kk2, rv b1, iv 0, iv e1, iv 1, iv v, iv 0, iv 2, iv qv, iv 2, iv 2, iv 0, iv 2, iv 0, rv b32, rv b47, iv 2, iv 1] [.int (own_ev kk0 p4), .int (own_ev kk0 p4)] _
        refine XS.icmpNo X69.here hx rfl (hb hby at_426) rfl (teq (rfl : (own_ev kk0 p4) = (own_ev kk0 p4))).2 ?_
        refine XS.iconst X69.here hx rfl (hb hby at_429) ?_
        show Sq p e below m T69 430 #[iv p1, iv p2, iv p3, iv p4, iv p5, iv cp, iv kk0, iv kk1, iv kk2, rv b1, iv 0, iv e1, iv 1, iv v, iv 0, iv 2, iv qv, iv 2, iv 2, iv 0, iv 2, iv 0, rv b32, rv b47, iv 2, iv 1] [.int 1] _
        refine XS.goto X69.here hx rfl (pc0 := 430) (pc' := 434) rfl (hb hby at_430) (by decide) (by decide) ?_
        refine XS.istore X69.here hx rfl (hb hby at_434) rfl rfl ?_
        show Sq p e below m T69 436 #[iv p1, iv p2, iv p3, iv p4, iv p5, iv cp, iv kk0, iv kk1, iv kk2, rv b1, iv 0, iv e1, iv 1, iv v, iv 0, iv 2, iv qv, iv 2, iv 2, iv 0, iv 2, iv 0, rv b32, rv b47, iv 2, iv 1] [] _
        refine XS.iload X69.here hx rfl (hb hby at_436) rfl ?_
        refine XS.ifNo X69.here hx rfl (hb hby at_438) rfl ((if0 _ _).trans (feq (by decide)).1) ?_
        show Sq p e below m T69 441 #[iv p1, iv p2, iv p3, iv p4, iv p5, iv cp, iv kk0, iv kk1, iv kk2, rv b1, iv 0, iv e1, iv 1, iv v, iv 0, iv 2, iv qv, iv 2, iv 2, iv 0, iv 2, iv 0, rv b32, rv b47, iv 2, iv 1] [] _
        refine XS.iload X69.here hx rfl (hb hby at_441) rfl ?_
        refine XS.iconst X69.here hx rfl (hb hby at_443) ?_
        show Sq p e below m T69 444 #[iv p1, iv p2, iv p3, iv p4, iv p5, iv cp, iv kk0, iv kk1, iv kk2, rv b1, iv 0, iv e1, iv 1, iv v, iv 0, iv 2, iv qv, iv 2, iv 2, iv 0, iv 2, iv 0, rv b32, rv b47, iv 2, iv 1] [.int 2, .int 2] _
        refine XS.icmpNo X69.here hx rfl (hb hby at_444) rfl (flt (by decide)).1 ?_
        refine XS.aload X69.here hx rfl (hb hby at_447) rfl rfl ?_
        show Sq p e below m T69 449 #[iv p1, iv p2, iv p3, iv p4, iv p5, iv cp, iv kk0, iv kk1, iv kk2, rv b1, iv 0, iv e1, iv 1, iv v, iv 0, iv 2, iv qv, iv 2, iv 2, iv 0, iv 2, iv 0, rv b32, rv b47, iv 2, iv 1] [.ref b1] _
        refine XS.iconst X69.here hx rfl (hb hby at_449) ?_
        show Sq p e below m T69 450 #[iv p1, iv p2, iv p3, iv p4, iv p5, iv cp, iv kk0, iv kk1, iv kk2, rv b1, iv 0, iv e1, iv 1, iv v, iv 0, iv 2, iv qv, iv 2, iv 2, iv 0, iv 2, iv 0, rv b32, rv b47, iv 2, iv 1] [.int 1, .ref b1] _
        refine st70.trans ?_
        show Sq p e below m T70 453 #[iv p1, iv p2, iv p3, iv p4, iv p5, iv cp, iv kk0, iv kk1, iv kk2, rv b1, iv 0, iv e1, iv 1, iv v, iv 0, iv 2, iv qv, iv 2, iv 2, iv 0, iv 2, iv 0, rv b32, rv b47, iv 2, iv 1] [.int p3] _
        refine XS.aload X70.here hx rfl (hb hby at_453) rfl rfl ?_
        refine XS.iload X70.here hx rfl (hb hby at_455) rfl ?_
        show Sq p e below m T70 457 #[iv p1, iv p2, iv p3, iv p4, iv p5, iv cp, iv kk0, iv kk1, iv kk2, rv b1, iv 0, iv e1, iv 1, iv v, iv 0, iv 2, iv qv, iv 2, iv 2, iv 0, iv 2, iv 0, rv b32, rv b47, iv 2, iv 1] [.int 2, .ref b32, .int p3] _
        refine st71 _ ?_
        show Sq p e below m T70 458 #[iv p1, iv p2, iv p3, iv p4, iv p5, iv cp, iv kk0, iv kk1, iv kk2, rv b1, iv 0, iv e1, iv 1, iv v, iv 0, iv 2, iv qv, iv 2, iv 2, iv 0, iv 2, iv 0, rv b32, rv b47, iv 2, iv 1] [.int p3, .int p3] _
        refine XS.icmpNo X70.here hx rfl (hb hby at_458) rfl (teq (rfl : p3 = p3)).2 ?_
        refine XS.aload X70.here hx rfl (hb hby at_461) rfl rfl ?_
        show Sq p e below m T70 463 #[iv p1, iv p2, iv p3, iv p4, iv p5, iv cp, iv kk0, iv kk1, iv kk2, rv b1, iv 0, iv e1, iv 1, iv v, iv 0, iv 2, iv qv, iv 2, iv 2, iv 0, iv 2, iv 0, rv b32, rv b47, iv 2, iv 1] [.ref b1] _
        refine XS.iconst X70.here hx rfl (hb hby at_463) ?_
        show Sq p e below m T70 464 #[iv p1, iv p2, iv p3, iv p4, iv p5, iv cp, iv kk0, iv kk1, iv kk2, rv b1, iv 0, iv e1, iv 1, iv v, iv 0, iv 2, iv qv, iv 2, iv 2, iv 0, iv 2, iv 0, rv b32, rv b47, iv 2, iv 1] [.int 1, .ref b1] _
        refine st72.trans ?_
        show Sq p e below m T72 467 #[iv p1, iv p2, iv p3, iv p4, iv p5, iv cp, iv kk0, iv kk1, iv kk2, rv b1, iv 0, iv e1, iv 1, iv v, iv 0, iv 2, iv qv, iv 2, iv 2, iv 0, iv 2, iv 0, rv b32, rv b47, iv 2, iv 1] [.int (own_ev kk2 p4)] _
        refine XS.aload X72.here hx rfl (hb hby at_467) rfl rfl ?_
        refine XS.iload X72.here hx rfl (hb hby at_469) rfl ?_
        show Sq p e below m T72 471 #[iv p1, iv p2, iv p3, iv p4, iv p5, iv cp, iv kk0, iv kk1, iv kk2, rv b1, iv 0, iv e1, iv 1, iv v, iv 0, iv 2, iv qv, iv 2, iv 2, iv 0, iv 2, iv 0, rv b32, rv b47, iv 2, iv 1] [.int 2, .ref b47, .int (own_ev kk2 p4)] _
        refine st73 _ ?_
        show Sq p e below m T72 472 #[iv p1, iv p2, iv p3, iv p4, iv p5, iv cp, iv kk0, iv kk1, iv kk2, rv b1, iv 0, iv e1, iv 1, iv v, iv 0, iv 2, iv qv, iv 2, iv 2, iv 0, iv 2, iv 0, rv b32, rv b47, iv 2, iv 1] [.int kk2, .int (own_ev kk2 p4)] _
        refine XS.iloadN X72.here hx rfl (hb hby at_472) rfl ?_
        show Sq p e below m T72 473 #[iv p1, iv p2, iv p3, iv p4, iv p5, iv cp, iv kk0, iv kk1, iv kk2, rv b1, iv 0, iv e1, iv 1, iv v, iv 0, iv 2, iv qv, iv 2, iv 2, iv 0, iv 2, iv 0, rv b32, rv b47, iv 2, iv 1] [.int p4, .int kk2, .int (own_ev kk2 p4)] _
        refine st74 _ ?_
        show Sq p e below m T74 476 #[iv p1, iv p2, iv p3, iv p4, iv p5, iv cp, iv kk0, iv kk1, iv kk2, rv b1, iv 0, iv e1, iv 1, iv v, iv 0, iv 2, iv qv, iv 2, iv 2, iv 0, iv 2, iv 0, rv b32, rv b47, iv 2, iv 1] [.int (own_ev kk2 p4), .int (own_ev kk2 p4)] _
        refine XS.icmpNo X74.here hx rfl (hb hby at_476) rfl (teq (rfl : (own_ev kk2 p4) = (own_ev kk2 p4))).2 ?_
        refine XS.iconst X74.here hx rfl (hb hby at_479) ?_
        show Sq p e below m T74 480 #[iv p1, iv p2, iv p3, iv p4, iv p5, iv cp, iv kk0, iv kk1, iv kk2, rv b1, iv 0, iv e1, iv 1, iv v, iv 0, iv 2, iv qv, iv 2, iv 2, iv 0, iv 2, iv 0, rv b32, rv b47, iv 2, iv 1] [.int 1] _
        refine XS.goto X74.here hx rfl (pc0 := 480) (pc' := 484) rfl (hb hby at_480) (by decide) (by decide) ?_
        refine XS.istore X74.here hx rfl (hb hby at_484) rfl rfl ?_
        show Sq p e below m T74 486 #[iv p1, iv p2, iv p3, iv p4, iv p5, iv cp, iv kk0, iv kk1, iv kk2, rv b1, iv 0, iv e1, iv 1, iv v, iv 0, iv 2, iv qv, iv 2, iv 2, iv 0, iv 2, iv 0, rv b32, rv b47, iv 2, iv 1] [] _
        refine XS.iload X74.here hx rfl (hb hby at_486) rfl ?_
        refine XS.ifNo X74.here hx rfl (hb hby at_488) rfl ((if0 _ _).trans (feq (by decide)).1) ?_
        show Sq p e below m T74 491 #[iv p1, iv p2, iv p3, iv p4, iv p5, iv cp, iv kk0, iv kk1, iv kk2, rv b1, iv 0, iv e1, iv 1, iv v, iv 0, iv 2, iv qv, iv 2, iv 2, iv 0, iv 2, iv 0, rv b32, rv b47, iv 2, iv 1] [] _
        refine XS.iload X74.here hx rfl (hb hby at_491) rfl ?_
        refine XS.iconst X74.here hx rfl (hb hby at_493) ?_
        show Sq p e below m T74 494 #[iv p1, iv p2, iv p3, iv p4, iv p5, iv cp, iv kk0, iv kk1, iv kk2, rv b1, iv 0, iv e1, iv 1, iv v, iv 0, iv 2, iv qv, iv 2, iv 2, iv 0, iv 2, iv 0, rv b32, rv b47, iv 2, iv 1] [.int 3, .int 2] _
        refine XS.icmpYes X74.here hx rfl (pc0 := 494) (pc' := 536) rfl (hb hby at_494) rfl (tlt (by decide)).1 (by decide) (by decide) ?_
        refine XS.iload X74.here hx rfl (hb hby at_536) rfl ?_
        show Sq p e below m T74 538 #[iv p1, iv p2, iv p3, iv p4, iv p5, iv cp, iv kk0, iv kk1, iv kk2, rv b1, iv 0, iv e1, iv 1, iv v, iv 0, iv 2, iv qv, iv 2, iv 2, iv 0, iv 2, iv 0, rv b32, rv b47, iv 2, iv 1] [.int 1] _
        exact retN X74 hx (t := .boolean) Bd.returns (by simp) (hb hby at_538) hr
      · show Q_rm0 Z p1 p2 p3 p4 p5 cp kk0 kk1 kk2 v qv w_MIR h0 n0 _ T74.heap _
        rw [e74]
        exact ⟨rfl, N74⟩
    · have pre32 : ∀ t, Steps p.tables e below (T26.setTop (mkF m 296 #[iv p1, iv p2, iv p3, iv p4, iv p5, iv cp, iv kk0, iv kk1, iv kk2, rv b1, iv 0, iv e1, iv 1, iv v, iv 1, iv 2, iv qv, iv 2, iv 0, iv 0, iv 0, iv 0, .unset, .unset, .unset, .unset] [])) t → Steps p.tables e below (s₁.setTop (entryFrame m #[(.int p1), (.int p2), (.int p3), (.int p4), (.int p5)] maxLocals)) t := by
        intro t kt
        refine pre31 _ ?_
        show Sq p e below m T26 264 #[iv p1, iv p2, iv p3, iv p4, iv p5, iv cp, iv kk0, iv kk1, iv kk2, rv b1, iv 0, iv e1, iv 1, iv v, iv 1, iv 2, iv qv, iv 2, iv 0, iv 0, iv 0, iv 0, .unset, .unset, .unset, .unset] [] _
        refine XS.iload X26.here hx rfl (hb hby at_264) rfl ?_
        refine XS.iconst X26.here hx rfl (hb hby at_266) ?_
        show Sq p e below m T26 267 #[iv p1, iv p2, iv p3, iv p4, iv p5, iv cp, iv kk0, iv kk1, iv kk2, rv b1, iv 0, iv e1, iv 1, iv v, iv 1, iv 2, iv qv, iv 2, iv 0, iv 0, iv 0, iv 0, .unset, .unset, .unset, .unset] [.int (-1), .int 1] _
        refine XS.icmpYes X26.here hx rfl (pc0 := 267) (pc' := 279) rfl (hb hby at_267) rfl (feq (by decide)).2 (by decide) (by decide) ?_
        refine XS.iload X26.here hx rfl (hb hby at_279) rfl ?_
        show Sq p e below m T26 281 #[iv p1, iv p2, iv p3, iv p4, iv p5, iv cp, iv kk0, iv kk1, iv kk2, rv b1, iv 0, iv e1, iv 1, iv v, iv 1, iv 2, iv qv, iv 2, iv 0, iv 0, iv 0, iv 0, .unset, .unset, .unset, .unset] [.int 1] _
        refine XS.ifYes X26.here hx rfl (pc0 := 281) (pc' := 296) rfl (hb hby at_281) rfl ((if0 _ _).trans (feq (by decide)).2) (by decide) (by decide) ?_
        exact kt
      rcases own_e1 he1 with rfl | rfl
      · obtain ⟨T33, h33, k33, X33, e33, E33, A33, A33x, st33⟩ := newPE X26 hx hZ (W 9 rfl) e26 (g := (mkF m 327 #[iv p1, iv p2, iv p3, iv p4, iv p5, iv cp, iv kk0, iv kk1, iv kk2, rv b1, iv 0, iv (-1), iv 1, iv v, iv 1, iv 2, iv qv, iv 2, iv 2, iv 1, iv 2, iv 0, .unset, .unset, .unset, .unset] [.int 3])) rfl (hb hby at_327) rfl (by decide) (cap := 3) (by decide) (by decide) (by decide) (by decide) (ad := "[I") (by decide)
        obtain ⟨b33, g33⟩ : ∃ z, z = h26.size := ⟨_, rfl⟩
        rw [← g33] at A33 A33x st33
        have g_b33 : n0 ≤ b33 := Nat.le_trans (own_sz O27) (Nat.le_of_eq g33.symm)
        have ne_b1_b33 : b1 ≠ b33 := Nat.ne_of_lt (Nat.lt_of_lt_of_le A1.lt (Nat.le_of_eq g33.symm))
        have ne_b26lo__b33 : b26lo' ≠ b33 := Nat.ne_of_lt (Nat.lt_of_lt_of_le p26_8.lt (Nat.le_of_eq g33.symm))
        have ne_b26ea__b33 : b26ea' ≠ b33 := Nat.ne_of_lt (Nat.lt_of_lt_of_le p26_9.lt (Nat.le_of_eq g33.symm))
        have ne_b26li__b33 : b26li' ≠ b33 := Nat.ne_of_lt (Nat.lt_of_lt_of_le p26_12.lt (Nat.le_of_eq g33.symm))
        have A1 := A1.ext E33
        have p26_1 := p26_1.ext E33
        have p26_2 := p26_2.ext E33
        have p26_5 := p26_5.ext E33
        have p26_7 := p26_7.ext E33
        have p26_8 := p26_8.ext E33
        have p26_9 := p26_9.ext E33
        have p26_12 := p26_12.ext E33
        have O34 := O27.ext E33
        have V33 : Arv Z h33 b33 k33 .int (3 : Int32) [(.int (0 : Int32)), (.int (0 : Int32)), (.int (0 : Int32))] (.int (0 : Int32)) := (Arv.new A33 (by decide)).pad (pad_rep [] (.int (0 : Int32)) 3)
        obtain ⟨cl36, Ar36, q36, S36, Ng36, Hh36, Gg36⟩ := id V33
        obtain ⟨T36, h36, X36, e36, W36, st36⟩ := stI X33 hx hZ e33 Ar36 (j := (0 : Int32)) (inb_of S36 (by decide)) (g := (mkF m 332 #[iv p1, iv p2, iv p3, iv p4, iv p5, iv cp, iv kk0, iv kk1, iv kk2, rv b1, iv 0, iv (-1), iv 1, iv v, iv 1, iv 2, iv qv, iv 2, iv 2, iv 1, iv 2, iv 0, .unset, .unset, .unset, .unset] [.int p1, .int 0, .ref b33, .ref b33])) rfl rfl (hb hby at_332)
        have V36 : Arv Z h36 b33 k33 .int (3 : Int32) [(.int p1), (.int (0 : Int32)), (.int (0 : Int32))] (.int (0 : Int32)) := Arv.set Ar36 q36 S36 Ng36 Hh36 Gg36 rfl W36 0 rfl (Nat.le_of_ble_eq_true rfl)
        have A1 := A1.wr W36
        have p26_1 := p26_1.other W36 (Or.inl ne_b1_b33)
        have p26_2 := p26_2.other W36 (Or.inl ne_b1_b33)
        have p26_5 := p26_5.other W36 (Or.inl ne_b1_b33)
        have p26_7 := p26_7.other W36 (Or.inl ne_b1_b33)
        have p26_8 := p26_8.other W36 ne_b26lo__b33
        have p26_9 := p26_9.other W36 ne_b26ea__b33
        have p26_12 := p26_12.other W36 ne_b26li__b33
        have A33x := A33x.wr W36
        have O37 := O34.wr W36 g_b33
        have N39 := Fr.snoc X36 N26 g_b33
        obtain ⟨cl40, Ar40, q40, S40, Ng40, Hh40, Gg40⟩ := id V36
        obtain ⟨T40, h40, X40, e40, W40, st40⟩ := stI X36 hx hZ e36 Ar40 (j := (1 : Int32)) (inb_of S40 (by decide)) (g := (mkF m 336 #[iv p1, iv p2, iv p3, iv p4, iv p5, iv cp, iv kk0, iv kk1, iv kk2, rv b1, iv 0, iv (-1), iv 1, iv v, iv 1, iv 2, iv qv, iv 2, iv 2, iv 1, iv 2, iv 0, .unset, .unset, .unset, .unset] [.int p2, .int 1, .ref b33, .ref b33])) rfl rfl (hb hby at_336)
        have V40 : Arv Z h40 b33 k33 .int (3 : Int32) [(.int p1), (.int p2), (.int (0 : Int32))] (.int (0 : Int32)) := Arv.set Ar40 q40 S40 Ng40 Hh40 Gg40 rfl W40 1 rfl (Nat.le_of_ble_eq_true rfl)
        have A1 := A1.wr W40
        have p26_1 := p26_1.other W40 (Or.inl ne_b1_b33)
        have p26_2 := p26_2.other W40 (Or.inl ne_b1_b33)
        have p26_5 := p26_5.other W40 (Or.inl ne_b1_b33)
        have p26_7 := p26_7.other W40 (Or.inl ne_b1_b33)
        have p26_8 := p26_8.other W40 ne_b26lo__b33
        have p26_9 := p26_9.other W40 ne_b26ea__b33
        have p26_12 := p26_12.other W40 ne_b26li__b33
        have A33x := A33x.wr W40
        have O41 := O37.wr W40 g_b33
        have N43 := Fr.snoc X40 N39 g_b33
        obtain ⟨cl44, Ar44, q44, S44, Ng44, Hh44, Gg44⟩ := id V40
        obtain ⟨T44, h44, X44, e44, W44, st44⟩ := stI X40 hx hZ e40 Ar44 (j := (2 : Int32)) (inb_of S44 (by decide)) (g := (mkF m 340 #[iv p1, iv p2, iv p3, iv p4, iv p5, iv cp, iv kk0, iv kk1, iv kk2, rv b1, iv 0, iv (-1), iv 1, iv v, iv 1, iv 2, iv qv, iv 2, iv 2, iv 1, iv 2, iv 0, .unset, .unset, .unset, .unset] [.int p3, .int 2, .ref b33, .ref b33])) rfl rfl (hb hby at_340)
        have V44 : Arv Z h44 b33 k33 .int (3 : Int32) [(.int p1), (.int p2), (.int p3)] (.int (0 : Int32)) := Arv.set Ar44 q44 S44 Ng44 Hh44 Gg44 rfl W44 2 rfl (Nat.le_of_ble_eq_true rfl)
        have A1 := A1.wr W44
        have p26_1 := p26_1.other W44 (Or.inl ne_b1_b33)
        have p26_2 := p26_2.other W44 (Or.inl ne_b1_b33)
        have p26_5 := p26_5.other W44 (Or.inl ne_b1_b33)
        have p26_7 := p26_7.other W44 (Or.inl ne_b1_b33)
        have p26_8 := p26_8.other W44 ne_b26lo__b33
        have p26_9 := p26_9.other W44 ne_b26ea__b33
        have p26_12 := p26_12.other W44 ne_b26li__b33
        have A33x := A33x.wr W44
        have O45 := O41.wr W44 g_b33
        have N47 := Fr.snoc X44 N43 g_b33
        obtain ⟨T48, h48, k48, X48, e48, E48, A48, A48x, st48⟩ := newPE X44 hx hZ (W 9 rfl) e44 (g := (mkF m 344 #[iv p1, iv p2, iv p3, iv p4, iv p5, iv cp, iv kk0, iv kk1, iv kk2, rv b1, iv 0, iv (-1), iv 1, iv v, iv 1, iv 2, iv qv, iv 2, iv 2, iv 1, iv 2, iv 0, rv b33, .unset, .unset, .unset] [.int 3])) rfl (hb hby at_344) rfl (by decide) (cap := 3) (by decide) (by decide) (by decide) (by decide) (ad := "[I") (by decide)
        obtain ⟨b48, g48⟩ : ∃ z, z = h44.size := ⟨_, rfl⟩
        rw [← g48] at A48 A48x st48
        have g_b48 : n0 ≤ b48 := Nat.le_trans (own_sz O45) (Nat.le_of_eq g48.symm)
        have ne_b1_b48 : b1 ≠ b48 := Nat.ne_of_lt (Nat.lt_of_lt_of_le A1.lt (Nat.le_of_eq g48.symm))
        have ne_b26lo__b48 : b26lo' ≠ b48 := Nat.ne_of_lt (Nat.lt_of_lt_of_le p26_8.lt (Nat.le_of_eq g48.symm))
        have ne_b26ea__b48 : b26ea' ≠ b48 := Nat.ne_of_lt (Nat.lt_of_lt_of_le p26_9.lt (Nat.le_of_eq g48.symm))
        have ne_b26li__b48 : b26li' ≠ b48 := Nat.ne_of_lt (Nat.lt_of_lt_of_le p26_12.lt (Nat.le_of_eq g48.symm))
        have ne_b33_b48 : b33 ≠ b48 := Nat.ne_of_lt (Nat.lt_of_lt_of_le A33x.lt (Nat.le_of_eq g48.symm))
        have A1 := A1.ext E48
        have p26_1 := p26_1.ext E48
        have p26_2 := p26_2.ext E48
        have p26_5 := p26_5.ext E48
        have p26_7 := p26_7.ext E48
        have p26_8 := p26_8.ext E48
        have p26_9 := p26_9.ext E48
        have p26_12 := p26_12.ext E48
        have V44 := V44.ext E48
        have O49 := O45.ext E48
        have V48 : Arv Z h48 b48 k48 .int (3 : Int32) [(.int (0 : Int32)), (.int (0 : Int32)), (.int (0 : Int32))] (.int (0 : Int32)) := (Arv.new A48 (by decide)).pad (pad_rep [] (.int (0 : Int32)) 3)
        obtain ⟨cl51, Ar51, q51, S51, Ng51, Hh51, Gg51⟩ := id V48
        obtain ⟨T51, h51, X51, e51, W51, st51⟩ := stI X48 hx hZ e48 Ar51 (j := (0 : Int32)) (inb_of S51 (by decide)) (g := (mkF m 350 #[iv p1, iv p2, iv p3, iv p4, iv p5, iv cp, iv kk0, iv kk1, iv kk2, rv b1, iv 0, iv (-1), iv 1, iv v, iv 1, iv 2, iv qv, iv 2, iv 2, iv 1, iv 2, iv 0, rv b33, .unset, .unset, .unset] [.int kk0, .int 0, .ref b48, .ref b48])) rfl rfl (hb hby at_350)
        have V51 : Arv Z h51 b48 k48 .int (3 : Int32) [(.int kk0), (.int (0 : Int32)), (.int (0 : Int32))] (.int (0 : Int32)) := Arv.set Ar51 q51 S51 Ng51 Hh51 Gg51 rfl W51 0 rfl (Nat.le_of_ble_eq_true rfl)
        have A1 := A1.wr W51
        have p26_1 := p26_1.other W51 (Or.inl ne_b1_b48)
        have p26_2 := p26_2.other W51 (Or.inl ne_b1_b48)
        have p26_5 := p26_5.other W51 (Or.inl ne_b1_b48)
        have p26_7 := p26_7.other W51 (Or.inl ne_b1_b48)
        have p26_8 := p26_8.other W51 ne_b26lo__b48
        have p26_9 := p26_9.other W51 ne_b26ea__b48
        have p26_12 := p26_12.other W51 ne_b26li__b48
        have V44 := V44.other W51 ne_b33_b48
        have O52 := O49.wr W51 g_b48
        have N54 := Fr.snoc X51 N47 g_b48
        obtain ⟨cl55, Ar55, q55, S55, Ng55, Hh55, Gg55⟩ := id V51
        obtain ⟨T55, h55, X55, e55, W55, st55⟩ := stI X51 hx hZ e51 Ar55 (j := (1 : Int32)) (inb_of S55 (by decide)) (g := (mkF m 355 #[iv p1, iv p2, iv p3, iv p4, iv p5, iv cp, iv kk0, iv kk1, iv kk2, rv b1, iv 0, iv (-1), iv 1, iv v, iv 1, iv 2, iv qv, iv 2, iv 2, iv 1, iv 2, iv 0, rv b33, .unset, .unset, .unset] [.int kk1, .int 1, .ref b48, .ref b48])) rfl rfl (hb hby at_355)
        have V55 : Arv Z h55 b48 k48 .int (3 : Int32) [(.int kk0), (.int kk1), (.int (0 : Int32))] (.int (0 : Int32)) := Arv.set Ar55 q55 S55 Ng55 Hh55 Gg55 rfl W55 1 rfl (Nat.le_of_ble_eq_true rfl)
        have A1 := A1.wr W55
        have p26_1 := p26_1.other W55 (Or.inl ne_b1_b48)
        have p26_2 := p26_2.other W55 (Or.inl ne_b1_b48)
        have p26_5 := p26_5.other W55 (Or.inl ne_b1_b48)
        have p26_7 := p26_7.other W55 (Or.inl ne_b1_b48)
        have p26_8 := p26_8.other W55 ne_b26lo__b48
        have p26_9 := p26_9.other W55 ne_b26ea__b48
        have p26_12 := p26_12.other W55 ne_b26li__b48
        have V44 := V44.other W55 ne_b33_b48
        have O56 := O52.wr W55 g_b48
        have N58 := Fr.snoc X55 N54 g_b48
        obtain ⟨cl59, Ar59, q59, S59, Ng59, Hh59, Gg59⟩ := id V55
        obtain ⟨T59, h59, X59, e59, W59, st59⟩ := stI X55 hx hZ e55 Ar59 (j := (2 : Int32)) (inb_of S59 (by decide)) (g := (mkF m 360 #[iv p1, iv p2, iv p3, iv p4, iv p5, iv cp, iv kk0, iv kk1, iv kk2, rv b1, iv 0, iv (-1), iv 1, iv v, iv 1, iv 2, iv qv, iv 2, iv 2, iv 1, iv 2, iv 0, rv b33, .unset, .unset, .unset] [.int kk2, .int 2, .ref b48, .ref b48])) rfl rfl (hb hby at_360)
        have V59 : Arv Z h59 b48 k48 .int (3 : Int32) [(.int kk0), (.int kk1), (.int kk2)] (.int (0 : Int32)) := Arv.set Ar59 q59 S59 Ng59 Hh59 Gg59 rfl W59 2 rfl (Nat.le_of_ble_eq_true rfl)
        have A1 := A1.wr W59
        have p26_1 := p26_1.other W59 (Or.inl ne_b1_b48)
        have p26_2 := p26_2.other W59 (Or.inl ne_b1_b48)
        have p26_5 := p26_5.other W59 (Or.inl ne_b1_b48)
        have p26_7 := p26_7.other W59 (Or.inl ne_b1_b48)
        have p26_8 := p26_8.other W59 ne_b26lo__b48
        have p26_9 := p26_9.other W59 ne_b26ea__b48
        have p26_12 := p26_12.other W59 ne_b26li__b48
        have V44 := V44.other W59 ne_b33_b48
        have O60 := O56.wr W59 g_b48
        have N62 := Fr.snoc X59 N58 g_b48
        obtain ⟨cq63, kq63, q63a, q63b, q63c⟩ := isOf hZ e59 A1
        obtain ⟨_, _, ⟨T63, L63, k63, n63⟩, -, X63, ⟨Lc63, hQ63, l63, y63, z63⟩, st63⟩ := X59.virtualBack hx (y := y_8) (z := y_8) hown (mvT hZ (W 67 rfl)) (mvT hZ (W 68 rfl)) (notFace_of_selects (args := #[]) (mvT hZ (W 70 rfl))) (mvT hZ (W 70 rfl)) (mvT hZ (W 69 rfl)) (by decide) (backOf (W := 0) (path2c l Z a0 hw [] b1 b26n' b26lo' b26ea' b26li' b26kl' b26ke' b26ki' p1 kk0 p2 kk1 p3 kk2 h59 n0 O60 p26_1 p26_2 p26_5 p26_8 p26_9 p26_12 p26_18 p26_22 p26_25 p26_33 p26_34) hZ (W 71 rfl) (W 2 rfl) (by decide) (by decide)) q63a q63c (g := (mkF m 367 #[iv p1, iv p2, iv p3, iv p4, iv p5, iv cp, iv kk0, iv kk1, iv kk2, rv b1, iv 0, iv (-1), iv 1, iv v, iv 1, iv 2, iv qv, iv 2, iv 2, iv 1, iv 2, iv 0, rv b33, rv b48, .unset, .unset] [.int 2, .ref b1])) rfl (by rw [hml]; rfl) (Steps.refl _) (argsL := [.int 2]) (rest := []) (lenOf pd_6 rfl) rfl (by show 2 * 0 + _ ≤ _; exact Nat.le_of_eq rfl) (hb hby at_367) (fun _ _ => ⟨rfl, e59, (by decide : 24 + 0 ≤ _), (by decide : 435 + 0 ≤ _)⟩)
        dsimp only [Pt.U, Pt.locs, Pt.cells, Pt.slots] at X63 l63 y63 z63 st63 hQ63
        subst l63 y63 z63
        obtain ⟨h63, e63⟩ : ∃ z, T63.heap = z := ⟨_, rfl⟩
        rw [e63] at hQ63
        obtain ⟨rfl, N63q, p63_0, p63_1⟩ := hQ63
        have N63 := Fr.app N62 N63q
        have A1 := A1.keep p63_0
        have p26_5 := p26_5.keep p63_0 (ninS p26_33 nin0)
        have p26_7 := p26_7.keep p63_0 (ninS p26_33 nin0)
        have V44 := V44.keep p63_0 (ninS (Ne.symm ne_b26li__b33) nin0)
        have V59 := V59.keep p63_0 (ninS (Ne.symm ne_b26li__b48) nin0)
        have O64 := O60.keep p63_0 (allS p26_18 all0)
        obtain ⟨cq66, kq66, q66a, q66b, q66c⟩ := isOf hZ e63 A1
        obtain ⟨_, _, ⟨T66, L66, k66, n66⟩, -, X66, ⟨Lc66, hQ66, l66, y66, z66⟩, st66⟩ := X63.virtualBack hx (y := y_11) (z := y_11) hown (mvT hZ (W 72 rfl)) (mvT hZ (W 73 rfl)) (notFace_of_selects (args := #[]) (mvT hZ (W 75 rfl))) (mvT hZ (W 75 rfl)) (mvT hZ (W 74 rfl)) (by decide) (backOf (W := 0) (slot0 l Z a0 hw [] b1 b26li' b26ki' b26n' p2 (.int kk1) (.int p3) (.int kk2) (.int (0 : Int32)) (.int (0 : Int32)) h63 n0 O64 p26_5 p63_1 p26_34) hZ (W 76 rfl) (W 2 rfl) (by decide) (by decide)) q66a q66c (g := (mkF m 400 #[iv p1, iv p2, iv p3, iv p4, iv p5, iv cp, iv kk0, iv kk1, iv kk2, rv b1, iv 0, iv (-1), iv 1, iv v, iv 1, iv 2, iv qv, iv 2, iv 2, iv 1, iv 2, iv 0, rv b33, rv b48, iv 2, iv 1] [.int 0, .ref b1])) rfl (by rw [hml]; rfl) (Steps.refl _) (argsL := [.int 0]) (rest := []) (lenOf pd_6 rfl) rfl (by show 2 * 0 + _ ≤ _; exact Nat.le_of_eq rfl) (hb hby at_400) (fun _ _ => ⟨rfl, e63, (by decide : 24 + 0 ≤ _), (by decide : 435 + 0 ≤ _)⟩)
        dsimp only [Pt.U, Pt.locs, Pt.cells, Pt.slots] at X66 l66 y66 z66 st66 hQ66
        subst l66 y66 z66
        obtain ⟨h66, e66⟩ : ∃ z, T66.heap = z := ⟨_, rfl⟩
        rw [e66] at hQ66
        obtain ⟨rfl, N66q, p66_0⟩ := hQ66
        have N66 := Fr.app N63 N66q
        rw [p66_0] at e66
        obtain ⟨cl67, Ar67, q67, S67, Ng67, Hh67, Gg67⟩ := id V44
        have st67 := X66.iaload hx (j := (1 : Int32)) (v := (.int p2)) (by rw [e66]; exact Ar67.1) (State.isArrayOf_alike hZ.alike Ar67.2.1) Ar67.2.2 (inb_of S67 (by decide)) (Hh67.at (inb_of S67 (by decide)) rfl) (g := (mkF m 407 #[iv p1, iv p2, iv p3, iv p4, iv p5, iv cp, iv kk0, iv kk1, iv kk2, rv b1, iv 0, iv (-1), iv 1, iv v, iv 1, iv 2, iv qv, iv 2, iv 2, iv 1, iv 2, iv 0, rv b33, rv b48, iv 2, iv 1] [.int 1, .ref b33, .int p2])) rfl rfl (hb hby at_407)
        obtain ⟨cq68, kq68, q68a, q68b, q68c⟩ := isOf hZ e66 A1
        obtain ⟨_, _, ⟨T68, L68, k68, n68⟩, -, X68, ⟨Lc68, hQ68, l68, y68, z68⟩, st68⟩ := X66.virtualBack hx (y := y_12) (z := y_12) hown (mvT hZ (W 77 rfl)) (mvT hZ (W 78 rfl)) (notFace_of_selects (args := #[]) (mvT hZ (W 80 rfl))) (mvT hZ (W 80 rfl)) (mvT hZ (W 79 rfl)) (by decide) (backOf (W := 0) (valu0 l Z a0 hw [] b1 b26li' b26ki' b26n' kk1 p4 (.int p2) (.int p3) (.int kk2) (.int (0 : Int32)) (.int (0 : Int32)) h63 n0 O64 p26_5 p26_7 p63_1 p26_34) hZ (W 81 rfl) (W 2 rfl) (by decide) (by decide)) q68a q68c (g := (mkF m 414 #[iv p1, iv p2, iv p3, iv p4, iv p5, iv cp, iv kk0, iv kk1, iv kk2, rv b1, iv 0, iv (-1), iv 1, iv v, iv 1, iv 2, iv qv, iv 2, iv 2, iv 1, iv 2, iv 0, rv b33, rv b48, iv 2, iv 1] [.int 0, .ref b1])) rfl (by rw [hml]; rfl) (Steps.refl _) (argsL := [.int 0]) (rest := []) (lenOf pd_6 rfl) rfl (by show 2 * 0 + _ ≤ _; exact Nat.le_of_eq rfl) (hb hby at_414) (fun _ _ => ⟨rfl, e66, (by decide : 24 + 0 ≤ _), (by decide : 435 + 0 ≤ _)⟩)
        dsimp only [Pt.U, Pt.locs, Pt.cells, Pt.slots] at X68 l68 y68 z68 st68 hQ68
        subst l68 y68 z68
        obtain ⟨h68, e68⟩ : ∃ z, T68.heap = z := ⟨_, rfl⟩
        rw [e68] at hQ68
        obtain ⟨rfl, N68q, p68_0⟩ := hQ68
        have N68 := Fr.app N66 N68q
        rw [p68_0] at e68
        obtain ⟨cl69, Ar69, q69, S69, Ng69, Hh69, Gg69⟩ := id V59
        have st69 := X68.iaload hx (j := (1 : Int32)) (v := (.int kk1)) (by rw [e68]; exact Ar69.1) (State.isArrayOf_alike hZ.alike Ar69.2.1) Ar69.2.2 (inb_of S69 (by decide)) (Hh69.at (inb_of S69 (by decide)) rfl) (g := (mkF m 421 #[iv p1, iv p2, iv p3, iv p4, iv p5, iv cp, iv kk0, iv kk1, iv kk2, rv b1, iv 0, iv (-1), iv 1, iv v, iv 1, iv 2, iv qv, iv 2, iv 2, iv 1, iv 2, iv 0, rv b33, rv b48, iv 2, iv 1] [.int 1, .ref b48, .int (own_ev kk1 p4)])) rfl rfl (hb hby at_421)
        obtain ⟨_, _, ⟨T70, L70, k70, n70⟩, -, X70, ⟨Lc70, hQ70, l70, y70, z70⟩, st70⟩ := Jvm.LawKit.callS X68 hx (y := y_10) hown (mvT hZ (W 86 rfl)) (mvT hZ (W 87 rfl)) (mvT hZ (W 88 rfl)) (mvT hZ (W 89 rfl)) (by decide) (backOf (W := 1) (expval l Z a0 hw [] kk1 p4 h63 n0 O64 ) hZ (W 89 rfl) (W 88 rfl) (by decide) (by decide)) (g := (mkF m 423 #[iv p1, iv p2, iv p3, iv p4, iv p5, iv cp, iv kk0, iv kk1, iv kk2, rv b1, iv 0, iv (-1), iv 1, iv v, iv 1, iv 2, iv qv, iv 2, iv 2, iv 1, iv 2, iv 0, rv b33, rv b48, iv 2, iv 1] [.int p4, .int kk1, .int (own_ev kk1 p4)])) rfl (by rw [hml]; rfl) (argsL := [.int kk1, .int p4]) (rest := [.int (own_ev kk1 p4)]) (lenOf pd_0 rfl) rfl (by show 2 * 0 + _ ≤ _; exact Nat.le_of_eq rfl) (hb hby at_423) (fun _ _ => ⟨rfl, e68, (by decide : 24 + 0 ≤ _), (by decide : 435 + 0 ≤ _)⟩)
        dsimp only [Pt.U, Pt.locs, Pt.cells, Pt.slots] at X70 l70 y70 z70 st70 hQ70
        subst l70 y70 z70
        obtain ⟨h70, e70⟩ : ∃ z, T70.heap = z := ⟨_, rfl⟩
        rw [e70] at hQ70
        obtain ⟨rfl, N70q, p70_0⟩ := hQ70
        have N70 := Fr.app N68 N70q
        rw [p70_0] at e70
        obtain ⟨cq71, kq71, q71a, q71b, q71c⟩ := isOf hZ e70 A1
        obtain ⟨_, _, ⟨T71, L71, k71, n71⟩, -, X71, ⟨Lc71, hQ71, l71, y71, z71⟩, st71⟩ := X70.virtualBack hx (y := y_11) (z := y_11) hown (mvT hZ (W 72 rfl)) (mvT hZ (W 73 rfl)) (notFace_of_selects (args := #[]) (mvT hZ (W 75 rfl))) (mvT hZ (W 75 rfl)) (mvT hZ (W 74 rfl)) (by decide) (backOf (W := 0) (slot1 l Z a0 hw [] b1 b26li' b26ki' b26n' p3 (.int p2) (.int kk1) (.int kk2) (.int (0 : Int32)) (.int (0 : Int32)) h63 n0 O64 p26_5 p63_1 p26_34) hZ (W 76 rfl) (W 2 rfl) (by decide) (by decide)) q71a q71c (g := (mkF m 450 #[iv p1, iv p2, iv p3, iv p4, iv p5, iv cp, iv kk0, iv kk1, iv kk2, rv b1, iv 0, iv (-1), iv 1, iv v, iv 1, iv 2, iv qv, iv 2, iv 2, iv 1, iv 2, iv 0, rv b33, rv b48, iv 2, iv 1] [.int 1, .ref b1])) rfl (by rw [hml]; rfl) (Steps.refl _) (argsL := [.int 1]) (rest := []) (lenOf pd_6 rfl) rfl (by show 2 * 0 + _ ≤ _; exact Nat.le_of_eq rfl) (hb hby at_450) (fun _ _ => ⟨rfl, e70, (by decide : 24 + 0 ≤ _), (by decide : 435 + 0 ≤ _)⟩)
        dsimp only [Pt.U, Pt.locs, Pt.cells, Pt.slots] at X71 l71 y71 z71 st71 hQ71
        subst l71 y71 z71
        obtain ⟨h71, e71⟩ : ∃ z, T71.heap = z := ⟨_, rfl⟩
        rw [e71] at hQ71
        obtain ⟨rfl, N71q, p71_0⟩ := hQ71
        have N71 := Fr.app N70 N71q
        rw [p71_0] at e71
        obtain ⟨cl72, Ar72, q72, S72, Ng72, Hh72, Gg72⟩ := id V44
        have st72 := X71.iaload hx (j := (2 : Int32)) (v := (.int p3)) (by rw [e71]; exact Ar72.1) (State.isArrayOf_alike hZ.alike Ar72.2.1) Ar72.2.2 (inb_of S72 (by decide)) (Hh72.at (inb_of S72 (by decide)) rfl) (g := (mkF m 457 #[iv p1, iv p2, iv p3, iv p4, iv p5, iv cp, iv kk0, iv kk1, iv kk2, rv b1, iv 0, iv (-1), iv 1, iv v, iv 1, iv 2, iv qv, iv 2, iv 2, iv 1, iv 2, iv 0, rv b33, rv b48, iv 2, iv 1] [.int 2, .ref b33, .int p3])) rfl rfl (hb hby at_457)
        obtain ⟨cq73, kq73, q73a, q73b, q73c⟩ := isOf hZ e71 A1
        obtain ⟨_, _, ⟨T73, L73, k73, n73⟩, -, X73, ⟨Lc73, hQ73, l73, y73, z73⟩, st73⟩ := X71.virtualBack hx (y := y_12) (z := y_12) hown (mvT hZ (W 77 rfl)) (mvT hZ (W 78 rfl)) (notFace_of_selects (args := #[]) (mvT hZ (W 80 rfl))) (mvT hZ (W 80 rfl)) (mvT hZ (W 79 rfl)) (by decide) (backOf (W := 0) (valu1 l Z a0 hw [] b1 b26li' b26ki' b26n' kk2 p4 (.int p2) (.int kk1) (.int p3) (.int (0 : Int32)) (.int (0 : Int32)) h63 n0 O64 p26_5 p26_7 p63_1 p26_34) hZ (W 81 rfl) (W 2 rfl) (by decide) (by decide)) q73a q73c (g := (mkF m 464 #[iv p1, iv p2, iv p3, iv p4, iv p5, iv cp, iv kk0, iv kk1, iv kk2, rv b1, iv 0, iv (-1), iv 1, iv v, iv 1, iv 2, iv qv, iv 2, iv 2, iv 1, iv 2, iv 0, rv b33, rv b48, iv 2, iv 1] [.int 1, .ref b1])) rfl (by rw [hml]; rfl) (Steps.refl _) (argsL := [.int 1]) (rest := []) (lenOf pd_6 rfl) rfl (by show 2 * 0 + _ ≤ _; exact Nat.le_of_eq rfl) (hb hby at_464) (fun _ _ => ⟨rfl, e71, (by decide : 24 + 0 ≤ _), (by decide : 435 + 0 ≤ _)⟩)
        dsimp only [Pt.U, Pt.locs, Pt.cells, Pt.slots] at X73 l73 y73 z73 st73 hQ73
        subst l73 y73 z73
        obtain ⟨h73, e73⟩ : ∃ z, T73.heap = z := ⟨_, rfl⟩
        rw [e73] at hQ73
        obtain ⟨rfl, N73q, p73_0⟩ := hQ73
        have N73 := Fr.app N71 N73q
        rw [p73_0] at e73
        obtain ⟨cl74, Ar74, q74, S74, Ng74, Hh74, Gg74⟩ := id V59
        have st74 := X73.iaload hx (j := (2 : Int32)) (v := (.int kk2)) (by rw [e73]; exact Ar74.1) (State.isArrayOf_alike hZ.alike Ar74.2.1) Ar74.2.2 (inb_of S74 (by decide)) (Hh74.at (inb_of S74 (by decide)) rfl) (g := (mkF m 471 #[iv p1, iv p2, iv p3, iv p4, iv p5, iv cp, iv kk0, iv kk1, iv kk2, rv b1, iv 0, iv (-1), iv 1, iv v, iv 1, iv 2, iv qv, iv 2, iv 2, iv 1, iv 2, iv 0, rv b33, rv b48, iv 2, iv 1] [.int 2, .ref b48, .int (own_ev kk2 p4)])) rfl rfl (hb hby at_471)
        obtain ⟨_, _, ⟨T75, L75, k75, n75⟩, -, X75, ⟨Lc75, hQ75, l75, y75, z75⟩, st75⟩ := Jvm.LawKit.callS X73 hx (y := y_10) hown (mvT hZ (W 86 rfl)) (mvT hZ (W 87 rfl)) (mvT hZ (W 88 rfl)) (mvT hZ (W 89 rfl)) (by decide) (backOf (W := 1) (expval l Z a0 hw [] kk2 p4 h63 n0 O64 ) hZ (W 89 rfl) (W 88 rfl) (by decide) (by decide)) (g := (mkF m 473 #[iv p1, iv p2, iv p3, iv p4, iv p5, iv cp, iv kk0, iv kk1, iv kk2, rv b1, iv 0, iv (-1), iv 1, iv v, iv 1, iv 2, iv qv, iv 2, iv 2, iv 1, iv 2, iv 0, rv b33, rv b48, iv 2, iv 1] [.int p4, .int kk2, .int (own_ev kk2 p4)])) rfl (by rw [hml]; rfl) (argsL := [.int kk2, .int p4]) (rest := [.int (own_ev kk2 p4)]) (lenOf pd_0 rfl) rfl (by show 2 * 0 + _ ≤ _; exact Nat.le_of_eq rfl) (hb hby at_473) (fun _ _ => ⟨rfl, e73, (by decide : 24 + 0 ≤ _), (by decide : 435 + 0 ≤ _)⟩)
        dsimp only [Pt.U, Pt.locs, Pt.cells, Pt.slots] at X75 l75 y75 z75 st75 hQ75
        subst l75 y75 z75
        obtain ⟨h75, e75⟩ : ∃ z, T75.heap = z := ⟨_, rfl⟩
        rw [e75] at hQ75
        obtain ⟨rfl, N75q, p75_0⟩ := hQ75
        have N75 := Fr.app N73 N75q
        rw [p75_0] at e75
        obtain ⟨fs, hr, hrun, hended, hW, hsame⟩ := X75.leave (v := some (.int (1 : Int32))) (fun h => by rw [Bd.returns] at h; cases h)
        refine ⟨_, _, pre32 _ ?_, hrun, hended, _, _, rfl, ?_, ⟨_, rfl⟩, hW, hsame.mono (by decide) (by decide)⟩
        · show Sq p e below m T26 296 #[iv p1, iv p2, iv p3, iv p4, iv p5, iv cp, iv kk0, iv kk1, iv kk2, rv b1, iv 0, iv (-1), iv 1, iv v, iv 1, iv 2, iv qv, iv 2, iv 0, iv 0, iv 0, iv 0, .unset, .unset, .unset, .unset] [] _
          refine XS.iload X26.here hx rfl (hb hby at_296) rfl ?_
          refine XS.iconst X26.here hx rfl (hb hby at_298) ?_
          show Sq p e below m T26 299 #[iv p1, iv p2, iv p3, iv p4, iv p5, iv cp, iv kk0, iv kk1, iv kk2, rv b1, iv 0, iv (-1), iv 1, iv v, iv 1, iv 2, iv qv, iv 2, iv 0, iv 0, iv 0, iv 0, .unset, .unset, .unset, .unset] [.int (-1), .int (-1)] _
          refine XS.icmpNo X26.here hx rfl (hb hby at_299) rfl (teq (rfl : (-1 : Int32) = (-1 : Int32))).2 ?_
          refine XS.iconst X26.here hx rfl (hb hby at_302) ?_
          show Sq p e below m T26 303 #[iv p1, iv p2, iv p3, iv p4, iv p5, iv cp, iv kk0, iv kk1, iv kk2, rv b1, iv 0, iv (-1), iv 1, iv v, iv 1, iv 2, iv qv, iv 2, iv 0, iv 0, iv 0, iv 0, .unset, .unset, .unset, .unset] [.int 2] _
          refine XS.istore X26.here hx rfl (hb hby at_303) rfl rfl ?_
          refine XS.iconst X26.here hx rfl (hb hby at_305) ?_
          show Sq p e below m T26 306 #[iv p1, iv p2, iv p3, iv p4, iv p5, iv cp, iv kk0, iv kk1, iv kk2, rv b1, iv 0, iv (-1), iv 1, iv v, iv 1, iv 2, iv qv, iv 2, iv 2, iv 0, iv 0, iv 0, .unset, .unset, .unset, .unset] [.int 1] _
          refine XS.istore X26.here hx rfl (hb hby at_306) rfl rfl ?_
          refine XS.iconst X26.here hx rfl (hb hby at_308) ?_
          show Sq p e below m T26 309 #[iv p1, iv p2, iv p3, iv p4, iv p5, iv cp, iv kk0, iv kk1, iv kk2, rv b1, iv 0, iv (-1), iv 1, iv v, iv 1, iv 2, iv qv, iv 2, iv 2, iv 1, iv 0, iv 0, .unset, .unset, .unset, .unset] [.int 2] _
          refine XS.istore X26.here hx rfl (hb hby at_309) rfl rfl ?_
          refine XS.goto X26.here hx rfl (pc0 := 311) (pc' := 326) rfl (hb hby at_311) (by decide) (by decide) ?_
          show Sq p e below m T26 326 #[iv p1, iv p2, iv p3, iv p4, iv p5, iv cp, iv kk0, iv kk1, iv kk2, rv b1, iv 0, iv (-1), iv 1, iv v, iv 1, iv 2, iv qv, iv 2, iv 2, iv 1, iv 2, iv 0, .unset, .unset, .unset, .unset] [] _
          refine XS.iconst X26.here hx rfl (hb hby at_326) ?_
          show Sq p e below m T26 327 #[iv p1, iv p2, iv p3, iv p4, iv p5, iv cp, iv kk0, iv kk1, iv kk2, rv b1, iv 0, iv (-1), iv 1, iv v, iv 1, iv 2, iv qv, iv 2, iv 2, iv 1, iv 2, iv 0, .unset, .unset, .unset, .unset] [.int 3] _
          refine st33 _ ?_
          show Sq p e below m T33 329 #[iv p1, iv p2, iv p3, iv p4, iv p5, iv cp, iv kk0, iv kk1, iv kk2, rv b1, iv 0, iv (-1), iv 1, iv v, iv 1, iv 2, iv qv, iv 2, iv 2, iv 1, iv 2, iv 0, .unset, .unset, .unset, .unset] [.ref b33] _
          refine XS.dup X33.here hx rfl (hb hby at_329) rfl rfl ?_
          refine XS.iconst X33.here hx rfl (hb hby at_330) ?_
          show Sq p e below m T33 331 #[iv p1, iv p2, iv p3, iv p4, iv p5, iv cp, iv kk0, iv kk1, iv kk2, rv b1, iv 0, iv (-1), iv 1, iv v, iv 1, iv 2, iv qv, iv 2, iv 2, iv 1, iv 2, iv 0, .unset, .unset, .unset, .unset] [.int 0, .ref b33, .ref b33] _
          refine XS.iloadN X33.here hx rfl (hb hby at_331) rfl ?_
          show Sq p e below m T33 332 #[iv p1, iv p2, iv p3, iv p4, iv p5, iv cp, iv kk0, iv kk1, iv kk2, rv b1, iv 0, iv (-1), iv 1, iv v, iv 1, iv 2, iv qv, iv 2, iv 2, iv 1, iv 2, iv 0, .unset, .unset, .unset, .unset] [.int p1, .int 0, .ref b33, .ref b33] _
          refine st36 _ ?_
          show Sq p e below m T36 333 #[iv p1, iv p2, iv p3, iv p4, iv p5, iv cp, iv kk0, iv kk1, iv kk2, rv b1, iv 0, iv (-1), iv 1, iv v, iv 1, iv 2, iv qv, iv 2, iv 2, iv 1, iv 2, iv 0, .unset, .unset, .unset, .unset] [.ref b33] _
          refine XS.dup X36.here hx rfl (hb hby at_333) rfl rfl ?_
          refine XS.iconst X36.here hx rfl (hb hby at_334) ?_
          show Sq p e below m T36 335 #[iv p1, iv p2, iv p3, iv p4, iv p5, iv cp, iv kk0, iv kk1, iv kk2, rv b1, iv 0, iv (-1), iv 1, iv v, iv 1, iv 2, iv qv, iv 2, iv 2, iv 1, iv 2, iv 0, .unset, .unset, .unset, .unset] [.int 1, .ref b33, .ref b33] _
          refine XS.iloadN X36.here hx rfl (hb hby at_335) rfl ?_
          show Sq p e below m T36 336 #[iv p1, iv p2, iv p3, iv p4, iv p5, iv cp, iv kk0, iv kk1, iv kk2, rv b1, iv 0, iv (-1), iv 1, iv v, iv 1, iv 2, iv qv, iv 2, iv 2, iv 1, iv 2, iv 0, .unset, .unset, .unset, .unset] [.int p2, .int 1, .ref b33, .ref b33] _
          refine st40 _ ?_
          show Sq p e below m T40 337 #[iv p1, iv p2, iv p3, iv p4, iv p5, iv cp, iv kk0, iv kk1, iv kk2, rv b1, iv 0, iv (-1), iv 1, iv v, iv 1, iv 2, iv qv, iv 2, iv 2, iv 1, iv 2, iv 0, .unset, .unset, .unset, .unset] [.ref b33] _
          refine XS.dup X40.here hx rfl (hb hby at_337) rfl rfl ?_
          refine XS.iconst X40.here hx rfl (hb hby at_338) ?_
          show Sq p e below m T40 339 #[iv p1, iv p2, iv p3, iv p4, iv p5, iv cp, iv kk0, iv kk1, iv kk2, rv b1, iv 0, iv (-1), iv 1, iv v, iv 1, iv 2, iv qv, iv 2, iv 2, iv 1, iv 2, iv 0, .unset, .unset, .unset, .unset] [.int 2, .ref b33, .ref b33] _
          refine XS.iloadN X40.here hx rfl (hb hby at_339) rfl ?_
          show Sq p e below m T40 340 #[iv p1, iv p2, iv p3, iv p4, iv p5, iv cp, iv kk0, iv kk1, iv kk2, rv b1, iv 0, iv (-1), iv 1, iv v, iv 1, iv 2, iv qv, iv 2, iv 2, iv 1, iv 2, iv 0, .unset, .unset, .unset, .unset] [.int p3, .int 2, .ref b33, .ref b33] _
          refine st44 _ ?_
          show Sq p e below m T44 341 #[iv p1, iv p2, iv p3, iv p4, iv p5, iv cp, iv kk0, iv kk1, iv kk2, rv b1, iv 0, iv (-1), iv 1, iv v, iv 1, iv 2, iv qv, iv 2, iv 2, iv 1, iv 2, iv 0, .unset, .unset, .unset, .unset] [.ref b33] _
          refine XS.astore X44.here hx rfl (hb hby at_341) rfl rfl rfl ?_
          refine XS.iconst X44.here hx rfl (hb hby at_343) ?_
          show Sq p e below m T44 344 #[iv p1, iv p2, iv p3, iv p4, iv p5, iv cp, iv kk0, iv kk1, iv kk2, rv b1, iv 0, iv (-1), iv 1, iv v, iv 1, iv 2, iv qv, iv 2, iv 2, iv 1, iv 2, iv 0, rv b33, .unset, .unset, .unset] [.int 3] _
          refine st48 _ ?_
          show Sq p e below m T48 346 #[iv p1, iv p2, iv p3, iv p4, iv p5, iv cp, iv kk0, iv kk1, iv kk2, rv b1, iv 0, iv (-1), iv 1, iv v, iv 1, iv 2, iv qv, iv 2, iv 2, iv 1, iv 2, iv 0, rv b33, .unset, .unset, .unset] [.ref b48] _
          refine XS.dup X48.here hx rfl (hb hby at_346) rfl rfl ?_
          refine XS.iconst X48.here hx rfl (hb hby at_347) ?_
          show Sq p e below m T48 348 #[iv p1, iv p2, iv p3, iv p4, iv p5, iv cp, iv kk0, iv kk1, iv kk2, rv b1, iv 0, iv (-1), iv 1, iv v, iv 1, iv 2, iv qv, iv 2, iv 2, iv 1, iv 2, iv 0, rv b33, .unset, .unset, .unset] [.int 0, .ref b48, .ref b48] _
          refine XS.iload X48.here hx rfl (hb hby at_348) rfl ?_
          show Sq p e below m T48 350 #[iv p1, iv p2, iv p3, iv p4, iv p5, iv cp, iv kk0, iv kk1, iv kk2, rv b1, iv 0, iv (-1), iv 1, iv v, iv 1, iv 2, iv qv, iv 2, iv 2, iv 1, iv 2, iv 0, rv b33, .unset, .unset, .unset] [.int kk0, .int 0, .ref b48, .ref b48] _
          refine st51 _ ?_
          show Sq p e below m T51 351 #[iv p1, iv p2, iv p3, iv p4, iv p5, iv cp, iv kk0, iv kk1, iv kk2, rv b1, iv 0, iv (-1), iv 1, iv v, iv 1, iv 2, iv qv, iv 2, iv 2, iv 1, iv 2, iv 0, rv b33, .unset, .unset, .unset] [.ref b48] _
          refine XS.dup X51.here hx rfl (hb hby at_351) rfl rfl ?_
          refine XS.iconst X51.here hx rfl (hb hby at_352) ?_
          show Sq p e below m T51 353 #[iv p1, iv p2, iv p3, iv p4, iv p5, iv cp, iv kk0, iv kk1, iv kk2, rv b1, iv 0, iv (-1), iv 1, iv v, iv 1, iv 2, iv qv, iv 2, iv 2, iv 1, iv 2, iv 0, rv b33, .unset, .unset, .unset] [.int 1, .ref b48, .ref b48] _
          refine XS.iload X51.here hx rfl (hb hby at_353) rfl ?_
          show Sq p e below m T51 355 #[iv p1, iv p2, iv p3, iv p4, iv p5, iv cp, iv kk0, iv kk1, iv kk2, rv b1, iv 0, iv (-1), iv 1, iv v, iv 1, iv 2, iv qv, iv 2, iv 2, iv 1, iv 2, iv 0, rv b33, .unset, .unset, .unset] [.int kk1, .int 1, .ref b48, .ref b48] _
          refine st55 _ ?_
          show Sq p e below m T55 356 #[iv p1, iv p2, iv p3, iv p4, iv p5, iv cp, iv kk0, iv kk1, iv kk2, rv b1, iv 0, iv (-1), iv 1, iv v, iv 1, iv 2, iv qv, iv 2, iv 2, iv 1, iv 2, iv 0, rv b33, .unset, .unset, .unset] [.ref b48] _
          refine XS.dup X55.here hx rfl (hb hby at_356) rfl rfl ?_
          refine XS.iconst X55.here hx rfl (hb hby at_357) ?_
          show Sq p e below m T55 358 #[iv p1, iv p2, iv p3, iv p4, iv p5, iv cp, iv kk0, iv kk1, iv kk2, rv b1, iv 0, iv (-1), iv 1, iv v, iv 1, iv 2, iv qv, iv 2, iv 2, iv 1, iv 2, iv 0, rv b33, .unset, .unset, .unset] [.int 2, .ref b48, .ref b48] _
          refine XS.iload X55.here hx rfl (hb hby at_358) rfl ?_
          show Sq p e below m T55 360 #[iv p1, iv p2, iv p3, iv p4, iv p5, iv cp, iv kk0, iv kk1, iv kk2, rv b1, iv 0, iv (-1), iv 1, iv v, iv 1, iv 2, iv qv, iv 2, iv 2, iv 1, iv 2, iv 0, rv b33, .unset, .unset, .unset] [.int kk2, .int 2, .ref b48, .ref b48] _
          refine st59 _ ?_
          show Sq p e below m T59 361 #[iv p1, iv p2, iv p3, iv p4, iv p5, iv cp, iv kk0, iv kk1, iv kk2, rv b1, iv 0, iv (-1), iv 1, iv v, iv 1, iv 2, iv qv, iv 2, iv 2, iv 1, iv 2, iv 0, rv b33, .unset, .unset, .unset] [.ref b48] _
          refine XS.astore X59.here hx rfl (hb hby at_361) rfl rfl rfl ?_
          refine XS.aload X59.here hx rfl (hb hby at_363) rfl rfl ?_
          show Sq p e below m T59 365 #[iv p1, iv p2, iv p3, iv p4, iv p5, iv cp, iv kk0, iv kk1, iv kk2, rv b1, iv 0, iv (-1), iv 1, iv v, iv 1, iv 2, iv qv, iv 2, iv 2, iv 1, iv 2, iv 0, rv b33, rv b48, .unset, .unset] [.ref b1] _
          refine XS.iload X59.here hx rfl (hb hby at_365) rfl ?_
          show Sq p e below m T59 367 #[iv p1, iv p2, iv p3, iv p4, iv p5, iv cp, iv kk0, iv kk1, iv kk2, rv b1, iv 0, iv (-1), iv 1, iv v, iv 1, iv 2, iv qv, iv 2, iv 2, iv 1, iv 2, iv 0, rv b33, rv b48, .unset, .unset] [.int 2, .ref b1] _
          refine st63.trans ?_
          show Sq p e below m T63 370 #[iv p1, iv p2, iv p3, iv p4, iv p5, iv cp, iv kk0, iv kk1, iv kk2, rv b1, iv 0, iv (-1), iv 1, iv v, iv 1, iv 2, iv qv, iv 2, iv 2, iv 1, iv 2, iv 0, rv b33, rv b48, .unset, .unset] [.int 2] _
          refine XS.istore X63.here hx rfl (hb hby at_370) rfl rfl ?_
          refine XS.iload X63.here hx rfl (hb hby at_372) rfl ?_
          show Sq p e below m T63 374 #[iv p1, iv p2, iv p3, iv p4, iv p5, iv cp, iv kk0, iv kk1, iv kk2, rv b1, iv 0, iv (-1), iv 1, iv v, iv 1, iv 2, iv qv, iv 2, iv 2, iv 1, iv 2, iv 0, rv b33, rv b48, iv 2, .unset] [.int 2] _
          refine XS.iload X63.here hx rfl (hb hby at_374) rfl ?_
          refine XS.icmpNo X63.here hx rfl (hb hby at_376) rfl (teq (rfl : (2 : Int32) = (2 : Int32))).2 ?_
          show Sq p e below m T63 379 #[iv p1, iv p2, iv p3, iv p4, iv p5, iv cp, iv kk0, iv kk1, iv kk2, rv b1, iv 0, iv (-1), iv 1, iv v, iv 1, iv 2, iv qv, iv 2, iv 2, iv 1, iv 2, iv 0, rv b33, rv b48, iv 2, .unset] [] _
          refine XS.iconst X63.here hx rfl (hb hby at_379) ?_
          refine XS.goto X63.here hx rfl (pc0 := 380) (pc' := 384) rfl (hb hby at_380) (by decide) (by decide) ?_
          show Sq p e below m T63 384 #[iv p1, iv p2, iv p3, iv p4, iv p5, iv cp, iv kk0, iv kk1, iv kk2, rv b1, iv 0, iv (-1), iv 1, iv v, iv 1, iv 2, iv qv, iv 2, iv 2, iv 1, iv 2, iv 0, rv b33, rv b48, iv 2, .unset] [.int 1] _
          refine XS.istore X63.here hx rfl (hb hby at_384) rfl rfl ?_
          refine XS.iload X63.here hx rfl (hb hby at_386) rfl ?_
          show Sq p e below m T63 388 #[iv p1, iv p2, iv p3, iv p4, iv p5, iv cp, iv kk0, iv kk1, iv kk2, rv b1, iv 0, iv (-1), iv 1, iv v, iv 1, iv 2, iv qv, iv 2, iv 2, iv 1, iv 2, iv 0, rv b33, rv b48, iv 2, iv 1] [.int 1] _
          refine XS.ifNo X63.here hx rfl (hb hby at_388) rfl ((if0 _ _).trans (feq (by decide)).1) ?_
          refine XS.iload X63.here hx rfl (hb hby at_391) rfl ?_
          show Sq p e below m T63 393 #[iv p1, iv p2, iv p3, iv p4, iv p5, iv cp, iv kk0, iv kk1, iv kk2, rv b1, iv 0, iv (-1), iv 1, iv v, iv 1, iv 2, iv qv, iv 2, iv 2, iv 1, iv 2, iv 0, rv b33, rv b48, iv 2, iv 1] [.int 2] _
          refine XS.iconst X63.here hx rfl (hb hby at_393) ?_
          refine XS.icmpNo X63.here hx rfl (hb hby at_394) rfl (flt (by decide)).1 ?_
          show Sq p e below m T63 397 #[iv p1, iv p2, iv p3, iv p4, iv p5, iv cp, iv kk0, iv kk1, iv kk2, rv b1, iv 0, iv (-1), iv 1, iv v, iv 1, iv 2, iv qv, iv 2, iv 2, iv 1, iv 2, iv 0, rv b33, rv b48, iv 2, iv 1] [] _
          refine XS.aload X63.here hx rfl (hb hby at_397) rfl rfl ?_
          refine XS.iconst X63.here hx rfl (hb hby at_399) ?_
          show Sq p e below m T63 400 #[iv p1, iv p2, iv p3, iv p4, iv p5, iv cp, iv kk0, iv kk1, iv kk2, rv b1, iv 0, iv (-1), iv 1, iv v, iv 1, iv 2, iv qv, iv 2, iv 2, iv 1, iv 2, iv 0, rv b33, rv b48, iv 2, iv 1] [.int 0, .ref b1] _
          refine st66.trans ?_
          show Sq p e below m T66 403 #[iv p1, iv p2, iv p3, iv p4, iv p5, iv cp, iv kk0, iv kk1, iv kk2, rv b1, iv 0, iv (-1), iv 1, iv v, iv 1, iv 2, iv qv, iv 2, iv 2, iv 1, iv 2, iv 0, rv b33, rv b48, iv 2, iv 1] [.int p2] _
          refine XS.aload X66.here hx rfl (hb hby at_403) rfl rfl ?_
          refine XS.iload X66.here hx rfl (hb hby at_405) rfl ?_
          show Sq p e below m T66 407 #[iv p1, iv p2, iv p3, iv p4, iv p5, iv cp, iv kk0, iv kk1, iv kk2, rv b1, iv 0, iv (-1), iv 1, iv v, iv 1, iv 2, iv qv, iv 2, iv 2, iv 1, iv 2, iv 0, rv b33, rv b48, iv 2, iv 1] [.int 1, .ref b33, .int p2] _
          refine st67 _ ?_
          show Sq p e below m T66 408 #[iv p1, iv p2, iv p3, iv p4, iv p5, iv cp, iv kk0, iv kk1, iv kk2, rv b1, iv 0, iv (-1), iv 1, iv v, iv 1, iv 2, iv qv, iv 2, iv 2, iv 1, iv 2, iv 0, rv b33, rv b48, iv 2, iv 1] [.int p2, .int p2] _
          refine XS.icmpNo X66.here hx rfl (hb hby at_408) rfl (teq (rfl : p2 = p2)).2 ?_
          refine XS.aload X66.here hx rfl (hb hby at_411) rfl rfl ?_
          show Sq p e below m T66 413 #[iv p1, iv p2, iv p3, iv p4, iv p5, iv cp, iv kk0, iv kk1, iv kk2, rv b1, iv 0, iv (-1), iv 1, iv v, iv 1, iv 2, iv qv, iv 2, iv 2, iv 1, iv 2, iv 0, rv b33, rv b48, iv 2, iv 1] [.ref b1] _
          refine XS.iconst X66.here hx rfl (hb hby at_413) ?_
          show Sq p e below m T66 414 #[iv p1, iv p2, iv p3, iv p4, iv p5, iv cp, iv kk0, iv kk1, iv kk2, rv b1, iv 0, iv (-1), iv 1, iv v, iv 1, iv 2, iv qv, iv 2, iv 2, iv 1, iv 2, iv 0, rv b33, rv b48, iv 2, iv 1] [.int 0, .ref b1] _
          refine st68.trans ?_
          show Sq p e below m T68 417 #[iv p1, iv p2, iv p3, iv p4, iv p5, iv cp, iv kk0, iv kk1, iv kk2, rv b1, iv 0, iv (-1), iv 1, iv v, iv 1, iv 2, iv qv, iv 2, iv 2, iv 1, iv 2, iv 0, rv b33, rv b48, iv 2, iv 1] [.int (own_ev kk1 p4)] _
          refine XS.aload X68.here hx rfl (hb hby at_417) rfl rfl ?_
          refine XS.iload X68.here hx rfl (hb hby at_419) rfl ?_
          show Sq p e below m T68 421 #[iv p1, iv p2, iv p3, iv p4, iv p5, iv cp, iv kk0, iv kk1, iv kk2, rv b1, iv 0, iv (-1), iv 1, iv v, iv 1, iv 2, iv qv, iv 2, iv 2, iv 1, iv 2, iv 0, rv b33, rv b48, iv 2, iv 1] [.int 1, .ref b48, .int (own_ev kk1 p4)] _
          refine st69 _ ?_
          show Sq p e below m T68 422 #[iv p1, iv p2, iv p3, iv p4, iv p5, iv cp, iv kk0, iv kk1, iv kk2, rv b1, iv 0, iv (-1), iv 1, iv v, iv 1, iv 2, iv qv, iv 2, iv 2, iv 1, iv 2, iv 0, rv b33, rv b48, iv 2, iv 1] [.int kk1, .int (own_ev kk1 p4)] _
          refine XS.iloadN X68.here hx rfl (hb hby at_422) rfl ?_
          show Sq p e below m T68 423 #[iv p1, iv p2, iv p3, iv p4, iv p5, iv cp, iv kk0, iv kk1, iv kk2, rv b1, iv 0, iv (-1), iv 1, iv v, iv 1, iv 2, iv qv, iv 2, iv 2, iv 1, iv 2, iv 0, rv b33, rv b48, iv 2, iv 1] [.int p4, .int kk1, .int (own_ev kk1 p4)] _
          refine st70 _ ?_
          show Sq p e below m T70 426 #[iv p1, iv p2, iv p3, iv p4, iv p5, iv cp, iv kk0, iv kk1, iv kk2, rv b1, iv 0, iv (-1), iv 1, iv v, iv 1, iv 2, iv qv, iv 2, iv 2, iv 1, iv 2, iv 0, rv b33, rv b48, iv 2, iv 1] [.int (own_ev kk1 p4), .int (own_ev kk1 p4)] _
          refine XS.icmpNo X70.here hx rfl (hb hby at_426) rfl (teq (rfl : (own_ev kk1 p4) = (own_ev kk1 p4))).2 ?_
          refine XS.iconst X70.here hx rfl (hb hby at_429) ?_
          show Sq p e below m T70 430 #[iv p1, iv p2, iv p3, iv p4, iv p5, iv cp, iv kk0, iv kk1, iv kk2, rv b1, iv 0, iv (-1), iv 1, iv v, iv 1, iv 2, iv qv, iv 2, iv 2, iv 1, iv 2, iv 0, rv b33, rv b48, iv 2, iv 1] [.int 1] _
          refine XS.goto X70.here hx rfl (pc0 := 430) (pc' := 434) rfl (hb hby at_430) (by decide) (by decide) ?_
          refine XS.istore X70.here hx rfl (hb hby at_434) rfl rfl ?_
          show Sq p e below m T70 436 #[iv p1, iv p2, iv p3, iv p4, iv p5, iv cp, iv kk0, iv kk1, iv kk2, rv b1, iv 0, iv (-1), iv 1, iv v, iv 1, iv 2, iv qv, iv 2, iv 2, iv 1, iv 2, iv 0, rv b33, rv b48, iv 2, iv 1] [] _
          refine XS.iload X70.here hx rfl (hb hby at_436) rfl ?_
          refine XS.ifNo X70.here hx rfl (hb hby at_438) rfl ((if0 _ _).trans (feq (by decide)).1) ?_
          show Sq p e below m T70 441 #[iv p1, iv p2, iv p3, iv p4, iv p5, iv cp, iv kk0, iv kk1, iv kk2, rv b1, iv 0, iv (-1), iv 1, iv v, iv 1, iv 2, iv qv, iv 2, iv 2, iv 1, iv 2, iv 0, rv b33, rv b48, iv 2, iv 1] [] _
          refine XS.iload X70.here hx rfl (hb hby at_441) rfl ?_
          refine XS.iconst X70.here hx rfl (hb hby at_443) ?_
          show Sq p e below m T70 444 #[iv p1, iv p2, iv p3, iv p4, iv p5, iv cp, iv kk0, iv kk1, iv kk2, rv b1, iv 0, iv (-1), iv 1, iv v, iv 1, iv 2, iv qv, iv 2, iv 2, iv 1, iv 2, iv 0, rv b33, rv b48, iv 2, iv 1] [.int 2, .int 2] _
          refine XS.icmpNo X70.here hx rfl (hb hby at_444) rfl (flt (by decide)).1 ?_
          refine XS.aload X70.here hx rfl (hb hby at_447) rfl rfl ?_
          show Sq p e below m T70 449 #[iv p1, iv p2, iv p3, iv p4, iv p5, iv cp, iv kk0, iv kk1, iv kk2, rv b1, iv 0, iv (-1), iv 1, iv v, iv 1, iv 2, iv qv, iv 2, iv 2, iv 1, iv 2, iv 0, rv b33, rv b48, iv 2, iv 1] [.ref b1] _
          refine XS.iconst X70.here hx rfl (hb hby at_449) ?_
          show Sq p e below m T70 450 #[iv p1, iv p2, iv p3, iv p4, iv p5, iv cp, iv kk0, iv kk1, iv kk2, rv b1, iv 0, iv (-1), iv 1, iv v, iv 1, iv 2, iv qv, iv 2, iv 2, iv 1, iv 2, iv 0, rv b33, rv b48, iv 2, iv 1] [.int 1, .ref b1] _
          refine st71.trans ?_
          show Sq p e below m T71 453 #[iv p1, iv p2, iv p3, iv p4, iv p5, iv cp, iv kk0, iv kk1, iv kk2, rv b1, iv 0, iv (-1), iv 1, iv v, iv 1, iv 2, iv qv, iv 2, iv 2, iv 1, iv 2, iv 0, rv b33, rv b48, iv 2, iv 1] [.int p3] _
          refine XS.aload X71.here hx rfl (hb hby at_453) rfl rfl ?_
          refine XS.iload X71.here hx rfl (hb hby at_455) rfl ?_
          show Sq p e below m T71 457 #[iv p1, iv p2, iv p3, iv p4, iv p5, iv cp, iv kk0, iv kk1, iv kk2, rv b1, iv 0, iv (-1), iv 1, iv v, iv 1, iv 2, iv qv, iv 2, iv 2, iv 1, iv 2, iv 0, rv b33, rv b48, iv 2, iv 1] [.int 2, .ref b33, .int p3] _
          refine st72 _ ?_
          show Sq p e below m T71 458 #[iv p1, iv p2, iv p3, iv p4, iv p5, iv cp, iv kk0, iv kk1, iv kk2, rv b1, iv 0, iv (-1), iv 1, iv v, iv 1, iv 2, iv qv, iv 2, iv 2, iv 1, iv 2, iv 0, rv b33, rv b48, iv 2, iv 1] [.int p3, .int p3] _
          refine XS.icmpNo X71.here hx rfl (hb hby at_458) rfl (teq (rfl : p3 = p3)).2 ?_
          refine XS.aload X71.here hx rfl (hb hby at_461) rfl rfl ?_
          show Sq p e below m T71 463 #[iv p1, iv p2, iv p3, iv p4, iv p5, iv cp, iv kk0, iv kk1, iv kk2, rv b1, iv 0, iv (-1), iv 1, iv v, iv 1, iv 2, iv qv, iv 2, iv 2, iv 1, iv 2, iv 0, rv b33, rv b48, iv 2, iv 1] [.ref b1] _
          refine XS.iconst X71.here hx rfl (hb hby at_463) ?_
          show Sq p e below m T71 464 #[iv p1, iv p2, iv p3, iv p4, iv p5, iv cp, iv kk0, iv kk1, iv kk2, rv b1, iv 0, iv (-1), iv 1, iv v, iv 1, iv 2, iv qv, iv 2, iv 2, iv 1, iv 2, iv 0, rv b33, rv b48, iv 2, iv 1] [.int 1, .ref b1] _
          refine st73.trans ?_
          show Sq p e below m T73 467 #[iv p1, iv p2, iv p3, iv p4, iv p5, iv cp, iv kk0, iv kk1, iv kk2, rv b1, iv 0, iv (-1), iv 1, iv v, iv 1, iv 2, iv qv, iv 2, iv 2, iv 1, iv 2, iv 0, rv b33, rv b48, iv 2, iv 1] [.int (own_ev kk2 p4)] _
          refine XS.aload X73.here hx rfl (hb hby at_467) rfl rfl ?_
          refine XS.iload X73.here hx rfl (hb hby at_469) rfl ?_
          show Sq p e below m T73 471 #[iv p1, iv p2, iv p3, iv p4, iv p5, iv cp, iv kk0, iv kk1, iv kk2, rv b1, iv 0, iv (-1), iv 1, iv v, iv 1, iv 2, iv qv, iv 2, iv 2, iv 1, iv 2, iv 0, rv b33, rv b48, iv 2, iv 1] [.int 2, .ref b48, .int (own_ev kk2 p4)] _
          refine st74 _ ?_
          show Sq p e below m T73 472 #[iv p1, iv p2, iv p3, iv p4, iv p5, iv cp, iv kk0, iv kk1, iv kk2, rv b1, iv 0, iv (-1), iv 1, iv v, iv 1, iv 2, iv qv, iv 2, iv 2, iv 1, iv 2, iv 0, rv b33, rv b48, iv 2, iv 1] [.int kk2, .int (own_ev kk2 p4)] _
          refine XS.iloadN X73.here hx rfl (hb hby at_472) rfl ?_
          show Sq p e below m T73 473 #[iv p1, iv p2, iv p3, iv p4, iv p5, iv cp, iv kk0, iv kk1, iv kk2, rv b1, iv 0, iv (-1), iv 1, iv v, iv 1, iv 2, iv qv, iv 2, iv 2, iv 1, iv 2, iv 0, rv b33, rv b48, iv 2, iv 1] [.int p4, .int kk2, .int (own_ev kk2 p4)] _
          refine st75 _ ?_
          show Sq p e below m T75 476 #[iv p1, iv p2, iv p3, iv p4, iv p5, iv cp, iv kk0, iv kk1, iv kk2, rv b1, iv 0, iv (-1), iv 1, iv v, iv 1, iv 2, iv qv, iv 2, iv 2, iv 1, iv 2, iv 0, rv b33, rv b48, iv 2, iv 1] [.int (own_ev kk2 p4), .int (own_ev kk2 p4)] _
          refine XS.icmpNo X75.here hx rfl (hb hby at_476) rfl (teq (rfl : (own_ev kk2 p4) = (own_ev kk2 p4))).2 ?_
          refine XS.iconst X75.here hx rfl (hb hby at_479) ?_
          show Sq p e below m T75 480 #[iv p1, iv p2, iv p3, iv p4, iv p5, iv cp, iv kk0, iv kk1, iv kk2, rv b1, iv 0, iv (-1), iv 1, iv v, iv 1, iv 2, iv qv, iv 2, iv 2, iv 1, iv 2, iv 0, rv b33, rv b48, iv 2, iv 1] [.int 1] _
          refine XS.goto X75.here hx rfl (pc0 := 480) (pc' := 484) rfl (hb hby at_480) (by decide) (by decide) ?_
          refine XS.istore X75.here hx rfl (hb hby at_484) rfl rfl ?_
          show Sq p e below m T75 486 #[iv p1, iv p2, iv p3, iv p4, iv p5, iv cp, iv kk0, iv kk1, iv kk2, rv b1, iv 0, iv (-1), iv 1, iv v, iv 1, iv 2, iv qv, iv 2, iv 2, iv 1, iv 2, iv 0, rv b33, rv b48, iv 2, iv 1] [] _
          refine XS.iload X75.here hx rfl (hb hby at_486) rfl ?_
          refine XS.ifNo X75.here hx rfl (hb hby at_488) rfl ((if0 _ _).trans (feq (by decide)).1) ?_
          show Sq p e below m T75 491 #[iv p1, iv p2, iv p3, iv p4, iv p5, iv cp, iv kk0, iv kk1, iv kk2, rv b1, iv 0, iv (-1), iv 1, iv v, iv 1, iv 2, iv qv, iv 2, iv 2, iv 1, iv 2, iv 0, rv b33, rv b48, iv 2, iv 1] [] _
          refine XS.iload X75.here hx rfl (hb hby at_491) rfl ?_
          refine XS.iconst X75.here hx rfl (hb hby at_493) ?_
          show Sq p e below m T75 494 #[iv p1, iv p2, iv p3, iv p4, iv p5, iv cp, iv kk0, iv kk1, iv kk2, rv b1, iv 0, iv (-1), iv 1, iv v, iv 1, iv 2, iv qv, iv 2, iv 2, iv 1, iv 2, iv 0, rv b33, rv b48, iv 2, iv 1] [.int 3, .int 2] _
          refine XS.icmpYes X75.here hx rfl (pc0 := 494) (pc' := 536) rfl (hb hby at_494) rfl (tlt (by decide)).1 (by decide) (by decide) ?_
          refine XS.iload X75.here hx rfl (hb hby at_536) rfl ?_
          show Sq p e below m T75 538 #[iv p1, iv p2, iv p3, iv p4, iv p5, iv cp, iv kk0, iv kk1, iv kk2, rv b1, iv 0, iv (-1), iv 1, iv v, iv 1, iv 2, iv qv, iv 2, iv 2, iv 1, iv 2, iv 0, rv b33, rv b48, iv 2, iv 1] [.int 1] _
          exact retN X75 hx (t := .boolean) Bd.returns (by simp) (hb hby at_538) hr
        · show Q_rm0 Z p1 p2 p3 p4 p5 cp kk0 kk1 kk2 v qv w_MIR h0 n0 _ T75.heap _
          rw [e75]
          exact ⟨rfl, N75⟩
      · obtain ⟨T33, h33, k33, X33, e33, E33, A33, A33x, st33⟩ := newPE X26 hx hZ (W 9 rfl) e26 (g := (mkF m 327 #[iv p1, iv p2, iv p3, iv p4, iv p5, iv cp, iv kk0, iv kk1, iv kk2, rv b1, iv 0, iv 0, iv 1, iv v, iv 1, iv 2, iv qv, iv 2, iv 3, iv 0, iv 1, iv 2, .unset, .unset, .unset, .unset] [.int 3])) rfl (hb hby at_327) rfl (by decide) (cap := 3) (by decide) (by decide) (by decide) (by decide) (ad := "[I") (by decide)
        obtain ⟨b33, g33⟩ : ∃ z, z = h26.size := ⟨_, rfl⟩
        rw [← g33] at A33 A33x st33
        have g_b33 : n0 ≤ b33 := Nat.le_trans (own_sz O27) (Nat.le_of_eq g33.symm)
        have ne_b1_b33 : b1 ≠ b33 := Nat.ne_of_lt (Nat.lt_of_lt_of_le A1.lt (Nat.le_of_eq g33.symm))
        have ne_b26lo__b33 : b26lo' ≠ b33 := Nat.ne_of_lt (Nat.lt_of_lt_of_le p26_8.lt (Nat.le_of_eq g33.symm))
        have ne_b26ea__b33 : b26ea' ≠ b33 := Nat.ne_of_lt (Nat.lt_of_lt_of_le p26_9.lt (Nat.le_of_eq g33.symm))
        have ne_b26li__b33 : b26li' ≠ b33 := Nat.ne_of_lt (Nat.lt_of_lt_of_le p26_12.lt (Nat.le_of_eq g33.symm))
        have A1 := A1.ext E33
        have p26_1 := p26_1.ext E33
        have p26_2 := p26_2.ext E33
        have p26_5 := p26_5.ext E33
        have p26_7 := p26_7.ext E33
        have p26_8 := p26_8.ext E33
        have p26_9 := p26_9.ext E33
        have p26_12 := p26_12.ext E33
        have O34 := O27.ext E33
        have V33 : Arv Z h33 b33 k33 .int (3 : Int32) [(.int (0 : Int32)), (.int (0 : Int32)), (.int (0 : Int32))] (.int (0 : Int32)) := (Arv.new A33 (by decide)).pad (pad_rep [] (.int (0 : Int32)) 3)
        obtain ⟨cl36, Ar36, q36, S36, Ng36, Hh36, Gg36⟩ := id V33
        obtain ⟨T36, h36, X36, e36, W36, st36⟩ := stI X33 hx hZ e33 Ar36 (j := (0 : Int32)) (inb_of S36 (by decide)) (g := (mkF m 332 #[iv p1, iv p2, iv p3, iv p4, iv p5, iv cp, iv kk0, iv kk1, iv kk2, rv b1, iv 0, iv 0, iv 1, iv v, iv 1, iv 2, iv qv, iv 2, iv 3, iv 0, iv 1, iv 2, .unset, .unset, .unset, .unset] [.int p1, .int 0, .ref b33, .ref b33])) rfl rfl (hb hby at_332)
        have V36 : Arv Z h36 b33 k33 .int (3 : Int32) [(.int p1), (.int (0 : Int32)), (.int (0 : Int32))] (.int (0 : Int32)) := Arv.set Ar36 q36 S36 Ng36 Hh36 Gg36 rfl W36 0 rfl (Nat.le_of_ble_eq_true rfl)
        have A1 := A1.wr W36
        have p26_1 := p26_1.other W36 (Or.inl ne_b1_b33)
        have p26_2 := p26_2.other W36 (Or.inl ne_b1_b33)
        have p26_5 := p26_5.other W36 (Or.inl ne_b1_b33)
        have p26_7 := p26_7.other W36 (Or.inl ne_b1_b33)
        have p26_8 := p26_8.other W36 ne_b26lo__b33
        have p26_9 := p26_9.other W36 ne_b26ea__b33
        have p26_12 := p26_12.other W36 ne_b26li__b33
        have A33x := A33x.wr W36
        have O37 := O34.wr W36 g_b33
        have N39 := Fr.snoc X36 N26 g_b33
        obtain ⟨cl40, Ar40, q40, S40, Ng40, Hh40, Gg40⟩ := id V36
        obtain ⟨T40, h40, X40, e40, W40, st40⟩ := stI X36 hx hZ e36 Ar40 (j := (1 : Int32)) (inb_of S40 (by decide)) (g := (mkF m 336 #[iv p1, iv p2, iv p3, iv p4, iv p5, iv cp, iv kk0, iv kk1, iv kk2, rv b1, iv 0, iv 0, iv 1, iv v, iv 1, iv 2, iv qv, iv 2, iv 3, iv 0, iv 1, iv 2, .unset, .unset, .unset, .unset] [.int p2, .int 1, .ref b33, .ref b33])) rfl rfl (hb hby at_336)
        have V40 : Arv Z h40 b33 k33 .int (3 : Int32) [(.int p1), (.int p2), (.int (0 : Int32))] (.int (0 : Int32)) := Arv.set Ar40 q40 S40 Ng40 Hh40 Gg40 rfl W40 1 rfl (Nat.le_of_ble_eq_true rfl)
        have A1 := A1.wr W40
        have p26_1 := p26_1.other W40 (Or.inl ne_b1_b33)
        have p26_2 := p26_2.other W40 (Or.inl ne_b1_b33)
        have p26_5 := p26_5.other W40 (Or.inl ne_b1_b33)
        have p26_7 := p26_7.other W40 (Or.inl ne_b1_b33)
        have p26_8 := p26_8.other W40 ne_b26lo__b33
        have p26_9 := p26_9.other W40 ne_b26ea__b33
        have p26_12 := p26_12.other W40 ne_b26li__b33
        have A33x := A33x.wr W40
        have O41 := O37.wr W40 g_b33
        have N43 := Fr.snoc X40 N39 g_b33
        obtain ⟨cl44, Ar44, q44, S44, Ng44, Hh44, Gg44⟩ := id V40
        obtain ⟨T44, h44, X44, e44, W44, st44⟩ := stI X40 hx hZ e40 Ar44 (j := (2 : Int32)) (inb_of S44 (by decide)) (g := (mkF m 340 #[iv p1, iv p2, iv p3, iv p4, iv p5, iv cp, iv kk0, iv kk1, iv kk2, rv b1, iv 0, iv 0, iv 1, iv v, iv 1, iv 2, iv qv, iv 2, iv 3, iv 0, iv 1, iv 2, .unset, .unset, .unset, .unset] [.int p3, .int 2, .ref b33, .ref b33])) rfl rfl (hb hby at_340)
        have V44 : Arv Z h44 b33 k33 .int (3 : Int32) [(.int p1), (.int p2), (.int p3)] (.int (0 : Int32)) := Arv.set Ar44 q44 S44 Ng44 Hh44 Gg44 rfl W44 2 rfl (Nat.le_of_ble_eq_true rfl)
        have A1 := A1.wr W44
        have p26_1 := p26_1.other W44 (Or.inl ne_b1_b33)
        have p26_2 := p26_2.other W44 (Or.inl ne_b1_b33)
        have p26_5 := p26_5.other W44 (Or.inl ne_b1_b33)
        have p26_7 := p26_7.other W44 (Or.inl ne_b1_b33)
        have p26_8 := p26_8.other W44 ne_b26lo__b33
        have p26_9 := p26_9.other W44 ne_b26ea__b33
        have p26_12 := p26_12.other W44 ne_b26li__b33
        have A33x := A33x.wr W44
        have O45 := O41.wr W44 g_b33
        have N47 := Fr.snoc X44 N43 g_b33
        obtain ⟨T48, h48, k48, X48, e48, E48, A48, A48x, st48⟩ := newPE X44 hx hZ (W 9 rfl) e44 (g := (mkF m 344 #[iv p1, iv p2, iv p3, iv p4, iv p5, iv cp, iv kk0, iv kk1, iv kk2, rv b1, iv 0, iv 0, iv 1, iv v, iv 1, iv 2, iv qv, iv 2, iv 3, iv 0, iv 1, iv 2, rv b33, .unset, .unset, .unset] [.int 3])) rfl (hb hby at_344) rfl (by decide) (cap := 3) (by decide) (by decide) (by decide) (by decide) (ad := "[I") (by decide)
        obtain ⟨b48, g48⟩ : ∃ z, z = h44.size := ⟨_, rfl⟩
        rw [← g48] at A48 A48x st48
        have g_b48 : n0 ≤ b48 := Nat.le_trans (own_sz O45) (Nat.le_of_eq g48.symm)
        have ne_b1_b48 : b1 ≠ b48 := Nat.ne_of_lt (Nat.lt_of_lt_of_le A1.lt (Nat.le_of_eq g48.symm))
        have ne_b26lo__b48 : b26lo' ≠ b48 := Nat.ne_of_lt (Nat.lt_of_lt_of_le p26_8.lt (Nat.le_of_eq g48.symm))
        have ne_b26ea__b48 : b26ea' ≠ b48 := Nat.ne_of_lt (Nat.lt_of_lt_of_le p26_9.lt (Nat.le_of_eq g48.symm))
        have ne_b26li__b48 : b26li' ≠ b48 := Nat.ne_of_lt (Nat.lt_of_lt_of_le p26_12.lt (Nat.le_of_eq g48.symm))
        have ne_b33_b48 : b33 ≠ b48 := Nat.ne_of_lt (Nat.lt_of_lt_of_le A33x.lt (Nat.le_of_eq g48.symm))
        have A1 := A1.ext E48
        have p26_1 := p26_1.ext E48
        have p26_2 := p26_2.ext E48
        have p26_5 := p26_5.ext E48
        have p26_7 := p26_7.ext E48
        have p26_8 := p26_8.ext E48
        have p26_9 := p26_9.ext E48
        have p26_12 := p26_12.ext E48
        have V44 := V44.ext E48
        have O49 := O45.ext E48
        have V48 : Arv Z h48 b48 k48 .int (3 : Int32) [(.int (0 : Int32)), (.int (0 : Int32)), (.int (0 : Int32))] (.int (0 : Int32)) := (Arv.new A48 (by decide)).pad (pad_rep [] (.int (0 : Int32)) 3)
        obtain ⟨cl51, Ar51, q51, S51, Ng51, Hh51, Gg51⟩ := id V48
        obtain ⟨T51, h51, X51, e51, W51, st51⟩ := stI X48 hx hZ e48 Ar51 (j := (0 : Int32)) (inb_of S51 (by decide)) (g := (mkF m 350 #[iv p1, iv p2, iv p3, iv p4, iv p5, iv cp, iv kk0, iv kk1, iv kk2, rv b1, iv 0, iv 0, iv 1, iv v, iv 1, iv 2, iv qv, iv 2, iv 3, iv 0, iv 1, iv 2, rv b33, .unset, .unset, .unset] [.int kk0, .int 0, .ref b48, .ref b48])) rfl rfl (hb hby at_350)
        have V51 : Arv Z h51 b48 k48 .int (3 : Int32) [(.int kk0), (.int (0 : Int32)), (.int (0 : Int32))] (.int (0 : Int32)) := Arv.set Ar51 q51 S51 Ng51 Hh51 Gg51 rfl W51 0 rfl (Nat.le_of_ble_eq_true rfl)
        have A1 := A1.wr W51
        have p26_1 := p26_1.other W51 (Or.inl ne_b1_b48)
        have p26_2 := p26_2.other W51 (Or.inl ne_b1_b48)
        have p26_5 := p26_5.other W51 (Or.inl ne_b1_b48)
        have p26_7 := p26_7.other W51 (Or.inl ne_b1_b48)
        have p26_8 := p26_8.other W51 ne_b26lo__b48
        have p26_9 := p26_9.other W51 ne_b26ea__b48
        have p26_12 := p26_12.other W51 ne_b26li__b48
        have V44 := V44.other W51 ne_b33_b48
        have O52 := O49.wr W51 g_b48
        have N54 := Fr.snoc X51 N47 g_b48
        obtain ⟨cl55, Ar55, q55, S55, Ng55, Hh55, Gg55⟩ := id V51
        obtain ⟨T55, h55, X55, e55, W55, st55⟩ := stI X51 hx hZ e51 Ar55 (j := (1 : Int32)) (inb_of S55 (by decide)) (g := (mkF m 355 #[iv p1, iv p2, iv p3, iv p4, iv p5, iv cp, iv kk0, iv kk1, iv kk2, rv b1, iv 0, iv 0, iv 1, iv v, iv 1, iv 2, iv qv, iv 2, iv 3, iv 0, iv 1, iv 2, rv b33, .unset, .unset, .unset] [.int kk1, .int 1, .ref b48, .ref b48])) rfl rfl (hb hby at_355)
        have V55 : Arv Z h55 b48 k48 .int (3 : Int32) [(.int kk0), (.int kk1), (.int (0 : Int32))] (.int (0 : Int32)) := Arv.set Ar55 q55 S55 Ng55 Hh55 Gg55 rfl W55 1 rfl (Nat.le_of_ble_eq_true rfl)
        have A1 := A1.wr W55
        have p26_1 := p26_1.other W55 (Or.inl ne_b1_b48)
        have p26_2 := p26_2.other W55 (Or.inl ne_b1_b48)
        have p26_5 := p26_5.other W55 (Or.inl ne_b1_b48)
        have p26_7 := p26_7.other W55 (Or.inl ne_b1_b48)
        have p26_8 := p26_8.other W55 ne_b26lo__b48
        have p26_9 := p26_9.other W55 ne_b26ea__b48
        have p26_12 := p26_12.other W55 ne_b26li__b48
        have V44 := V44.other W55 ne_b33_b48
        have O56 := O52.wr W55 g_b48
        have N58 := Fr.snoc X55 N54 g_b48
        obtain ⟨cl59, Ar59, q59, S59, Ng59, Hh59, Gg59⟩ := id V55
        obtain ⟨T59, h59, X59, e59, W59, st59⟩ := stI X55 hx hZ e55 Ar59 (j := (2 : Int32)) (inb_of S59 (by decide)) (g := (mkF m 360 #[iv p1, iv p2, iv p3, iv p4, iv p5, iv cp, iv kk0, iv kk1, iv kk2, rv b1, iv 0, iv 0, iv 1, iv v, iv 1, iv 2, iv qv, iv 2, iv 3, iv 0, iv 1, iv 2, rv b33, .unset, .unset, .unset] [.int kk2, .int 2, .ref b48, .ref b48])) rfl rfl (hb hby at_360)
        have V59 : Arv Z h59 b48 k48 .int (3 : Int32) [(.int kk0), (.int kk1), (.int kk2)] (.int (0 : Int32)) := Arv.set Ar59 q59 S59 Ng59 Hh59 Gg59 rfl W59 2 rfl (Nat.le_of_ble_eq_true rfl)
        have A1 := A1.wr W59
        have p26_1 := p26_1.other W59 (Or.inl ne_b1_b48)
        have p26_2 := p26_2.other W59 (Or.inl ne_b1_b48)
        have p26_5 := p26_5.other W59 (Or.inl ne_b1_b48)
        have p26_7 := p26_7.other W59 (Or.inl ne_b1_b48)
        have p26_8 := p26_8.other W59 ne_b26lo__b48
        have p26_9 := p26_9.other W59 ne_b26ea__b48
        have p26_12 := p26_12.other W59 ne_b26li__b48
        have V44 := V44.other W59 ne_b33_b48
        have O60 := O56.wr W59 g_b48
        have N62 := Fr.snoc X59 N58 g_b48
        obtain ⟨cq63, kq63, q63a, q63b, q63c⟩ := isOf hZ e59 A1
        obtain ⟨_, _, ⟨T63, L63, k63, n63⟩, -, X63, ⟨Lc63, hQ63, l63, y63, z63⟩, st63⟩ := X59.virtualBack hx (y := y_8) (z := y_8) hown (mvT hZ (W 67 rfl)) (mvT hZ (W 68 rfl)) (notFace_of_selects (args := #[]) (mvT hZ (W 70 rfl))) (mvT hZ (W 70 rfl)) (mvT hZ (W 69 rfl)) (by decide) (backOf (W := 0) (path2d l Z a0 hw [] b1 b26n' b26lo' b26ea' b26li' b26kl' b26ke' b26ki' p1 kk0 p2 kk1 p3 kk2 h59 n0 O60 p26_1 p26_2 p26_5 p26_8 p26_9 p26_12 p26_18 p26_22 p26_25 p26_33 p26_34) hZ (W 71 rfl) (W 2 rfl) (by decide) (by decide)) q63a q63c (g := (mkF m 367 #[iv p1, iv p2, iv p3, iv p4, iv p5, iv cp, iv kk0, iv kk1, iv kk2, rv b1, iv 0, iv 0, iv 1, iv v, iv 1, iv 2, iv qv, iv 2, iv 3, iv 0, iv 1, iv 2, rv b33, rv b48, .unset, .unset] [.int 2, .ref b1])) rfl (by rw [hml]; rfl) (Steps.refl _) (argsL := [.int 2]) (rest := []) (lenOf pd_6 rfl) rfl (by show 2 * 0 + _ ≤ _; exact Nat.le_of_eq rfl) (hb hby at_367) (fun _ _ => ⟨rfl, e59, (by decide : 24 + 0 ≤ _), (by decide : 435 + 0 ≤ _)⟩)
        dsimp only [Pt.U, Pt.locs, Pt.cells, Pt.slots] at X63 l63 y63 z63 st63 hQ63
        subst l63 y63 z63
        obtain ⟨h63, e63⟩ : ∃ z, T63.heap = z := ⟨_, rfl⟩
        rw [e63] at hQ63
        obtain ⟨rfl, N63q, p63_0, p63_1⟩ := hQ63
        have N63 := Fr.app N62 N63q
        have A1 := A1.keep p63_0
        have p26_5 := p26_5.keep p63_0 (ninS p26_33 nin0)
        have p26_7 := p26_7.keep p63_0 (ninS p26_33 nin0)
        have V44 := V44.keep p63_0 (ninS (Ne.symm ne_b26li__b33) nin0)
        have V59 := V59.keep p63_0 (ninS (Ne.symm ne_b26li__b48) nin0)
        have O64 := O60.keep p63_0 (allS p26_18 all0)
        obtain ⟨cq66, kq66, q66a, q66b, q66c⟩ := isOf hZ e63 A1
        obtain ⟨_, _, ⟨T66, L66, k66, n66⟩, -, X66, ⟨Lc66, hQ66, l66, y66, z66⟩, st66⟩ := X63.virtualBack hx (y := y_11) (z := y_11) hown (mvT hZ (W 72 rfl)) (mvT hZ (W 73 rfl)) (notFace_of_selects (args := #[]) (mvT hZ (W 75 rfl))) (mvT hZ (W 75 rfl)) (mvT hZ (W 74 rfl)) (by decide) (backOf (W := 0) (slot0 l Z a0 hw [] b1 b26li' b26ki' b26n' p1 (.int kk0) (.int p2) (.int kk1) (.int p3) (.int kk2) h63 n0 O64 p26_5 p63_1 p26_34) hZ (W 76 rfl) (W 2 rfl) (by decide) (by decide)) q66a q66c (g := (mkF m 400 #[iv p1, iv p2, iv p3, iv p4, iv p5, iv cp, iv kk0, iv kk1, iv kk2, rv b1, iv 0, iv 0, iv 1, iv v, iv 1, iv 2, iv qv, iv 2, iv 3, iv 0, iv 1, iv 2, rv b33, rv b48, iv 3, iv 1] [.int 0, .ref b1])) rfl (by rw [hml]; rfl) (Steps.refl _) (argsL := [.int 0]) (rest := []) (lenOf pd_6 rfl) rfl (by show 2 * 0 + _ ≤ _; exact Nat.le_of_eq rfl) (hb hby at_400) (fun _ _ => ⟨rfl, e63, (by decide : 24 + 0 ≤ _), (by decide : 435 + 0 ≤ _)⟩)
        dsimp only [Pt.U, Pt.locs, Pt.cells, Pt.slots] at X66 l66 y66 z66 st66 hQ66
        subst l66 y66 z66
        obtain ⟨h66, e66⟩ : ∃ z, T66.heap = z := ⟨_, rfl⟩
        rw [e66] at hQ66
        obtain ⟨rfl, N66q, p66_0⟩ := hQ66
        have N66 := Fr.app N63 N66q
        rw [p66_0] at e66
        obtain ⟨cl67, Ar67, q67, S67, Ng67, Hh67, Gg67⟩ := id V44
        have st67 := X66.iaload hx (j := (0 : Int32)) (v := (.int p1)) (by rw [e66]; exact Ar67.1) (State.isArrayOf_alike hZ.alike Ar67.2.1) Ar67.2.2 (inb_of S67 (by decide)) (Hh67.at (inb_of S67 (by decide)) rfl) (g := (mkF m 407 #[iv p1, iv p2, iv p3, iv p4, iv p5, iv cp, iv kk0, iv kk1, iv kk2, rv b1, iv 0, iv 0, iv 1, iv v, iv 1, iv 2, iv qv, iv 2, iv 3, iv 0, iv 1, iv 2, rv b33, rv b48, iv 3, iv 1] [.int 0, .ref b33, .int p1])) rfl rfl (hb hby at_407)
        obtain ⟨cq68, kq68, q68a, q68b, q68c⟩ := isOf hZ e66 A1
        obtain ⟨_, _, ⟨T68, L68, k68, n68⟩, -, X68, ⟨Lc68, hQ68, l68, y68, z68⟩, st68⟩ := X66.virtualBack hx (y := y_12) (z := y_12) hown (mvT hZ (W 77 rfl)) (mvT hZ (W 78 rfl)) (notFace_of_selects (args := #[]) (mvT hZ (W 80 rfl))) (mvT hZ (W 80 rfl)) (mvT hZ (W 79 rfl)) (by decide) (backOf (W := 0) (valu0 l Z a0 hw [] b1 b26li' b26ki' b26n' kk0 p4 (.int p1) (.int p2) (.int kk1) (.int p3) (.int kk2) h63 n0 O64 p26_5 p26_7 p63_1 p26_34) hZ (W 81 rfl) (W 2 rfl) (by decide) (by decide)) q68a q68c (g := (mkF m 414 #[iv p1, iv p2, iv p3, iv p4, iv p5, iv cp, iv kk0, iv kk1, iv kk2, rv b1, iv 0, iv 0, iv 1, iv v, iv 1, iv 2, iv qv, iv 2, iv 3, iv 0, iv 1, iv 2, rv b33, rv b48, iv 3, iv 1] [.int 0, .ref b1])) rfl (by rw [hml]; rfl) (Steps.refl _) (argsL := [.int 0]) (rest := []) (lenOf pd_6 rfl) rfl (by show 2 * 0 + _ ≤ _; exact Nat.le_of_eq rfl) (hb hby at_414) (fun _ _ => ⟨rfl, e66, (by decide : 24 + 0 ≤ _), (by decide : 435 + 0 ≤ _)⟩)
        dsimp only [Pt.U, Pt.locs, Pt.cells, Pt.slots] at X68 l68 y68 z68 st68 hQ68
        subst l68 y68 z68
        obtain ⟨h68, e68⟩ : ∃ z, T68.heap = z := ⟨_, rfl⟩
        rw [e68] at hQ68
        obtain ⟨rfl, N68q, p68_0⟩ := hQ68
        have N68 := Fr.app N66 N68q
        rw [p68_0] at e68
        obtain ⟨cl69, Ar69, q69, S69, Ng69, Hh69, Gg69⟩ := id V59
        have st69 := X68.iaload hx (j := (0 : Int32)) (v := (.int kk0)) (by rw [e68]; exact Ar69.1) (State.isArrayOf_alike hZ.alike Ar69.2.1) Ar69.2.2 (inb_of S69 (by decide)) (Hh69.at (inb_of S69 (by decide)) rfl) (g := (mkF m 421 #[iv p1, iv p2, iv p3, iv p4, iv p5, iv cp, iv kk0, iv kk1, iv kk2, rv b1, iv 0, iv 0, iv 1, iv v, iv 1, iv 2, iv qv, iv 2, iv 3, iv 0, iv 1, iv 2, rv b33, rv b48, iv 3, iv 1] [.int 0, .ref b48, .int (own_ev kk0 p4)])) rfl rfl (hb hby at_421)
        obtain ⟨_, _, ⟨T70, L70, k70, n70⟩, -, X70, ⟨Lc70, hQ70, l70, y70, z70⟩, st70⟩ := Jvm.LawKit.callS X68 hx (y := y_10) hown (mvT hZ (W 86 rfl)) (mvT hZ (W 87 rfl)) (mvT hZ (W 88 rfl)) (mvT hZ (W 89 rfl)) (by decide) (backOf (W := 1) (expval l Z a0 hw [] kk0 p4 h63 n0 O64 ) hZ (W 89 rfl) (W 88 rfl) (by decide) (by decide)) (g := (mkF m 423 #[iv p1, iv p2, iv p3, iv p4, iv p5, iv cp, iv kk0, iv kk1, iv kk2, rv b1, iv 0, iv 0, iv 1, iv v, iv 1, iv 2, iv qv, iv 2, iv 3, iv 0, iv 1, iv 2, rv b33, rv b48, iv 3, iv 1] [.int p4, .int kk0, .int (own_ev kk0 p4)])) rfl (by rw [hml]; rfl) (argsL := [.int kk0, .int p4]) (rest := [.int (own_ev kk0 p4)]) (lenOf pd_0 rfl) rfl (by show 2 * 0 + _ ≤ _; exact Nat.le_of_eq rfl) (hb hby at_423) (fun _ _ => ⟨rfl, e68, (by decide : 24 + 0 ≤ _), (by decide : 435 + 0 ≤ _)⟩)
        dsimp only [Pt.U, Pt.locs, Pt.cells, Pt.slots] at X70 l70 y70 z70 st70 hQ70
        subst l70 y70 z70
        obtain ⟨h70, e70⟩ : ∃ z, T70.heap = z := ⟨_, rfl⟩
        rw [e70] at hQ70
        obtain ⟨rfl, N70q, p70_0⟩ := hQ70
        have N70 := Fr.app N68 N70q
        rw [p70_0] at e70
        obtain ⟨cq71, kq71, q71a, q71b, q71c⟩ := isOf hZ e70 A1
        obtain ⟨_, _, ⟨T71, L71, k71, n71⟩, -, X71, ⟨Lc71, hQ71, l71, y71, z71⟩, st71⟩ := X70.virtualBack hx (y := y_11) (z := y_11) hown (mvT hZ (W 72 rfl)) (mvT hZ (W 73 rfl)) (notFace_of_selects (args := #[]) (mvT hZ (W 75 rfl))) (mvT hZ (W 75 rfl)) (mvT hZ (W 74 rfl)) (by decide) (backOf (W := 0) (slot1 l Z a0 hw [] b1 b26li' b26ki' b26n' p2 (.int p1) (.int kk0) (.int kk1) (.int p3) (.int kk2) h63 n0 O64 p26_5 p63_1 p26_34) hZ (W 76 rfl) (W 2 rfl) (by decide) (by decide)) q71a q71c (g := (mkF m 450 #[iv p1, iv p2, iv p3, iv p4, iv p5, iv cp, iv kk0, iv kk1, iv kk2, rv b1, iv 0, iv 0, iv 1, iv v, iv 1, iv 2, iv qv, iv 2, iv 3, iv 0, iv 1, iv 2, rv b33, rv b48, iv 3, iv 1] [.int 1, .ref b1])) rfl (by rw [hml]; rfl) (Steps.refl _) (argsL := [.int 1]) (rest := []) (lenOf pd_6 rfl) rfl (by show 2 * 0 + _ ≤ _; exact Nat.le_of_eq rfl) (hb hby at_450) (fun _ _ => ⟨rfl, e70, (by decide : 24 + 0 ≤ _), (by decide : 435 + 0 ≤ _)⟩)
        dsimp only [Pt.U, Pt.locs, Pt.cells, Pt.slots] at X71 l71 y71 z71 st71 hQ71
        subst l71 y71 z71
        obtain ⟨h71, e71⟩ : ∃ z, T71.heap = z := ⟨_, rfl⟩
        rw [e71] at hQ71
        obtain ⟨rfl, N71q, p71_0⟩ := hQ71
        have N71 := Fr.app N70 N71q
        rw [p71_0] at e71
        obtain ⟨cl72, Ar72, q72, S72, Ng72, Hh72, Gg72⟩ := id V44
        have st72 := X71.iaload hx (j := (1 : Int32)) (v := (.int p2)) (by rw [e71]; exact Ar72.1) (State.isArrayOf_alike hZ.alike Ar72.2.1) Ar72.2.2 (inb_of S72 (by decide)) (Hh72.at (inb_of S72 (by decide)) rfl) (g := (mkF m 457 #[iv p1, iv p2, iv p3, iv p4, iv p5, iv cp, iv kk0, iv kk1, iv kk2, rv b1, iv 0, iv 0, iv 1, iv v, iv 1, iv 2, iv qv, iv 2, iv 3, iv 0, iv 1, iv 2, rv b33, rv b48, iv 3, iv 1] [.int 1, .ref b33, .int p2])) rfl rfl (hb hby at_457)
        obtain ⟨cq73, kq73, q73a, q73b, q73c⟩ := isOf hZ e71 A1
        obtain ⟨_, _, ⟨T73, L73, k73, n73⟩, -, X73, ⟨Lc73, hQ73, l73, y73, z73⟩, st73⟩ := X71.virtualBack hx (y := y_12) (z := y_12) hown (mvT hZ (W 77 rfl)) (mvT hZ (W 78 rfl)) (notFace_of_selects (args := #[]) (mvT hZ (W 80 rfl))) (mvT hZ (W 80 rfl)) (mvT hZ (W 79 rfl)) (by decide) (backOf (W := 0) (valu1 l Z a0 hw [] b1 b26li' b26ki' b26n' kk1 p4 (.int p1) (.int kk0) (.int p2) (.int p3) (.int kk2) h63 n0 O64 p26_5 p26_7 p63_1 p26_34) hZ (W 81 rfl) (W 2 rfl) (by decide) (by decide)) q73a q73c (g := (mkF m 464 #[iv p1, iv p2, iv p3, iv p4, iv p5, iv cp, iv kk0, iv kk1, iv kk2, rv b1, iv 0, iv 0, iv 1, iv v, iv 1, iv 2, iv qv, iv 2, iv 3, iv 0, iv 1, iv 2, rv b33, rv b48, iv 3, iv 1] [.int 1, .ref b1])) rfl (by rw [hml]; rfl) (Steps.refl _) (argsL := [.int 1]) (rest := []) (lenOf pd_6 rfl) rfl (by show 2 * 0 + _ ≤ _; exact Nat.le_of_eq rfl) (hb hby at_464) (fun _ _ => ⟨rfl, e71, (by decide : 24 + 0 ≤ _), (by decide : 435 + 0 ≤ _)⟩)
        dsimp only [Pt.U, Pt.locs, Pt.cells, Pt.slots] at X73 l73 y73 z73 st73 hQ73
        subst l73 y73 z73
        obtain ⟨h73, e73⟩ : ∃ z, T73.heap = z := ⟨_, rfl⟩
        rw [e73] at hQ73
        obtain ⟨rfl, N73q, p73_0⟩ := hQ73
        have N73 := Fr.app N71 N73q
        rw [p73_0] at e73
        obtain ⟨cl74, Ar74, q74, S74, Ng74, Hh74, Gg74⟩ := id V59
        have st74 := X73.iaload hx (j := (1 : Int32)) (v := (.int kk1)) (by rw [e73]; exact Ar74.1) (State.isArrayOf_alike hZ.alike Ar74.2.1) Ar74.2.2 (inb_of S74 (by decide)) (Hh74.at (inb_of S74 (by decide)) rfl) (g := (mkF m 471 #[iv p1, iv p2, iv p3, iv p4, iv p5, iv cp, iv kk0, iv kk1, iv kk2, rv b1, iv 0, iv 0, iv 1, iv v, iv 1, iv 2, iv qv, iv 2, iv 3, iv 0, iv 1, iv 2, rv b33, rv b48, iv 3, iv 1] [.int 1, .ref b48, .int (own_ev kk1 p4)])) rfl rfl (hb hby at_471)
        obtain ⟨_, _, ⟨T75, L75, k75, n75⟩, -, X75, ⟨Lc75, hQ75, l75, y75, z75⟩, st75⟩ := Jvm.LawKit.callS X73 hx (y := y_10) hown (mvT hZ (W 86 rfl)) (mvT hZ (W 87 rfl)) (mvT hZ (W 88 rfl)) (mvT hZ (W 89 rfl)) (by decide) (backOf (W := 1) (expval l Z a0 hw [] kk1 p4 h63 n0 O64 ) hZ (W 89 rfl) (W 88 rfl) (by decide) (by decide)) (g := (mkF m 473 #[iv p1, iv p2, iv p3, iv p4, iv p5, iv cp, iv kk0, iv kk1, iv kk2, rv b1, iv 0, iv 0, iv 1, iv v, iv 1, iv 2, iv qv, iv 2, iv 3, iv 0, iv 1, iv 2, rv b33, rv b48, iv 3, iv 1] [.int p4, .int kk1, .int (own_ev kk1 p4)])) rfl (by rw [hml]; rfl) (argsL := [.int kk1, .int p4]) (rest := [.int (own_ev kk1 p4)]) (lenOf pd_0 rfl) rfl (by show 2 * 0 + _ ≤ _; exact Nat.le_of_eq rfl) (hb hby at_473) (fun _ _ => ⟨rfl, e73, (by decide : 24 + 0 ≤ _), (by decide : 435 + 0 ≤ _)⟩)
        dsimp only [Pt.U, Pt.locs, Pt.cells, Pt.slots] at X75 l75 y75 z75 st75 hQ75
        subst l75 y75 z75
        obtain ⟨h75, e75⟩ : ∃ z, T75.heap = z := ⟨_, rfl⟩
        rw [e75] at hQ75
        obtain ⟨rfl, N75q, p75_0⟩ := hQ75
        have N75 := Fr.app N73 N75q
        rw [p75_0] at e75
        obtain ⟨cq76, kq76, q76a, q76b, q76c⟩ := isOf hZ e75 A1
        obtain ⟨_, _, ⟨T76, L76, k76, n76⟩, -, X76, ⟨Lc76, hQ76, l76, y76, z76⟩, st76⟩ := X75.virtualBack hx (y := y_11) (z := y_11) hown (mvT hZ (W 72 rfl)) (mvT hZ (W 73 rfl)) (notFace_of_selects (args := #[]) (mvT hZ (W 75 rfl))) (mvT hZ (W 75 rfl)) (mvT hZ (W 74 rfl)) (by decide) (backOf (W := 0) (slot2 l Z a0 hw [] b1 b26li' b26ki' b26n' p3 (.int p1) (.int kk0) (.int p2) (.int kk1) (.int kk2) h63 n0 O64 p26_5 p63_1 p26_34) hZ (W 76 rfl) (W 2 rfl) (by decide) (by decide)) q76a q76c (g := (mkF m 500 #[iv p1, iv p2, iv p3, iv p4, iv p5, iv cp, iv kk0, iv kk1, iv kk2, rv b1, iv 0, iv 0, iv 1, iv v, iv 1, iv 2, iv qv, iv 2, iv 3, iv 0, iv 1, iv 2, rv b33, rv b48, iv 3, iv 1] [.int 2, .ref b1])) rfl (by rw [hml]; rfl) (Steps.refl _) (argsL := [.int 2]) (rest := []) (lenOf pd_6 rfl) rfl (by show 2 * 0 + _ ≤ _; exact Nat.le_of_eq rfl) (hb hby at_500) (fun _ _ => ⟨rfl, e75, (by decide : 24 + 0 ≤ _), (by decide : 435 + 0 ≤ _)⟩)
        dsimp only [Pt.U, Pt.locs, Pt.cells, Pt.slots] at X76 l76 y76 z76 st76 hQ76
        subst l76 y76 z76
        obtain ⟨h76, e76⟩ : ∃ z, T76.heap = z := ⟨_, rfl⟩
        rw [e76] at hQ76
        obtain ⟨rfl, N76q, p76_0⟩ := hQ76
        have N76 := Fr.app N75 N76q
        rw [p76_0] at e76
        obtain ⟨cl77, Ar77, q77, S77, Ng77, Hh77, Gg77⟩ := id V44
        have st77 := X76.iaload hx (j := (2 : Int32)) (v := (.int p3)) (by rw [e76]; exact Ar77.1) (State.isArrayOf_alike hZ.alike Ar77.2.1) Ar77.2.2 (inb_of S77 (by decide)) (Hh77.at (inb_of S77 (by decide)) rfl) (g := (mkF m 507 #[iv p1, iv p2, iv p3, iv p4, iv p5, iv cp, iv kk0, iv kk1, iv kk2, rv b1, iv 0, iv 0, iv 1, iv v, iv 1, iv 2, iv qv, iv 2, iv 3, iv 0, iv 1, iv 2, rv b33, rv b48, iv 3, iv 1] [.int 2, .ref b33, .int p3])) rfl rfl (hb hby at_507)
        obtain ⟨cq78, kq78, q78a, q78b, q78c⟩ := isOf hZ e76 A1
        obtain ⟨_, _, ⟨T78, L78, k78, n78⟩, -, X78, ⟨Lc78, hQ78, l78, y78, z78⟩, st78⟩ := X76.virtualBack hx (y := y_12) (z := y_12) hown (mvT hZ (W 77 rfl)) (mvT hZ (W 78 rfl)) (notFace_of_selects (args := #[]) (mvT hZ (W 80 rfl))) (mvT hZ (W 80 rfl)) (mvT hZ (W 79 rfl)) (by decide) (backOf (W := 0) (valu2 l Z a0 hw [] b1 b26li' b26ki' b26n' kk2 p4 (.int p1) (.int kk0) (.int p2) (.int kk1) (.int p3) h63 n0 O64 p26_5 p26_7 p63_1 p26_34) hZ (W 81 rfl) (W 2 rfl) (by decide) (by decide)) q78a q78c (g := (mkF m 514 #[iv p1, iv p2, iv p3, iv p4, iv p5, iv cp, iv kk0, iv kk1, iv kk2, rv b1, iv 0, iv 0, iv 1, iv v, iv 1, iv 2, iv qv, iv 2, iv 3, iv 0, iv 1, iv 2, rv b33, rv b48, iv 3, iv 1] [.int 2, .ref b1])) rfl (by rw [hml]; rfl) (Steps.refl _) (argsL := [.int 2]) (rest := []) (lenOf pd_6 rfl) rfl (by show 2 * 0 + _ ≤ _; exact Nat.le_of_eq rfl) (hb hby at_514) (fun _ _ => ⟨rfl, e76, (by decide : 24 + 0 ≤ _), (by decide : 435 + 0 ≤ _)⟩)
        dsimp only [Pt.U, Pt.locs, Pt.cells, Pt.slots] at X78 l78 y78 z78 st78 hQ78
        subst l78 y78 z78
        obtain ⟨h78, e78⟩ : ∃ z, T78.heap = z := ⟨_, rfl⟩
        rw [e78] at hQ78
        obtain ⟨rfl, N78q, p78_0⟩ := hQ78
        have N78 := Fr.app N76 N78q
        rw [p78_0] at e78
        obtain ⟨cl79, Ar79, q79, S79, Ng79, Hh79, Gg79⟩ := id V59
        have st79 := X78.iaload hx (j := (2 : Int32)) (v := (.int kk2)) (by rw [e78]; exact Ar79.1) (State.isArrayOf_alike hZ.alike Ar79.2.1) Ar79.2.2 (inb_of S79 (by decide)) (Hh79.at (inb_of S79 (by decide)) rfl) (g := (mkF m 521 #[iv p1, iv p2, iv p3, iv p4, iv p5, iv cp, iv kk0, iv kk1, iv kk2, rv b1, iv 0, iv 0, iv 1, iv v, iv 1, iv 2, iv qv, iv 2, iv 3, iv 0, iv 1, iv 2, rv b33, rv b48, iv 3, iv 1] [.int 2, .ref b48, .int (own_ev kk2 p4)])) rfl rfl (hb hby at_521)
        obtain ⟨_, _, ⟨T80, L80, k80, n80⟩, -, X80, ⟨Lc80, hQ80, l80, y80, z80⟩, st80⟩ := Jvm.LawKit.callS X78 hx (y := y_10) hown (mvT hZ (W 86 rfl)) (mvT hZ (W 87 rfl)) (mvT hZ (W 88 rfl)) (mvT hZ (W 89 rfl)) (by decide) (backOf (W := 1) (expval l Z a0 hw [] kk2 p4 h63 n0 O64 ) hZ (W 89 rfl) (W 88 rfl) (by decide) (by decide)) (g := (mkF m 523 #[iv p1, iv p2, iv p3, iv p4, iv p5, iv cp, iv kk0, iv kk1, iv kk2, rv b1, iv 0, iv 0, iv 1, iv v, iv 1, iv 2, iv qv, iv 2, iv 3, iv 0, iv 1, iv 2, rv b33, rv b48, iv 3, iv 1] [.int p4, .int kk2, .int (own_ev kk2 p4)])) rfl (by rw [hml]; rfl) (argsL := [.int kk2, .int p4]) (rest := [.int (own_ev kk2 p4)]) (lenOf pd_0 rfl) rfl (by show 2 * 0 + _ ≤ _; exact Nat.le_of_eq rfl) (hb hby at_523) (fun _ _ => ⟨rfl, e78, (by decide : 24 + 0 ≤ _), (by decide : 435 + 0 ≤ _)⟩)
        dsimp only [Pt.U, Pt.locs, Pt.cells, Pt.slots] at X80 l80 y80 z80 st80 hQ80
        subst l80 y80 z80
        obtain ⟨h80, e80⟩ : ∃ z, T80.heap = z := ⟨_, rfl⟩
        rw [e80] at hQ80
        obtain ⟨rfl, N80q, p80_0⟩ := hQ80
        have N80 := Fr.app N78 N80q
        rw [p80_0] at e80
        obtain ⟨fs, hr, hrun, hended, hW, hsame⟩ := X80.leave (v := some (.int (1 : Int32))) (fun h => by rw [Bd.returns] at h; cases h)
        refine ⟨_, _, pre32 _ ?_, hrun, hended, _, _, rfl, ?_, ⟨_, rfl⟩, hW, hsame.mono (by decide) (by decide)⟩
        · show Sq p e below m T26 296 #[iv p1, iv p2, iv p3, iv p4, iv p5, iv cp, iv kk0, iv kk1, iv kk2, rv b1, iv 0, iv 0, iv 1, iv v, iv 1, iv 2, iv qv, iv 2, iv 0, iv 0, iv 0, iv 0, .unset, .unset, .unset, .unset] [] _
          refine XS.iload X26.here hx rfl (hb hby at_296) rfl ?_
          refine XS.iconst X26.here hx rfl (hb hby at_298) ?_
          show Sq p e below m T26 299 #[iv p1, iv p2, iv p3, iv p4, iv p5, iv cp, iv kk0, iv kk1, iv kk2, rv b1, iv 0, iv 0, iv 1, iv v, iv 1, iv 2, iv qv, iv 2, iv 0, iv 0, iv 0, iv 0, .unset, .unset, .unset, .unset] [.int (-1), .int 0] _
          refine XS.icmpYes X26.here hx rfl (pc0 := 299) (pc' := 314) rfl (hb hby at_299) rfl (feq (by decide)).2 (by decide) (by decide) ?_
          refine XS.iconst X26.here hx rfl (hb hby at_314) ?_
          show Sq p e below m T26 315 #[iv p1, iv p2, iv p3, iv p4, iv p5, iv cp, iv kk0, iv kk1, iv kk2, rv b1, iv 0, iv 0, iv 1, iv v, iv 1, iv 2, iv qv, iv 2, iv 0, iv 0, iv 0, iv 0, .unset, .unset, .unset, .unset] [.int 3] _
          refine XS.istore X26.here hx rfl (hb hby at_315) rfl rfl ?_
          refine XS.iconst X26.here hx rfl (hb hby at_317) ?_
          show Sq p e below m T26 318 #[iv p1, iv p2, iv p3, iv p4, iv p5, iv cp, iv kk0, iv kk1, iv kk2, rv b1, iv 0, iv 0, iv 1, iv v, iv 1, iv 2, iv qv, iv 2, iv 3, iv 0, iv 0, iv 0, .unset, .unset, .unset, .unset] [.int 0] _
          refine XS.istore X26.here hx rfl (hb hby at_318) rfl rfl ?_
          refine XS.iconst X26.here hx rfl (hb hby at_320) ?_
          show Sq p e below m T26 321 #[iv p1, iv p2, iv p3, iv p4, iv p5, iv cp, iv kk0, iv kk1, iv kk2, rv b1, iv 0, iv 0, iv 1, iv v, iv 1, iv 2, iv qv, iv 2, iv 3, iv 0, iv 0, iv 0, .unset, .unset, .unset, .unset] [.int 1] _
          refine XS.istore X26.here hx rfl (hb hby at_321) rfl rfl ?_
          refine XS.iconst X26.here hx rfl (hb hby at_323) ?_
          show Sq p e below m T26 324 #[iv p1, iv p2, iv p3, iv p4, iv p5, iv cp, iv kk0, iv kk1, iv kk2, rv b1, iv 0, iv 0, iv 1, iv v, iv 1, iv 2, iv qv, iv 2, iv 3, iv 0, iv 1, iv 0, .unset, .unset, .unset, .unset] [.int 2] _
          refine XS.istore X26.here hx rfl (hb hby at_324) rfl rfl ?_
          refine XS.iconst X26.here hx rfl (hb hby at_326) ?_
          show Sq p e below m T26 327 #[iv p1, iv p2, iv p3, iv p4, iv p5, iv cp, iv kk0, iv kk1, iv kk2, rv b1, iv 0, iv 0, iv 1, iv v, iv 1, iv 2, iv qv, iv 2, iv 3, iv 0, iv 1, iv 2, .unset, .unset, .unset, .unset] [.int 3] _
          refine st33 _ ?_
          show Sq p e below m T33 329 #[iv p1, iv p2, iv p3, iv p4, iv p5, iv cp, iv kk0, iv kk1, iv kk2, rv b1, iv 0, iv 0, iv 1, iv v, iv 1, iv 2, iv qv, iv 2, iv 3, iv 0, iv 1, iv 2, .unset, .unset, .unset, .unset] [.ref b33] _
          refine XS.dup X33.here hx rfl (hb hby at_329) rfl rfl ?_
          refine XS.iconst X33.here hx rfl (hb hby at_330) ?_
          show Sq p e below m T33 331 #[iv p1, iv p2, iv p3, iv p4, iv p5, iv cp, iv kk0, iv kk1, iv kk2, rv b1, iv 0, iv 0, iv 1, iv v, iv 1, iv 2, iv qv, iv 2, iv 3, iv 0, iv 1, iv 2, .unset, .unset, .unset, .unset] [.int 0, .ref b33, .ref b33] _
          refine XS.iloadN X33.here hx rfl (hb hby at_331) rfl ?_
          show Sq p e below m T33 332 #[iv p1, iv p2, iv p3, iv p4, iv p5, iv cp, iv kk0, iv kk1, iv kk2, rv b1, iv 0, iv 0, iv 1, iv v, iv 1, iv 2, iv qv, iv 2, iv 3, iv 0, iv 1, iv 2, .unset, .unset, .unset, .unset] [.int p1, .int 0, .ref b33, .ref b33] _
          refine st36 _ ?_
          show Sq p e below m T36 333 #[iv p1, iv p2, iv p3, iv p4, iv p5, iv cp, iv kk0, iv kk1, iv kk2, rv b1, iv 0, iv 0, iv 1, iv v, iv 1, iv 2, iv qv, iv 2, iv 3, iv 0, iv 1, iv 2, .unset, .unset, .unset, .unset] [.ref b33] _
          refine XS.dup X36.here hx rfl (hb hby at_333) rfl rfl ?_
          refine XS.iconst X36.here hx rfl (hb hby at_334) ?_
          show Sq p e below m T36 335 #[iv p1, iv p2, iv p3, iv p4, iv p5, iv cp, iv kk0, iv kk1, iv kk2, rv b1, iv 0, iv 0, iv 1, iv v, iv 1, iv 2, iv qv, iv 2, iv 3, iv 0, iv 1, iv 2, .unset, .unset, .unset, .unset] [.int 1, .ref b33, .ref b33] _
          refine XS.iloadN X36.here hx rfl (hb hby at_335) rfl ?_
          show Sq p e below m T36 336 #[iv p1, iv p2, iv p3, iv p4, iv p5, iv cp, iv kk0, iv kk1, iv kk2, rv b1, iv 0, iv 0, iv 1, iv v, iv 1, iv 2, iv qv, iv 2, iv 3, iv 0, iv 1, iv 2, .unset, .unset, .unset, .unset] [.int p2, .int 1, .ref b33, .ref b33] _
          refine st40 _ ?_
          show Sq p e below m T40 337 #[iv p1, iv p2, iv p3, iv p4, iv p5, iv cp, iv kk0, iv kk1, iv kk2, rv b1, iv 0, iv 0, iv 1, iv v, iv 1, iv 2, iv qv, iv 2, iv 3, iv 0, iv 1, iv 2, .unset, .unset, .unset, .unset] [.ref b33] _
          refine XS.dup X40.here hx rfl (hb hby at_337) rfl rfl ?_
          refine XS.iconst X40.here hx rfl (hb hby at_338) ?_
          show Sq p e below m T40 339 #[iv p1, iv p2, iv p3, iv p4, iv p5, iv cp, iv kk0, iv kk1, iv kk2, rv b1, iv 0, iv 0, iv 1, iv v, iv 1, iv 2, iv qv, iv 2, iv 3, iv 0, iv 1, iv 2, .unset, .unset, .unset, .unset] [.int 2, .ref b33, .ref b33] _
          refine XS.iloadN X40.here hx rfl (hb hby at_339) rfl ?_
          show Sq p e below m T40 340 #[iv p1, iv p2, iv p3, iv p4, iv p5, iv cp, iv kk0, iv kk1, iv kk2, rv b1, iv 0, iv 0, iv 1, iv v, iv 1, iv 2, iv qv, iv 2, iv 3, iv 0, iv 1, iv 2, .unset, .unset, .unset, .unset] [.int p3, .int 2, .ref b33, .ref b33] _
          refine st44 _ ?_
          show Sq p e below m T44 341 #[iv p1, iv p2, iv p3, iv p4, iv p5, iv cp, iv kk0, iv kk1, iv kk2, rv b1, iv 0, iv 0, iv 1, iv v, iv 1, iv 2, iv qv, iv 2, iv 3, iv 0, iv 1, iv 2, .unset, .unset, .unset, .unset] [.ref b33] _
          refine XS.astore X44.here hx rfl (hb hby at_341) rfl rfl rfl ?_
          refine XS.iconst X44.here hx rfl (hb hby at_343) ?_
          show Sq p e below m T44 344 #[iv p1, iv p2, iv p3, iv p4, iv p5, iv cp, iv kk0, iv kk1, iv kk2, rv b1, iv 0, iv 0, iv 1, iv v, iv 1, iv 2, iv qv, iv 2, iv 3, iv 0, iv 1, iv 2, rv b33, .unset, .unset, .unset] [.int 3] _
          refine st48 _ ?_
          show Sq p e below m T48 346 #[iv p1, iv p2, iv p3, iv p4, iv p5, iv cp, iv kk0, iv kk1, iv kk2, rv b1, iv 0, iv 0, iv 1, iv v, iv 1, iv 2, iv qv, iv 2, iv 3, iv 0, iv 1, iv 2, rv b33, .unset, .unset, .unset] [.ref b48] _
          refine XS.dup X48.here hx rfl (hb hby at_346) rfl rfl ?_
          refine XS.iconst X48.here hx rfl (hb hby at_347) ?_
          show Sq p e below m T48 348 #[iv p1, iv p2, iv p3, iv p4, iv p5, iv cp, iv kk0, iv kk1, iv kk2, rv b1, iv 0, iv 0, iv 1, iv v, iv 1, iv 2, iv qv, iv 2, iv 3, iv 0, iv 1, iv 2, rv b33, .unset, .unset, .unset] [.int 0, .ref b48, .ref b48] _
          refine XS.iload X48.here hx rfl (hb hby at_348) rfl ?_
          show Sq p e below m T48 350 #[iv p1, iv p2, iv p3, iv p4, iv p5, iv cp, iv kk0, iv kk1, iv kk2, rv b1, iv 0, iv 0, iv 1, iv v, iv 1, iv 2, iv qv, iv 2, iv 3, iv 0, iv 1, iv 2, rv b33, .unset, .unset, .unset] [.int kk0, .int 0, .ref b48, .ref b48] _
          refine st51 _ ?_
          show Sq p e below m T51 351 #[iv p1, iv p2, iv p3, iv p4, iv p5, iv cp, iv kk0, iv kk1, iv kk2, rv b1, iv 0, iv 0, iv 1, iv v, iv 1, iv 2, iv qv, iv 2, iv 3, iv 0, iv 1, iv 2, rv b33, .unset, .unset, .unset] [.ref b48] _
          refine XS.dup X51.here hx rfl (hb hby at_351) rfl rfl ?_
          refine XS.iconst X51.here hx rfl (hb hby at_352) ?_
          show Sq p e below m T51 353 #[iv p1, iv p2, iv p3, iv p4, iv p5, iv cp, iv kk0, iv kk1, iv kk2, rv b1, iv 0, iv 0, iv 1, iv v, iv 1, iv 2, iv qv, iv 2, iv 3, iv 0, iv 1, iv 2, rv b33, .unset, .unset, .unset] [.int 1, .ref b48, .ref b48] _
          refine XS.iload X51.here hx rfl (hb hby at_353) rfl ?_
          show Sq p e below m T51 355 #[iv p1, iv p2, iv p3, iv p4, iv p5, iv cp, iv kk0, iv kk1, iv kk2, rv b1, iv 0, iv 0, iv 1, iv v, iv 1, iv 2, iv qv, iv 2, iv 3, iv 0, iv 1, iv 2, rv b33, .unset, .unset, .unset] [.int kk1, .int 1, .ref b48, .ref b48] _
          refine st55 _ ?_
          show Sq p e below m T55 356 #[iv p1, iv p2, iv p3, iv p4, iv p5, iv cp, iv kk0, iv kk1, iv kk2, rv b1, iv 0, iv 0, iv 1, iv v, iv 1, iv 2, iv qv, iv 2, iv 3, iv 0, iv 1, iv 2, rv b33, .unset, .unset, .unset] [.ref b48] _
          refine XS.dup X55.here hx rfl (hb hby at_356) rfl rfl ?_
          refine XS.iconst X55.here hx rfl (hb hby at_357) ?_
          show Sq p e below m T55 358 #[iv p1, iv p2, iv p3, iv p4, iv p5, iv cp, iv kk0, iv kk1, iv kk2, rv b1, iv 0, iv 0, iv 1, iv v, iv 1, iv 2, iv qv, iv 2, iv 3, iv 0, iv 1, iv 2, rv b33, .unset, .unset, .unset] [.int 2, .ref b48, .ref b48] _
          refine XS.iload X55.here hx rfl (hb hby at_358) rfl ?_
          show Sq p e below m T55 360 #[iv p1, iv p2, iv p3, iv p4, iv p5, iv cp, iv kk0, iv kk1, iv kk2, rv b1, iv 0, iv 0, iv 1, iv v, iv 1, iv 2, iv qv, iv 2, iv 3, iv 0, iv 1, iv 2, rv b33, .unset, .unset, .unset] [.int kk2, .int 2, .ref b48, .ref b48] _
          refine st59 _ ?_
          show Sq p e below m T59 361 #[iv p1, iv p2, iv p3, iv p4, iv p5, iv cp, iv kk0, iv kk1, iv kk2, rv b1, iv 0, iv 0, iv 1, iv v, iv 1, iv 2, iv qv, iv 2, iv 3, iv 0, iv 1, iv 2, rv b33, .unset, .unset, .unset] [.ref b48] _
          refine XS.astore X59.here hx rfl (hb hby at_361) rfl rfl rfl ?_
          refine XS.aload X59.here hx rfl (hb hby at_363) rfl rfl ?_
          show Sq p e below m T59 365 #[iv p1, iv p2, iv p3, iv p4, iv p5, iv cp, iv kk0, iv kk1, iv kk2, rv b1, iv 0, iv 0, iv 1, iv v, iv 1, iv 2, iv qv, iv 2, iv 3, iv 0, iv 1, iv 2, rv b33, rv b48, .unset, .unset] [.ref b1] _
          refine XS.iload X59.here hx rfl (hb hby at_365) rfl ?_
          show Sq p e below m T59 367 #[iv p1, iv p2, iv p3, iv p4, iv p5, iv cp, iv kk0, iv kk1, iv kk2, rv b1, iv 0, iv 0, iv 1, iv v, iv 1, iv 2, iv qv, iv 2, iv 3, iv 0, iv 1, iv 2, rv b33, rv b48, .unset, .unset] [.int 2, .ref b1] _
          refine st63.trans ?_
          show Sq p e below m T63 370 #[iv p1, iv p2, iv p3, iv p4, iv p5, iv cp, iv kk0, iv kk1, iv kk2, rv b1, iv 0, iv 0, iv 1, iv v, iv 1, iv 2, iv qv, iv 2, iv 3, iv 0, iv 1, iv 2, rv b33, rv b48, .unset, .unset] [.int 3] _
          refine XS.istore X63.here hx rfl (hb hby at_370) rfl rfl ?_
          refine XS.iload X63.here hx rfl (hb hby at_372) rfl ?_
          show Sq p e below m T63 374 #[iv p1, iv p2, iv p3, iv p4, iv p5, iv cp, iv kk0, iv kk1, iv kk2, rv b1, iv 0, iv 0, iv 1, iv v, iv 1, iv 2, iv qv, iv 2, iv 3, iv 0, iv 1, iv 2, rv b33, rv b48, iv 3, .unset] [.int 3] _
          refine XS.iload X63.here hx rfl (hb hby at_374) rfl ?_
          refine XS.icmpNo X63.here hx rfl (hb hby at_376) rfl (teq (rfl : (3 : Int32) = (3 : Int32))).2 ?_
          show Sq p e below m T63 379 #[iv p1, iv p2, iv p3, iv p4, iv p5, iv cp, iv kk0, iv kk1, iv kk2, rv b1, iv 0, iv 0, iv 1, iv v, iv 1, iv 2, iv qv, iv 2, iv 3, iv 0, iv 1, iv 2, rv b33, rv b48, iv 3, .unset] [] _
          refine XS.iconst X63.here hx rfl (hb hby at_379) ?_
          refine XS.goto X63.here hx rfl (pc0 := 380) (pc' := 384) rfl (hb hby at_380) (by decide) (by decide) ?_
          show Sq p e below m T63 384 #[iv p1, iv p2, iv p3, iv p4, iv p5, iv cp, iv kk0, iv kk1, iv kk2, rv b1, iv 0, iv 0, iv 1, iv v, iv 1, iv 2, iv qv, iv 2, iv 3, iv 0, iv 1, iv 2, rv b33, rv b48, iv 3, .unset] [.int 1] _
          refine XS.istore X63.here hx rfl (hb hby at_384) rfl rfl ?_
          refine XS.iload X63.here hx rfl (hb hby at_386) rfl ?_
          show Sq p e below m T63 388 #[iv p1, iv p2, iv p3, iv p4, iv p5, iv cp, iv kk0, iv kk1, iv kk2, rv b1, iv 0, iv 0, iv 1, iv v, iv 1, iv 2, iv qv, iv 2, iv 3, iv 0, iv 1, iv 2, rv b33, rv b48, iv 3, iv 1] [.int 1] _
          refine XS.ifNo X63.here hx rfl (hb hby at_388) rfl ((if0 _ _).trans (feq (by decide)).1) ?_
          refine XS.iload X63.here hx rfl (hb hby at_391) rfl ?_
          show Sq p e below m T63 393 #[iv p1, iv p2, iv p3, iv p4, iv p5, iv cp, iv kk0, iv kk1, iv kk2, rv b1, iv 0, iv 0, iv 1, iv v, iv 1, iv 2, iv qv, iv 2, iv 3, iv 0, iv 1, iv 2, rv b33, rv b48, iv 3, iv 1] [.int 3] _
          refine XS.iconst X63.here hx rfl (hb hby at_393) ?_
          refine XS.icmpNo X63.here hx rfl (hb hby at_394) rfl (flt (by decide)).1 ?_
          show Sq p e below m T63 397 #[iv p1, iv p2, iv p3, iv p4, iv p5, iv cp, iv kk0, iv kk1, iv kk2, rv b1, iv 0, iv 0, iv 1, iv v, iv 1, iv 2, iv qv, iv 2, iv 3, iv 0, iv 1, iv 2, rv b33, rv b48, iv 3, iv 1] [] _
          refine XS.aload X63.here hx rfl (hb hby at_397) rfl rfl ?_
          refine XS.iconst X63.here hx rfl (hb hby at_399) ?_
          show Sq p e below m T63 400 #[iv p1, iv p2, iv p3, iv p4, iv p5, iv cp, iv kk0, iv kk1, iv kk2, rv b1, iv 0, iv 0, iv 1, iv v, iv 1, iv 2, iv qv, iv 2, iv 3, iv 0, iv 1, iv 2, rv b33, rv b48, iv 3, iv 1] [.int 0, .ref b1] _
          refine st66.trans ?_
          show Sq p e below m T66 403 #[iv p1, iv p2, iv p3, iv p4, iv p5, iv cp, iv kk0, iv kk1, iv kk2, rv b1, iv 0, iv 0, iv 1, iv v, iv 1, iv 2, iv qv, iv 2, iv 3, iv 0, iv 1, iv 2, rv b33, rv b48, iv 3, iv 1] [.int p1] _
          refine XS.aload X66.here hx rfl (hb hby at_403) rfl rfl ?_
          refine XS.iload X66.here hx rfl (hb hby at_405) rfl ?_
          show Sq p e below m T66 407 #[iv p1, iv p2, iv p3, iv p4, iv p5, iv cp, iv kk0, iv kk1, iv kk2, rv b1, iv 0, iv 0, iv 1, iv v, iv 1, iv 2, iv qv, iv 2, iv 3, iv 0, iv 1, iv 2, rv b33, rv b48, iv 3, iv 1] [.int 0, .ref b33, .int p1] _
          refine st67 _ ?_
          show Sq p e below m T66 408 #[iv p1, iv p2, iv p3, iv p4, iv p5, iv cp, iv kk0, iv kk1, iv kk2, rv b1, iv 0, iv 0, iv 1, iv v, iv 1, iv 2, iv qv, iv 2, iv 3, iv 0, iv 1, iv 2, rv b33, rv b48, iv 3, iv 1] [.int p1, .int p1] _
          refine XS.icmpNo X66.here hx rfl (hb hby at_408) rfl (teq (rfl : p1 = p1)).2 ?_
          refine XS.aload X66.here hx rfl (hb hby at_411) rfl rfl ?_
          show Sq p e below m T66 413 #[iv p1, iv p2, iv p3, iv p4, iv p5, iv cp, iv kk0, iv kk1, iv kk2, rv b1, iv 0, iv 0, iv 1, iv v, iv 1, iv 2, iv qv, iv 2, iv 3, iv 0, iv 1, iv 2, rv b33, rv b48, iv 3, iv 1] [.ref b1] _
          refine XS.iconst X66.here hx rfl (hb hby at_413) ?_
          show Sq p e below m T66 414 #[iv p1, iv p2, iv p3, iv p4, iv p5, iv cp, iv kk0, iv kk1, iv kk2, rv b1, iv 0, iv 0, iv 1, iv v, iv 1, iv 2, iv qv, iv 2, iv 3, iv 0, iv 1, iv 2, rv b33, rv b48, iv 3, iv 1] [.int 0, .ref b1] _
          refine st68.trans ?_
          show Sq p e below m T68 417 #[iv p1, iv p2, iv p3, iv p4, iv p5, iv cp, iv kk0, iv kk1, iv kk2, rv b1, iv 0, iv 0, iv 1, iv v, iv 1, iv 2, iv qv, iv 2, iv 3, iv 0, iv 1, iv 2, rv b33, rv b48, iv 3, iv 1] [.int (own_ev kk0 p4)] _
          refine XS.aload X68.here hx rfl (hb hby at_417) rfl rfl ?_
          refine XS.iload X68.here hx rfl (hb hby at_419) rfl ?_
          show Sq p e below m T68 421 #[iv p1, iv p2, iv p3, iv p4, iv p5, iv cp, iv kk0, iv kk1, iv kk2, rv b1, iv 0, iv 0, iv 1, iv v, iv 1, iv 2, iv qv, iv 2, iv 3, iv 0, iv 1, iv 2, rv b33, rv b48, iv 3, iv 1] [.int 0, .ref b48, .int (own_ev kk0 p4)] _
          refine st69 _ ?_
          show Sq p e below m T68 422 #[iv p1, iv p2, iv p3, iv p4, iv p5, iv cp, iv kk0, iv kk1, iv kk2, rv b1, iv 0, iv 0, iv 1, iv v, iv 1, iv 2, iv qv, iv 2, iv 3, iv 0, iv 1, iv 2, rv b33, rv b48, iv 3, iv 1] [.int kk0, .int (own_ev kk0 p4)] _
          refine XS.iloadN X68.here hx rfl (hb hby at_422) rfl ?_
          show Sq p e below m T68 423 #[iv p1, iv p2, iv p3, iv p4, iv p5, iv cp, iv kk0, iv kk1, iv kk2, rv b1, iv 0, iv 0, iv 1, iv v, iv 1, iv 2, iv qv, iv 2, iv 3, iv 0, iv 1, iv 2, rv b33, rv b48, iv 3, iv 1] [.int p4, .int kk0, .int (own_ev kk0 p4)] _
          refine st70 _ ?_
          show Sq p e below m T70 426 #[iv p1, iv p2, iv p3, iv p4, iv p5, iv cp, iv kk0, iv kk1, iv kk2, rv b1, iv 0, iv 0, iv 1, iv v, iv 1, iv 2, iv qv, iv 2, iv 3, iv 0, iv 1, iv 2, rv b33, rv b48, iv 3, iv 1] [.int (own_ev kk0 p4), .int (own_ev kk0 p4)] _
          refine XS.icmpNo X70.here hx rfl (hb hby at_426) rfl (teq (rfl : (own_ev kk0 p4) = (own_ev kk0 p4))).2 ?_
          refine XS.iconst X70.here hx rfl (hb hby at_429) ?_
          show Sq p e below m T70 430 #[iv p1, iv p2, iv p3, iv p4, iv p5, iv cp, iv kk0, iv kk1, iv kk2, rv b1, iv 0, iv 0, iv 1, iv v, iv 1, iv 2, iv qv, iv 2, iv 3, iv 0, iv 1, iv 2, rv b33, rv b48, iv 3, iv 1] [.int 1] _
          refine XS.goto X70.here hx rfl (pc0 := 430) (pc' := 434) rfl (hb hby at_430) (by decide) (by decide) ?_
          refine XS.istore X70.here hx rfl (hb hby at_434) rfl rfl ?_
          show Sq p e below m T70 436 #[iv p1, iv p2, iv p3, iv p4, iv p5, iv cp, iv kk0, iv kk1, iv kk2, rv b1, iv 0, iv 0, iv 1, iv v, iv 1, iv 2, iv qv, iv 2, iv 3, iv 0, iv 1, iv 2, rv b33, rv b48, iv 3, iv 1] [] _
          refine XS.iload X70.here hx rfl (hb hby at_436) rfl ?_
          refine XS.ifNo X70.here hx rfl (hb hby at_438) rfl ((if0 _ _).trans (feq (by decide)).1) ?_
          show Sq p e below m T70 441 #[iv p1, iv p2, iv p3, iv p4, iv p5, iv cp, iv kk0, iv kk1, iv kk2, rv b1, iv 0, iv 0, iv 1, iv v, iv 1, iv 2, iv qv, iv 2, iv 3, iv 0, iv 1, iv 2, rv b33, rv b48, iv 3, iv 1] [] _
          refine XS.iload X70.here hx rfl (hb hby at_441) rfl ?_
          refine XS.iconst X70.here hx rfl (hb hby at_443) ?_
          show Sq p e below m T70 444 #[iv p1, iv p2, iv p3, iv p4, iv p5, iv cp, iv kk0, iv kk1, iv kk2, rv b1, iv 0, iv 0, iv 1, iv v, iv 1, iv 2, iv qv, iv 2, iv 3, iv 0, iv 1, iv 2, rv b33, rv b48, iv 3, iv 1] [.int 2, .int 3] _
          refine XS.icmpNo X70.here hx rfl (hb hby at_444) rfl (flt (by decide)).1 ?_
          refine XS.aload X70.here hx rfl (hb hby at_447) rfl rfl ?_
          show Sq p e below m T70 449 #[iv p1, iv p2, iv p3, iv p4, iv p5, iv cp, iv kk0, iv kk1, iv kk2, rv b1, iv 0, iv 0, iv 1, iv v, iv 1, iv 2, iv qv, iv 2, iv 3, iv 0, iv 1, iv 2, rv b33, rv b48, iv 3, iv 1] [.ref b1] _
          refine XS.iconst X70.here hx rfl (hb hby at_449) ?_
          show Sq p e below m T70 450 #[iv p1, iv p2, iv p3, iv p4, iv p5, iv cp, iv kk0, iv kk1, iv kk2, rv b1, iv 0, iv 0, iv 1, iv v, iv 1, iv 2, iv qv, iv 2, iv 3, iv 0, iv 1, iv 2, rv b33, rv b48, iv 3, iv 1] [.int 1, .ref b1] _
          refine st71.trans ?_
          show Sq p e below m T71 453 #[iv p1, iv p2, iv p3, iv p4, iv p5, iv cp, iv kk0, iv kk1, iv kk2, rv b1, iv 0, iv 0, iv 1, iv v, iv 1, iv 2, iv qv, iv 2, iv 3, iv 0, iv 1, iv 2, rv b33, rv b48, iv 3, iv 1] [.int p2] _
          refine XS.aload X71.here hx rfl (hb hby at_453) rfl rfl ?_
          refine XS.iload X71.here hx rfl (hb hby at_455) rfl ?_
          show Sq p e below m T71 457 #[iv p1, iv p2, iv p3, iv p4, iv p5, iv cp, iv kk0, iv kk1, iv kk2, rv b1, iv 0, iv 0, iv 1, iv v, iv 1, iv 2, iv qv, iv 2, iv 3, iv 0, iv 1, iv 2, rv b33, rv b48, iv 3, iv 1] [.int 1, .ref b33, .int p2] _
          refine st72 _ ?_
          show Sq p e below m T71 458 #[iv p1, iv p2, iv p3, iv p4, iv p5, iv cp, iv kk0, iv kk1, iv kk2, rv b1, iv 0, iv 0, iv 1, iv v, iv 1, iv 2, iv qv, iv 2, iv 3, iv 0, iv 1, iv 2, rv b33, rv b48, iv 3, iv 1] [.int p2, .int p2] _
          refine XS.icmpNo X71.here hx rfl (hb hby at_458) rfl (teq (rfl : p2 = p2)).2 ?_
          refine XS.aload X71.here hx rfl (hb hby at_461) rfl rfl ?_
          show Sq p e below m T71 463 #[iv p1, iv p2, iv p3, iv p4, iv p5, iv cp, iv kk0, iv kk1, iv kk2, rv b1, iv 0, iv 0, iv 1, iv v, iv 1, iv 2, iv qv, iv 2, iv 3, iv 0, iv 1, iv 2, rv b33, rv b48, iv 3, iv 1] [.ref b1] _
          refine XS.iconst X71.here hx rfl (hb hby at_463) ?_
          show Sq p e below m T71 464 #[iv p1, iv p2, iv p3, iv p4, iv p5, iv cp, iv kk0, iv kk1, iv kk2, rv b1, iv 0, iv 0, iv 1, iv v, iv 1, iv 2, iv qv, iv 2, iv 3, iv 0, iv 1, iv 2, rv b33, rv b48, iv 3, iv 1] [.int 1, .ref b1] _
          refine st73.trans ?_
          show Sq p e below m T73 467 #[iv p1, iv p2, iv p3, iv p4, iv p5, iv cp, iv kk0, iv kk1, iv kk2, rv b1, iv 0, iv 0, iv 1, iv v, iv 1, iv 2, iv qv, iv 2, iv 3, iv 0, iv 1, iv 2, rv b33, rv b48, iv 3, iv 1] [.int (own_ev kk1 p4)] _
          refine XS.aload X73.here hx rfl (hb hby at_467) rfl rfl ?_
          refine XS.iload X73.here hx rfl (hb hby at_469) rfl ?_
          show Sq p e below m T73 471 #[iv p1, iv p2, iv p3, iv p4, iv p5, iv cp, iv kk0, iv kk1, iv kk2, rv b1, iv 0, iv 0, iv 1, iv v, iv 1, iv 2, iv qv, iv 2, iv 3, iv 0, iv 1, iv 2, rv b33, rv b48, iv 3, iv 1] [.int 1, .ref b48, .int (own_ev kk1 p4)] _
          refine st74 _ ?_
          show Sq p e below m T73 472 #[iv p1, iv p2, iv p3, iv p4, iv p5, iv cp, iv kk0, iv kk1, iv kk2, rv b1, iv 0, iv 0, iv 1, iv v, iv 1, iv 2, iv qv, iv 2, iv 3, iv 0, iv 1, iv 2, rv b33, rv b48, iv 3, iv 1] [.int kk1, .int (own_ev kk1 p4)] _
          refine XS.iloadN X73.here hx rfl (hb hby at_472) rfl ?_
          show Sq p e below m T73 473 #[iv p1, iv p2, iv p3, iv p4, iv p5, iv cp, iv kk0, iv kk1, iv kk2, rv b1, iv 0, iv 0, iv 1, iv v, iv 1, iv 2, iv qv, iv 2, iv 3, iv 0, iv 1, iv 2, rv b33, rv b48, iv 3, iv 1] [.int p4, .int kk1, .int (own_ev kk1 p4)] _
          refine st75 _ ?_
          show Sq p e below m T75 476 #[iv p1, iv p2, iv p3, iv p4, iv p5, iv cp, iv kk0, iv kk1, iv kk2, rv b1, iv 0, iv 0, iv 1, iv v, iv 1, iv 2, iv qv, iv 2, iv 3, iv 0, iv 1, iv 2, rv b33, rv b48, iv 3, iv 1] [.int (own_ev kk1 p4), .int (own_ev kk1 p4)] _
          refine XS.icmpNo X75.here hx rfl (hb hby at_476) rfl (teq (rfl : (own_ev kk1 p4) = (own_ev kk1 p4))).2 ?_
          refine XS.iconst X75.here hx rfl (hb hby at_479) ?_
          show Sq p e below m T75 480 #[iv p1, iv p2, iv p3, iv p4, iv p5, iv cp, iv kk0, iv kk1, iv kk2, rv b1, iv 0, iv 0, iv 1, iv v, iv 1, iv 2, iv qv, iv 2, iv 3, iv 0, iv 1, iv 2, rv b33, rv b48, iv 3, iv 1] [.int 1] _
          refine XS.goto X75.here hx rfl (pc0 := 480) (pc' := 484) rfl (hb hby at_480) (by decide) (by decide) ?_
          refine XS.istore X75.here hx rfl (hb hby at_484) rfl rfl ?_
          show Sq p e below m T75 486 #[iv p1, iv p2, iv p3, iv p4, iv p5, iv cp, iv kk0, iv kk1, iv kk2, rv b1, iv 0, iv 0, iv 1, iv v, iv 1, iv 2, iv qv, iv 2, iv 3, iv 0, iv 1, iv 2, rv b33, rv b48, iv 3, iv 1] [] _
          refine XS.iload X75.here hx rfl (hb hby at_486) rfl ?_
          refine XS.ifNo X75.here hx rfl (hb hby at_488) rfl ((if0 _ _).trans (feq (by decide)).1) ?_
          show Sq p e below m T75 491 #[iv p1, iv p2, iv p3, iv p4, iv p5, iv cp, iv kk0, iv kk1, iv kk2, rv b1, iv 0, iv 0, iv 1, iv v, iv 1, iv 2, iv qv, iv 2, iv 3, iv 0, iv 1, iv 2, rv b33, rv b48, iv 3, iv 1] [] _
          refine XS.iload X75.here hx rfl (hb hby at_491) rfl ?_
          refine XS.iconst X75.here hx rfl (hb hby at_493) ?_
          show Sq p e below m T75 494 #[iv p1, iv p2, iv p3, iv p4, iv p5, iv cp, iv kk0, iv kk1, iv kk2, rv b1, iv 0, iv 0, iv 1, iv v, iv 1, iv 2, iv qv, iv 2, iv 3, iv 0, iv 1, iv 2, rv b33, rv b48, iv 3, iv 1] [.int 3, .int 3] _
          refine XS.icmpNo X75.here hx rfl (hb hby at_494) rfl (flt (by decide)).1 ?_
          refine XS.aload X75.here hx rfl (hb hby at_497) rfl rfl ?_
          show Sq p e below m T75 499 #[iv p1, iv p2, iv p3, iv p4, iv p5, iv cp, iv kk0, iv kk1, iv kk2, rv b1, iv 0, iv 0, iv 1, iv v, iv 1, iv 2, iv qv, iv 2, iv 3, iv 0, iv 1, iv 2, rv b33, rv b48, iv 3, iv 1] [.ref b1] _
          refine XS.iconst X75.here hx rfl (hb hby at_499) ?_
          show Sq p e below m T75 500 #[iv p1, iv p2, iv p3, iv p4, iv p5, iv cp, iv kk0, iv kk1, iv kk2, rv b1, iv 0, iv 0, iv 1, iv v, iv 1, iv 2, iv qv, iv 2, iv 3, iv 0, iv 1, iv 2, rv b33, rv b48, iv 3, iv 1] [.int 2, .ref b1] _
          refine st76.trans ?_
          show Sq p e below m T76 503 #[iv p1, iv p2, iv p3, iv p4, iv p5, iv cp, iv kk0, iv kk1, iv kk2, rv b1, iv 0, iv 0, iv 1, iv v, iv 1, iv 2, iv qv, iv 2, iv 3, iv 0, iv 1, iv 2, rv b33, rv b48, iv 3, iv 1] [.int p3] _
          refine XS.aload X76.here hx rfl (hb hby at_503) rfl rfl ?_
          refine XS.iload X76.here hx rfl (hb hby at_505) rfl ?_
          show Sq p e below m T76 507 #[iv p1, iv p2, iv p3, iv p4, iv p5, iv cp, iv kk0, iv kk1, iv kk2, rv b1, iv 0, iv 0, iv 1, iv v, iv 1, iv 2, iv qv, iv 2, iv 3, iv 0, iv 1, iv 2, rv b33, rv b48, iv 3, iv 1] [.int 2, .ref b33, .int p3] _
          refine st77 _ ?_
          show Sq p e below m T76 508 #[iv p1, iv p2, iv p3, iv p4, iv p5, iv cp, iv kk0, iv kk1, iv kk2, rv b1, iv 0, iv 0, iv 1, iv v, iv 1, iv 2, iv qv, iv 2, iv 3, iv 0, iv 1, iv 2, rv b33, rv b48, iv 3, iv 1] [.int p3, .int p3] _
          refine XS.icmpNo X76.here hx rfl (hb hby at_508) rfl (teq (rfl : p3 = p3)).2 ?_
          refine XS.aload X76.here hx rfl (hb hby at_511) rfl rfl ?_
          show Sq p e below m T76 513 #[iv p1, iv p2, iv p3, iv p4, iv p5, iv cp, iv kk0, iv kk1, iv kk2, rv b1, iv 0, iv 0, iv 1, iv v, iv 1, iv 2, iv qv, iv 2, iv 3, iv 0, iv 1, iv 2, rv b33, rv b48, iv 3, iv 1] [.ref b1] _
          refine XS.iconst X76.here hx rfl (hb hby at_513) ?_
          show Sq p e below m T76 514 #[iv p1, iv p2, iv p3, iv p4, iv p5, iv cp, iv kk0, iv kk1, iv kk2, rv b1, iv 0, iv 0, iv 1, iv v, iv 1, iv 2, iv qv, iv 2, iv 3, iv 0, iv 1, iv 2, rv b33, rv b48, iv 3, iv 1] [.int 2, .ref b1] _
          refine st78.trans ?_
          show Sq p e below m T78 517 #[iv p1, iv p2, iv p3, iv p4, iv p5, iv cp, iv kk0, iv kk1, iv kk2, rv b1, iv 0, iv 0, iv 1, iv v, iv 1, iv 2, iv qv, iv 2, iv 3, iv 0, iv 1, iv 2, rv b33, rv b48, iv 3, iv 1] [.int (own_ev kk2 p4)] _
          refine XS.aload X78.here hx rfl (hb hby at_517) rfl rfl ?_
          refine XS.iload X78.here hx rfl (hb hby at_519) rfl ?_
          show Sq p e below m T78 521 #[iv p1, iv p2, iv p3, iv p4, iv p5, iv cp, iv kk0, iv kk1, iv kk2, rv b1, iv 0, iv 0, iv 1, iv v, iv 1, iv 2, iv qv, iv 2, iv 3, iv 0, iv 1, iv 2, rv b33, rv b48, iv 3, iv 1] [.int 2, .ref b48, .int (own_ev kk2 p4)] _
          refine st79 _ ?_
          show Sq p e below m T78 522 #[iv p1, iv p2, iv p3, iv p4, iv p5, iv cp, iv kk0, iv kk1, iv kk2, rv b1, iv 0, iv 0, iv 1, iv v, iv 1, iv 2, iv qv, iv 2, iv 3, iv 0, iv 1, iv 2, rv b33, rv b48, iv 3, iv 1] [.int kk2, .int (own_ev kk2 p4)] _
          refine XS.iloadN X78.here hx rfl (hb hby at_522) rfl ?_
          show Sq p e below m T78 523 #[iv p1, iv p2, iv p3, iv p4, iv p5, iv cp, iv kk0, iv kk1, iv kk2, rv b1, iv 0, iv 0, iv 1, iv v, iv 1, iv 2, iv qv, iv 2, iv 3, iv 0, iv 1, iv 2, rv b33, rv b48, iv 3, iv 1] [.int p4, .int kk2, .int (own_ev kk2 p4)] _
          refine st80 _ ?_
          show Sq p e below m T80 526 #[iv p1, iv p2, iv p3, iv p4, iv p5, iv cp, iv kk0, iv kk1, iv kk2, rv b1, iv 0, iv 0, iv 1, iv v, iv 1, iv 2, iv qv, iv 2, iv 3, iv 0, iv 1, iv 2, rv b33, rv b48, iv 3, iv 1] [.int (own_ev kk2 p4), .int (own_ev kk2 p4)] _
          refine XS.icmpNo X80.here hx rfl (hb hby at_526) rfl (teq (rfl : (own_ev kk2 p4) = (own_ev kk2 p4))).2 ?_
          refine XS.iconst X80.here hx rfl (hb hby at_529) ?_
          show Sq p e below m T80 530 #[iv p1, iv p2, iv p3, iv p4, iv p5, iv cp, iv kk0, iv kk1, iv kk2, rv b1, iv 0, iv 0, iv 1, iv v, iv 1, iv 2, iv qv, iv 2, iv 3, iv 0, iv 1, iv 2, rv b33, rv b48, iv 3, iv 1] [.int 1] _
          refine XS.goto X80.here hx rfl (pc0 := 530) (pc' := 534) rfl (hb hby at_530) (by decide) (by decide) ?_
          refine XS.istore X80.here hx rfl (hb hby at_534) rfl rfl ?_
          show Sq p e below m T80 536 #[iv p1, iv p2, iv p3, iv p4, iv p5, iv cp, iv kk0, iv kk1, iv kk2, rv b1, iv 0, iv 0, iv 1, iv v, iv 1, iv 2, iv qv, iv 2, iv 3, iv 0, iv 1, iv 2, rv b33, rv b48, iv 3, iv 1] [] _
          refine XS.iload X80.here hx rfl (hb hby at_536) rfl ?_
          show Sq p e below m T80 538 #[iv p1, iv p2, iv p3, iv p4, iv p5, iv cp, iv kk0, iv kk1, iv kk2, rv b1, iv 0, iv 0, iv 1, iv v, iv 1, iv 2, iv qv, iv 2, iv 3, iv 0, iv 1, iv 2, rv b33, rv b48, iv 3, iv 1] [.int 1] _
          exact retN X80 hx (t := .boolean) Bd.returns (by simp) (hb hby at_538) hr
        · show Q_rm0 Z p1 p2 p3 p4 p5 cp kk0 kk1 kk2 v qv w_MIR h0 n0 _ T80.heap _
          rw [e80]
          exact ⟨rfl, N80⟩
  · have pre31 : ∀ t, Steps p.tables e below (T26.setTop (mkF m 237 #[iv p1, iv p2, iv p3, iv p4, iv p5, iv cp, iv kk0, iv kk1, iv kk2, rv b1, iv 0, iv e1, iv 1, iv v, iv e2, iv 2, iv qv, iv 1, iv 0, iv 0, iv 0, iv 0, .unset, .unset, .unset, .unset] [])) t → Steps p.tables e below (s₁.setTop (entryFrame m #[(.int p1), (.int p2), (.int p3), (.int p4), (.int p5)] maxLocals)) t := by
      intro t kt
      refine pre30 _ ?_
      show Sq p e below m T26 193 #[iv p1, iv p2, iv p3, iv p4, iv p5, iv cp, iv kk0, iv kk1, iv kk2, rv b1, iv 0, iv e1, iv 1, iv v, iv e2, iv 2, iv qv, iv 1, .unset, .unset, .unset, .unset, .unset, .unset, .unset, .unset] [] _
      refine XS.iconst X26.here hx rfl (hb hby at_193) ?_
      refine XS.istore X26.here hx rfl (hb hby at_194) rfl rfl ?_
      show Sq p e below m T26 196 #[iv p1, iv p2, iv p3, iv p4, iv p5, iv cp, iv kk0, iv kk1, iv kk2, rv b1, iv 0, iv e1, iv 1, iv v, iv e2, iv 2, iv qv, iv 1, iv 0, .unset, .unset, .unset, .unset, .unset, .unset, .unset] [] _
      refine XS.iconst X26.here hx rfl (hb hby at_196) ?_
      refine XS.istore X26.here hx rfl (hb hby at_197) rfl rfl ?_
      show Sq p e below m T26 199 #[iv p1, iv p2, iv p3, iv p4, iv p5, iv cp, iv kk0, iv kk1, iv kk2, rv b1, iv 0, iv e1, iv 1, iv v, iv e2, iv 2, iv qv, iv 1, iv 0, iv 0, .unset, .unset, .unset, .unset, .unset, .unset] [] _
      refine XS.iconst X26.here hx rfl (hb hby at_199) ?_
      refine XS.istore X26.here hx rfl (hb hby at_200) rfl rfl ?_
      show Sq p e below m T26 202 #[iv p1, iv p2, iv p3, iv p4, iv p5, iv cp, iv kk0, iv kk1, iv kk2, rv b1, iv 0, iv e1, iv 1, iv v, iv e2, iv 2, iv qv, iv 1, iv 0, iv 0, iv 0, .unset, .unset, .unset, .unset, .unset] [] _
      refine XS.iconst X26.here hx rfl (hb hby at_202) ?_
      refine XS.istore X26.here hx rfl (hb hby at_203) rfl rfl ?_
      show Sq p e below m T26 205 #[iv p1, iv p2, iv p3, iv p4, iv p5, iv cp, iv kk0, iv kk1, iv kk2, rv b1, iv 0, iv e1, iv 1, iv v, iv e2, iv 2, iv qv, iv 1, iv 0, iv 0, iv 0, iv 0, .unset, .unset, .unset, .unset] [] _
      refine XS.iload X26.here hx rfl (hb hby at_205) rfl ?_
      refine XS.iconst X26.here hx rfl (hb hby at_207) ?_
      show Sq p e below m T26 208 #[iv p1, iv p2, iv p3, iv p4, iv p5, iv cp, iv kk0, iv kk1, iv kk2, rv b1, iv 0, iv e1, iv 1, iv v, iv e2, iv 2, iv qv, iv 1, iv 0, iv 0, iv 0, iv 0, .unset, .unset, .unset, .unset] [.int (-1), .int 1] _
      refine XS.icmpYes X26.here hx rfl (pc0 := 208) (pc' := 217) rfl (hb hby at_208) rfl (feq (by decide)).2 (by decide) (by decide) ?_
      refine XS.iload X26.here hx rfl (hb hby at_217) rfl ?_
      show Sq p e below m T26 219 #[iv p1, iv p2, iv p3, iv p4, iv p5, iv cp, iv kk0, iv kk1, iv kk2, rv b1, iv 0, iv e1, iv 1, iv v, iv e2, iv 2, iv qv, iv 1, iv 0, iv 0, iv 0, iv 0, .unset, .unset, .unset, .unset] [.int 1] _
      refine XS.ifYes X26.here hx rfl (pc0 := 219) (pc' := 231) rfl (hb hby at_219) rfl ((if0 _ _).trans (feq (by decide)).2) (by decide) (by decide) ?_
      refine XS.iload X26.here hx rfl (hb hby at_231) rfl ?_
      show Sq p e below m T26 233 #[iv p1, iv p2, iv p3, iv p4, iv p5, iv cp, iv kk0, iv kk1, iv kk2, rv b1, iv 0, iv e1, iv 1, iv v, iv e2, iv 2, iv qv, iv 1, iv 0, iv 0, iv 0, iv 0, .unset, .unset, .unset, .unset] [.int 1] _
      refine XS.iconst X26.here hx rfl (hb hby at_233) ?_
      refine XS.icmpNo X26.here hx rfl (hb hby at_234) rfl (teq (rfl : (1 : Int32) = (1 : Int32))).2 ?_
      exact kt
    rcases own_e1 he1 with rfl | rfl
    · obtain ⟨T32, h32, k32, X32, e32, E32, A32, A32x, st32⟩ := newPE X26 hx hZ (W 9 rfl) e26 (g := (mkF m 327 #[iv p1, iv p2, iv p3, iv p4, iv p5, iv cp, iv kk0, iv kk1, iv kk2, rv b1, iv 0, iv (-1), iv 1, iv v, iv e2, iv 2, iv qv, iv 1, iv 1, iv 1, iv 0, iv 0, .unset, .unset, .unset, .unset] [.int 3])) rfl (hb hby at_327) rfl (by decide) (cap := 3) (by decide) (by decide) (by decide) (by decide) (ad := "[I") (by decide)
      obtain ⟨b32, g32⟩ : ∃ z, z = h26.size := ⟨_, rfl⟩
      rw [← g32] at A32 A32x st32
      have g_b32 : n0 ≤ b32 := Nat.le_trans (own_sz O27) (Nat.le_of_eq g32.symm)
      have ne_b1_b32 : b1 ≠ b32 := Nat.ne_of_lt (Nat.lt_of_lt_of_le A1.lt (Nat.le_of_eq g32.symm))
      have ne_b26lo__b32 : b26lo' ≠ b32 := Nat.ne_of_lt (Nat.lt_of_lt_of_le p26_8.lt (Nat.le_of_eq g32.symm))
      have ne_b26ea__b32 : b26ea' ≠ b32 := Nat.ne_of_lt (Nat.lt_of_lt_of_le p26_9.lt (Nat.le_of_eq g32.symm))
      have ne_b26li__b32 : b26li' ≠ b32 := Nat.ne_of_lt (Nat.lt_of_lt_of_le p26_12.lt (Nat.le_of_eq g32.symm))
      have A1 := A1.ext E32
      have p26_1 := p26_1.ext E32
      have p26_2 := p26_2.ext E32
      have p26_5 := p26_5.ext E32
      have p26_7 := p26_7.ext E32
      have p26_8 := p26_8.ext E32
      have p26_9 := p26_9.ext E32
      have p26_12 := p26_12.ext E32
      have O33 := O27.ext E32
      have V32 : Arv Z h32 b32 k32 .int (3 : Int32) [(.int (0 : Int32)), (.int (0 : Int32)), (.int (0 : Int32))] (.int (0 : Int32)) := (Arv.new A32 (by decide)).pad (pad_rep [] (.int (0 : Int32)) 3)
      obtain ⟨cl35, Ar35, q35, S35, Ng35, Hh35, Gg35⟩ := id V32
      obtain ⟨T35, h35, X35, e35, W35, st35⟩ := stI X32 hx hZ e32 Ar35 (j := (0 : Int32)) (inb_of S35 (by decide)) (g := (mkF m 332 #[iv p1, iv p2, iv p3, iv p4, iv p5, iv cp, iv kk0, iv kk1, iv kk2, rv b1, iv 0, iv (-1), iv 1, iv v, iv e2, iv 2, iv qv, iv 1, iv 1, iv 1, iv 0, iv 0, .unset, .unset, .unset, .unset] [.int p1, .int 0, .ref b32, .ref b32])) rfl rfl (hb hby at_332)
      have V35 : Arv Z h35 b32 k32 .int (3 : Int32) [(.int p1), (.int (0 : Int32)), (.int (0 : Int32))] (.int (0 : Int32)) := Arv.set Ar35 q35 S35 Ng35 Hh35 Gg35 rfl W35 0 rfl (Nat.le_of_ble_eq_true rfl)
      have A1 := A1.wr W35
      have p26_1 := p26_1.other W35 (Or.inl ne_b1_b32)
      have p26_2 := p26_2.other W35 (Or.inl ne_b1_b32)
      have p26_5 := p26_5.other W35 (Or.inl ne_b1_b32)
      have p26_7 := p26_7.other W35 (Or.inl ne_b1_b32)
      have p26_8 := p26_8.other W35 ne_b26lo__b32
      have p26_9 := p26_9.other W35 ne_b26ea__b32
      have p26_12 := p26_12.other W35 ne_b26li__b32
      have A32x := A32x.wr W35
      have O36 := O33.wr W35 g_b32
      have N38 := Fr.snoc X35 N26 g_b32
      obtain ⟨cl39, Ar39, q39, S39, Ng39, Hh39, Gg39⟩ := id V35
      obtain ⟨T39, h39, X39, e39, W39, st39⟩ := stI X35 hx hZ e35 Ar39 (j := (1 : Int32)) (inb_of S39 (by decide)) (g := (mkF m 336 #[iv p1, iv p2, iv p3, iv p4, iv p5, iv cp, iv kk0, iv kk1, iv kk2, rv b1, iv 0, iv (-1), iv 1, iv v, iv e2, iv 2, iv qv, iv 1, iv 1, iv 1, iv 0, iv 0, .unset, .unset, .unset, .unset] [.int p2, .int 1, .ref b32, .ref b32])) rfl rfl (hb hby at_336)
      have V39 : Arv Z h39 b32 k32 .int (3 : Int32) [(.int p1), (.int p2), (.int (0 : Int32))] (.int (0 : Int32)) := Arv.set Ar39 q39 S39 Ng39 Hh39 Gg39 rfl W39 1 rfl (Nat.le_of_ble_eq_true rfl)
      have A1 := A1.wr W39
      have p26_1 := p26_1.other W39 (Or.inl ne_b1_b32)
      have p26_2 := p26_2.other W39 (Or.inl ne_b1_b32)
      have p26_5 := p26_5.other W39 (Or.inl ne_b1_b32)
      have p26_7 := p26_7.other W39 (Or.inl ne_b1_b32)
      have p26_8 := p26_8.other W39 ne_b26lo__b32
      have p26_9 := p26_9.other W39 ne_b26ea__b32
      have p26_12 := p26_12.other W39 ne_b26li__b32
      have A32x := A32x.wr W39
      have O40 := O36.wr W39 g_b32
      have N42 := Fr.snoc X39 N38 g_b32
      obtain ⟨cl43, Ar43, q43, S43, Ng43, Hh43, Gg43⟩ := id V39
      obtain ⟨T43, h43, X43, e43, W43, st43⟩ := stI X39 hx hZ e39 Ar43 (j := (2 : Int32)) (inb_of S43 (by decide)) (g := (mkF m 340 #[iv p1, iv p2, iv p3, iv p4, iv p5, iv cp, iv kk0, iv kk1, iv kk2, rv b1, iv 0, iv (-1), iv 1, iv v, iv e2, iv 2, iv qv, iv 1, iv 1, iv 1, iv 0, iv 0, .unset, .unset, .unset, .unset] [.int p3, .int 2, .ref b32, .ref b32])) rfl rfl (hb hby at_340)
      have V43 : Arv Z h43 b32 k32 .int (3 : Int32) [(.int p1), (.int p2), (.int p3)] (.int (0 : Int32)) := Arv.set Ar43 q43 S43 Ng43 Hh43 Gg43 rfl W43 2 rfl (Nat.le_of_ble_eq_true rfl)
      have A1 := A1.wr W43
      have p26_1 := p26_1.other W43 (Or.inl ne_b1_b32)
      have p26_2 := p26_2.other W43 (Or.inl ne_b1_b32)
      have p26_5 := p26_5.other W43 (Or.inl ne_b1_b32)
      have p26_7 := p26_7.other W43 (Or.inl ne_b1_b32)
      have p26_8 := p26_8.other W43 ne_b26lo__b32
      have p26_9 := p26_9.other W43 ne_b26ea__b32
      have p26_12 := p26_12.other W43 ne_b26li__b32
      have A32x := A32x.wr W43
      have O44 := O40.wr W43 g_b32
      have N46 := Fr.snoc X43 N42 g_b32
      obtain ⟨T47, h47, k47, X47, e47, E47, A47, A47x, st47⟩ := newPE X43 hx hZ (W 9 rfl) e43 (g := (mkF m 344 #[iv p1, iv p2, iv p3, iv p4, iv p5, iv cp, iv kk0, iv kk1, iv kk2, rv b1, iv 0, iv (-1), iv 1, iv v, iv e2, iv 2, iv qv, iv 1, iv 1, iv 1, iv 0, iv 0, rv b32, .unset, .unset, .unset] [.int 3])) rfl (hb hby at_344) rfl (by decide) (cap := 3) (by decide) (by decide) (by decide) (by decide) (ad := "[I") (by decide)
      obtain ⟨b47, g47⟩ : ∃ z, z = h43.size := ⟨_, rfl⟩
      rw [← g47] at A47 A47x st47
      have g_b47 : n0 ≤ b47 := Nat.le_trans (own_sz O44) (Nat.le_of_eq g47.symm)
      have ne_b1_b47 : b1 ≠ b47 := Nat.ne_of_lt (Nat.lt_of_lt_of_le A1.lt (Nat.le_of_eq g47.symm))
      have ne_b26lo__b47 : b26lo' ≠ b47 := Nat.ne_of_lt (Nat.lt_of_lt_of_le p26_8.lt (Nat.le_of_eq g47.symm))
      have ne_b26ea__b47 : b26ea' ≠ b47 := Nat.ne_of_lt (Nat.lt_of_lt_of_le p26_9.lt (Nat.le_of_eq g47.symm))
      have ne_b26li__b47 : b26li' ≠ b47 := Nat.ne_of_lt (Nat.lt_of_lt_of_le p26_12.lt (Nat.le_of_eq g47.symm))
      have ne_b32_b47 : b32 ≠ b47 := Nat.ne_of_lt (Nat.lt_of_lt_of_le A32x.lt (Nat.le_of_eq g47.symm))
      have A1 := A1.ext E47
      have p26_1 := p26_1.ext E47
      have p26_2 := p26_2.ext E47
      have p26_5 := p26_5.ext E47
      have p26_7 := p26_7.ext E47
      have p26_8 := p26_8.ext E47
      have p26_9 := p26_9.ext E47
      have p26_12 := p26_12.ext E47
      have V43 := V43.ext E47
      have O48 := O44.ext E47
      have V47 : Arv Z h47 b47 k47 .int (3 : Int32) [(.int (0 : Int32)), (.int (0 : Int32)), (.int (0 : Int32))] (.int (0 : Int32)) := (Arv.new A47 (by decide)).pad (pad_rep [] (.int (0 : Int32)) 3)
      obtain ⟨cl50, Ar50, q50, S50, Ng50, Hh50, Gg50⟩ := id V47
      obtain ⟨T50, h50, X50, e50, W50, st50⟩ := stI X47 hx hZ e47 Ar50 (j := (0 : Int32)) (inb_of S50 (by decide)) (g := (mkF m 350 #[iv p1, iv p2, iv p3, iv p4, iv p5, iv cp, iv kk0, iv kk1, iv kk2, rv b1, iv 0, iv (-1), iv 1, iv v, iv e2, iv 2, iv qv, iv 1, iv 1, iv 1, iv 0, iv 0, rv b32, .unset, .unset, .unset] [.int kk0, .int 0, .ref b47, .ref b47])) rfl rfl (hb hby at_350)
      have V50 : Arv Z h50 b47 k47 .int (3 : Int32) [(.int kk0), (.int (0 : Int32)), (.int (0 : Int32))] (.int (0 : Int32)) := Arv.set Ar50 q50 S50 Ng50 Hh50 Gg50 rfl W50 0 rfl (Nat.le_of_ble_eq_true rfl)
      have A1 := A1.wr W50
      have p26_1 := p26_1.other W50 (Or.inl ne_b1_b47)
      have p26_2 := p26_2.other W50 (Or.inl ne_b1_b47)
      have p26_5 := p26_5.other W50 (Or.inl ne_b1_b47)
      have p26_7 := p26_7.other W50 (Or.inl ne_b1_b47)
      have p26_8 := p26_8.other W50 ne_b26lo__b47
      have p26_9 := p26_9.other W50 ne_b26ea__b47
      have p26_12 := p26_12.other W50 ne_b26li__b47
      have V43 := V43.other W50 ne_b32_b47
      have O51 := O48.wr W50 g_b47
      have N53 := Fr.snoc X50 N46 g_b47
      obtain ⟨cl54, Ar54, q54, S54, Ng54, Hh54, Gg54⟩ := id V50
      obtain ⟨T54, h54, X54, e54, W54, st54⟩ := stI X50 hx hZ e50 Ar54 (j := (1 : Int32)) (inb_of S54 (by decide)) (g := (mkF m 355 #[iv p1, iv p2, iv p3, iv p4, iv p5, iv cp, iv kk0, iv kk1, iv kk2, rv b1, iv 0, iv (-1), iv 1, iv v, iv e2, iv 2, iv qv, iv 1, iv 1, iv 1, iv 0, iv 0, rv b32, .unset, .unset, .unset] [.int kk1, .int 1, .ref b47, .ref b47])) rfl rfl (hb hby at_355)
      have V54 : Arv Z h54 b47 k47 .int (3 : Int32) [(.int kk0), (.int kk1), (.int (0 : Int32))] (.int (0 : Int32)) := Arv.set Ar54 q54 S54 Ng54 Hh54 Gg54 rfl W54 1 rfl (Nat.le_of_ble_eq_true rfl)
      have A1 := A1.wr W54
      have p26_1 := p26_1.other W54 (Or.inl ne_b1_b47)
      have p26_2 := p26_2.other W54 (Or.inl ne_b1_b47)
      have p26_5 := p26_5.other W54 (Or.inl ne_b1_b47)
      have p26_7 := p26_7.other W54 (Or.inl ne_b1_b47)
      have p26_8 := p26_8.other W54 ne_b26lo__b47
      have p26_9 := p26_9.other W54 ne_b26ea__b47
      have p26_12 := p26_12.other W54 ne_b26li__b47
      have V43 := V43.other W54 ne_b32_b47
      have O55 := O51.wr W54 g_b47
      have N57 := Fr.snoc X54 N53 g_b47
      obtain ⟨cl58, Ar58, q58, S58, Ng58, Hh58, Gg58⟩ := id V54
      obtain ⟨T58, h58, X58, e58, W58, st58⟩ := stI X54 hx hZ e54 Ar58 (j := (2 : Int32)) (inb_of S58 (by decide)) (g := (mkF m 360 #[iv p1, iv p2, iv p3, iv p4, iv p5, iv cp, iv kk0, iv kk1, iv kk2, rv b1, iv 0, iv (-1), iv 1, iv v, iv e2, iv 2, iv qv, iv 1, iv 1, iv 1, iv 0, iv 0, rv b32, .unset, .unset, .unset] [.int kk2, .int 2, .ref b47, .ref b47])) rfl rfl (hb hby at_360)
      have V58 : Arv Z h58 b47 k47 .int (3 : Int32) [(.int kk0), (.int kk1), (.int kk2)] (.int (0 : Int32)) := Arv.set Ar58 q58 S58 Ng58 Hh58 Gg58 rfl W58 2 rfl (Nat.le_of_ble_eq_true rfl)
      have A1 := A1.wr W58
      have p26_1 := p26_1.other W58 (Or.inl ne_b1_b47)
      have p26_2 := p26_2.other W58 (Or.inl ne_b1_b47)
      have p26_5 := p26_5.other W58 (Or.inl ne_b1_b47)
      have p26_7 := p26_7.other W58 (Or.inl ne_b1_b47)
      have p26_8 := p26_8.other W58 ne_b26lo__b47
      have p26_9 := p26_9.other W58 ne_b26ea__b47
      have p26_12 := p26_12.other W58 ne_b26li__b47
      have V43 := V43.other W58 ne_b32_b47
      have O59 := O55.wr W58 g_b47
      have N61 := Fr.snoc X58 N57 g_b47
      obtain ⟨cq62, kq62, q62a, q62b, q62c⟩ := isOf hZ e58 A1
      obtain ⟨_, _, ⟨T62, L62, k62, n62⟩, -, X62, ⟨Lc62, hQ62, l62, y62, z62⟩, st62⟩ := X58.virtualBack hx (y := y_8) (z := y_8) hown (mvT hZ (W 67 rfl)) (mvT hZ (W 68 rfl)) (notFace_of_selects (args := #[]) (mvT hZ (W 70 rfl))) (mvT hZ (W 70 rfl)) (mvT hZ (W 69 rfl)) (by decide) (backOf (W := 0) (path1a l Z a0 hw [] b1 b26n' b26lo' b26ea' b26li' b26kl' b26ke' b26ki' p1 kk0 p2 kk1 p3 kk2 e2 h58 n0 O59 p26_1 p26_2 p26_5 p26_8 p26_9 p26_12 p26_18 p26_22 p26_25 p26_33 p26_34) hZ (W 71 rfl) (W 2 rfl) (by decide) (by decide)) q62a q62c (g := (mkF m 367 #[iv p1, iv p2, iv p3, iv p4, iv p5, iv cp, iv kk0, iv kk1, iv kk2, rv b1, iv 0, iv (-1), iv 1, iv v, iv e2, iv 2, iv qv, iv 1, iv 1, iv 1, iv 0, iv 0, rv b32, rv b47, .unset, .unset] [.int 1, .ref b1])) rfl (by rw [hml]; rfl) (Steps.refl _) (argsL := [.int 1]) (rest := []) (lenOf pd_6 rfl) rfl (by show 2 * 0 + _ ≤ _; exact Nat.le_of_eq rfl) (hb hby at_367) (fun _ _ => ⟨rfl, e58, (by decide : 24 + 0 ≤ _), (by decide : 435 + 0 ≤ _)⟩)
      dsimp only [Pt.U, Pt.locs, Pt.cells, Pt.slots] at X62 l62 y62 z62 st62 hQ62
      subst l62 y62 z62
      obtain ⟨h62, e62⟩ : ∃ z, T62.heap = z := ⟨_, rfl⟩
      rw [e62] at hQ62
      obtain ⟨rfl, N62q, p62_0, p62_1⟩ := hQ62
      have N62 := Fr.app N61 N62q
      have A1 := A1.keep p62_0
      have p26_5 := p26_5.keep p62_0 (ninS p26_33 nin0)
      have p26_7 := p26_7.keep p62_0 (ninS p26_33 nin0)
      have V43 := V43.keep p62_0 (ninS (Ne.symm ne_b26li__b32) nin0)
      have V58 := V58.keep p62_0 (ninS (Ne.symm ne_b26li__b47) nin0)
      have O63 := O59.keep p62_0 (allS p26_18 all0)
      obtain ⟨cq65, kq65, q65a, q65b, q65c⟩ := isOf hZ e62 A1
      obtain ⟨_, _, ⟨T65, L65, k65, n65⟩, -, X65, ⟨Lc65, hQ65, l65, y65, z65⟩, st65⟩ := X62.virtualBack hx (y := y_11) (z := y_11) hown (mvT hZ (W 72 rfl)) (mvT hZ (W 73 rfl)) (notFace_of_selects (args := #[]) (mvT hZ (W 75 rfl))) (mvT hZ (W 75 rfl)) (mvT hZ (W 74 rfl)) (by decide) (backOf (W := 0) (slot0 l Z a0 hw [] b1 b26li' b26ki' b26n' p2 (.int kk1) (.int (0 : Int32)) (.int (0 : Int32)) (.int (0 : Int32)) (.int (0 : Int32)) h62 n0 O63 p26_5 p62_1 p26_34) hZ (W 76 rfl) (W 2 rfl) (by decide) (by decide)) q65a q65c (g := (mkF m 400 #[iv p1, iv p2, iv p3, iv p4, iv p5, iv cp, iv kk0, iv kk1, iv kk2, rv b1, iv 0, iv (-1), iv 1, iv v, iv e2, iv 2, iv qv, iv 1, iv 1, iv 1, iv 0, iv 0, rv b32, rv b47, iv 1, iv 1] [.int 0, .ref b1])) rfl (by rw [hml]; rfl) (Steps.refl _) (argsL := [.int 0]) (rest := []) (lenOf pd_6 rfl) rfl (by show 2 * 0 + _ ≤ _; exact Nat.le_of_eq rfl) (hb hby at_400) (fun _ _ => ⟨rfl, e62, (by decide : 24 + 0 ≤ _), (by decide : 435 + 0 ≤ _)⟩)
      dsimp only [Pt.U, Pt.locs, Pt.cells, Pt.slots] at X65 l65 y65 z65 st65 hQ65
      subst l65 y65 z65
      obtain ⟨h65, e65⟩ : ∃ z, T65.heap = z := ⟨_, rfl⟩
      rw [e65] at hQ65
      obtain ⟨rfl, N65q, p65_0⟩ := hQ65
      have N65 := Fr.app N62 N65q
      rw [p65_0] at e65
      obtain ⟨cl66, Ar66, q66, S66, Ng66, Hh66, Gg66⟩ := id V43
      have st66 := X65.iaload hx (j := (1 : Int32)) (v := (.int p2)) (by rw [e65]; exact Ar66.1) (State.isArrayOf_alike hZ.alike Ar66.2.1) Ar66.2.2 (inb_of S66 (by decide)) (Hh66.at (inb_of S66 (by decide)) rfl) (g := (mkF m 407 #[iv p1, iv p2, iv p3, iv p4, iv p5, iv cp, iv kk0, iv kk1, iv kk2, rv b1, iv 0, iv (-1), iv 1, iv v, iv e2, iv 2, iv qv, iv 1, iv 1, iv 1, iv 0, iv 0, rv b32, rv b47, iv 1, iv 1] [.int 1, .ref b32, .int p2])) rfl rfl (hb hby at_407)
      obtain ⟨cq67, kq67, q67a, q67b, q67c⟩ := isOf hZ e65 A1
      obtain ⟨_, _, ⟨T67, L67, k67, n67⟩, -, X67, ⟨Lc67, hQ67, l67, y67, z67⟩, st67⟩ := X65.virtualBack hx (y := y_12) (z := y_12) hown (mvT hZ (W 77 rfl)) (mvT hZ (W 78 rfl)) (notFace_of_selects (args := #[]) (mvT hZ (W 80 rfl))) (mvT hZ (W 80 rfl)) (mvT hZ (W 79 rfl)) (by decide) (backOf (W := 0) (valu0 l Z a0 hw [] b1 b26li' b26ki' b26n' kk1 p4 (.int p2) (.int (0 : Int32)) (.int (0 : Int32)) (.int (0 : Int32)) (.int (0 : Int32)) h62 n0 O63 p26_5 p26_7 p62_1 p26_34) hZ (W 81 rfl) (W 2 rfl) (by decide) (by decide)) q67a q67c (g := (mkF m 414 #[iv p1, iv p2, iv p3, iv p4, iv p5, iv cp, iv kk0, iv kk1, iv kk2, rv b1, iv 0, iv (-1), iv 1, iv v, iv e2, iv 2, iv qv, iv 1, iv 1, iv 1, iv 0, iv 0, rv b32, rv b47, iv 1, iv 1] [.int 0, .ref b1])) rfl (by rw [hml]; rfl) (Steps.refl _) (argsL := [.int 0]) (rest := []) (lenOf pd_6 rfl) rfl (by show 2 * 0 + _ ≤ _; exact Nat.le_of_eq rfl) (hb hby at_414) (fun _ _ => ⟨rfl, e65, (by decide : 24 + 0 ≤ _), (by decide : 435 + 0 ≤ _)⟩)
      dsimp only [Pt.U, Pt.locs, Pt.cells, Pt.slots] at X67 l67 y67 z67 st67 hQ67
      subst l67 y67 z67
      obtain ⟨h67, e67⟩ : ∃ z, T67.heap = z := ⟨_, rfl⟩
      rw [e67] at hQ67
      obtain ⟨rfl, N67q, p67_0⟩ := hQ67
      have N67 := Fr.app N65 N67q
      rw [p67_0] at e67
      obtain ⟨cl68, Ar68, q68, S68, Ng68, Hh68, Gg68⟩ := id V58
      have st68 := X67.iaload hx (j := (1 : Int32)) (v := (.int kk1)) (by rw [e67]; exact Ar68.1) (State.isArrayOf_alike hZ.alike Ar68.2.1) Ar68.2.2 (inb_of S68 (by decide)) (Hh68.at (inb_of S68 (by decide)) rfl) (g := (mkF m 421 #[iv p1, iv p2, iv p3, iv p4, iv p5, iv cp, iv kk0, iv kk1, iv kk2, rv b1, iv 0, iv (-1), iv 1, iv v, iv e2, iv 2, iv qv, iv 1, iv 1, iv 1, iv 0, iv 0, rv b32, rv b47, iv 1, iv 1] [.int 1, .ref b47, .int (own_ev kk1 p4)])) rfl rfl (hb hby at_421)
      obtain ⟨_, _, ⟨T69, L69, k69, n69⟩, -, X69, ⟨Lc69, hQ69, l69, y69, z69⟩, st69⟩ := Jvm.LawKit.callS X67 hx (y := y_10) hown (mvT hZ (W 86 rfl)) (mvT hZ (W 87 rfl)) (mvT hZ (W 88 rfl)) (mvT hZ (W 89 rfl)) (by decide) (backOf (W := 1) (expval l Z a0 hw [] kk1 p4 h62 n0 O63 ) hZ (W 89 rfl) (W 88 rfl) (by decide) (by decide)) (g := (mkF m 423 #[iv p1, iv p2, iv p3, iv p4, iv p5, iv cp, iv kk0, iv kk1, iv kk2, rv b1, iv 0, iv (-1), iv 1, iv v, iv e2, iv 2, iv qv, iv 1, iv 1, iv 1, iv 0, iv 0, rv b32, rv b47, iv 1, iv 1] [.int p4, .int kk1, .int (own_ev kk1 p4)])) rfl (by rw [hml]; rfl) (argsL := [.int kk1, .int p4]) (rest := [.int (own_ev kk1 p4)]) (lenOf pd_0 rfl) rfl (by show 2 * 0 + _ ≤ _; exact Nat.le_of_eq rfl) (hb hby at_423) (fun _ _ => ⟨rfl, e67, (by decide : 24 + 0 ≤ _), (by decide : 435 + 0 ≤ _)⟩)
      dsimp only [Pt.U, Pt.locs, Pt.cells, Pt.slots] at X69 l69 y69 z69 st69 hQ69
      subst l69 y69 z69
      obtain ⟨h69, e69⟩ : ∃ z, T69.heap = z := ⟨_, rfl⟩
      rw [e69] at hQ69
      obtain ⟨rfl, N69q, p69_0⟩ := hQ69
      have N69 := Fr.app N67 N69q
      rw [p69_0] at e69
      obtain ⟨fs, hr, hrun, hended, hW, hsame⟩ := X69.leave (v := some (.int (1 : Int32))) (fun h => by rw [Bd.returns] at h; cases h)
      refine ⟨_, _, pre31 _ ?_, hrun, hended, _, _, rfl, ?_, ⟨_, rfl⟩, hW, hsame.mono (by decide) (by decide)⟩
      · show Sq p e below m T26 237 #[iv p1, iv p2, iv p3, iv p4, iv p5, iv cp, iv kk0, iv kk1, iv kk2, rv b1, iv 0, iv (-1), iv 1, iv v, iv e2, iv 2, iv qv, iv 1, iv 0, iv 0, iv 0, iv 0, .unset, .unset, .unset, .unset] [] _
        refine XS.iload X26.here hx rfl (hb hby at_237) rfl ?_
        refine XS.iconst X26.here hx rfl (hb hby at_239) ?_
        show Sq p e below m T26 240 #[iv p1, iv p2, iv p3, iv p4, iv p5, iv cp, iv kk0, iv kk1, iv kk2, rv b1, iv 0, iv (-1), iv 1, iv v, iv e2, iv 2, iv qv, iv 1, iv 0, iv 0, iv 0, iv 0, .unset, .unset, .unset, .unset] [.int (-1), .int (-1)] _
        refine XS.icmpNo X26.here hx rfl (hb hby at_240) rfl (teq (rfl : (-1 : Int32) = (-1 : Int32))).2 ?_
        refine XS.iconst X26.here hx rfl (hb hby at_243) ?_
        show Sq p e below m T26 244 #[iv p1, iv p2, iv p3, iv p4, iv p5, iv cp, iv kk0, iv kk1, iv kk2, rv b1, iv 0, iv (-1), iv 1, iv v, iv e2, iv 2, iv qv, iv 1, iv 0, iv 0, iv 0, iv 0, .unset, .unset, .unset, .unset] [.int 1] _
        refine XS.istore X26.here hx rfl (hb hby at_244) rfl rfl ?_
        refine XS.iconst X26.here hx rfl (hb hby at_246) ?_
        show Sq p e below m T26 247 #[iv p1, iv p2, iv p3, iv p4, iv p5, iv cp, iv kk0, iv kk1, iv kk2, rv b1, iv 0, iv (-1), iv 1, iv v, iv e2, iv 2, iv qv, iv 1, iv 1, iv 0, iv 0, iv 0, .unset, .unset, .unset, .unset] [.int 1] _
        refine XS.istore X26.here hx rfl (hb hby at_247) rfl rfl ?_
        refine XS.goto X26.here hx rfl (pc0 := 249) (pc' := 326) rfl (hb hby at_249) (by decide) (by decide) ?_
        show Sq p e below m T26 326 #[iv p1, iv p2, iv p3, iv p4, iv p5, iv cp, iv kk0, iv kk1, iv kk2, rv b1, iv 0, iv (-1), iv 1, iv v, iv e2, iv 2, iv qv, iv 1, iv 1, iv 1, iv 0, iv 0, .unset, .unset, .unset, .unset] [] _
        refine XS.iconst X26.here hx rfl (hb hby at_326) ?_
        show Sq p e below m T26 327 #[iv p1, iv p2, iv p3, iv p4, iv p5, iv cp, iv kk0, iv kk1, iv kk2, rv b1, iv 0, iv (-1), iv 1, iv v, iv e2, iv 2, iv qv, iv 1, iv 1, iv 1, iv 0, iv 0, .unset, .unset, .unset, .unset] [.int 3] _
        refine st32 _ ?_
        show Sq p e below m T32 329 #[iv p1, iv p2, iv p3, iv p4, iv p5, iv cp, iv kk0, iv kk1, iv kk2, rv b1, iv 0, iv (-1), iv 1, iv v, iv e2, iv 2, iv qv, iv 1, iv 1, iv 1, iv 0, iv 0, .unset, .unset, .unset, .unset] [.ref b32] _
        refine XS.dup X32.here hx rfl (hb hby at_329) rfl rfl ?_
        refine XS.iconst X32.here hx rfl (hb hby at_330) ?_
        show Sq p e below m T32 331 #[iv p1, iv p2, iv p3, iv p4, iv p5, iv cp, iv kk0, iv kk1, iv kk2, rv b1, iv 0, iv (-1), iv 1, iv v, iv e2, iv 2, iv qv, iv 1, iv 1, iv 1, iv 0, iv 0, .unset, .unset, .unset, .unset] [.int 0, .ref b32, .ref b32] _
        refine XS.iloadN X32.here hx rfl (hb hby at_331) rfl ?_
        show Sq p e below m T32 332 #[iv p1, iv p2, iv p3, iv p4, iv p5, iv cp, iv kk0, iv kk1, iv kk2, rv b1, iv 0, iv (-1), iv 1, iv v, iv e2, iv 2, iv qv, iv 1, iv 1, iv 1, iv 0, iv 0, .unset, .unset, .unset, .unset] [.int p1, .int 0, .ref b32, .ref b32] _
        refine st35 _ ?_
        show Sq p e below m T35 333 #[iv p1, iv p2, iv p3, iv p4, iv p5, iv cp, iv kk0, iv kk1, iv kk2, rv b1, iv 0, iv (-1), iv 1, iv v, iv e2, iv 2, iv qv, iv 1, iv 1, iv 1, iv 0, iv 0, .unset, .unset, .unset, .unset] [.ref b32] _
        refine XS.dup X35.here hx rfl (hb hby at_333) rfl rfl ?_
        refine XS.iconst X35.here hx rfl (hb hby at_334) ?_
        show Sq p e below m T35 335 #[iv p1, iv p2, iv p3, iv p4, iv p5, iv cp, iv kk0, iv kk1, iv kk2, rv b1, iv 0, iv (-1), iv 1, iv v, iv e2, iv 2, iv qv, iv 1, iv 1, iv 1, iv 0, iv 0, .unset, .unset, .unset, .unset] [.int 1, .ref b32, .ref b32] _
        refine XS.iloadN X35.here hx rfl (hb hby at_335) rfl ?_
        show Sq p e below m T35 336 #[iv p1, iv p2, iv p3, iv p4, iv p5, iv cp, iv kk0, iv kk1, iv kk2, rv b1, iv 0, iv (-1), iv 1, iv v, iv e2, iv 2, iv qv, iv 1, iv 1, iv 1, iv 0, iv 0, .unset, .unset, .unset, .unset] [.int p2, .int 1, .ref b32, .ref b32] _
        refine st39 _ ?_
        show Sq p e below m T39 337 #[iv p1, iv p2, iv p3, iv p4, iv p5, iv cp, iv kk0, iv kk1, iv kk2, rv b1, iv 0, iv (-1), iv 1, iv v, iv e2, iv 2, iv qv, iv 1, iv 1, iv 1, iv 0, iv 0, .unset, .unset, .unset, .unset] [.ref b32] _
        refine XS.dup X39.here hx rfl (hb hby at_337) rfl rfl ?_
        refine XS.iconst X39.here hx rfl (hb hby at_338) ?_
        show Sq p e below m T39 339 #[iv p1, iv p2, iv p3, iv p4, iv p5, iv cp, iv kk0, iv kk1, iv kk2, rv b1, iv 0, iv (-1), iv 1, iv v, iv e2, iv 2, iv qv, iv 1, iv 1, iv 1, iv 0, iv 0, .unset, .unset, .unset, .unset] [.int 2, .ref b32, .ref b32] _
        refine XS.iloadN X39.here hx rfl (hb hby at_339) rfl ?_
        show Sq p e below m T39 340 #[iv p1, iv p2, iv p3, iv p4, iv p5, iv cp, iv kk0, iv kk1, iv kk2, rv b1, iv 0, iv (-1), iv 1, iv v, iv e2, iv 2, iv qv, iv 1, iv 1, iv 1, iv 0, iv 0, .unset, .unset, .unset, .unset] [.int p3, .int 2, .ref b32, .ref b32] _
        refine st43 _ ?_
        show Sq p e below m T43 341 #[iv p1, iv p2, iv p3, iv p4, iv p5, iv cp, iv kk0, iv kk1, iv kk2, rv b1, iv 0, iv (-1), iv 1, iv v, iv e2, iv 2, iv qv, iv 1, iv 1, iv 1, iv 0, iv 0, .unset, .unset, .unset, .unset] [.ref b32] _
        refine XS.astore X43.here hx rfl (hb hby at_341) rfl rfl rfl ?_
        refine XS.iconst X43.here hx rfl (hb hby at_343) ?_
        show Sq p e below m T43 344 #[iv p1, iv p2, iv p3, iv p4, iv p5, iv cp, iv kk0, iv kk1, iv kk2, rv b1, iv 0, iv (-1), iv 1, iv v, iv e2, iv 2, iv qv, iv 1, iv 1, iv 1, iv 0, iv 0, rv b32, .unset, .unset, .unset] [.int 3] _
        refine st47 _ ?_
        show Sq p e below m T47 346 #[iv p1, iv p2, iv p3, iv p4, iv p5, iv cp, iv kk0, iv kk1, iv kk2, rv b1, iv 0, iv (-1), iv 1, iv v, iv e2, iv 2, iv qv, iv 1, iv 1, iv 1, iv 0, iv 0, rv b32, .unset, .unset, .unset] [.ref b47] _
        refine XS.dup X47.here hx rfl (hb hby at_346) rfl rfl ?_
        refine XS.iconst X47.here hx rfl (hb hby at_347) ?_
        show Sq p e below m T47 348 #[iv p1, iv p2, iv p3, iv p4, iv p5, iv cp, iv kk0, iv kk1, iv kk2, rv b1, iv 0, iv (-1), iv 1, iv v, iv e2, iv 2, iv qv, iv 1, iv 1, iv 1, iv 0, iv 0, rv b32, .unset, .unset, .unset] [.int 0, .ref b47, .ref b47] _
        refine XS.iload X47.here hx rfl (hb hby at_348) rfl ?_
        show Sq p e below m T47 350 #[iv p1, iv p2, iv p3, iv p4, iv p5, iv cp, iv kk0, iv kk1, iv kk2, rv b1, iv 0, iv (-1), iv 1, iv v, iv e2, iv 2, iv qv, iv 1, iv 1, iv 1, iv 0, iv 0, rv b32, .unset, .unset, .unset] [.int kk0, .int 0, .ref b47, .ref b47] _
        refine st50 _ ?_
        show Sq p e below m T50 351 #[iv p1, iv p2, iv p3, iv p4, iv p5, iv cp, iv kk0, iv kk1, iv kk2, rv b1, iv 0, iv (-1), iv 1, iv v, iv e2, iv 2, iv qv, iv 1, iv 1, iv 1, iv 0, iv 0, rv b32, .unset, .unset, .unset] [.ref b47] _
        refine XS.dup X50.here hx rfl (hb hby at_351) rfl rfl ?_
        refine XS.iconst X50.here hx rfl (hb hby at_352) ?_
        show Sq p e below m T50 353 #[iv p1, iv p2, iv p3, iv p4, iv p5, iv cp, iv kk0, iv kk1, iv kk2, rv b1, iv 0, iv (-1), iv 1, iv v, iv e2, iv 2, iv qv, iv 1, iv 1, iv 1, iv 0, iv 0, rv b32, .unset, .unset, .unset] [.int 1, .ref b47, .ref b47] _
        refine XS.iload X50.here hx rfl (hb hby at_353) rfl ?_
        show Sq p e below m T50 355 #[iv p1, iv p2, iv p3, iv p4, iv p5, iv cp, iv kk0, iv kk1, iv kk2, rv b1, iv 0, iv (-1), iv 1, iv v, iv e2, iv 2, iv qv, iv 1, iv 1, iv 1, iv 0, iv 0, rv b32, .unset, .unset, .unset] [.int kk1, .int 1, .ref b47, .ref b47] _
        refine st54 _ ?_
        show Sq p e below m T54 356 #[iv p1, iv p2, iv p3, iv p4, iv p5, iv cp, iv kk0, iv kk1, iv kk2, rv b1, iv 0, iv (-1), iv 1, iv v, iv e2, iv 2, iv qv, iv 1, iv 1, iv 1, iv 0, iv 0, rv b32, .unset, .unset, .unset] [.ref b47] _
        refine XS.dup X54.here hx rfl (hb hby at_356) rfl rfl ?_
        refine XS.iconst X54.here hx rfl (hb hby at_357) ?_
        show Sq p e below m T54 358 #[iv p1, iv p2, iv p3, iv p4, iv p5, iv cp, iv kk0, iv kk1, iv kk2, rv b1, iv 0, iv (-1), iv 1, iv v, iv e2, iv 2, iv qv, iv 1, iv 1, iv 1, iv 0, iv 0, rv b32, .unset, .unset, .unset] [.int 2, .ref b47, .ref b47] _
        refine XS.iload X54.here hx rfl (hb hby at_358) rfl ?_
        show Sq p e below m T54 360 #[iv p1, iv p2, iv p3, iv p4, iv p5, iv cp, iv kk0, iv kk1, iv kk2, rv b1, iv 0, iv (-1), iv 1, iv v, iv e2, iv 2, iv qv, iv 1, iv 1, iv 1, iv 0, iv 0, rv b32, .unset, .unset, .unset] [.int kk2, .int 2, .ref b47, .ref b47] _
        refine st58 _ ?_
        show Sq p e below m T58 361 #[iv p1, iv p2, iv p3, iv p4, iv p5, iv cp, iv kk0, iv kk1, iv kk2, rv b1, iv 0, iv (-1), iv 1, iv v, iv e2, iv 2, iv qv, iv 1, iv 1, iv 1, iv 0, iv 0, rv b32, .unset, .unset, .unset] [.ref b47] _
        refine XS.astore X58.here hx rfl (hb hby at_361) rfl rfl rfl ?_
        refine XS.aload X58.here hx rfl (hb hby at_363) rfl rfl ?_
        show Sq p e below m T58 365 #[iv p1, iv p2, iv p3, iv p4, iv p5, iv cp, iv kk0, iv kk1, iv kk2, rv b1, iv 0, iv (-1), iv 1, iv v, iv e2, iv 2, iv qv, iv 1, iv 1, iv 1, iv 0, iv 0, rv b32, rv b47, .unset, .unset] [.ref b1] _
        refine XS.iload X58.here hx rfl (hb hby at_365) rfl ?_
        show Sq p e below m T58 367 #[iv p1, iv p2, iv p3, iv p4, iv p5, iv cp, iv kk0, iv kk1, iv kk2, rv b1, iv 0, iv (-1), iv 1, iv v, iv e2, iv 2, iv qv, iv 1, iv 1, iv 1, iv 0, iv 0, rv b32, rv b47, .unset, .unset] [.int 1, .ref b1] _
        refine st62.trans ?_
        show Sq p e below m T62 370 #[iv p1, iv p2, iv p3, iv p4, iv p5, iv cp, iv kk0, iv kk1, iv kk2, rv b1, iv 0, iv (-1), iv 1, iv v, iv e2, iv 2, iv qv, iv 1, iv 1, iv 1, iv 0, iv 0, rv b32, rv b47, .unset, .unset] [.int 1] _
        refine XS.istore X62.here hx rfl (hb hby at_370) rfl rfl ?_
        refine XS.iload X62.here hx rfl (hb hby at_372) rfl ?_
        show Sq p e below m T62 374 #[iv p1, iv p2, iv p3, iv p4, iv p5, iv cp, iv kk0, iv kk1, iv kk2, rv b1, iv 0, iv (-1), iv 1, iv v, iv e2, iv 2, iv qv, iv 1, iv 1, iv 1, iv 0, iv 0, rv b32, rv b47, iv 1, .unset] [.int 1] _
        refine XS.iload X62.here hx rfl (hb hby at_374) rfl ?_
        refine XS.icmpNo X62.here hx rfl (hb hby at_376) rfl (teq (rfl : (1 : Int32) = (1 : Int32))).2 ?_
        show Sq p e below m T62 379 #[iv p1, iv p2, iv p3, iv p4, iv p5, iv cp, iv kk0, iv kk1, iv kk2, rv b1, iv 0, iv (-1), iv 1, iv v, iv e2, iv 2, iv qv, iv 1, iv 1, iv 1, iv 0, iv 0, rv b32, rv b47, iv 1, .unset] [] _
        refine XS.iconst X62.here hx rfl (hb hby at_379) ?_
        refine XS.goto X62.here hx rfl (pc0 := 380) (pc' := 384) rfl (hb hby at_380) (by decide) (by decide) ?_
        show Sq p e below m T62 384 #[iv p1, iv p2, iv p3, iv p4, iv p5, iv cp, iv kk0, iv kk1, iv kk2, rv b1, iv 0, iv (-1), iv 1, iv v, iv e2, iv 2, iv qv, iv 1, iv 1, iv 1, iv 0, iv 0, rv b32, rv b47, iv 1, .unset] [.int 1] _
        refine XS.istore X62.here hx rfl (hb hby at_384) rfl rfl ?_
        refine XS.iload X62.here hx rfl (hb hby at_386) rfl ?_
        show Sq p e below m T62 388 #[iv p1, iv p2, iv p3, iv p4, iv p5, iv cp, iv kk0, iv kk1, iv kk2, rv b1, iv 0, iv (-1), iv 1, iv v, iv e2, iv 2, iv qv, iv 1, iv 1, iv 1, iv 0, iv 0, rv b32, rv b47, iv 1, iv 1] [.int 1] _
        refine XS.ifNo X62.here hx rfl (hb hby at_388) rfl ((if0 _ _).trans (feq (by decide)).1) ?_
        refine XS.iload X62.here hx rfl (hb hby at_391) rfl ?_
        show Sq p e below m T62 393 #[iv p1, iv p2, iv p3, iv p4, iv p5, iv cp, iv kk0, iv kk1, iv kk2, rv b1, iv 0, iv (-1), iv 1, iv v, iv e2, iv 2, iv qv, iv 1, iv 1, iv 1, iv 0, iv 0, rv b32, rv b47, iv 1, iv 1] [.int 1] _
        refine XS.iconst X62.here hx rfl (hb hby at_393) ?_
        refine XS.icmpNo X62.here hx rfl (hb hby at_394) rfl (flt (by decide)).1 ?_
        show Sq p e below m T62 397 #[iv p1, iv p2, iv p3, iv p4, iv p5, iv cp, iv kk0, iv kk1, iv kk2, rv b1, iv 0, iv (-1), iv 1, iv v, iv e2, iv 2, iv qv, iv 1, iv 1, iv 1, iv 0, iv 0, rv b32, rv b47, iv 1, iv 1] [] _
        refine XS.aload X62.here hx rfl (hb hby at_397) rfl rfl ?_
        refine XS.iconst X62.here hx rfl (hb hby at_399) ?_
        show Sq p e below m T62 400 #[iv p1, iv p2, iv p3, iv p4, iv p5, iv cp, iv kk0, iv kk1, iv kk2, rv b1, iv 0, iv (-1), iv 1, iv v, iv e2, iv 2, iv qv, iv 1, iv 1, iv 1, iv 0, iv 0, rv b32, rv b47, iv 1, iv 1] [.int 0, .ref b1] _
        refine st65.trans ?_
        show Sq p e below m T65 403 #[iv p1, iv p2, iv p3, iv p4, iv p5, iv cp, iv kk0, iv kk1, iv kk2, rv b1, iv 0, iv (-1), iv 1, iv v, iv e2, iv 2, iv qv, iv 1, iv 1, iv 1, iv 0, iv 0, rv b32, rv b47, iv 1, iv 1] [.int p2] _
        refine XS.aload X65.here hx rfl (hb hby at_403) rfl rfl ?_
        refine XS.iload X65.here hx rfl (hb hby at_405) rfl ?_
        show Sq p e below m T65 407 #[iv p1, iv p2, iv p3, iv p4, iv p5, iv cp, iv kk0, iv kk1, iv kk2, rv b1, iv 0, iv (-1), iv 1, iv v, iv e2, iv 2, iv qv, iv 1, iv 1, iv 1, iv 0, iv 0, rv b32, rv b47, iv 1, iv 1] [.int 1, .ref b32, .int p2] _
        refine st66 _ ?_
        show Sq p e below m T65 408 #[iv p1, iv p2, iv p3, iv p4, iv p5, iv cp, iv kk0, iv kk1, iv kk2, rv b1, iv 0, iv (-1), iv 1, iv v, iv e2, iv 2, iv qv, iv 1, iv 1, iv 1, iv 0, iv 0, rv b32, rv b47, iv 1, iv 1] [.int p2, .int p2] _
        refine XS.icmpNo X65.here hx rfl (hb hby at_408) rfl (teq (rfl : p2 = p2)).2 ?_
        refine XS.aload X65.here hx rfl (hb hby at_411) rfl rfl ?_
        show Sq p e below m T65 413 #[iv p1, iv p2, iv p3, iv p4, iv p5, iv cp, iv kk0, iv kk1, iv kk2, rv b1, iv 0, iv (-1), iv 1, iv v, iv e2, iv 2, iv qv, iv 1, iv 1, iv 1, iv 0, iv 0, rv b32, rv b47, iv 1, iv 1] [.ref b1] _
        refine XS.iconst X65.here hx rfl (hb hby at_413) ?_
        show Sq p e below m T65 414 #[iv p1, iv p2, iv p3, iv p4, iv p5, iv cp, iv kk0, iv kk1, iv kk2, rv b1, iv 0, iv (-1), iv 1, iv v, iv e2, iv 2, iv qv, iv 1, iv 1, iv 1, iv 0, iv 0, rv b32, rv b47, iv 1, iv 1] [.int 0, .ref b1] _
        refine st67.trans ?_
        show Sq p e below m T67 417 #[iv p1, iv p2, iv p3, iv p4, iv p5, iv cp, iv kk0, iv kk1, iv kk2, rv b1, iv 0, iv (-1), iv 1, iv v, iv e2, iv 2, iv qv, iv 1, iv 1, iv 1, iv 0, iv 0, rv b32, rv b47, iv 1, iv 1] [.int (own_ev kk1 p4)] _
        refine XS.aload X67.here hx rfl (hb hby at_417) rfl rfl ?_
        refine XS.iload X67.here hx rfl (hb hby at_419) rfl ?_
        show Sq p e below m T67 421 #[iv p1, iv p2, iv p3, iv p4, iv p5, iv cp, iv kk0, iv kk1, iv kk2, rv b1, iv 0, iv (-1), iv 1, iv v, iv e2, iv 2, iv qv, iv 1, iv 1, iv 1, iv 0, iv 0, rv b32, rv b47, iv 1, iv 1] [.int 1, .ref b47, .int (own_ev kk1 p4)] _
        refine st68 _ ?_
        show Sq p e below m T67 422 #[iv p1, iv p2, iv p3, iv p4, iv p5, iv cp, iv kk0, iv kk1, iv kk2, rv b1, iv 0, iv (-1), iv 1, iv v, iv e2, iv 2, iv qv, iv 1, iv 1, iv 1, iv 0, iv 0, rv b32, rv b47, iv 1, iv 1] [.int kk1, .int (own_ev kk1 p4)] _
        refine XS.iloadN X67.here hx rfl (hb hby at_422) rfl ?_
        show Sq p e below m T67 423 #[iv p1, iv p2, iv p3, iv p4, iv p5, iv cp, iv kk0, iv kk1, iv kk2, rv b1, iv 0, iv (-1), iv 1, iv v, iv e2, iv 2, iv qv, iv 1, iv 1, iv 1, iv 0, iv 0, rv b32, rv b47, iv 1, iv 1] [.int p4, .int kk1, .int (own_ev kk1 p4)] _
        refine st69 _ ?_
        show Sq p e below m T69 426 #[iv p1, iv p2, iv p3, iv p4, iv p5, iv cp, iv kk0, iv kk1, iv kk2, rv b1, iv 0, iv (-1), iv 1, iv v, iv e2, iv 2, iv qv, iv 1, iv 1, iv 1, iv 0, iv 0, rv b32, rv b47, iv 1, iv 1] [.int (own_ev kk1 p4), .int (own_ev kk1 p4)] _
        refine XS.icmpNo X69.here hx rfl (hb hby at_426) rfl (teq (rfl : (own_ev kk1 p4) = (own_ev kk1 p4))).2 ?_
        refine XS.iconst X69.here hx rfl (hb hby at_429) ?_
        show Sq p e below m T69 430 #[iv p1, iv p2, iv p3, iv p4, iv p5, iv cp, iv kk0, iv kk1, iv kk2, rv b1, iv 0, iv (-1), iv 1, iv v, iv e2, iv 2, iv qv, iv 1, iv 1, iv 1, iv 0, iv 0, rv b32, rv b47, iv 1, iv 1] [.int 1] _
        refine XS.goto X69.here hx rfl (pc0 := 430) (pc' := 434) rfl (hb hby at_430) (by decide) (by decide) ?_
        refine XS.istore X69.here hx rfl (hb hby at_434) rfl rfl ?_
        show Sq p e below m T69 436 #[iv p1, iv p2, iv p3, iv p4, iv p5, iv cp, iv kk0, iv kk1, iv kk2, rv b1, iv 0, iv (-1), iv 1, iv v, iv e2, iv 2, iv qv, iv 1, iv 1, iv 1, iv 0, iv 0, rv b32, rv b47, iv 1, iv 1] [] _
        refine XS.iload X69.here hx rfl (hb hby at_436) rfl ?_
        refine XS.ifNo X69.here hx rfl (hb hby at_438) rfl ((if0 _ _).trans (feq (by decide)).1) ?_
        show Sq p e below m T69 441 #[iv p1, iv p2, iv p3, iv p4, iv p5, iv cp, iv kk0, iv kk1, iv kk2, rv b1, iv 0, iv (-1), iv 1, iv v, iv e2, iv 2, iv qv, iv 1, iv 1, iv 1, iv 0, iv 0, rv b32, rv b47, iv 1, iv 1] [] _
        refine XS.iload X69.here hx rfl (hb hby at_441) rfl ?_
        refine XS.iconst X69.here hx rfl (hb hby at_443) ?_
        show Sq p e below m T69 444 #[iv p1, iv p2, iv p3, iv p4, iv p5, iv cp, iv kk0, iv kk1, iv kk2, rv b1, iv 0, iv (-1), iv 1, iv v, iv e2, iv 2, iv qv, iv 1, iv 1, iv 1, iv 0, iv 0, rv b32, rv b47, iv 1, iv 1] [.int 2, .int 1] _
        refine XS.icmpYes X69.here hx rfl (pc0 := 444) (pc' := 486) rfl (hb hby at_444) rfl (tlt (by decide)).1 (by decide) (by decide) ?_
        refine XS.iload X69.here hx rfl (hb hby at_486) rfl ?_
        show Sq p e below m T69 488 #[iv p1, iv p2, iv p3, iv p4, iv p5, iv cp, iv kk0, iv kk1, iv kk2, rv b1, iv 0, iv (-1), iv 1, iv v, iv e2, iv 2, iv qv, iv 1, iv 1, iv 1, iv 0, iv 0, rv b32, rv b47, iv 1, iv 1] [.int 1] _
        refine XS.ifNo X69.here hx rfl (hb hby at_488) rfl ((if0 _ _).trans (feq (by decide)).1) ?_
        refine XS.iload X69.here hx rfl (hb hby at_491) rfl ?_
        show Sq p e below m T69 493 #[iv p1, iv p2, iv p3, iv p4, iv p5, iv cp, iv kk0, iv kk1, iv kk2, rv b1, iv 0, iv (-1), iv 1, iv v, iv e2, iv 2, iv qv, iv 1, iv 1, iv 1, iv 0, iv 0, rv b32, rv b47, iv 1, iv 1] [.int 1] _
        refine XS.iconst X69.here hx rfl (hb hby at_493) ?_
        refine XS.icmpYes X69.here hx rfl (pc0 := 494) (pc' := 536) rfl (hb hby at_494) rfl (tlt (by decide)).1 (by decide) (by decide) ?_
        show Sq p e below m T69 536 #[iv p1, iv p2, iv p3, iv p4, iv p5, iv cp, iv kk0, iv kk1, iv kk2, rv b1, iv 0, iv (-1), iv 1, iv v, iv e2, iv 2, iv qv, iv 1, iv 1, iv 1, iv 0, iv 0, rv b32, rv b47, iv 1, iv 1] [] _
        refine XS.iload X69.here hx rfl (hb hby at_536) rfl ?_
        show Sq p e below m T69 538 #[iv p1, iv p2, iv p3, iv p4, iv p5, iv cp, iv kk0, iv kk1, iv kk2, rv b1, iv 0, iv (-1), iv 1, iv v, iv e2, iv 2, iv qv, iv 1, iv 1, iv 1, iv 0, iv 0, rv b32, rv b47, iv 1, iv 1] [.int 1] _
        exact retN X69 hx (t := .boolean) Bd.returns (by simp) (hb hby at_538) hr
      · show Q_rm0 Z p1 p2 p3 p4 p5 cp kk0 kk1 kk2 v qv w_MIR h0 n0 _ T69.heap _
        rw [e69]
        exact ⟨rfl, N69⟩
    · obtain ⟨T32, h32, k32, X32, e32, E32, A32, A32x, st32⟩ := newPE X26 hx hZ (W 9 rfl) e26 (g := (mkF m 327 #[iv p1, iv p2, iv p3, iv p4, iv p5, iv cp, iv kk0, iv kk1, iv kk2, rv b1, iv 0, iv 0, iv 1, iv v, iv e2, iv 2, iv qv, iv 1, iv 2, iv 0, iv 1, iv 0, .unset, .unset, .unset, .unset] [.int 3])) rfl (hb hby at_327) rfl (by decide) (cap := 3) (by decide) (by decide) (by decide) (by decide) (ad := "[I") (by decide)
      obtain ⟨b32, g32⟩ : ∃ z, z = h26.size := ⟨_, rfl⟩
      rw [← g32] at A32 A32x st32
      have g_b32 : n0 ≤ b32 := Nat.le_trans (own_sz O27) (Nat.le_of_eq g32.symm)
      have ne_b1_b32 : b1 ≠ b32 := Nat.ne_of_lt (Nat.lt_of_lt_of_le A1.lt (Nat.le_of_eq g32.symm))
      have ne_b26lo__b32 : b26lo' ≠ b32 := Nat.ne_of_lt (Nat.lt_of_lt_of_le p26_8.lt (Nat.le_of_eq g32.symm))
      have ne_b26ea__b32 : b26ea' ≠ b32 := Nat.ne_of_lt (Nat.lt_of_lt_of_le p26_9.lt (Nat.le_of_eq g32.symm))
      have ne_b26li__b32 : b26li' ≠ b32 := Nat.ne_of_lt (Nat.lt_of_lt_of_le p26_12.lt (Nat.le_of_eq g32.symm))
      have A1 := A1.ext E32
      have p26_1 := p26_1.ext E32
      have p26_2 := p26_2.ext E32
      have p26_5 := p26_5.ext E32
      have p26_7 := p26_7.ext E32
      have p26_8 := p26_8.ext E32
      have p26_9 := p26_9.ext E32
      have p26_12 := p26_12.ext E32
      have O33 := O27.ext E32
      have V32 : Arv Z h32 b32 k32 .int (3 : Int32) [(.int (0 : Int32)), (.int (0 : Int32)), (.int (0 : Int32))] (.int (0 : Int32)) := (Arv.new A32 (by decide)).pad (pad_rep [] (.int (0 : Int32)) 3)
      obtain ⟨cl35, Ar35, q35, S35, Ng35, Hh35, Gg35⟩ := id V32
      obtain ⟨T35, h35, X35, e35, W35, st35⟩ := stI X32 hx hZ e32 Ar35 (j := (0 : Int32)) (inb_of S35 (by decide)) (g := (mkF m 332 #[iv p1, iv p2, iv p3, iv p4, iv p5, iv cp, iv kk0, iv kk1, iv kk2, rv b1, iv 0, iv 0, iv 1, iv v, iv e2, iv 2, iv qv, iv 1, iv 2, iv 0, iv 1, iv 0, .unset, .unset, .unset, .unset] [.int p1, .int 0, .ref b32, .ref b32])) rfl rfl (hb hby at_332)
      have V35 : Arv Z h35 b32 k32 .int (3 : Int32) [(.int p1), (.int (0 : Int32)), (.int (0 : Int32))] (.int (0 : Int32)) := Arv.set Ar35 q35 S35 Ng35 Hh35 Gg35 rfl W35 0 rfl (Nat.le_of_ble_eq_true rfl)
      have A1 := A1.wr W35
      have p26_1 := p26_1.other W35 (Or.inl ne_b1_b32)
      have p26_2 := p26_2.other W35 (Or.inl ne_b1_b32)
      have p26_5 := p26_5.other W35 (Or.inl ne_b1_b32)
      have p26_7 := p26_7.other W35 (Or.inl ne_b1_b32)
      have p26_8 := p26_8.other W35 ne_b26lo__b32
      have p26_9 := p26_9.other W35 ne_b26ea__b32
      have p26_12 := p26_12.other W35 ne_b26li__b32
      have A32x := A32x.wr W35
      have O36 := O33.wr W35 g_b32
      have N38 := Fr.snoc X35 N26 g_b32
      obtain ⟨cl39, Ar39, q39, S39, Ng39, Hh39, Gg39⟩ := id V35
      obtain ⟨T39, h39, X39, e39, W39, st39⟩ := stI X35 hx hZ e35 Ar39 (j := (1 : Int32)) (inb_of S39 (by decide)) (g := (mkF m 336 #[iv p1, iv p2, iv p3, iv p4, iv p5, iv cp, iv kk0, iv kk1, iv kk2, rv b1, iv 0, iv 0, iv 1, iv v, iv e2, iv 2, iv qv, iv 1, iv 2, iv 0, iv 1, iv 0, .unset, .unset, .unset, .unset] [.int p2, .int 1, .ref b32, .ref b32])) rfl rfl (hb hby at_336)
      have V39 : Arv Z h39 b32 k32 .int (3 : Int32) [(.int p1), (.int p2), (.int (0 : Int32))] (.int (0 : Int32)) := Arv.set Ar39 q39 S39 Ng39 Hh39 Gg39 rfl W39 1 rfl (Nat.le_of_ble_eq_true rfl)
      have A1 := A1.wr W39
      have p26_1 := p26_1.other W39 (Or.inl ne_b1_b32)
      have p26_2 := p26_2.other W39 (Or.inl ne_b1_b32)
      have p26_5 := p26_5.other W39 (Or.inl ne_b1_b32)
      have p26_7 := p26_7.other W39 (Or.inl ne_b1_b32)
      have p26_8 := p26_8.other W39 ne_b26lo__b32
      have p26_9 := p26_9.other W39 ne_b26ea__b32
      have p26_12 := p26_12.other W39 ne_b26li__b32
      have A32x := A32x.wr W39
      have O40 := O36.wr W39 g_b32
      have N42 := Fr.snoc X39 N38 g_b32
      obtain ⟨cl43, Ar43, q43, S43, Ng43, Hh43, Gg43⟩ := id V39
      obtain ⟨T43, h43, X43, e43, W43, st43⟩ := stI X39 hx hZ e39 Ar43 (j := (2 : Int32)) (inb_of S43 (by decide)) (g := (mkF m 340 #[iv p1, iv p2, iv p3, iv p4, iv p5, iv cp, iv kk0, iv kk1, iv kk2, rv b1, iv 0, iv 0, iv 1, iv v, iv e2, iv 2, iv qv, iv 1, iv 2, iv 0, iv 1, iv 0, .unset, .unset, .unset, .unset] [.int p3, .int 2, .ref b32, .ref b32])) rfl rfl (hb hby at_340)
      have V43 : Arv Z h43 b32 k32 .int (3 : Int32) [(.int p1), (.int p2), (.int p3)] (.int (0 : Int32)) := Arv.set Ar43 q43 S43 Ng43 Hh43 Gg43 rfl W43 2 rfl (Nat.le_of_ble_eq_true rfl)
      have A1 := A1.wr W43
      have p26_1 := p26_1.other W43 (Or.inl ne_b1_b32)
      have p26_2 := p26_2.other W43 (Or.inl ne_b1_b32)
      have p26_5 := p26_5.other W43 (Or.inl ne_b1_b32)
      have p26_7 := p26_7.other W43 (Or.inl ne_b1_b32)
      have p26_8 := p26_8.other W43 ne_b26lo__b32
      have p26_9 := p26_9.other W43 ne_b26ea__b32
      have p26_12 := p26_12.other W43 ne_b26li__b32
      have A32x := A32x.wr W43
      have O44 := O40.wr W43 g_b32
      have N46 := Fr.snoc X43 N42 g_b32
      obtain ⟨T47, h47, k47, X47, e47, E47, A47, A47x, st47⟩ := newPE X43 hx hZ (W 9 rfl) e43 (g := (mkF m 344 #[iv p1, iv p2, iv p3, iv p4, iv p5, iv cp, iv kk0, iv kk1, iv kk2, rv b1, iv 0, iv 0, iv 1, iv v, iv e2, iv 2, iv qv, iv 1, iv 2, iv 0, iv 1, iv 0, rv b32, .unset, .unset, .unset] [.int 3])) rfl (hb hby at_344) rfl (by decide) (cap := 3) (by decide) (by decide) (by decide) (by decide) (ad := "[I") (by decide)
      obtain ⟨b47, g47⟩ : ∃ z, z = h43.size := ⟨_, rfl⟩
      rw [← g47] at A47 A47x st47
      have g_b47 : n0 ≤ b47 := Nat.le_trans (own_sz O44) (Nat.le_of_eq g47.symm)
      have ne_b1_b47 : b1 ≠ b47 := Nat.ne_of_lt (Nat.lt_of_lt_of_le A1.lt (Nat.le_of_eq g47.symm))
      have ne_b26lo__b47 : b26lo' ≠ b47 := Nat.ne_of_lt (Nat.lt_of_lt_of_le p26_8.lt (Nat.le_of_eq g47.symm))
      have ne_b26ea__b47 : b26ea' ≠ b47 := Nat.ne_of_lt (Nat.lt_of_lt_of_le p26_9.lt (Nat.le_of_eq g47.symm))
      have ne_b26li__b47 : b26li' ≠ b47 := Nat.ne_of_lt (Nat.lt_of_lt_of_le p26_12.lt (Nat.le_of_eq g47.symm))
      have ne_b32_b47 : b32 ≠ b47 := Nat.ne_of_lt (Nat.lt_of_lt_of_le A32x.lt (Nat.le_of_eq g47.symm))
      have A1 := A1.ext E47
      have p26_1 := p26_1.ext E47
      have p26_2 := p26_2.ext E47
      have p26_5 := p26_5.ext E47
      have p26_7 := p26_7.ext E47
      have p26_8 := p26_8.ext E47
      have p26_9 := p26_9.ext E47
      have p26_12 := p26_12.ext E47
      have V43 := V43.ext E47
      have O48 := O44.ext E47
      have V47 : Arv Z h47 b47 k47 .int (3 : Int32) [(.int (0 : Int32)), (.int (0 : Int32)), (.int (0 : Int32))] (.int (0 : Int32)) := (Arv.new A47 (by decide)).pad (pad_rep [] (.int (0 : Int32)) 3)
      obtain ⟨cl50, Ar50, q50, S50, Ng50, Hh50, Gg50⟩ := id V47
      obtain ⟨T50, h50, X50, e50, W50, st50⟩ := stI X47 hx hZ e47 Ar50 (j := (0 : Int32)) (inb_of S50 (by decide)) (g := (mkF m 350 #[iv p1, iv p2, iv p3, iv p4, iv p5, iv cp, iv kk0, iv kk1, iv kk2, rv b1, iv 0, iv 0, iv 1, iv v, iv e2, iv 2, iv qv, iv 1, iv 2, iv 0, iv 1, iv 0, rv b32, .unset, .unset, .unset] [.int kk0, .int 0, .ref b47, .ref b47])) rfl rfl (hb hby at_350)
      have V50 : Arv Z h50 b47 k47 .int (3 : Int32) [(.int kk0), (.int (0 : Int32)), (.int (0 : Int32))] (.int (0 : Int32)) := Arv.set Ar50 q50 S50 Ng50 Hh50 Gg50 rfl W50 0 rfl (Nat.le_of_ble_eq_true rfl)
      have A1 := A1.wr W50
      have p26_1 := p26_1.other W50 (Or.inl ne_b1_b47)
      have p26_2 := p26_2.other W50 (Or.inl ne_b1_b47)
      have p26_5 := p26_5.other W50 (Or.inl ne_b1_b47)
      have p26_7 := p26_7.other W50 (Or.inl ne_b1_b47)
      have p26_8 := p26_8.other W50 ne_b26lo__b47
      have p26_9 := p26_9.other W50 ne_b26ea__b47
      have p26_12 := p26_12.other W50 ne_b26li__b47
      have V43 := V43.other W50 ne_b32_b47
      have O51 := O48.wr W50 g_b47
      have N53 := Fr.snoc X50 N46 g_b47
      obtain ⟨cl54, Ar54, q54, S54, Ng54, Hh54, Gg54⟩ := id V50
      obtain ⟨T54, h54, X54, e54, W54, st54⟩ := stI X50 hx hZ e50 Ar54 (j := (1 : Int32)) (inb_of S54 (by decide)) (g := (mkF m 355 #[iv p1, iv p2, iv p3, iv p4, iv p5, iv cp, iv kk0, iv kk1, iv kk2, rv b1, iv 0, iv 0, iv 1, iv v, iv e2, iv 2, iv qv, iv 1, iv 2, iv 0, iv 1, iv 0, rv b32, .unset, .unset, .unset] [.int kk1, .int 1, .ref b47, .ref b47])) rfl rfl (hb hby at_355)
      have V54 : Arv Z h54 b47 k47 .int (3 : Int32) [(.int kk0), (.int kk1), (.int (0 : Int32))] (.int (0 : Int32)) := Arv.set Ar54 q54 S54 Ng54 Hh54 Gg54 rfl W54 1 rfl (Nat.le_of_ble_eq_true rfl)
      have A1 := A1.wr W54
      have p26_1 := p26_1.other W54 (Or.inl ne_b1_b47)
      have p26_2 := p26_2.other W54 (Or.inl ne_b1_b47)
      have p26_5 := p26_5.other W54 (Or.inl ne_b1_b47)
      have p26_7 := p26_7.other W54 (Or.inl ne_b1_b47)
      have p26_8 := p26_8.other W54 ne_b26lo__b47
      have p26_9 := p26_9.other W54 ne_b26ea__b47
      have p26_12 := p26_12.other W54 ne_b26li__b47
      have V43 := V43.other W54 ne_b32_b47
      have O55 := O51.wr W54 g_b47
      have N57 := Fr.snoc X54 N53 g_b47
      obtain ⟨cl58, Ar58, q58, S58, Ng58, Hh58, Gg58⟩ := id V54
      obtain ⟨T58, h58, X58, e58, W58, st58⟩ := stI X54 hx hZ e54 Ar58 (j := (2 : Int32)) (inb_of S58 (by decide)) (g := (mkF m 360 #[iv p1, iv p2, iv p3, iv p4, iv p5, iv cp, iv kk0, iv kk1, iv kk2, rv b1, iv 0, iv 0, iv 1, iv v, iv e2, iv 2, iv qv, iv 1, iv 2, iv 0, iv 1, iv 0, rv b32, .unset, .unset, .unset] [.int kk2, .int 2, .ref b47, .ref b47])) rfl rfl (hb hby at_360)
      have V58 : Arv Z h58 b47 k47 .int (3 : Int32) [(.int kk0), (.int kk1), (.int kk2)] (.int (0 : Int32)) := Arv.set Ar58 q58 S58 Ng58 Hh58 Gg58 rfl W58 2 rfl (Nat.le_of_ble_eq_true rfl)
      have A1 := A1.wr W58
      have p26_1 := p26_1.other W58 (Or.inl ne_b1_b47)
      have p26_2 := p26_2.other W58 (Or.inl ne_b1_b47)
      have p26_5 := p26_5.other W58 (Or.inl ne_b1_b47)
      have p26_7 := p26_7.other W58 (Or.inl ne_b1_b47)
      have p26_8 := p26_8.other W58 ne_b26lo__b47
      have p26_9 := p26_9.other W58 ne_b26ea__b47
      have p26_12 := p26_12.other W58 ne_b26li__b47
      have V43 := V43.other W58 ne_b32_b47
      have O59 := O55.wr W58 g_b47
      have N61 := Fr.snoc X58 N57 g_b47
      obtain ⟨cq62, kq62, q62a, q62b, q62c⟩ := isOf hZ e58 A1
      obtain ⟨_, _, ⟨T62, L62, k62, n62⟩, -, X62, ⟨Lc62, hQ62, l62, y62, z62⟩, st62⟩ := X58.virtualBack hx (y := y_8) (z := y_8) hown (mvT hZ (W 67 rfl)) (mvT hZ (W 68 rfl)) (notFace_of_selects (args := #[]) (mvT hZ (W 70 rfl))) (mvT hZ (W 70 rfl)) (mvT hZ (W 69 rfl)) (by decide) (backOf (W := 0) (path1b l Z a0 hw [] b1 b26n' b26lo' b26ea' b26li' b26kl' b26ke' b26ki' p1 kk0 p2 kk1 p3 kk2 e2 h58 n0 O59 p26_1 p26_2 p26_5 p26_8 p26_9 p26_12 p26_18 p26_22 p26_25 p26_33 p26_34) hZ (W 71 rfl) (W 2 rfl) (by decide) (by decide)) q62a q62c (g := (mkF m 367 #[iv p1, iv p2, iv p3, iv p4, iv p5, iv cp, iv kk0, iv kk1, iv kk2, rv b1, iv 0, iv 0, iv 1, iv v, iv e2, iv 2, iv qv, iv 1, iv 2, iv 0, iv 1, iv 0, rv b32, rv b47, .unset, .unset] [.int 1, .ref b1])) rfl (by rw [hml]; rfl) (Steps.refl _) (argsL := [.int 1]) (rest := []) (lenOf pd_6 rfl) rfl (by show 2 * 0 + _ ≤ _; exact Nat.le_of_eq rfl) (hb hby at_367) (fun _ _ => ⟨rfl, e58, (by decide : 24 + 0 ≤ _), (by decide : 435 + 0 ≤ _)⟩)
      dsimp only [Pt.U, Pt.locs, Pt.cells, Pt.slots] at X62 l62 y62 z62 st62 hQ62
      subst l62 y62 z62
      obtain ⟨h62, e62⟩ : ∃ z, T62.heap = z := ⟨_, rfl⟩
      rw [e62] at hQ62
      obtain ⟨rfl, N62q, p62_0, p62_1⟩ := hQ62
      have N62 := Fr.app N61 N62q
      have A1 := A1.keep p62_0
      have p26_5 := p26_5.keep p62_0 (ninS p26_33 nin0)
      have p26_7 := p26_7.keep p62_0 (ninS p26_33 nin0)
      have V43 := V43.keep p62_0 (ninS (Ne.symm ne_b26li__b32) nin0)
      have V58 := V58.keep p62_0 (ninS (Ne.symm ne_b26li__b47) nin0)
      have O63 := O59.keep p62_0 (allS p26_18 all0)
      obtain ⟨cq65, kq65, q65a, q65b, q65c⟩ := isOf hZ e62 A1
      obtain ⟨_, _, ⟨T65, L65, k65, n65⟩, -, X65, ⟨Lc65, hQ65, l65, y65, z65⟩, st65⟩ := X62.virtualBack hx (y := y_11) (z := y_11) hown (mvT hZ (W 72 rfl)) (mvT hZ (W 73 rfl)) (notFace_of_selects (args := #[]) (mvT hZ (W 75 rfl))) (mvT hZ (W 75 rfl)) (mvT hZ (W 74 rfl)) (by decide) (backOf (W := 0) (slot0 l Z a0 hw [] b1 b26li' b26ki' b26n' p1 (.int kk0) (.int p2) (.int kk1) (.int (0 : Int32)) (.int (0 : Int32)) h62 n0 O63 p26_5 p62_1 p26_34) hZ (W 76 rfl) (W 2 rfl) (by decide) (by decide)) q65a q65c (g := (mkF m 400 #[iv p1, iv p2, iv p3, iv p4, iv p5, iv cp, iv kk0, iv kk1, iv kk2, rv b1, iv 0, iv 0, iv 1, iv v, iv e2, iv 2, iv qv, iv 1, iv 2, iv 0, iv 1, iv 0, rv b32, rv b47, iv 2, iv 1] [.int 0, .ref b1])) rfl (by rw [hml]; rfl) (Steps.refl _) (argsL := [.int 0]) (rest := []) (lenOf pd_6 rfl) rfl (by show 2 * 0 + _ ≤ _; exact Nat.le_of_eq rfl) (hb hby at_400) (fun _ _ => ⟨rfl, e62, (by decide : 24 + 0 ≤ _), (by decide : 435 + 0 ≤ _)⟩)
      dsimp only [Pt.U, Pt.locs, Pt.cells, Pt.slots] at X65 l65 y65 z65 st65 hQ65
      subst l65 y65 z65
      obtain ⟨h65, e65⟩ : ∃ z, T65.heap = z := ⟨_, rfl⟩
      rw [e65] at hQ65
      obtain ⟨rfl, N65q, p65_0⟩ := hQ65
      have N65 := Fr.app N62 N65q
      rw [p65_0] at e65
      obtain ⟨cl66, Ar66, q66, S66, Ng66, Hh66, Gg66⟩ := id V43
      have st66 := X65.iaload hx (j := (0 : Int32)) (v := (.int p1)) (by rw [e65]; exact Ar66.1) (State.isArrayOf_alike hZ.alike Ar66.2.1) Ar66.2.2 (inb_of S66 (by decide)) (Hh66.at (inb_of S66 (by decide)) rfl) (g := (mkF m 407 #[iv p1, iv p2, iv p3, iv p4, iv p5, iv cp, iv kk0, iv kk1, iv kk2, rv b1, iv 0, iv 0, iv 1, iv v, iv e2, iv 2, iv qv, iv 1, iv 2, iv 0, iv 1, iv 0, rv b32, rv b47, iv 2, iv 1] [.int 0, .ref b32, .int p1])) rfl rfl (hb hby at_407)
      obtain ⟨cq67, kq67, q67a, q67b, q67c⟩ := isOf hZ e65 A1
      obtain ⟨_, _, ⟨T67, L67, k67, n67⟩, -, X67, ⟨Lc67, hQ67, l67, y67, z67⟩, st67⟩ := X65.virtualBack hx (y := y_12) (z := y_12) hown (mvT hZ (W 77 rfl)) (mvT hZ (W 78 rfl)) (notFace_of_selects (args := #[]) (mvT hZ (W 80 rfl))) (mvT hZ (W 80 rfl)) (mvT hZ (W 79 rfl)) (by decide) (backOf (W := 0) (valu0 l Z a0 hw [] b1 b26li' b26ki' b26n' kk0 p4 (.int p1) (.int p2) (.int kk1) (.int (0 : Int32)) (.int (0 : Int32)) h62 n0 O63 p26_5 p26_7 p62_1 p26_34) hZ (W 81 rfl) (W 2 rfl) (by decide) (by decide)) q67a q67c (g := (mkF m 414 #[iv p1, iv p2, iv p3, iv p4, iv p5, iv cp, iv kk0, iv kk1, iv kk2, rv b1, iv 0, iv 0, iv 1, iv v, iv e2, iv 2, iv qv, iv 1, iv 2, iv 0, iv 1, iv 0, rv b32, rv b47, iv 2, iv 1] [.int 0, .ref b1])) rfl (by rw [hml]; rfl) (Steps.refl _) (argsL := [.int 0]) (rest := []) (lenOf pd_6 rfl) rfl (by show 2 * 0 + _ ≤ _; exact Nat.le_of_eq rfl) (hb hby at_414) (fun _ _ => ⟨rfl, e65, (by decide : 24 + 0 ≤ _), (by decide : 435 + 0 ≤ _)⟩)
      dsimp only [Pt.U, Pt.locs, Pt.cells, Pt.slots] at X67 l67 y67 z67 st67 hQ67
      subst l67 y67 z67
      obtain ⟨h67, e67⟩ : ∃ z, T67.heap = z := ⟨_, rfl⟩
      rw [e67] at hQ67
      obtain ⟨rfl, N67q, p67_0⟩ := hQ67
      have N67 := Fr.app N65 N67q
      rw [p67_0] at e67
      obtain ⟨cl68, Ar68, q68, S68, Ng68, Hh68, Gg68⟩ := id V58
      have st68 := X67.iaload hx (j := (0 : Int32)) (v := (.int kk0)) (by rw [e67]; exact Ar68.1) (State.isArrayOf_alike hZ.alike Ar68.2.1) Ar68.2.2 (inb_of S68 (by decide)) (Hh68.at (inb_of S68 (by decide)) rfl) (g := (mkF m 421 #[iv p1, iv p2, iv p3, iv p4, iv p5, iv cp, iv kk0, iv kk1, iv kk2, rv b1, iv 0, iv 0, iv 1, iv v, iv e2, iv 2, iv qv, iv 1, iv 2, iv 0, iv 1, iv 0, rv b32, rv b47, iv 2, iv 1] [.int 0, .ref b47, .int (own_ev kk0 p4)])) rfl rfl (hb hby at_421)
      obtain ⟨_, _, ⟨T69, L69, k69, n69⟩, -, X69, ⟨Lc69, hQ69, l69, y69, z69⟩, st69⟩ := Jvm.LawKit.callS X67 hx (y := y_10) hown (mvT hZ (W 86 rfl)) (mvT hZ (W 87 rfl)) (mvT hZ (W 88 rfl)) (mvT hZ (W 89 rfl)) (by decide) (backOf (W := 1) (expval l Z a0 hw [] kk0 p4 h62 n0 O63 ) hZ (W 89 rfl) (W 88 rfl) (by decide) (by decide)) (g := (mkF m 423 #[iv p1, iv p2, iv p3, iv p4, iv p5, iv cp, iv kk0, iv kk1, iv kk2, rv b1, iv 0, iv 0, iv 1, iv v, iv e2, iv 2, iv qv, iv 1, iv 2, iv 0, iv 1, iv 0, rv b32, rv b47, iv 2, iv 1] [.int p4, .int kk0, .int (own_ev kk0 p4)])) rfl (by rw [hml]; rfl) (argsL := [.int kk0, .int p4]) (rest := [.int (own_ev kk0 p4)]) (lenOf pd_0 rfl) rfl (by show 2 * 0 + _ ≤ _; exact Nat.le_of_eq rfl) (hb hby at_423) (fun _ _ => ⟨rfl, e67, (by decide : 24 + 0 ≤ _), (by decide : 435 + 0 ≤ _)⟩)
      dsimp only [Pt.U, Pt.locs, Pt.cells, Pt.slots] at X69 l69 y69 z69 st69 hQ69
      subst l69 y69 z69
      obtain ⟨h69, e69⟩ : ∃ z, T69.heap = z := ⟨_, rfl⟩
      rw [e69] at hQ69
      obtain ⟨rfl, N69q, p69_0⟩ := hQ69
      have N69 := Fr.app N67 N69q
      rw [p69_0] at e69
      obtain ⟨cq70, kq70, q70a, q70b, q70c⟩ := isOf hZ e69 A1
      obtain ⟨_, _, ⟨T70, L70, k70, n70⟩, -, X70, ⟨Lc70, hQ70, l70, y70, z70⟩, st70⟩ := X69.virtualBack hx (y := y_11) (z := y_11) hown (mvT hZ (W 72 rfl)) (mvT hZ (W 73 rfl)) (notFace_of_selects (args := #[]) (mvT hZ (W 75 rfl))) (mvT hZ (W 75 rfl)) (mvT hZ (W 74 rfl)) (by decide) (backOf (W := 0) (slot1 l Z a0 hw [] b1 b26li' b26ki' b26n' p2 (.int p1) (.int kk0) (.int kk1) (.int (0 : Int32)) (.int (0 : Int32)) h62 n0 O63 p26_5 p62_1 p26_34) hZ (W 76 rfl) (W 2 rfl) (by decide) (by decide)) q70a q70c (g := (mkF m 450 #[iv p1, iv p2, iv p3, iv p4, iv p5, iv cp, iv kk0, iv kk1, iv kk2, rv b1, iv 0, iv 0, iv 1, iv v, iv e2, iv 2, iv qv, iv 1, iv 2, iv 0, iv 1, iv 0, rv b32, rv b47, iv 2, iv 1] [.int 1, .ref b1])) rfl (by rw [hml]; rfl) (Steps.refl _) (argsL := [.int 1]) (rest := []) (lenOf pd_6 rfl) rfl (by show 2 * 0 + _ ≤ _; exact Nat.le_of_eq rfl) (hb hby at_450) (fun _ _ => ⟨rfl, e69, (by decide : 24 + 0 ≤ _), (by decide : 435 + 0 ≤ _)⟩)
      dsimp only [Pt.U, Pt.locs, Pt.cells, Pt.slots] at X70 l70 y70 z70 st70 hQ70
      subst l70 y70 z70
      obtain ⟨h70, e70⟩ : ∃ z, T70.heap = z := ⟨_, rfl⟩
      rw [e70] at hQ70
      obtain ⟨rfl, N70q, p70_0⟩ := hQ70
      have N70 := Fr.app N69 N70q
      rw [p70_0] at e70
      obtain ⟨cl71, Ar71, q71, S71, Ng71, Hh71, Gg71⟩ := id V43
      have st71 := X70.iaload hx (j := (1 : Int32)) (v := (.int p2)) (by rw [e70]; exact Ar71.1) (State.isArrayOf_alike hZ.alike Ar71.2.1) Ar71.2.2 (inb_of S71 (by decide)) (Hh71.at (inb_of S71 (by decide)) rfl) (g := (mkF m 457 #[iv p1, iv p2, iv p3, iv p4, iv p5, iv cp, iv kk0, iv kk1, iv kk2, rv b1, iv 0, iv 0, iv 1, iv v, iv e2, iv 2, iv qv, iv 1, iv 2, iv 0, iv 1, iv 0, rv b32, rv b47, iv 2, iv 1] [.int 1, .ref b32, .int p2])) rfl rfl (hb hby at_457)
      obtain ⟨cq72, kq72, q72a, q72b, q72c⟩ := isOf hZ e70 A1
      obtain ⟨_, _, ⟨T72, L72, k72, n72⟩, -, X72, ⟨Lc72, hQ72, l72, y72, z72⟩, st72⟩ := X70.virtualBack hx (y := y_12) (z := y_12) hown (mvT hZ (W 77 rfl)) (mvT hZ (W 78 rfl)) (notFace_of_selects (args := #[]) (mvT hZ (W 80 rfl))) (mvT hZ (W 80 rfl)) (mvT hZ (W 79 rfl)) (by decide) (backOf (W := 0) (valu1 l Z a0 hw [] b1 b26li' b26ki' b26n' kk1 p4 (.int p1) (.int kk0) (.int p2) (.int (0 : Int32)) (.int (0 : Int32)) h62 n0 O63 p26_5 p26_7 p62_1 p26_34) hZ (W 81 rfl) (W 2 rfl) (by decide) (by decide)) q72a q72c (g := (mkF m 464 #[iv p1, iv p2, iv p3, iv p4, iv p5, iv cp, iv kk0, iv kk1, iv kk2, rv b1, iv 0, iv 0, iv 1, iv v, iv e2, iv 2, iv qv, iv 1, iv 2, iv 0, iv 1, iv 0, rv b32, rv b47, iv 2, iv 1] [.int 1, .ref b1])) rfl (by rw [hml]; rfl) (Steps.refl _) (argsL := [.int 1]) (rest := []) (lenOf pd_6 rfl) rfl (by show 2 * 0 + _ ≤ _; exact Nat.le_of_eq rfl) (hb hby at_464) (fun _ _ => ⟨rfl, e70, (by decide : 24 + 0 ≤ _), (by decide : 435 + 0 ≤ _)⟩)
      dsimp only [Pt.U, Pt.locs, Pt.cells, Pt.slots] at X72 l72 y72 z72 st72 hQ72
      subst l72 y72 z72
      obtain ⟨h72, e72⟩ : ∃ z, T72.heap = z := ⟨_, rfl⟩
      rw [e72] at hQ72
      obtain ⟨rfl, N72q, p72_0⟩ := hQ72
      have N72 := Fr.app N70 N72q
      rw [p72_0] at e72
      obtain ⟨cl73, Ar73, q73, S73, Ng73, Hh73, Gg73⟩ := id V58
      have st73 := X72.iaload hx (j := (1 : Int32)) (v := (.int kk1)) (by rw [e72]; exact Ar73.1) (State.isArrayOf_alike hZ.alike Ar73.2.1) Ar73.2.2 (inb_of S73 (by decide)) (Hh73.at (inb_of S73 (by decide)) rfl) (g := (mkF m 471 #[iv p1, iv p2, iv p3, iv p4, iv p5, iv cp, iv kk0, iv kk1, iv kk2, rv b1, iv 0, iv 0, iv 1, iv v, iv e2, iv 2, iv qv, iv 1, iv 2, iv 0, iv 1, iv 0, rv b32, rv b47, iv 2, iv 1] [.int 1, .ref b47, .int (own_ev kk1 p4)])) rfl rfl (hb hby at_471)
      obtain ⟨_, _, ⟨T74, L74, k74, n74⟩, -, X74, ⟨Lc74, hQ74, l74, y74, z74⟩, st74⟩ := Jvm.LawKit.callS X72 hx (y := y_10) hown (mvT hZ (W 86 rfl)) (mvT hZ (W 87 rfl)) (mvT hZ (W 88 rfl)) (mvT hZ (W 89 rfl)) (by decide) (backOf (W := 1) (expval l Z a0 hw [] kk1 p4 h62 n0 O63 ) hZ (W 89 rfl) (W 88 rfl) (by decide) (by decide)) (g := (mkF m 473 #[iv p1, iv p2, iv p3, iv p4, iv p5, iv cp, iv kk0, iv kk1, iv kk2, rv b1, iv 0, iv 0, iv 1, iv v, iv e2, iv 2, iv qv, iv 1, iv 2, iv 0, iv 1, iv 0, rv b32, rv b47, iv 2, iv 1] [.int p4, .int kk1, .int (own_ev kk1 p4)])) rfl (by rw [hml]; rfl) (argsL := [.int kk1, .int p4]) (rest := [.int (own_ev kk1 p4)]) (lenOf pd_0 rfl) rfl (by show 2 * 0 + _ ≤ _; exact Nat.le_of_eq rfl) (hb hby at_473) (fun _ _ => ⟨rfl, e72, (by decide : 24 + 0 ≤ _), (by decide : 435 + 0 ≤ _)⟩)
      dsimp only [Pt.U, Pt.locs, Pt.cells, Pt.slots] at X74 l74 y74 z74 st74 hQ74
      subst l74 y74 z74
      obtain ⟨h74, e74⟩ : ∃ z, T74.heap = z := ⟨_, rfl⟩
      rw [e74] at hQ74
      obtain ⟨rfl, N74q, p74_0⟩ := hQ74
      have N74 := Fr.app N72 N74q
      rw [p74_0] at e74
      obtain ⟨fs, hr, hrun, hended, hW, hsame⟩ := X74.leave (v := some (.int (1 : Int32))) (fun h => by rw [Bd.returns] at h; cases h)
      refine ⟨_, _, pre31 _ ?_, hrun, hended, _, _, rfl, ?_, ⟨_, rfl⟩, hW, hsame.mono (by decide) (by decide)⟩
      · show Sq p e below m T26 237 #[iv p1, iv p2, iv p3, iv p4, iv p5, iv cp, iv kk0, iv kk1, iv kk2, rv b1, iv 0, iv 0, iv 1, iv v, iv e2, iv 2, iv qv, iv 1, iv 0, iv 0, iv 0, iv 0, .unset, .unset, .unset, .unset] [] _
        refine XS.iload X26.here hx rfl (hb hby at_237) rfl ?_
        refine XS.iconst X26.here hx rfl (hb hby at_239) ?_
        show Sq p e below m T26 240 #[iv p1, iv p2, iv p3, iv p4, iv p5, iv cp, iv kk0, iv kk1, iv kk2, rv b1, iv 0, iv 0, iv 1, iv v, iv e2, iv 2, iv qv, iv 1, iv 0, iv 0, iv 0, iv 0, .unset, .unset, .unset, .unset] [.int (-1), .int 0] _
        refine XS.icmpYes X26.here hx rfl (pc0 := 240) (pc' := 252) rfl (hb hby at_240) rfl (feq (by decide)).2 (by decide) (by decide) ?_
        refine XS.iconst X26.here hx rfl (hb hby at_252) ?_
        show Sq p e below m T26 253 #[iv p1, iv p2, iv p3, iv p4, iv p5, iv cp, iv kk0, iv kk1, iv kk2, rv b1, iv 0, iv 0, iv 1, iv v, iv e2, iv 2, iv qv, iv 1, iv 0, iv 0, iv 0, iv 0, .unset, .unset, .unset, .unset] [.int 2] _
        refine XS.istore X26.here hx rfl (hb hby at_253) rfl rfl ?_
        refine XS.iconst X26.here hx rfl (hb hby at_255) ?_
        show Sq p e below m T26 256 #[iv p1, iv p2, iv p3, iv p4, iv p5, iv cp, iv kk0, iv kk1, iv kk2, rv b1, iv 0, iv 0, iv 1, iv v, iv e2, iv 2, iv qv, iv 1, iv 2, iv 0, iv 0, iv 0, .unset, .unset, .unset, .unset] [.int 0] _
        refine XS.istore X26.here hx rfl (hb hby at_256) rfl rfl ?_
        refine XS.iconst X26.here hx rfl (hb hby at_258) ?_
        show Sq p e below m T26 259 #[iv p1, iv p2, iv p3, iv p4, iv p5, iv cp, iv kk0, iv kk1, iv kk2, rv b1, iv 0, iv 0, iv 1, iv v, iv e2, iv 2, iv qv, iv 1, iv 2, iv 0, iv 0, iv 0, .unset, .unset, .unset, .unset] [.int 1] _
        refine XS.istore X26.here hx rfl (hb hby at_259) rfl rfl ?_
        refine XS.goto X26.here hx rfl (pc0 := 261) (pc' := 326) rfl (hb hby at_261) (by decide) (by decide) ?_
        show Sq p e below m T26 326 #[iv p1, iv p2, iv p3, iv p4, iv p5, iv cp, iv kk0, iv kk1, iv kk2, rv b1, iv 0, iv 0, iv 1, iv v, iv e2, iv 2, iv qv, iv 1, iv 2, iv 0, iv 1, iv 0, .unset, .unset, .unset, .unset] [] _
        refine XS.iconst X26.here hx rfl (hb hby at_326) ?_
        show Sq p e below m T26 327 #[iv p1, iv p2, iv p3, iv p4, iv p5, iv cp, iv kk0, iv kk1, iv kk2, rv b1, iv 0, iv 0, iv 1, iv v, iv e2, iv 2, iv qv, iv 1, iv 2, iv 0, iv 1, iv 0, .unset, .unset, .unset, .unset] [.int 3] _
        refine st32 _ ?_
        show Sq p e below m T32 329 #[iv p1, iv p2, iv p3, iv p4, iv p5, iv cp, iv kk0, iv kk1, iv kk2, rv b1, iv 0, iv 0, iv 1, iv v, iv e2, iv 2, iv qv, iv 1, iv 2, iv 0, iv 1, iv 0, .unset, .unset, .unset, .unset] [.ref b32] _
        refine XS.dup X32.here hx rfl (hb hby at_329) rfl rfl ?_
        refine XS.iconst X32.here hx rfl (hb hby at_330) ?_
        show Sq p e below m T32 331 #[iv p1, iv p2, iv p3, iv p4, iv p5, iv cp, iv kk0, iv kk1, iv kk2, rv b1, iv 0, iv 0, iv 1, iv v, iv e2, iv 2, iv qv, iv 1, iv 2, iv 0, iv 1, iv 0, .unset, .unset, .unset, .unset] [.int 0, .ref b32, .ref b32] _
        refine XS.iloadN X32.here hx rfl (hb hby at_331) rfl ?_
        show Sq p e below m T32 332 #[iv p1, iv p2, iv p3, iv p4, iv p5, iv cp, iv kk0, iv kk1, iv kk2, rv b1, iv 0, iv 0, iv 1, iv v, iv e2, iv 2, iv qv, iv 1, iv 2, iv 0, iv 1, iv 0, .unset, .unset, .unset, .unset] [.int p1, .int 0, .ref b32, .ref b32] _
        refine st35 _ ?_
        show Sq p e below m T35 333 #[iv p1, iv p2, iv p3, iv p4, iv p5, iv cp, iv kk0, iv kk1, iv kk2, rv b1, iv 0, iv 0, iv 1, iv v, iv e2, iv 2, iv qv, iv 1, iv 2, iv 0, iv 1, iv 0, .unset, .unset, .unset, .unset] [.ref b32] _
        refine XS.dup X35.here hx rfl (hb hby at_333) rfl rfl ?_
        refine XS.iconst X35.here hx rfl (hb hby at_334) ?_
        show Sq p e below m T35 335 #[iv p1, iv p2, iv p3, iv p4, iv p5, iv cp, iv kk0, iv kk1, iv kk2, rv b1, iv 0, iv 0, iv 1, iv v, iv e2, iv 2, iv qv, iv 1, iv 2, iv 0, iv 1, iv 0, .unset, .unset, .unset, .unset] [.int 1, .ref b32, .ref b32] _
        refine XS.iloadN X35.here hx rfl (hb hby at_335) rfl ?_
        show Sq p e below m T35 336 #[iv p1, iv p2, iv p3, iv p4, iv p5, iv cp, iv kk0, iv kk1, iv kk2, rv b1, iv 0, iv 0, iv 1, iv v, iv e2, iv 2, iv qv, iv 1, iv 2, iv 0, iv 1, iv 0, .unset, .unset, .unset, .unset] [.int p2, .int 1, .ref b32, .ref b32] _
        refine st39 _ ?_
        show Sq p e below m T39 337 #[iv p1, iv p2, iv p3, iv p4, iv p5, iv cp, iv kk0, iv kk1, iv kk2, rv b1, iv 0, iv 0, iv 1, iv v, iv e2, iv 2, iv qv, iv 1, iv 2, iv 0, iv 1, iv 0, .unset, .unset, .unset, .unset] [.ref b32] _
        refine XS.dup X39.here hx rfl (hb hby at_337) rfl rfl ?_
        refine XS.iconst X39.here hx rfl (hb hby at_338) ?_
        show Sq p e below m T39 339 #[iv p1, iv p2, iv p3, iv p4, iv p5, iv cp, iv kk0, iv kk1, iv kk2, rv b1, iv 0, iv 0, iv 1, iv v, iv e2, iv 2, iv qv, iv 1, iv 2, iv 0, iv 1, iv 0, .unset, .unset, .unset, .unset] [.int 2, .ref b32, .ref b32] _
        refine XS.iloadN X39.here hx rfl (hb hby at_339) rfl ?_
        show Sq p e below m T39 340 #[iv p1, iv p2, iv p3, iv p4, iv p5, iv cp, iv kk0, iv kk1, iv kk2, rv b1, iv 0, iv 0, iv 1, iv v, iv e2, iv 2, iv qv, iv 1, iv 2, iv 0, iv 1, iv 0, .unset, .unset, .unset, .unset] [.int p3, .int 2, .ref b32, .ref b32] _
        refine st43 _ ?_
        show Sq p e below m T43 341 #[iv p1, iv p2, iv p3, iv p4, iv p5, iv cp, iv kk0, iv kk1, iv kk2, rv b1, iv 0, iv 0, iv 1, iv v, iv e2, iv 2, iv qv, iv 1, iv 2, iv 0, iv 1, iv 0, .unset, .unset, .unset, .unset] [.ref b32] _
        refine XS.astore X43.here hx rfl (hb hby at_341) rfl rfl rfl ?_
        refine XS.iconst X43.here hx rfl (hb hby at_343) ?_
        show Sq p e below m T43 344 #[iv p1, iv p2, iv p3, iv p4, iv p5, iv cp, iv kk0, iv kk1, iv kk2, rv b1, iv 0, iv 0, iv 1, iv v, iv e2, iv 2, iv qv, iv 1, iv 2, iv 0, iv 1, iv 0, rv b32, .unset, .unset, .unset] [.int 3] _
        refine st47 _ ?_
        show Sq p e below m T47 346 #[iv p1, iv p2, iv p3, iv p4, iv p5, iv cp, iv kk0, iv kk1, iv kk2, rv b1, iv 0, iv 0, iv 1, iv v, iv e2, iv 2, iv qv, iv 1, iv 2, iv 0, iv 1, iv 0, rv b32, .unset, .unset, .unset] [.ref b47] _
        refine XS.dup X47.here hx rfl (hb hby at_346) rfl rfl ?_
        refine XS.iconst X47.here hx rfl (hb hby at_347) ?_
        show Sq p e below m T47 348 #[iv p1, iv p2, iv p3, iv p4, iv p5, iv cp, iv kk0, iv kk1, iv kk2, rv b1, iv 0, iv 0, iv 1, iv v, iv e2, iv 2, iv qv, iv 1, iv 2, iv 0, iv 1, iv 0, rv b32, .unset, .unset, .unset] [.int 0, .ref b47, .ref b47] _
        refine XS.iload X47.here hx rfl (hb hby at_348) rfl ?_
        show Sq p e below m T47 350 #[iv p1, iv p2, iv p3, iv p4, iv p5, iv cp, iv kk0, iv kk1, iv kk2, rv b1, iv 0, iv 0, iv 1, iv v, iv e2, iv 2, iv qv, iv 1, iv 2, iv 0, iv 1, iv 0, rv b32, .unset, .unset, .unset] [.int kk0, .int 0, .ref b47, .ref b47] _
        refine st50 _ ?_
        show Sq p e below m T50 351 #[iv p1, iv p2, iv p3, iv p4, iv p5, iv cp, iv kk0, iv kk1, iv kk2, rv b1, iv 0, iv 0, iv 1, iv v, iv e2, iv 2, iv qv, iv 1, iv 2, iv 0, iv 1, iv 0, rv b32, .unset, .unset, .unset] [.ref b47] _
        refine XS.dup X50.here hx rfl (hb hby at_351) rfl rfl ?_
        refine XS.iconst X50.here hx rfl (hb hby at_352) ?_
        show Sq p e below m T50 353 #[iv p1, iv p2, iv p3, iv p4, iv p5, iv cp, iv kk0, iv kk1, iv kk2, rv b1, iv 0, iv 0, iv 1, iv v, iv e2, iv 2, iv qv, iv 1, iv 2, iv 0, iv 1, iv 0, rv b32, .unset, .unset, .unset] [.int 1, .ref b47, .ref b47] _
        refine XS.iload X50.here hx rfl (hb hby at_353) rfl ?_
        show Sq p e below m T50 355 #[iv p1, iv p2, iv p3, iv p4, iv p5, iv cp, iv kk0, iv kk1, iv kk2, rv b1, iv 0, iv 0, iv 1, iv v, iv e2, iv 2, iv qv, iv 1, iv 2, iv 0, iv 1, iv 0, rv b32, .unset, .unset, .unset] [.int kk1, .int 1, .ref b47, .ref b47] _
        refine st54 _ ?_
        show Sq p e below m T54 356 #[iv p1, iv p2, iv p3, iv p4, iv p5, iv cp, iv kk0, iv kk1, iv kk2, rv b1, iv 0, iv 0, iv 1, iv v, iv e2, iv 2, iv qv, iv 1, iv 2, iv 0, iv 1, iv 0, rv b32, .unset, .unset, .unset] [.ref b47] _
        refine XS.dup X54.here hx rfl (hb hby at_356) rfl rfl ?_
        refine XS.iconst X54.here hx rfl (hb hby at_357) ?_
        show Sq p e below m T54 358 #[iv p1, iv p2, iv p3, iv p4, iv p5, iv cp, iv kk0, iv kk1, iv kk2, rv b1, iv 0, iv 0, iv 1, iv v, iv e2, iv 2, iv qv, iv 1, iv 2, iv 0, iv 1, iv 0, rv b32, .unset, .unset, .unset] [.int 2, .ref b47, .ref b47] _
        refine XS.iload X54.here hx rfl (hb hby at_358) rfl ?_
        show Sq p e below m T54 360 #[iv p1, iv p2, iv p3, iv p4, iv p5, iv cp, iv kk0, iv kk1, iv kk2, rv b1, iv 0, iv 0, iv 1, iv v, iv e2, iv 2, iv qv, iv 1, iv 2, iv 0, iv 1, iv 0, rv b32, .unset, .unset, .unset] [.int kk2, .int 2, .ref b47, .ref b47] _
        refine st58 _ ?_
        show Sq p e below m T58 361 #[iv p1, iv p2, iv p3, iv p4, iv p5, iv cp, iv kk0, iv kk1, iv kk2, rv b1, iv 0, iv 0, iv 1, iv v, iv e2, iv 2, iv qv, iv 1, iv 2, iv 0, iv 1, iv 0, rv b32, .unset, .unset, .unset] [.ref b47] _
        refine XS.astore X58.here hx rfl (hb hby at_361) rfl rfl rfl ?_
        refine XS.aload X58.here hx rfl (hb hby at_363) rfl rfl ?_
        show Sq p e below m T58 365 #[iv p1, iv p2, iv p3, iv p4, iv p5, iv cp, iv kk0, iv kk1, iv kk2, rv b1, iv 0, iv 0, iv 1, iv v, iv e2, iv 2, iv qv, iv 1, iv 2, iv 0, iv 1, iv 0, rv b32, rv b47, .unset, .unset] [.ref b1] _
        refine XS.iload X58.here hx rfl (hb hby at_365) rfl ?_
        show Sq p e below m T58 367 #[iv p1, iv p2, iv p3, iv p4, iv p5, iv cp, iv kk0, iv kk1, iv kk2, rv b1, iv 0, iv 0, iv 1, iv v, iv e2, iv 2, iv qv, iv 1, iv 2, iv 0, iv 1, iv 0, rv b32, rv b47, .unset, .unset] [.int 1, .ref b1] _
        refine st62.trans ?_
        show Sq p e below m T62 370 #[iv p1, iv p2, iv p3, iv p4, iv p5, iv cp, iv kk0, iv kk1, iv kk2, rv b1, iv 0, iv 0, iv 1, iv v, iv e2, iv 2, iv qv, iv 1, iv 2, iv 0, iv 1, iv 0, rv b32, rv b47, .unset, .unset] [.int 2] _
        refine XS.istore X62.here hx rfl (hb hby at_370) rfl rfl ?_
        refine XS.iload X62.here hx rfl (hb hby at_372) rfl ?_
        show Sq p e below m T62 374 #[iv p1, iv p2, iv p3, iv p4, iv p5, iv cp, iv kk0, iv kk1, iv kk2, rv b1, iv 0, iv 0, iv 1, iv v, iv e2, iv 2, iv qv, iv 1, iv 2, iv 0, iv 1, iv 0, rv b32, rv b47, iv 2, .unset] [.int 2] _
        refine XS.iload X62.here hx rfl (hb hby at_374) rfl ?_
        refine XS.icmpNo X62.here hx rfl (hb hby at_376) rfl (teq (rfl : (2 : Int32) = (2 : Int32))).2 ?_
        show Sq p e below m T62 379 #[iv p1, iv p2, iv p3, iv p4, iv p5, iv cp, iv kk0, iv kk1, iv kk2, rv b1, iv 0, iv 0, iv 1, iv v, iv e2, iv 2, iv qv, iv 1, iv 2, iv 0, iv 1, iv 0, rv b32, rv b47, iv 2, .unset] [] _
        refine XS.iconst X62.here hx rfl (hb hby at_379) ?_
        refine XS.goto X62.here hx rfl (pc0 := 380) (pc' := 384) rfl (hb hby at_380) (by decide) (by decide) ?_
        show Sq p e below m T62 384 #[iv p1, iv p2, iv p3, iv p4, iv p5, iv cp, iv kk0, iv kk1, iv kk2, rv b1, iv 0, iv 0, iv 1, iv v, iv e2, iv 2, iv qv, iv 1, iv 2, iv 0, iv 1, iv 0, rv b32, rv b47, iv 2, .unset] [.int 1] _
        refine XS.istore X62.here hx rfl (hb hby at_384) rfl rfl ?_
        refine XS.iload X62.here hx rfl (hb hby at_386) rfl ?_
        show Sq p e below m T62 388 #[iv p1, iv p2, iv p3, iv p4, iv p5, iv cp, iv kk0, iv kk1, iv kk2, rv b1, iv 0, iv 0, iv 1, iv v, iv e2, iv 2, iv qv, iv 1, iv 2, iv 0, iv 1, iv 0, rv b32, rv b47, iv 2, iv 1] [.int 1] _
        refine XS.ifNo X62.here hx rfl (hb hby at_388) rfl ((if0 _ _).trans (feq (by decide)).1) ?_
        refine XS.iload X62.here hx rfl (hb hby at_391) rfl ?_
        show Sq p e below m T62 393 #[iv p1, iv p2, iv p3, iv p4, iv p5, iv cp, iv kk0, iv kk1, iv kk2, rv b1, iv 0, iv 0, iv 1, iv v, iv e2, iv 2, iv qv, iv 1, iv 2, iv 0, iv 1, iv 0, rv b32, rv b47, iv 2, iv 1] [.int 2] _
        refine XS.iconst X62.here hx rfl (hb hby at_393) ?_
        refine XS.icmpNo X62.here hx rfl (hb hby at_394) rfl (flt (by decide)).1 ?_
        show Sq p e below m T62 397 #[iv p1, iv p2, iv p3, iv p4, iv p5, iv cp, iv kk0, iv kk1, iv kk2, rv b1, iv 0, iv 0, iv 1, iv v, iv e2, iv 2, iv qv, iv 1, iv 2, iv 0, iv 1, iv 0, rv b32, rv b47, iv 2, iv 1] [] _
        refine XS.aload X62.here hx rfl (hb hby at_397) rfl rfl ?_
        refine XS.iconst X62.here hx rfl (hb hby at_399) ?_
        show Sq p e below m T62 400 #[iv p1, iv p2, iv p3, iv p4, iv p5, iv cp, iv kk0, iv kk1, iv kk2, rv b1, iv 0, iv 0, iv 1, iv v, iv e2, iv 2, iv qv, iv 1, iv 2, iv 0, iv 1, iv 0, rv b32, rv b47, iv 2, iv 1] [.int 0, .ref b1] _
        refine st65.trans ?_
        show Sq p e below m T65 403 #[iv p1, iv p2, iv p3, iv p4, iv p5, iv cp, iv kk0, iv kk1, iv kk2, rv b1, iv 0, iv 0, iv 1, iv v, iv e2, iv 2, iv qv, iv 1, iv 2, iv 0, iv 1, iv 0, rv b32, rv b47, iv 2, iv 1] [.int p1] _
        refine XS.aload X65.here hx rfl (hb hby at_403) rfl rfl ?_
        refine XS.iload X65.here hx rfl (hb hby at_405) rfl ?_
        show Sq p e below m T65 407 #[iv p1, iv p2, iv p3, iv p4, iv p5, iv cp, iv kk0, iv kk1, iv kk2, rv b1, iv 0, iv 0, iv 1, iv v, iv e2, iv 2, iv qv, iv 1, iv 2, iv 0, iv 1, iv 0, rv b32, rv b47, iv 2, iv 1] [.int 0, .ref b32, .int p1] _
        refine st66 _ ?_
        show Sq p e below m T65 408 #[iv p1, iv p2, iv p3, iv p4, iv p5, iv cp, iv kk0, iv kk1, iv kk2, rv b1, iv 0, iv 0, iv 1, iv v, iv e2, iv 2, iv qv, iv 1, iv 2, iv 0, iv 1, iv 0, rv b32, rv b47, iv 2, iv 1] [.int p1, .int p1] _
        refine XS.icmpNo X65.here hx rfl (hb hby at_408) rfl (teq (rfl : p1 = p1)).2 ?_
        refine XS.aload X65.here hx rfl (hb hby at_411) rfl rfl ?_
        show Sq p e below m T65 413 #[iv p1, iv p2, iv p3, iv p4, iv p5, iv cp, iv kk0, iv kk1, iv kk2, rv b1, iv 0, iv 0, iv 1, iv v, iv e2, iv 2, iv qv, iv 1, iv 2, iv 0, iv 1, iv 0, rv b32, rv b47, iv 2, iv 1] [.ref b1] _
        refine XS.iconst X65.here hx rfl (hb hby at_413) ?_
        show Sq p e below m T65 414 #[iv p1, iv p2, iv p3, iv p4, iv p5, iv cp, iv kk0, iv kk1, iv kk2, rv b1, iv 0, iv 0, iv 1, iv v, iv e2, iv 2, iv qv, iv 1, iv 2, iv 0, iv 1, iv 0, rv b32, rv b47, iv 2, iv 1] [.int 0, .ref b1] _
        refine st67.trans ?_
        show Sq p e below m T67 417 #[iv p1, iv p2, iv p3, iv p4, iv p5, iv cp, iv kk0, iv kk1, iv kk2, rv b1, iv 0, iv 0, iv 1, iv v, iv e2, iv 2, iv qv, iv 1, iv 2, iv 0, iv 1, iv 0, rv b32, rv b47, iv 2, iv 1] [.int (own_ev kk0 p4)] _
        refine XS.aload X67.here hx rfl (hb hby at_417) rfl rfl ?_
        refine XS.iload X67.here hx rfl (hb hby at_419) rfl ?_
        show Sq p e below m T67 421 #[iv p1, iv p2, iv p3, iv p4, iv p5, iv cp, iv kk0, iv kk1, iv kk2, rv b1, iv 0, iv 0, iv 1, iv v, iv e2, iv 2, iv qv, iv 1, iv 2, iv 0, iv 1, iv 0, rv b32, rv b47, iv 2, iv 1] [.int 0, .ref b47, .int (own_ev kk0 p4)] _
        refine st68 _ ?_
        show Sq p e below m T67 422 #[iv p1, iv p2, iv p3, iv p4, iv p5, iv cp, iv kk0, iv kk1, iv kk2, rv b1, iv 0, iv 0, iv 1, iv v, iv e2, iv 2, iv qv, iv 1, iv 2, iv 0, iv 1, iv 0, rv b32, rv b47, iv 2, iv 1] [.int kk0, .int (own_ev kk0 p4)] _
        refine XS.iloadN X67.here hx rfl (hb hby at_422) rfl ?_
        show Sq p e below m T67 423 #[iv p1, iv p2, iv p3, iv p4, iv p5, iv cp, iv kk0, iv kk1, iv kk2, rv b1, iv 0, iv 0, iv 1, iv v, iv e2, iv 2, iv qv, iv 1, iv 2, iv 0, iv 1, iv 0, rv b32, rv b47, iv 2, iv 1] [.int p4, .int kk0, .int (own_ev kk0 p4)] _
        refine st69 _ ?_
        show Sq p e below m T69 426 #[iv p1, iv p2, iv p3, iv p4, iv p5, iv cp, iv kk0, iv kk1, iv kk2, rv b1, iv 0, iv 0, iv 1, iv v, iv e2, iv 2, iv qv, iv 1, iv 2, iv 0, iv 1, iv 0, rv b32, rv b47, iv 2, iv 1] [.int (own_ev kk0 p4), .int (own_ev kk0 p4)] _
        refine XS.icmpNo X69.here hx rfl (hb hby at_426) rfl (teq (rfl : (own_ev kk0 p4) = (own_ev kk0 p4))).2 ?_
        refine XS.iconst X69.here hx rfl (hb hby at_429) ?_
        show Sq p e below m T69 430 #[iv p1, iv p2, iv p3, iv p4, iv p5, iv cp, iv kk0, iv kk1, iv kk2, rv b1, iv 0, iv 0, iv 1, iv v, iv e2, iv 2, iv qv, iv 1, iv 2, iv 0, iv 1, iv 0, rv b32, rv b47, iv 2, iv 1] [.int 1] _
        refine XS.goto X69.here hx rfl (pc0 := 430) (pc' := 434) rfl (hb hby at_430) (by decide) (by decide) ?_
        refine XS.istore X69.here hx rfl (hb hby at_434) rfl rfl ?_
        show Sq p e below m T69 436 #[iv p1, iv p2, iv p3, iv p4, iv p5, iv cp, iv kk0, iv kk1, iv kk2, rv b1, iv 0, iv 0, iv 1, iv v, iv e2, iv 2, iv qv, iv 1, iv 2, iv 0, iv 1, iv 0, rv b32, rv b47, iv 2, iv 1] [] _
        refine XS.iload X69.here hx rfl (hb hby at_436) rfl ?_
        refine XS.ifNo X69.here hx rfl (hb hby at_438) rfl ((if0 _ _).trans (feq (by decide)).1) ?_
        show Sq p e below m T69 441 #[iv p1, iv p2, iv p3, iv p4, iv p5, iv cp, iv kk0, iv kk1, iv kk2, rv b1, iv 0, iv 0, iv 1, iv v, iv e2, iv 2, iv qv, iv 1, iv 2, iv 0, iv 1, iv 0, rv b32, rv b47, iv 2, iv 1] [] _
        refine XS.iload X69.here hx rfl (hb hby at_441) rfl ?_
        refine XS.iconst X69.here hx rfl (hb hby at_443) ?_
        show Sq p e below m T69 444 #[iv p1, iv p2, iv p3, iv p4, iv p5, iv cp, iv kk0, iv kk1, iv kk2, rv b1, iv 0, iv 0, iv 1, iv v, iv e2, iv 2, iv qv, iv 1, iv 2, iv 0, iv 1, iv 0, rv b32, rv b47, iv 2, iv 1] [.int 2, .int 2] _
        refine XS.icmpNo X69.here hx rfl (hb hby at_444) rfl (flt (by decide)).1 ?_
        refine XS.aload X69.here hx rfl (hb hby at_447) rfl rfl ?_
        show Sq p e below m T69 449 #[iv p1, iv p2, iv p3, iv p4, iv p5, iv cp, iv kk0, iv kk1, iv kk2, rv b1, iv 0, iv 0, iv 1, iv v, iv e2, iv 2, iv qv, iv 1, iv 2, iv 0, iv 1, iv 0, rv b32, rv b47, iv 2, iv 1] [.ref b1] _
        refine XS.iconst X69.here hx rfl (hb hby at_449) ?_
        show Sq p e below m T69 450 #[iv p1, iv p2, iv p3, iv p4, iv p5, iv cp, iv kk0, iv kk1, iv kk2, rv b1, iv 0, iv 0, iv 1, iv v, iv e2, iv 2, iv qv, iv 1, iv 2, iv 0, iv 1, iv 0, rv b32, rv b47, iv 2, iv 1] [.int 1, .ref b1] _
        refine st70.trans ?_
        show Sq p e below m T70 453 #[iv p1, iv p2, iv p3, iv p4, iv p5, iv cp, iv kk0, iv kk1, iv kk2, rv b1, iv 0, iv 0, iv 1, iv v, iv e2, iv 2, iv qv, iv 1, iv 2, iv 0, iv 1, iv 0, rv b32, rv b47, iv 2, iv 1] [.int p2] _
        refine XS.aload X70.here hx rfl (hb hby at_453) rfl rfl ?_
        refine XS.iload X70.here hx rfl (hb hby at_455) rfl ?_
        show Sq p e below m T70 457 #[iv p1, iv p2, iv p3, iv p4, iv p5, iv cp, iv kk0, iv kk1, iv kk2, rv b1, iv 0, iv 0, iv 1, iv v, iv e2, iv 2, iv qv, iv 1, iv 2, iv 0, iv 1, iv 0, rv b32, rv b47, iv 2, iv 1] [.int 1, .ref b32, .int p2] _
        refine st71 _ ?_
        show Sq p e below m T70 458 #[iv p1, iv p2, iv p3, iv p4, iv p5, iv cp, iv kk0, iv kk1, iv kk2, rv b1, iv 0, iv 0, iv 1, iv v, iv e2, iv 2, iv qv, iv 1, iv 2, iv 0, iv 1, iv 0, rv b32, rv b47, iv 2, iv 1] [.int p2, .int p2] _
        refine XS.icmpNo X70.here hx rfl (hb hby at_458) rfl (teq (rfl : p2 = p2)).2 ?_
        refine XS.aload X70.here hx rfl (hb hby at_461) rfl rfl ?_
        show Sq p e below m T70 463 #[iv p1, iv p2, iv p3, iv p4, iv p5, iv cp, iv kk0, iv kk1, iv kk2, rv b1, iv 0, iv 0, iv 1, iv v, iv e2, iv 2, iv qv, iv 1, iv 2, iv 0, iv 1, iv 0, rv b32, rv b47, iv 2, iv 1] [.ref b1] _
        refine XS.iconst X70.here hx rfl (hb hby at_463) ?_
        show Sq p e below m T70 464 #[iv p1, iv p2, iv p3, iv p4, iv p5, iv cp, iv kk0, iv kk1, iv kk2, rv b1, iv 0, iv 0, iv 1, iv v, iv e2, iv 2, iv qv, iv 1, iv 2, iv 0, iv 1, iv 0, rv b32, rv b47, iv 2, iv 1] [.int 1, .ref b1] _
        refine st72.trans ?_
        show Sq p e below m T72 467 #[iv p1, iv p2, iv p3, iv p4, iv p5, iv cp, iv kk0, iv kk1, iv kk2, rv b1, iv 0, iv 0, iv 1, iv v, iv e2, iv 2, iv qv, iv 1, iv 2, iv 0, iv 1, iv 0, rv b32, rv b47, iv 2, iv 1] [.int (own_ev kk1 p4)] _
        refine XS.aload X72.here hx rfl (hb hby at_467) rfl rfl ?_
        refine XS.iload X72.here hx rfl (hb hby at_469) rfl ?_
        show Sq p e below m T72 471 #[iv p1, iv p2, iv p3, iv p4, iv p5, iv cp, iv kk0, iv kk1, iv kk2, rv b1, iv 0, iv 0, iv 1, iv v, iv e2, iv 2, iv qv, iv 1, iv 2, iv 0, iv 1, iv 0, rv b32, rv b47, iv 2, iv 1] [.int 1, .ref b47, .int (own_ev kk1 p4)] _
        refine st73 _ ?_
        show Sq p e below m T72 472 #[iv p1, iv p2, iv p3, iv p4, iv p5, iv cp, iv kk0, iv kk1, iv kk2, rv b1, iv 0, iv 0, iv 1, iv v, iv e2, iv 2, iv qv, iv 1, iv 2, iv 0, iv 1, iv 0, rv b32, rv b47, iv 2, iv 1] [.int kk1, .int (own_ev kk1 p4)] _
        refine XS.iloadN X72.here hx rfl (hb hby at_472) rfl ?_
        show Sq p e below m T72 473 #[iv p1, iv p2, iv p3, iv p4, iv p5, iv cp, iv kk0, iv kk1, iv kk2, rv b1, iv 0, iv 0, iv 1, iv v, iv e2, iv 2, iv qv, iv 1, iv 2, iv 0, iv 1, iv 0, rv b32, rv b47, iv 2, iv 1] [.int p4, .int kk1, .int (own_ev kk1 p4)] _
        refine st74 _ ?_
        show Sq p e below m T74 476 #[iv p1, iv p2, iv p3, iv p4, iv p5, iv cp, iv kk0, iv kk1, iv kk2, rv b1, iv 0, iv 0, iv 1, iv v, iv e2, iv 2, iv qv, iv 1, iv 2, iv 0, iv 1, iv 0, rv b32, rv b47, iv 2, iv 1] [.int (own_ev kk1 p4), .int (own_ev kk1 p4)] _
        refine XS.icmpNo X74.here hx rfl (hb hby at_476) rfl (teq (rfl : (own_ev kk1 p4) = (own_ev kk1 p4))).2 ?_
        refine XS.iconst X74.here hx rfl (hb hby at_479) ?_
        show Sq p e below m T74 480 #[iv p1, iv p2, iv p3, iv p4, iv p5, iv cp, iv kk0, iv kk1, iv kk2, rv b1, iv 0, iv 0, iv 1, iv v, iv e2, iv 2, iv qv, iv 1, iv 2, iv 0, iv 1, iv 0, rv b32, rv b47, iv 2, iv 1] [.int 1] _
        refine XS.goto X74.here hx rfl (pc0 := 480) (pc' := 484) rfl (hb hby at_480) (by decide) (by decide) ?_
        refine XS.istore X74.here hx rfl (hb hby at_484) rfl rfl ?_
        show Sq p e below m T74 486 #[iv p1, iv p2, iv p3, iv p4, iv p5, iv cp, iv kk0, iv kk1, iv kk2, rv b1, iv 0, iv 0, iv 1, iv v, iv e2, iv 2, iv qv, iv 1, iv 2, iv 0, iv 1, iv 0, rv b32, rv b47, iv 2, iv 1] [] _
        refine XS.iload X74.here hx rfl (hb hby at_486) rfl ?_
        refine XS.ifNo X74.here hx rfl (hb hby at_488) rfl ((if0 _ _).trans (feq (by decide)).1) ?_
        show Sq p e below m T74 491 #[iv p1, iv p2, iv p3, iv p4, iv p5, iv cp, iv kk0, iv kk1, iv kk2, rv b1, iv 0, iv 0, iv 1, iv v, iv e2, iv 2, iv qv, iv 1, iv 2, iv 0, iv 1, iv 0, rv b32, rv b47, iv 2, iv 1] [] _
        refine XS.iload X74.here hx rfl (hb hby at_491) rfl ?_
        refine XS.iconst X74.here hx rfl (hb hby at_493) ?_
        show Sq p e below m T74 494 #[iv p1, iv p2, iv p3, iv p4, iv p5, iv cp, iv kk0, iv kk1, iv kk2, rv b1, iv 0, iv 0, iv 1, iv v, iv e2, iv 2, iv qv, iv 1, iv 2, iv 0, iv 1, iv 0, rv b32, rv b47, iv 2, iv 1] [.int 3, .int 2] _
        refine XS.icmpYes X74.here hx rfl (pc0 := 494) (pc' := 536) rfl (hb hby at_494) rfl (tlt (by decide)).1 (by decide) (by decide) ?_
        refine XS.iload X74.here hx rfl (hb hby at_536) rfl ?_
        show Sq p e below m T74 538 #[iv p1, iv p2, iv p3, iv p4, iv p5, iv cp, iv kk0, iv kk1, iv kk2, rv b1, iv 0, iv 0, iv 1, iv v, iv e2, iv 2, iv qv, iv 1, iv 2, iv 0, iv 1, iv 0, rv b32, rv b47, iv 2, iv 1] [.int 1] _
        exact retN X74 hx (t := .boolean) Bd.returns (by simp) (hb hby at_538) hr
      · show Q_rm0 Z p1 p2 p3 p4 p5 cp kk0 kk1 kk2 v qv w_MIR h0 n0 _ T74.heap _
        rw [e74]
        exact ⟨rfl, N74⟩
  · obtain ⟨T31, h31, k31, X31, e31, E31, A31, A31x, st31⟩ := newPE X26 hx hZ (W 9 rfl) e26 (g := (mkF m 327 #[iv p1, iv p2, iv p3, iv p4, iv p5, iv cp, iv kk0, iv kk1, iv kk2, rv b1, iv 0, iv e1, iv 1, iv v, iv e2, iv 2, iv qv, iv 0, iv 1, iv 0, iv 0, iv 0, .unset, .unset, .unset, .unset] [.int 3])) rfl (hb hby at_327) rfl (by decide) (cap := 3) (by decide) (by decide) (by decide) (by decide) (ad := "[I") (by decide)
    obtain ⟨b31, g31⟩ : ∃ z, z = h26.size := ⟨_, rfl⟩
    rw [← g31] at A31 A31x st31
    have g_b31 : n0 ≤ b31 := Nat.le_trans (own_sz O27) (Nat.le_of_eq g31.symm)
    have ne_b1_b31 : b1 ≠ b31 := Nat.ne_of_lt (Nat.lt_of_lt_of_le A1.lt (Nat.le_of_eq g31.symm))
    have ne_b26lo__b31 : b26lo' ≠ b31 := Nat.ne_of_lt (Nat.lt_of_lt_of_le p26_8.lt (Nat.le_of_eq g31.symm))
    have ne_b26ea__b31 : b26ea' ≠ b31 := Nat.ne_of_lt (Nat.lt_of_lt_of_le p26_9.lt (Nat.le_of_eq g31.symm))
    have ne_b26li__b31 : b26li' ≠ b31 := Nat.ne_of_lt (Nat.lt_of_lt_of_le p26_12.lt (Nat.le_of_eq g31.symm))
    have A1 := A1.ext E31
    have p26_1 := p26_1.ext E31
    have p26_2 := p26_2.ext E31
    have p26_5 := p26_5.ext E31
    have p26_7 := p26_7.ext E31
    have p26_8 := p26_8.ext E31
    have p26_9 := p26_9.ext E31
    have p26_12 := p26_12.ext E31
    have O32 := O27.ext E31
    have V31 : Arv Z h31 b31 k31 .int (3 : Int32) [(.int (0 : Int32)), (.int (0 : Int32)), (.int (0 : Int32))] (.int (0 : Int32)) := (Arv.new A31 (by decide)).pad (pad_rep [] (.int (0 : Int32)) 3)
    obtain ⟨cl34, Ar34, q34, S34, Ng34, Hh34, Gg34⟩ := id V31
    obtain ⟨T34, h34, X34, e34, W34, st34⟩ := stI X31 hx hZ e31 Ar34 (j := (0 : Int32)) (inb_of S34 (by decide)) (g := (mkF m 332 #[iv p1, iv p2, iv p3, iv p4, iv p5, iv cp, iv kk0, iv kk1, iv kk2, rv b1, iv 0, iv e1, iv 1, iv v, iv e2, iv 2, iv qv, iv 0, iv 1, iv 0, iv 0, iv 0, .unset, .unset, .unset, .unset] [.int p1, .int 0, .ref b31, .ref b31])) rfl rfl (hb hby at_332)
    have V34 : Arv Z h34 b31 k31 .int (3 : Int32) [(.int p1), (.int (0 : Int32)), (.int (0 : Int32))] (.int (0 : Int32)) := Arv.set Ar34 q34 S34 Ng34 Hh34 Gg34 rfl W34 0 rfl (Nat.le_of_ble_eq_true rfl)
    have A1 := A1.wr W34
    have p26_1 := p26_1.other W34 (Or.inl ne_b1_b31)
    have p26_2 := p26_2.other W34 (Or.inl ne_b1_b31)
    have p26_5 := p26_5.other W34 (Or.inl ne_b1_b31)
    have p26_7 := p26_7.other W34 (Or.inl ne_b1_b31)
    have p26_8 := p26_8.other W34 ne_b26lo__b31
    have p26_9 := p26_9.other W34 ne_b26ea__b31
    have p26_12 := p26_12.other W34 ne_b26li__b31
    have A31x := A31x.wr W34
    have O35 := O32.wr W34 g_b31
    have N37 := Fr.snoc X34 N26 g_b31
    obtain ⟨cl38, Ar38, q38, S38, Ng38, Hh38, Gg38⟩ := id V34
    obtain ⟨T38, h38, X38, e38, W38, st38⟩ := stI X34 hx hZ e34 Ar38 (j := (1 : Int32)) (inb_of S38 (by decide)) (g := (mkF m 336 #[iv p1, iv p2, iv p3, iv p4, iv p5, iv cp, iv kk0, iv kk1, iv kk2, rv b1, iv 0, iv e1, iv 1, iv v, iv e2, iv 2, iv qv, iv 0, iv 1, iv 0, iv 0, iv 0, .unset, .unset, .unset, .unset] [.int p2, .int 1, .ref b31, .ref b31])) rfl rfl (hb hby at_336)
    have V38 : Arv Z h38 b31 k31 .int (3 : Int32) [(.int p1), (.int p2), (.int (0 : Int32))] (.int (0 : Int32)) := Arv.set Ar38 q38 S38 Ng38 Hh38 Gg38 rfl W38 1 rfl (Nat.le_of_ble_eq_true rfl)
    have A1 := A1.wr W38
    have p26_1 := p26_1.other W38 (Or.inl ne_b1_b31)
    have p26_2 := p26_2.other W38 (Or.inl ne_b1_b31)
    have p26_5 := p26_5.other W38 (Or.inl ne_b1_b31)
    have p26_7 := p26_7.other W38 (Or.inl ne_b1_b31)
    have p26_8 := p26_8.other W38 ne_b26lo__b31
    have p26_9 := p26_9.other W38 ne_b26ea__b31
    have p26_12 := p26_12.other W38 ne_b26li__b31
    have A31x := A31x.wr W38
    have O39 := O35.wr W38 g_b31
    have N41 := Fr.snoc X38 N37 g_b31
    obtain ⟨cl42, Ar42, q42, S42, Ng42, Hh42, Gg42⟩ := id V38
    obtain ⟨T42, h42, X42, e42, W42, st42⟩ := stI X38 hx hZ e38 Ar42 (j := (2 : Int32)) (inb_of S42 (by decide)) (g := (mkF m 340 #[iv p1, iv p2, iv p3, iv p4, iv p5, iv cp, iv kk0, iv kk1, iv kk2, rv b1, iv 0, iv e1, iv 1, iv v, iv e2, iv 2, iv qv, iv 0, iv 1, iv 0, iv 0, iv 0, .unset, .unset, .unset, .unset] [.int p3, .int 2, .ref b31, .ref b31])) rfl rfl (hb hby at_340)
    have V42 : Arv Z h42 b31 k31 .int (3 : Int32) [(.int p1), (.int p2), (.int p3)] (.int (0 : Int32)) := Arv.set Ar42 q42 S42 Ng42 Hh42 Gg42 rfl W42 2 rfl (Nat.le_of_ble_eq_true rfl)
    have A1 := A1.wr W42
    have p26_1 := p26_1.other W42 (Or.inl ne_b1_b31)
    have p26_2 := p26_2.other W42 (Or.inl ne_b1_b31)
    have p26_5 := p26_5.other W42 (Or.inl ne_b1_b31)
    have p26_7 := p26_7.other W42 (Or.inl ne_b1_b31)
    have p26_8 := p26_8.other W42 ne_b26lo__b31
    have p26_9 := p26_9.other W42 ne_b26ea__b31
    have p26_12 := p26_12.other W42 ne_b26li__b31
    have A31x := A31x.wr W42
    have O43 := O39.wr W42 g_b31
    have N45 := Fr.snoc X42 N41 g_b31
    obtain ⟨T46, h46, k46, X46, e46, E46, A46, A46x, st46⟩ := newPE X42 hx hZ (W 9 rfl) e42 (g := (mkF m 344 #[iv p1, iv p2, iv p3, iv p4, iv p5, iv cp, iv kk0, iv kk1, iv kk2, rv b1, iv 0, iv e1, iv 1, iv v, iv e2, iv 2, iv qv, iv 0, iv 1, iv 0, iv 0, iv 0, rv b31, .unset, .unset, .unset] [.int 3])) rfl (hb hby at_344) rfl (by decide) (cap := 3) (by decide) (by decide) (by decide) (by decide) (ad := "[I") (by decide)
    obtain ⟨b46, g46⟩ : ∃ z, z = h42.size := ⟨_, rfl⟩
    rw [← g46] at A46 A46x st46
    have g_b46 : n0 ≤ b46 := Nat.le_trans (own_sz O43) (Nat.le_of_eq g46.symm)
    have ne_b1_b46 : b1 ≠ b46 := Nat.ne_of_lt (Nat.lt_of_lt_of_le A1.lt (Nat.le_of_eq g46.symm))
    have ne_b26lo__b46 : b26lo' ≠ b46 := Nat.ne_of_lt (Nat.lt_of_lt_of_le p26_8.lt (Nat.le_of_eq g46.symm))
    have ne_b26ea__b46 : b26ea' ≠ b46 := Nat.ne_of_lt (Nat.lt_of_lt_of_le p26_9.lt (Nat.le_of_eq g46.symm))
    have ne_b26li__b46 : b26li' ≠ b46 := Nat.ne_of_lt (Nat.lt_of_lt_of_le p26_12.lt (Nat.le_of_eq g46.symm))
    have ne_b31_b46 : b31 ≠ b46 := Nat.ne_of_lt (Nat.lt_of_lt_of_le A31x.lt (Nat.le_of_eq g46.symm))
    have A1 := A1.ext E46
    have p26_1 := p26_1.ext E46
    have p26_2 := p26_2.ext E46
    have p26_5 := p26_5.ext E46
    have p26_7 := p26_7.ext E46
    have p26_8 := p26_8.ext E46
    have p26_9 := p26_9.ext E46
    have p26_12 := p26_12.ext E46
    have V42 := V42.ext E46
    have O47 := O43.ext E46
    have V46 : Arv Z h46 b46 k46 .int (3 : Int32) [(.int (0 : Int32)), (.int (0 : Int32)), (.int (0 : Int32))] (.int (0 : Int32)) := (Arv.new A46 (by decide)).pad (pad_rep [] (.int (0 : Int32)) 3)
    obtain ⟨cl49, Ar49, q49, S49, Ng49, Hh49, Gg49⟩ := id V46
    obtain ⟨T49, h49, X49, e49, W49, st49⟩ := stI X46 hx hZ e46 Ar49 (j := (0 : Int32)) (inb_of S49 (by decide)) (g := (mkF m 350 #[iv p1, iv p2, iv p3, iv p4, iv p5, iv cp, iv kk0, iv kk1, iv kk2, rv b1, iv 0, iv e1, iv 1, iv v, iv e2, iv 2, iv qv, iv 0, iv 1, iv 0, iv 0, iv 0, rv b31, .unset, .unset, .unset] [.int kk0, .int 0, .ref b46, .ref b46])) rfl rfl (hb hby at_350)
    have V49 : Arv Z h49 b46 k46 .int (3 : Int32) [(.int kk0), (.int (0 : Int32)), (.int (0 : Int32))] (.int (0 : Int32)) := Arv.set Ar49 q49 S49 Ng49 Hh49 Gg49 rfl W49 0 rfl (Nat.le_of_ble_eq_true rfl)
    have A1 := A1.wr W49
    have p26_1 := p26_1.other W49 (Or.inl ne_b1_b46)
    have p26_2 := p26_2.other W49 (Or.inl ne_b1_b46)
    have p26_5 := p26_5.other W49 (Or.inl ne_b1_b46)
    have p26_7 := p26_7.other W49 (Or.inl ne_b1_b46)
    have p26_8 := p26_8.other W49 ne_b26lo__b46
    have p26_9 := p26_9.other W49 ne_b26ea__b46
    have p26_12 := p26_12.other W49 ne_b26li__b46
    have V42 := V42.other W49 ne_b31_b46
    have O50 := O47.wr W49 g_b46
    have N52 := Fr.snoc X49 N45 g_b46
    obtain ⟨cl53, Ar53, q53, S53, Ng53, Hh53, Gg53⟩ := id V49
    obtain ⟨T53, h53, X53, e53, W53, st53⟩ := stI X49 hx hZ e49 Ar53 (j := (1 : Int32)) (inb_of S53 (by decide)) (g := (mkF m 355 #[iv p1, iv p2, iv p3, iv p4, iv p5, iv cp, iv kk0, iv kk1, iv kk2, rv b1, iv 0, iv e1, iv 1, iv v, iv e2, iv 2, iv qv, iv 0, iv 1, iv 0, iv 0, iv 0, rv b31, .unset, .unset, .unset] [.int kk1, .int 1, .ref b46, .ref b46])) rfl rfl (hb hby at_355)
    have V53 : Arv Z h53 b46 k46 .int (3 : Int32) [(.int kk0), (.int kk1), (.int (0 : Int32))] (.int (0 : Int32)) := Arv.set Ar53 q53 S53 Ng53 Hh53 Gg53 rfl W53 1 rfl (Nat.le_of_ble_eq_true rfl)
    have A1 := A1.wr W53
    have p26_1 := p26_1.other W53 (Or.inl ne_b1_b46)
    have p26_2 := p26_2.other W53 (Or.inl ne_b1_b46)
    have p26_5 := p26_5.other W53 (Or.inl ne_b1_b46)
    have p26_7 := p26_7.other W53 (Or.inl ne_b1_b46)
    have p26_8 := p26_8.other W53 ne_b26lo__b46
    have p26_9 := p26_9.other W53 ne_b26ea__b46
    have p26_12 := p26_12.other W53 ne_b26li__b46
    have V42 := V42.other W53 ne_b31_b46
    have O54 := O50.wr W53 g_b46
    have N56 := Fr.snoc X53 N52 g_b46
    obtain ⟨cl57, Ar57, q57, S57, Ng57, Hh57, Gg57⟩ := id V53
    obtain ⟨T57, h57, X57, e57, W57, st57⟩ := stI X53 hx hZ e53 Ar57 (j := (2 : Int32)) (inb_of S57 (by decide)) (g := (mkF m 360 #[iv p1, iv p2, iv p3, iv p4, iv p5, iv cp, iv kk0, iv kk1, iv kk2, rv b1, iv 0, iv e1, iv 1, iv v, iv e2, iv 2, iv qv, iv 0, iv 1, iv 0, iv 0, iv 0, rv b31, .unset, .unset, .unset] [.int kk2, .int 2, .ref b46, .ref b46])) rfl rfl (hb hby at_360)
    have V57 : Arv Z h57 b46 k46 .int (3 : Int32) [(.int kk0), (.int kk1), (.int kk2)] (.int (0 : Int32)) := Arv.set Ar57 q57 S57 Ng57 Hh57 Gg57 rfl W57 2 rfl (Nat.le_of_ble_eq_true rfl)
    have A1 := A1.wr W57
    have p26_1 := p26_1.other W57 (Or.inl ne_b1_b46)
    have p26_2 := p26_2.other W57 (Or.inl ne_b1_b46)
    have p26_5 := p26_5.other W57 (Or.inl ne_b1_b46)
    have p26_7 := p26_7.other W57 (Or.inl ne_b1_b46)
    have p26_8 := p26_8.other W57 ne_b26lo__b46
    have p26_9 := p26_9.other W57 ne_b26ea__b46
    have p26_12 := p26_12.other W57 ne_b26li__b46
    have V42 := V42.other W57 ne_b31_b46
    have O58 := O54.wr W57 g_b46
    have N60 := Fr.snoc X57 N56 g_b46
    obtain ⟨cq61, kq61, q61a, q61b, q61c⟩ := isOf hZ e57 A1
    obtain ⟨_, _, ⟨T61, L61, k61, n61⟩, -, X61, ⟨Lc61, hQ61, l61, y61, z61⟩, st61⟩ := X57.virtualBack hx (y := y_8) (z := y_8) hown (mvT hZ (W 67 rfl)) (mvT hZ (W 68 rfl)) (notFace_of_selects (args := #[]) (mvT hZ (W 70 rfl))) (mvT hZ (W 70 rfl)) (mvT hZ (W 69 rfl)) (by decide) (backOf (W := 0) (path0 l Z a0 hw [] b1 b26n' b26lo' b26ea' b26li' b26kl' b26ke' b26ki' p1 kk0 p2 kk1 p3 kk2 e1 e2 h57 n0 O58 p26_1 p26_2 p26_5 p26_8 p26_9 p26_12 p26_18 p26_22 p26_25 p26_33 p26_34) hZ (W 71 rfl) (W 2 rfl) (by decide) (by decide)) q61a q61c (g := (mkF m 367 #[iv p1, iv p2, iv p3, iv p4, iv p5, iv cp, iv kk0, iv kk1, iv kk2, rv b1, iv 0, iv e1, iv 1, iv v, iv e2, iv 2, iv qv, iv 0, iv 1, iv 0, iv 0, iv 0, rv b31, rv b46, .unset, .unset] [.int 0, .ref b1])) rfl (by rw [hml]; rfl) (Steps.refl _) (argsL := [.int 0]) (rest := []) (lenOf pd_6 rfl) rfl (by show 2 * 0 + _ ≤ _; exact Nat.le_of_eq rfl) (hb hby at_367) (fun _ _ => ⟨rfl, e57, (by decide : 24 + 0 ≤ _), (by decide : 435 + 0 ≤ _)⟩)
    dsimp only [Pt.U, Pt.locs, Pt.cells, Pt.slots] at X61 l61 y61 z61 st61 hQ61
    subst l61 y61 z61
    obtain ⟨h61, e61⟩ : ∃ z, T61.heap = z := ⟨_, rfl⟩
    rw [e61] at hQ61
    obtain ⟨rfl, N61q, p61_0, p61_1⟩ := hQ61
    have N61 := Fr.app N60 N61q
    have A1 := A1.keep p61_0
    have p26_5 := p26_5.keep p61_0 (ninS p26_33 nin0)
    have p26_7 := p26_7.keep p61_0 (ninS p26_33 nin0)
    have V42 := V42.keep p61_0 (ninS (Ne.symm ne_b26li__b31) nin0)
    have V57 := V57.keep p61_0 (ninS (Ne.symm ne_b26li__b46) nin0)
    have O62 := O58.keep p61_0 (allS p26_18 all0)
    obtain ⟨cq64, kq64, q64a, q64b, q64c⟩ := isOf hZ e61 A1
    obtain ⟨_, _, ⟨T64, L64, k64, n64⟩, -, X64, ⟨Lc64, hQ64, l64, y64, z64⟩, st64⟩ := X61.virtualBack hx (y := y_11) (z := y_11) hown (mvT hZ (W 72 rfl)) (mvT hZ (W 73 rfl)) (notFace_of_selects (args := #[]) (mvT hZ (W 75 rfl))) (mvT hZ (W 75 rfl)) (mvT hZ (W 74 rfl)) (by decide) (backOf (W := 0) (slot0 l Z a0 hw [] b1 b26li' b26ki' b26n' p1 (.int kk0) (.int (0 : Int32)) (.int (0 : Int32)) (.int (0 : Int32)) (.int (0 : Int32)) h61 n0 O62 p26_5 p61_1 p26_34) hZ (W 76 rfl) (W 2 rfl) (by decide) (by decide)) q64a q64c (g := (mkF m 400 #[iv p1, iv p2, iv p3, iv p4, iv p5, iv cp, iv kk0, iv kk1, iv kk2, rv b1, iv 0, iv e1, iv 1, iv v, iv e2, iv 2, iv qv, iv 0, iv 1, iv 0, iv 0, iv 0, rv b31, rv b46, iv 1, iv 1] [.int 0, .ref b1])) rfl (by rw [hml]; rfl) (Steps.refl _) (argsL := [.int 0]) (rest := []) (lenOf pd_6 rfl) rfl (by show 2 * 0 + _ ≤ _; exact Nat.le_of_eq rfl) (hb hby at_400) (fun _ _ => ⟨rfl, e61, (by decide : 24 + 0 ≤ _), (by decide : 435 + 0 ≤ _)⟩)
    dsimp only [Pt.U, Pt.locs, Pt.cells, Pt.slots] at X64 l64 y64 z64 st64 hQ64
    subst l64 y64 z64
    obtain ⟨h64, e64⟩ : ∃ z, T64.heap = z := ⟨_, rfl⟩
    rw [e64] at hQ64
    obtain ⟨rfl, N64q, p64_0⟩ := hQ64
    have N64 := Fr.app N61 N64q
    rw [p64_0] at e64
    obtain ⟨cl65, Ar65, q65, S65, Ng65, Hh65, Gg65⟩ := id V42
    have st65 := X64.iaload hx (j := (0 : Int32)) (v := (.int p1)) (by rw [e64]; exact Ar65.1) (State.isArrayOf_alike hZ.alike Ar65.2.1) Ar65.2.2 (inb_of S65 (by decide)) (Hh65.at (inb_of S65 (by decide)) rfl) (g := (mkF m 407 #[iv p1, iv p2, iv p3, iv p4, iv p5, iv cp, iv kk0, iv kk1, iv kk2, rv b1, iv 0, iv e1, iv 1, iv v, iv e2, iv 2, iv qv, iv 0, iv 1, iv 0, iv 0, iv 0, rv b31, rv b46, iv 1, iv 1] [.int 0, .ref b31, .int p1])) rfl rfl (hb hby at_407)
    obtain ⟨cq66, kq66, q66a, q66b, q66c⟩ := isOf hZ e64 A1
    obtain ⟨_, _, ⟨T66, L66, k66, n66⟩, -, X66, ⟨Lc66, hQ66, l66, y66, z66⟩, st66⟩ := X64.virtualBack hx (y := y_12) (z := y_12) hown (mvT hZ (W 77 rfl)) (mvT hZ (W 78 rfl)) (notFace_of_selects (args := #[]) (mvT hZ (W 80 rfl))) (mvT hZ (W 80 rfl)) (mvT hZ (W 79 rfl)) (by decide) (backOf (W := 0) (valu0 l Z a0 hw [] b1 b26li' b26ki' b26n' kk0 p4 (.int p1) (.int (0 : Int32)) (.int (0 : Int32)) (.int (0 : Int32)) (.int (0 : Int32)) h61 n0 O62 p26_5 p26_7 p61_1 p26_34) hZ (W 81 rfl) (W 2 rfl) (by decide) (by decide)) q66a q66c (g := (mkF m 414 #[iv p1, iv p2, iv p3, iv p4, iv p5, iv cp, iv kk0, iv kk1, iv kk2, rv b1, iv 0, iv e1, iv 1, iv v, iv e2, iv 2, iv qv, iv 0, iv 1, iv 0, iv 0, iv 0, rv b31, rv b46, iv 1, iv 1] [.int 0, .ref b1])) rfl (by rw [hml]; rfl) (Steps.refl _) (argsL := [.int 0]) (rest := []) (lenOf pd_6 rfl) rfl (by show 2 * 0 + _ ≤ _; exact Nat.le_of_eq rfl) (hb hby at_414) (fun _ _ => ⟨rfl, e64, (by decide : 24 + 0 ≤ _), (by decide : 435 + 0 ≤ _)⟩)
    dsimp only [Pt.U, Pt.locs, Pt.cells, Pt.slots] at X66 l66 y66 z66 st66 hQ66
    subst l66 y66 z66
    obtain ⟨h66, e66⟩ : ∃ z, T66.heap = z := ⟨_, rfl⟩
    rw [e66] at hQ66
    obtain ⟨rfl, N66q, p66_0⟩ := hQ66
    have N66 := Fr.app N64 N66q
    rw [p66_0] at e66
    obtain ⟨cl67, Ar67, q67, S67, Ng67, Hh67, Gg67⟩ := id V57
    have st67 := X66.iaload hx (j := (0 : Int32)) (v := (.int kk0)) (by rw [e66]; exact Ar67.1) (State.isArrayOf_alike hZ.alike Ar67.2.1) Ar67.2.2 (inb_of S67 (by decide)) (Hh67.at (inb_of S67 (by decide)) rfl) (g := (mkF m 421 #[iv p1, iv p2, iv p3, iv p4, iv p5, iv cp, iv kk0, iv kk1, iv kk2, rv b1, iv 0, iv e1, iv 1, iv v, iv e2, iv 2, iv qv, iv 0, iv 1, iv 0, iv 0, iv 0, rv b31, rv b46, iv 1, iv 1] [.int 0, .ref b46, .int (own_ev kk0 p4)])) rfl rfl (hb hby at_421)
    obtain ⟨_, _, ⟨T68, L68, k68, n68⟩, -, X68, ⟨Lc68, hQ68, l68, y68, z68⟩, st68⟩ := Jvm.LawKit.callS X66 hx (y := y_10) hown (mvT hZ (W 86 rfl)) (mvT hZ (W 87 rfl)) (mvT hZ (W 88 rfl)) (mvT hZ (W 89 rfl)) (by decide) (backOf (W := 1) (expval l Z a0 hw [] kk0 p4 h61 n0 O62 ) hZ (W 89 rfl) (W 88 rfl) (by decide) (by decide)) (g := (mkF m 423 #[iv p1, iv p2, iv p3, iv p4, iv p5, iv cp, iv kk0, iv kk1, iv kk2, rv b1, iv 0, iv e1, iv 1, iv v, iv e2, iv 2, iv qv, iv 0, iv 1, iv 0, iv 0, iv 0, rv b31, rv b46, iv 1, iv 1] [.int p4, .int kk0, .int (own_ev kk0 p4)])) rfl (by rw [hml]; rfl) (argsL := [.int kk0, .int p4]) (rest := [.int (own_ev kk0 p4)]) (lenOf pd_0 rfl) rfl (by show 2 * 0 + _ ≤ _; exact Nat.le_of_eq rfl) (hb hby at_423) (fun _ _ => ⟨rfl, e66, (by decide : 24 + 0 ≤ _), (by decide : 435 + 0 ≤ _)⟩)
    dsimp only [Pt.U, Pt.locs, Pt.cells, Pt.slots] at X68 l68 y68 z68 st68 hQ68
    subst l68 y68 z68
    obtain ⟨h68, e68⟩ : ∃ z, T68.heap = z := ⟨_, rfl⟩
    rw [e68] at hQ68
    obtain ⟨rfl, N68q, p68_0⟩ := hQ68
    have N68 := Fr.app N66 N68q
    rw [p68_0] at e68
    obtain ⟨fs, hr, hrun, hended, hW, hsame⟩ := X68.leave (v := some (.int (1 : Int32))) (fun h => by rw [Bd.returns] at h; cases h)
    refine ⟨_, _, pre30 _ ?_, hrun, hended, _, _, rfl, ?_, ⟨_, rfl⟩, hW, hsame.mono (by decide) (by decide)⟩
    · show Sq p e below m T26 193 #[iv p1, iv p2, iv p3, iv p4, iv p5, iv cp, iv kk0, iv kk1, iv kk2, rv b1, iv 0, iv e1, iv 1, iv v, iv e2, iv 2, iv qv, iv 0, .unset, .unset, .unset, .unset, .unset, .unset, .unset, .unset] [] _
      refine XS.iconst X26.here hx rfl (hb hby at_193) ?_
      refine XS.istore X26.here hx rfl (hb hby at_194) rfl rfl ?_
      show Sq p e below m T26 196 #[iv p1, iv p2, iv p3, iv p4, iv p5, iv cp, iv kk0, iv kk1, iv kk2, rv b1, iv 0, iv e1, iv 1, iv v, iv e2, iv 2, iv qv, iv 0, iv 0, .unset, .unset, .unset, .unset, .unset, .unset, .unset] [] _
      refine XS.iconst X26.here hx rfl (hb hby at_196) ?_
      refine XS.istore X26.here hx rfl (hb hby at_197) rfl rfl ?_
      show Sq p e below m T26 199 #[iv p1, iv p2, iv p3, iv p4, iv p5, iv cp, iv kk0, iv kk1, iv kk2, rv b1, iv 0, iv e1, iv 1, iv v, iv e2, iv 2, iv qv, iv 0, iv 0, iv 0, .unset, .unset, .unset, .unset, .unset, .unset] [] _
      refine XS.iconst X26.here hx rfl (hb hby at_199) ?_
      refine XS.istore X26.here hx rfl (hb hby at_200) rfl rfl ?_
      show Sq p e below m T26 202 #[iv p1, iv p2, iv p3, iv p4, iv p5, iv cp, iv kk0, iv kk1, iv kk2, rv b1, iv 0, iv e1, iv 1, iv v, iv e2, iv 2, iv qv, iv 0, iv 0, iv 0, iv 0, .unset, .unset, .unset, .unset, .unset] [] _
      refine XS.iconst X26.here hx rfl (hb hby at_202) ?_
      refine XS.istore X26.here hx rfl (hb hby at_203) rfl rfl ?_
      show Sq p e below m T26 205 #[iv p1, iv p2, iv p3, iv p4, iv p5, iv cp, iv kk0, iv kk1, iv kk2, rv b1, iv 0, iv e1, iv 1, iv v, iv e2, iv 2, iv qv, iv 0, iv 0, iv 0, iv 0, iv 0, .unset, .unset, .unset, .unset] [] _
      refine XS.iload X26.here hx rfl (hb hby at_205) rfl ?_
      refine XS.iconst X26.here hx rfl (hb hby at_207) ?_
      show Sq p e below m T26 208 #[iv p1, iv p2, iv p3, iv p4, iv p5, iv cp, iv kk0, iv kk1, iv kk2, rv b1, iv 0, iv e1, iv 1, iv v, iv e2, iv 2, iv qv, iv 0, iv 0, iv 0, iv 0, iv 0, .unset, .unset, .unset, .unset] [.int (-1), .int 0] _
      refine XS.icmpYes X26.here hx rfl (pc0 := 208) (pc' := 217) rfl (hb hby at_208) rfl (feq (by decide)).2 (by decide) (by decide) ?_
      refine XS.iload X26.here hx rfl (hb hby at_217) rfl ?_
      show Sq p e below m T26 219 #[iv p1, iv p2, iv p3, iv p4, iv p5, iv cp, iv kk0, iv kk1, iv kk2, rv b1, iv 0, iv e1, iv 1, iv v, iv e2, iv 2, iv qv, iv 0, iv 0, iv 0, iv 0, iv 0, .unset, .unset, .unset, .unset] [.int 0] _
      refine XS.ifNo X26.here hx rfl (hb hby at_219) rfl ((if0 _ _).trans (teq (rfl : (0 : Int32) = (0 : Int32))).2) ?_
      refine XS.iconst X26.here hx rfl (hb hby at_222) ?_
      show Sq p e below m T26 223 #[iv p1, iv p2, iv p3, iv p4, iv p5, iv cp, iv kk0, iv kk1, iv kk2, rv b1, iv 0, iv e1, iv 1, iv v, iv e2, iv 2, iv qv, iv 0, iv 0, iv 0, iv 0, iv 0, .unset, .unset, .unset, .unset] [.int 1] _
      refine XS.istore X26.here hx rfl (hb hby at_223) rfl rfl ?_
      refine XS.iconst X26.here hx rfl (hb hby at_225) ?_
      show Sq p e below m T26 226 #[iv p1, iv p2, iv p3, iv p4, iv p5, iv cp, iv kk0, iv kk1, iv kk2, rv b1, iv 0, iv e1, iv 1, iv v, iv e2, iv 2, iv qv, iv 0, iv 1, iv 0, iv 0, iv 0, .unset, .unset, .unset, .unset] [.int 0] _
      refine XS.istore X26.here hx rfl (hb hby at_226) rfl rfl ?_
      refine XS.goto X26.here hx rfl (pc0 := 228) (pc' := 326) rfl (hb hby at_228) (by decide) (by decide) ?_
      show Sq p e below m T26 326 #[iv p1, iv p2, iv p3, iv p4, iv p5, iv cp, iv kk0, iv kk1, iv kk2, rv b1, iv 0, iv e1, iv 1, iv v, iv e2, iv 2, iv qv, iv 0, iv 1, iv 0, iv 0, iv 0, .unset, .unset, .unset, .unset] [] _
      refine XS.iconst X26.here hx rfl (hb hby at_326) ?_
      show Sq p e below m T26 327 #[iv p1, iv p2, iv p3, iv p4, iv p5, iv cp, iv kk0, iv kk1, iv kk2, rv b1, iv 0, iv e1, iv 1, iv v, iv e2, iv 2, iv qv, iv 0, iv 1, iv 0, iv 0, iv 0, .unset, .unset, .unset, .unset] [.int 3] _
      refine st31 _ ?_
      show Sq p e below m T31 329 #[iv p1, iv p2, iv p3, iv p4, iv p5, iv cp, iv kk0, iv kk1, iv kk2, rv b1, iv 0, iv e1, iv 1, iv v, iv e2, iv 2, iv qv, iv 0, iv 1, iv 0, iv 0, iv 0, .unset, .unset, .unset, .unset] [.ref b31] _
      refine XS.dup X31.here hx rfl (hb hby at_329) rfl rfl ?_
      refine XS.iconst X31.here hx rfl (hb hby at_330) ?_
      show Sq p e below m T31 331 #[iv p1, iv p2, iv p3, iv p4, iv p5, iv cp, iv kk0, iv kk1, iv kk2, rv b1, iv 0, iv e1, iv 1, iv v, iv e2, iv 2, iv qv, iv 0, iv 1, iv 0, iv 0, iv 0, .unset, .unset, .unset, .unset] [.int 0, .ref b31, .ref b31] _
      refine XS.iloadN X31.here hx rfl (hb hby at_331) rfl ?_
      show Sq p e below m T31 332 #[iv p1, iv p2, iv p3, iv p4, iv p5, iv cp, iv kk0, iv kk1, iv kk2, rv b1, iv 0, iv e1, iv 1, iv v, iv e2, iv 2, iv qv, iv 0, iv 1, iv 0, iv 0, iv 0, .unset, .unset, .unset, .unset] [.int p1, .int 0, .ref b31, .ref b31] _
      refine st34 _ ?_
      show Sq p e below m T34 333 #[iv p1, iv p2, iv p3, iv p4, iv p5, iv cp, iv kk0, iv kk1, iv kk2, rv b1, iv 0, iv e1, iv 1, iv v, iv e2, iv 2, iv qv, iv 0, iv 1, iv 0, iv 0, iv 0, .unset, .unset, .unset, .unset] [.ref b31] _
      refine XS.dup X34.here hx rfl (hb hby at_333) rfl rfl ?_
      refine XS.iconst X34.here hx rfl (hb hby at_334) ?_
      show Sq p e below m T34 335 #[iv p1, iv p2, iv p3, iv p4, iv p5, iv cp, iv kk0, iv kk1, iv kk2, rv b1, iv 0, iv e1, iv 1, iv v, iv e2, iv 2, iv qv, iv 0, iv 1, iv 0, iv 0, iv 0, .unset, .unset, .unset, .unset] [.int 1, .ref b31, .ref b31] _
      refine XS.iloadN X34.here hx rfl (hb hby at_335) rfl ?_
      show Sq p e below m T34 336 #[iv p1, iv p2, iv p3, iv p4, iv p5, iv cp, iv kk0, iv kk1, iv kk2, rv b1, iv 0, iv e1, iv 1, iv v, iv e2, iv 2, iv qv, iv 0, iv 1, iv 0, iv 0, iv 0, .unset, .unset, .unset, .unset] [.int p2, .int 1, .ref b31, .ref b31] _
      refine st38 _ ?_
      show Sq p e below m T38 337 #[iv p1, iv p2, iv p3, iv p4, iv p5, iv cp, iv kk0, iv kk1, iv kk2, rv b1, iv 0, iv e1, iv 1, iv v, iv e2, iv 2, iv qv, iv 0, iv 1, iv 0, iv 0, iv 0, .unset, .unset, .unset, .unset] [.ref b31] _
      refine XS.dup X38.here hx rfl (hb hby at_337) rfl rfl ?_
      refine XS.iconst X38.here hx rfl (hb hby at_338) ?_
      show Sq p e below m T38 339 #[iv p1, iv p2, iv p3, iv p4, iv p5, iv cp, iv kk0, iv kk1, iv kk2, rv b1, iv 0, iv e1, iv 1, iv v, iv e2, iv 2, iv qv, iv 0, iv 1, iv 0, iv 0, iv 0, .unset, .unset, .unset, .unset] [.int 2, .ref b31, .ref b31] _
      refine XS.iloadN X38.here hx rfl (hb hby at_339) rfl ?_
      show Sq p e below m T38 340 #[iv p1, iv p2, iv p3, iv p4, iv p5, iv cp, iv kk0, iv kk1, iv kk2, rv b1, iv 0, iv e1, iv 1, iv v, iv e2, iv 2, iv qv, iv 0, iv 1, iv 0, iv 0, iv 0, .unset, .unset, .unset, .unset] [.int p3, .int 2, .ref b31, .ref b31] _
      refine st42 _ ?_
      show Sq p e below m T42 341 #[iv p1, iv p2, iv p3, iv p4, iv p5, iv cp, iv kk0, iv kk1, iv kk2, rv b1, iv 0, iv e1, iv 1, iv v, iv e2, iv 2, iv qv, iv 0, iv 1, iv 0, iv 0, iv 0, .unset, .unset, .unset, .unset] [.ref b31] _
      refine XS.astore X42.here hx rfl (hb hby at_341) rfl rfl rfl ?_
      refine XS.iconst X42.here hx rfl (hb hby at_343) ?_
      show Sq p e below m T42 344 #[iv p1, iv p2, iv p3, iv p4, iv p5, iv cp, iv kk0, iv kk1, iv kk2, rv b1, iv 0, iv e1, iv 1, iv v, iv e2, iv 2, iv qv, iv 0, iv 1, iv 0, iv 0, iv 0, rv b31, .unset, .unset, .unset] [.int 3] _
      refine st46 _ ?_
      show Sq p e below m T46 346 #[iv p1, iv p2, iv p3, iv p4, iv p5, iv cp, iv kk0, iv kk1, iv kk2, rv b1, iv 0, iv e1, iv 1, iv v, iv e2, iv 2, iv qv, iv 0, iv 1, iv 0, iv 0, iv 0, rv b31, .unset, .unset, .unset] [.ref b46] _
      refine XS.dup X46.here hx rfl (hb hby at_346) rfl rfl ?_
      refine XS.iconst X46.here hx rfl (hb hby at_347) ?_
      show Sq p e below m T46 348 #[iv p1, iv p2, iv p3, iv p4, iv p5, iv cp, iv kk0, iv kk1, iv kk2, rv b1, iv 0, iv e1, iv 1, iv v, iv e2, iv 2, iv qv, iv 0, iv 1, iv 0, iv 0, iv 0, rv b31, .unset, .unset, .unset] [.int 0, .ref b46, .ref b46] _
      refine XS.iload X46.here hx rfl (hb hby at_348) rfl ?_
      show Sq p e below m T46 350 #[iv p1, iv p2, iv p3, iv p4, iv p5, iv cp, iv kk0, iv kk1, iv kk2, rv b1, iv 0, iv e1, iv 1, iv v, iv e2, iv 2, iv qv, iv 0, iv 1, iv 0, iv 0, iv 0, rv b31, .unset, .unset, .unset] [.int kk0, .int 0, .ref b46, .ref b46] _
      refine st49 _ ?_
      show Sq p e below m T49 351 #[iv p1, iv p2, iv p3, iv p4, iv p5, iv cp, iv kk0, iv kk1, iv kk2, rv b1, iv 0, iv e1, iv 1, iv v, iv e2, iv 2, iv qv, iv 0, iv 1, iv 0, iv 0, iv 0, rv b31, .unset, .unset, .unset] [.ref b46] _
      refine XS.dup X49.here hx rfl (hb hby at_351) rfl rfl ?_
      refine XS.iconst X49.here hx rfl (hb hby at_352) ?_
      show Sq p e below m T49 353 #[iv p1, iv p2, iv p3, iv p4, iv p5, iv cp, iv kk0, iv kk1, iv kk2, rv b1, iv 0, iv e1, iv 1, iv v, iv e2, iv 2, iv qv, iv 0, iv 1, iv 0, iv 0, iv 0, rv b31, .unset, .unset, .unset] [.int 1, .ref b46, .ref b46] _
      refine XS.iload X49.here hx rfl (hb hby at_353) rfl ?_
      show Sq p e below m T49 355 #[iv p1, iv p2, iv p3, iv p4, iv p5, iv cp, iv kk0, iv kk1, iv kk2, rv b1, iv 0, iv e1, iv 1, iv v, iv e2, iv 2, iv qv, iv 0, iv 1, iv 0, iv 0, iv 0, rv b31, .unset, .unset, .unset] [.int kk1, .int 1, .ref b46, .ref b46] _
      refine st53 _ ?_
      show Sq p e below m T53 356 #[iv p1, iv p2, iv p3, iv p4, iv p5, iv cp, iv kk0, iv kk1, iv kk2, rv b1, iv 0, iv e1, iv 1, iv v, iv e2, iv 2, iv qv, iv 0, iv 1, iv 0, iv 0, iv 0, rv b31, .unset, .unset, .unset] [.ref b46] _
      refine XS.dup X53.here hx rfl (hb hby at_356) rfl rfl ?_
      refine XS.iconst X53.here hx rfl (hb hby at_357) ?_
      show Sq p e below m T53 358 #[iv p1, iv p2, iv p3, iv p4, iv p5, iv cp, iv kk0, iv kk1, iv kk2, rv b1, iv 0, iv e1, iv 1, iv v, iv e2, iv 2, iv qv, iv 0, iv 1, iv 0, iv 0, iv 0, rv b31, .unset, .unset, .unset] [.int 2, .ref b46, .ref b46] _
      refine XS.iload X53.here hx rfl (hb hby at_358) rfl ?_
      show Sq p e below m T53 360 #[iv p1, iv p2, iv p3, iv p4, iv p5, iv cp, iv kk0, iv kk1, iv kk2, rv b1, iv 0, iv e1, iv 1, iv v, iv e2, iv 2, iv qv, iv 0, iv 1, iv 0, iv 0, iv 0, rv b31, .unset, .unset, .unset] [.int kk2, .int 2, .ref b46, .ref b46] _
      refine st57 _ ?_
      show Sq p e below m T57 361 #[iv p1, iv p2, iv p3, iv p4, iv p5, iv cp, iv kk0, iv kk1, iv kk2, rv b1, iv 0, iv e1, iv 1, iv v, iv e2, iv 2, iv qv, iv 0, iv 1, iv 0, iv 0, iv 0, rv b31, .unset, .unset, .unset] [.ref b46] _
      refine XS.astore X57.here hx rfl (hb hby at_361) rfl rfl rfl ?_
      refine XS.aload X57.here hx rfl (hb hby at_363) rfl rfl ?_
      show Sq p e below m T57 365 #[iv p1, iv p2, iv p3, iv p4, iv p5, iv cp, iv kk0, iv kk1, iv kk2, rv b1, iv 0, iv e1, iv 1, iv v, iv e2, iv 2, iv qv, iv 0, iv 1, iv 0, iv 0, iv 0, rv b31, rv b46, .unset, .unset] [.ref b1] _
      refine XS.iload X57.here hx rfl (hb hby at_365) rfl ?_
      show Sq p e below m T57 367 #[iv p1, iv p2, iv p3, iv p4, iv p5, iv cp, iv kk0, iv kk1, iv kk2, rv b1, iv 0, iv e1, iv 1, iv v, iv e2, iv 2, iv qv, iv 0, iv 1, iv 0, iv 0, iv 0, rv b31, rv b46, .unset, .unset] [.int 0, .ref b1] _
      refine st61.trans ?_
      show Sq p e below m T61 370 #[iv p1, iv p2, iv p3, iv p4, iv p5, iv cp, iv kk0, iv kk1, iv kk2, rv b1, iv 0, iv e1, iv 1, iv v, iv e2, iv 2, iv qv, iv 0, iv 1, iv 0, iv 0, iv 0, rv b31, rv b46, .unset, .unset] [.int 1] _
      refine XS.istore X61.here hx rfl (hb hby at_370) rfl rfl ?_
      refine XS.iload X61.here hx rfl (hb hby at_372) rfl ?_
      show Sq p e below m T61 374 #[iv p1, iv p2, iv p3, iv p4, iv p5, iv cp, iv kk0, iv kk1, iv kk2, rv b1, iv 0, iv e1, iv 1, iv v, iv e2, iv 2, iv qv, iv 0, iv 1, iv 0, iv 0, iv 0, rv b31, rv b46, iv 1, .unset] [.int 1] _
      refine XS.iload X61.here hx rfl (hb hby at_374) rfl ?_
      refine XS.icmpNo X61.here hx rfl (hb hby at_376) rfl (teq (rfl : (1 : Int32) = (1 : Int32))).2 ?_
      show Sq p e below m T61 379 #[iv p1, iv p2, iv p3, iv p4, iv p5, iv cp, iv kk0, iv kk1, iv kk2, rv b1, iv 0, iv e1, iv 1, iv v, iv e2, iv 2, iv qv, iv 0, iv 1, iv 0, iv 0, iv 0, rv b31, rv b46, iv 1, .unset] [] _
      refine XS.iconst X61.here hx rfl (hb hby at_379) ?_
      refine XS.goto X61.here hx rfl (pc0 := 380) (pc' := 384) rfl (hb hby at_380) (by decide) (by decide) ?_
      show Sq p e below m T61 384 #[iv p1, iv p2, iv p3, iv p4, iv p5, iv cp, iv kk0, iv kk1, iv kk2, rv b1, iv 0, iv e1, iv 1, iv v, iv e2, iv 2, iv qv, iv 0, iv 1, iv 0, iv 0, iv 0, rv b31, rv b46, iv 1, .unset] [.int 1] _
      refine XS.istore X61.here hx rfl (hb hby at_384) rfl rfl ?_
      refine XS.iload X61.here hx rfl (hb hby at_386) rfl ?_
      show Sq p e below m T61 388 #[iv p1, iv p2, iv p3, iv p4, iv p5, iv cp, iv kk0, iv kk1, iv kk2, rv b1, iv 0, iv e1, iv 1, iv v, iv e2, iv 2, iv qv, iv 0, iv 1, iv 0, iv 0, iv 0, rv b31, rv b46, iv 1, iv 1] [.int 1] _
      refine XS.ifNo X61.here hx rfl (hb hby at_388) rfl ((if0 _ _).trans (feq (by decide)).1) ?_
      refine XS.iload X61.here hx rfl (hb hby at_391) rfl ?_
      show Sq p e below m T61 393 #[iv p1, iv p2, iv p3, iv p4, iv p5, iv cp, iv kk0, iv kk1, iv kk2, rv b1, iv 0, iv e1, iv 1, iv v, iv e2, iv 2, iv qv, iv 0, iv 1, iv 0, iv 0, iv 0, rv b31, rv b46, iv 1, iv 1] [.int 1] _
      refine XS.iconst X61.here hx rfl (hb hby at_393) ?_
      refine XS.icmpNo X61.here hx rfl (hb hby at_394) rfl (flt (by decide)).1 ?_
      show Sq p e below m T61 397 #[iv p1, iv p2, iv p3, iv p4, iv p5, iv cp, iv kk0, iv kk1, iv kk2, rv b1, iv 0, iv e1, iv 1, iv v, iv e2, iv 2, iv qv, iv 0, iv 1, iv 0, iv 0, iv 0, rv b31, rv b46, iv 1, iv 1] [] _
      refine XS.aload X61.here hx rfl (hb hby at_397) rfl rfl ?_
      refine XS.iconst X61.here hx rfl (hb hby at_399) ?_
      show Sq p e below m T61 400 #[iv p1, iv p2, iv p3, iv p4, iv p5, iv cp, iv kk0, iv kk1, iv kk2, rv b1, iv 0, iv e1, iv 1, iv v, iv e2, iv 2, iv qv, iv 0, iv 1, iv 0, iv 0, iv 0, rv b31, rv b46, iv 1, iv 1] [.int 0, .ref b1] _
      refine st64.trans ?_
      show Sq p e below m T64 403 #[iv p1, iv p2, iv p3, iv p4, iv p5, iv cp, iv kk0, iv kk1, iv kk2, rv b1, iv 0, iv e1, iv 1, iv v, iv e2, iv 2, iv qv, iv 0, iv 1, iv 0, iv 0, iv 0, rv b31, rv b46, iv 1, iv 1] [.int p1] _
      refine XS.aload X64.here hx rfl (hb hby at_403) rfl rfl ?_
      refine XS.iload X64.here hx rfl (hb hby at_405) rfl ?_
      show Sq p e below m T64 407 #[iv p1, iv p2, iv p3, iv p4, iv p5, iv cp, iv kk0, iv kk1, iv kk2, rv b1, iv 0, iv e1, iv 1, iv v, iv e2, iv 2, iv qv, iv 0, iv 1, iv 0, iv 0, iv 0, rv b31, rv b46, iv 1, iv 1] [.int 0, .ref b31, .int p1] _
      refine st65 _ ?_
      show Sq p e below m T64 408 #[iv p1, iv p2, iv p3, iv p4, iv p5, iv cp, iv kk0, iv kk1, iv kk2, rv b1, iv 0, iv e1, iv 1, iv v, iv e2, iv 2, iv qv, iv 0, iv 1, iv 0, iv 0, iv 0, rv b31, rv b46, iv 1, iv 1] [.int p1, .int p1] _
      refine XS.icmpNo X64.here hx rfl (hb hby at_408) rfl (teq (rfl : p1 = p1)).2 ?_
      refine XS.aload X64.here hx rfl (hb hby at_411) rfl rfl ?_
      show Sq p e below m T64 413 #[iv p1, iv p2, iv p3, iv p4, iv p5, iv cp, iv kk0, iv kk1, iv kk2, rv b1, iv 0, iv e1, iv 1, iv v, iv e2, iv 2, iv qv, iv 0, iv 1, iv 0, iv 0, iv 0, rv b31, rv b46, iv 1, iv 1] [.ref b1] _
      refine XS.iconst X64.here hx rfl (hb hby at_413) ?_
      show Sq p e below m T64 414 #[iv p1, iv p2, iv p3, iv p4, iv p5, iv cp, iv kk0, iv kk1, iv kk2, rv b1, iv 0, iv e1, iv 1, iv v, iv e2, iv 2, iv qv, iv 0, iv 1, iv 0, iv 0, iv 0, rv b31, rv b46, iv 1, iv 1] [.int 0, .ref b1] _
      refine st66.trans ?_
      show Sq p e below m T66 417 #[iv p1, iv p2, iv p3, iv p4, iv p5, iv cp, iv kk0, iv kk1, iv kk2, rv b1, iv 0, iv e1, iv 1, iv v, iv e2, iv 2, iv qv, iv 0, iv 1, iv 0, iv 0, iv 0, rv b31, rv b46, iv 1, iv 1] [.int (own_ev kk0 p4)] _
      refine XS.aload X66.here hx rfl (hb hby at_417) rfl rfl ?_
      refine XS.iload X66.here hx rfl (hb hby at_419) rfl ?_
      show Sq p e below m T66 421 #[iv p1, iv p2, iv p3, iv p4, iv p5, iv cp, iv kk0, iv kk1, iv kk2, rv b1, iv 0, iv e1, iv 1, iv v, iv e2, iv 2, iv qv, iv 0, iv 1, iv 0, iv 0, iv 0, rv b31, rv b46, iv 1, iv 1] [.int 0, .ref b46, .int (own_ev kk0 p4)] _
      refine st67 _ ?_
      show Sq p e below m T66 422 #[iv p1, iv p2, iv p3, iv p4, iv p5, iv cp, iv kk0, iv kk1, iv kk2, rv b1, iv 0, iv e1, iv 1, iv v, iv e2, iv 2, iv qv, iv 0, iv 1, iv 0, iv 0, iv 0, rv b31, rv b46, iv 1, iv 1] [.int kk0, .int (own_ev kk0 p4)] _
      refine XS.iloadN X66.here hx rfl (hb hby at_422) rfl ?_
      show Sq p e below m T66 423 #[iv p1, iv p2, iv p3, iv p4, iv p5, iv cp, iv kk0, iv kk1, iv kk2, rv b1, iv 0, iv e1, iv 1, iv v, iv e2, iv 2, iv qv, iv 0, iv 1, iv 0, iv 0, iv 0, rv b31, rv b46, iv 1, iv 1] [.int p4, .int kk0, .int (own_ev kk0 p4)] _
      refine st68 _ ?_
      show Sq p e below m T68 426 #[iv p1, iv p2, iv p3, iv p4, iv p5, iv cp, iv kk0, iv kk1, iv kk2, rv b1, iv 0, iv e1, iv 1, iv v, iv e2, iv 2, iv qv, iv 0, iv 1, iv 0, iv 0, iv 0, rv b31, rv b46, iv 1, iv 1] [.int (own_ev kk0 p4), .int (own_ev kk0 p4)] _
      refine XS.icmpNo X68.here hx rfl (hb hby at_426) rfl (teq (rfl : (own_ev kk0 p4) = (own_ev kk0 p4))).2 ?_
      refine XS.iconst X68.here hx rfl (hb hby at_429) ?_
      show Sq p e below m T68 430 #[iv p1, iv p2, iv p3, iv p4, iv p5, iv cp, iv kk0, iv kk1, iv kk2, rv b1, iv 0, iv e1, iv 1, iv v, iv e2, iv 2, iv qv, iv 0, iv 1, iv 0, iv 0, iv 0, rv b31, rv b46, iv 1, iv 1] [.int 1] _
      refine XS.goto X68.here hx rfl (pc0 := 430) (pc' := 434) rfl (hb hby at_430) (by decide) (by decide) ?_
      refine XS.istore X68.here hx rfl (hb hby at_434) rfl rfl ?_
      show Sq p e below m T68 436 #[iv p1, iv p2, iv p3, iv p4, iv p5, iv cp, iv kk0, iv kk1, iv kk2, rv b1, iv 0, iv e1, iv 1, iv v, iv e2, iv 2, iv qv, iv 0, iv 1, iv 0, iv 0, iv 0, rv b31, rv b46, iv 1, iv 1] [] _
      refine XS.iload X68.here hx rfl (hb hby at_436) rfl ?_
      refine XS.ifNo X68.here hx rfl (hb hby at_438) rfl ((if0 _ _).trans (feq (by decide)).1) ?_
      show Sq p e below m T68 441 #[iv p1, iv p2, iv p3, iv p4, iv p5, iv cp, iv kk0, iv kk1, iv kk2, rv b1, iv 0, iv e1, iv 1, iv v, iv e2, iv 2, iv qv, iv 0, iv 1, iv 0, iv 0, iv 0, rv b31, rv b46, iv 1, iv 1] [] _
      refine XS.iload X68.here hx rfl (hb hby at_441) rfl ?_
      refine XS.iconst X68.here hx rfl (hb hby at_443) ?_
      show Sq p e below m T68 444 #[iv p1, iv p2, iv p3, iv p4, iv p5, iv cp, iv kk0, iv kk1, iv kk2, rv b1, iv 0, iv e1, iv 1, iv v, iv e2, iv 2, iv qv, iv 0, iv 1, iv 0, iv 0, iv 0, rv b31, rv b46, iv 1, iv 1] [.int 2, .int 1] _
      refine XS.icmpYes X68.here hx rfl (pc0 := 444) (pc' := 486) rfl (hb hby at_444) rfl (tlt (by decide)).1 (by decide) (by decide) ?_
      refine XS.iload X68.here hx rfl (hb hby at_486) rfl ?_
      show Sq p e below m T68 488 #[iv p1, iv p2, iv p3, iv p4, iv p5, iv cp, iv kk0, iv kk1, iv kk2, rv b1, iv 0, iv e1, iv 1, iv v, iv e2, iv 2, iv qv, iv 0, iv 1, iv 0, iv 0, iv 0, rv b31, rv b46, iv 1, iv 1] [.int 1] _
      refine XS.ifNo X68.here hx rfl (hb hby at_488) rfl ((if0 _ _).trans (feq (by decide)).1) ?_
      refine XS.iload X68.here hx rfl (hb hby at_491) rfl ?_
      show Sq p e below m T68 493 #[iv p1, iv p2, iv p3, iv p4, iv p5, iv cp, iv kk0, iv kk1, iv kk2, rv b1, iv 0, iv e1, iv 1, iv v, iv e2, iv 2, iv qv, iv 0, iv 1, iv 0, iv 0, iv 0, rv b31, rv b46, iv 1, iv 1] [.int 1] _
      refine XS.iconst X68.here hx rfl (hb hby at_493) ?_
      refine XS.icmpYes X68.here hx rfl (pc0 := 494) (pc' := 536) rfl (hb hby at_494) rfl (tlt (by decide)).1 (by decide) (by decide) ?_
      show Sq p e below m T68 536 #[iv p1, iv p2, iv p3, iv p4, iv p5, iv cp, iv kk0, iv kk1, iv kk2, rv b1, iv 0, iv e1, iv 1, iv v, iv e2, iv 2, iv qv, iv 0, iv 1, iv 0, iv 0, iv 0, rv b31, rv b46, iv 1, iv 1] [] _
      refine XS.iload X68.here hx rfl (hb hby at_536) rfl ?_
      show Sq p e below m T68 538 #[iv p1, iv p2, iv p3, iv p4, iv p5, iv cp, iv kk0, iv kk1, iv kk2, rv b1, iv 0, iv e1, iv 1, iv v, iv e2, iv 2, iv qv, iv 0, iv 1, iv 0, iv 0, iv 0, rv b31, rv b46, iv 1, iv 1] [.int 1] _
      exact retN X68 hx (t := .boolean) Bd.returns (by simp) (hb hby at_538) hr
    · show Q_rm0 Z p1 p2 p3 p4 p5 cp kk0 kk1 kk2 v qv w_MIR h0 n0 _ T68.heap _
      rw [e68]
      exact ⟨rfl, N68⟩
  · obtain ⟨T31, h31, k31, X31, e31, E31, A31, A31x, st31⟩ := newPE X26 hx hZ (W 9 rfl) e26 (g := (mkF m 327 #[iv p1, iv p2, iv p3, iv p4, iv p5, iv cp, iv kk0, iv kk1, iv kk2, rv b1, iv 0, iv e1, iv 1, iv v, iv e2, iv 2, iv qv, iv (-1), iv 0, iv 0, iv 0, iv 0, .unset, .unset, .unset, .unset] [.int 3])) rfl (hb hby at_327) rfl (by decide) (cap := 3) (by decide) (by decide) (by decide) (by decide) (ad := "[I") (by decide)
    obtain ⟨b31, g31⟩ : ∃ z, z = h26.size := ⟨_, rfl⟩
    rw [← g31] at A31 A31x st31
    have g_b31 : n0 ≤ b31 := Nat.le_trans (own_sz O27) (Nat.le_of_eq g31.symm)
    have ne_b1_b31 : b1 ≠ b31 := Nat.ne_of_lt (Nat.lt_of_lt_of_le A1.lt (Nat.le_of_eq g31.symm))
    have ne_b26lo__b31 : b26lo' ≠ b31 := Nat.ne_of_lt (Nat.lt_of_lt_of_le p26_8.lt (Nat.le_of_eq g31.symm))
    have ne_b26ea__b31 : b26ea' ≠ b31 := Nat.ne_of_lt (Nat.lt_of_lt_of_le p26_9.lt (Nat.le_of_eq g31.symm))
    have ne_b26li__b31 : b26li' ≠ b31 := Nat.ne_of_lt (Nat.lt_of_lt_of_le p26_12.lt (Nat.le_of_eq g31.symm))
    have A1 := A1.ext E31
    have p26_1 := p26_1.ext E31
    have p26_2 := p26_2.ext E31
    have p26_5 := p26_5.ext E31
    have p26_8 := p26_8.ext E31
    have p26_9 := p26_9.ext E31
    have p26_12 := p26_12.ext E31
    have O32 := O27.ext E31
    have V31 : Arv Z h31 b31 k31 .int (3 : Int32) [(.int (0 : Int32)), (.int (0 : Int32)), (.int (0 : Int32))] (.int (0 : Int32)) := (Arv.new A31 (by decide)).pad (pad_rep [] (.int (0 : Int32)) 3)
    obtain ⟨cl34, Ar34, q34, S34, Ng34, Hh34, Gg34⟩ := id V31
    obtain ⟨T34, h34, X34, e34, W34, st34⟩ := stI X31 hx hZ e31 Ar34 (j := (0 : Int32)) (inb_of S34 (by decide)) (g := (mkF m 332 #[iv p1, iv p2, iv p3, iv p4, iv p5, iv cp, iv kk0, iv kk1, iv kk2, rv b1, iv 0, iv e1, iv 1, iv v, iv e2, iv 2, iv qv, iv (-1), iv 0, iv 0, iv 0, iv 0, .unset, .unset, .unset, .unset] [.int p1, .int 0, .ref b31, .ref b31])) rfl rfl (hb hby at_332)
    have V34 : Arv Z h34 b31 k31 .int (3 : Int32) [(.int p1), (.int (0 : Int32)), (.int (0 : Int32))] (.int (0 : Int32)) := Arv.set Ar34 q34 S34 Ng34 Hh34 Gg34 rfl W34 0 rfl (Nat.le_of_ble_eq_true rfl)
    have A1 := A1.wr W34
    have p26_1 := p26_1.other W34 (Or.inl ne_b1_b31)
    have p26_2 := p26_2.other W34 (Or.inl ne_b1_b31)
    have p26_5 := p26_5.other W34 (Or.inl ne_b1_b31)
    have p26_8 := p26_8.other W34 ne_b26lo__b31
    have p26_9 := p26_9.other W34 ne_b26ea__b31
    have p26_12 := p26_12.other W34 ne_b26li__b31
    have O35 := O32.wr W34 g_b31
    have N37 := Fr.snoc X34 N26 g_b31
    obtain ⟨cl38, Ar38, q38, S38, Ng38, Hh38, Gg38⟩ := id V34
    obtain ⟨T38, h38, X38, e38, W38, st38⟩ := stI X34 hx hZ e34 Ar38 (j := (1 : Int32)) (inb_of S38 (by decide)) (g := (mkF m 336 #[iv p1, iv p2, iv p3, iv p4, iv p5, iv cp, iv kk0, iv kk1, iv kk2, rv b1, iv 0, iv e1, iv 1, iv v, iv e2, iv 2, iv qv, iv (-1), iv 0, iv 0, iv 0, iv 0, .unset, .unset, .unset, .unset] [.int p2, .int 1, .ref b31, .ref b31])) rfl rfl (hb hby at_336)
    have V38 : Arv Z h38 b31 k31 .int (3 : Int32) [(.int p1), (.int p2), (.int (0 : Int32))] (.int (0 : Int32)) := Arv.set Ar38 q38 S38 Ng38 Hh38 Gg38 rfl W38 1 rfl (Nat.le_of_ble_eq_true rfl)
    have A1 := A1.wr W38
    have p26_1 := p26_1.other W38 (Or.inl ne_b1_b31)
    have p26_2 := p26_2.other W38 (Or.inl ne_b1_b31)
    have p26_5 := p26_5.other W38 (Or.inl ne_b1_b31)
    have p26_8 := p26_8.other W38 ne_b26lo__b31
    have p26_9 := p26_9.other W38 ne_b26ea__b31
    have p26_12 := p26_12.other W38 ne_b26li__b31
    have O39 := O35.wr W38 g_b31
    have N41 := Fr.snoc X38 N37 g_b31
    obtain ⟨cl42, Ar42, q42, S42, Ng42, Hh42, Gg42⟩ := id V38
    obtain ⟨T42, h42, X42, e42, W42, st42⟩ := stI X38 hx hZ e38 Ar42 (j := (2 : Int32)) (inb_of S42 (by decide)) (g := (mkF m 340 #[iv p1, iv p2, iv p3, iv p4, iv p5, iv cp, iv kk0, iv kk1, iv kk2, rv b1, iv 0, iv e1, iv 1, iv v, iv e2, iv 2, iv qv, iv (-1), iv 0, iv 0, iv 0, iv 0, .unset, .unset, .unset, .unset] [.int p3, .int 2, .ref b31, .ref b31])) rfl rfl (hb hby at_340)
    have A1 := A1.wr W42
    have p26_1 := p26_1.other W42 (Or.inl ne_b1_b31)
    have p26_2 := p26_2.other W42 (Or.inl ne_b1_b31)
    have p26_5 := p26_5.other W42 (Or.inl ne_b1_b31)
    have p26_8 := p26_8.other W42 ne_b26lo__b31
    have p26_9 := p26_9.other W42 ne_b26ea__b31
    have p26_12 := p26_12.other W42 ne_b26li__b31
    have O43 := O39.wr W42 g_b31
    have N45 := Fr.snoc X42 N41 g_b31
    obtain ⟨T46, h46, k46, X46, e46, E46, A46, A46x, st46⟩ := newPE X42 hx hZ (W 9 rfl) e42 (g := (mkF m 344 #[iv p1, iv p2, iv p3, iv p4, iv p5, iv cp, iv kk0, iv kk1, iv kk2, rv b1, iv 0, iv e1, iv 1, iv v, iv e2, iv 2, iv qv, iv (-1), iv 0, iv 0, iv 0, iv 0, rv b31, .unset, .unset, .unset] [.int 3])) rfl (hb hby at_344) rfl (by decide) (cap := 3) (by decide) (by decide) (by decide) (by decide) (ad := "[I") (by decide)
    obtain ⟨b46, g46⟩ : ∃ z, z = h42.size := ⟨_, rfl⟩
    rw [← g46] at A46 A46x st46
    have g_b46 : n0 ≤ b46 := Nat.le_trans (own_sz O43) (Nat.le_of_eq g46.symm)
    have ne_b1_b46 : b1 ≠ b46 := Nat.ne_of_lt (Nat.lt_of_lt_of_le A1.lt (Nat.le_of_eq g46.symm))
    have ne_b26lo__b46 : b26lo' ≠ b46 := Nat.ne_of_lt (Nat.lt_of_lt_of_le p26_8.lt (Nat.le_of_eq g46.symm))
    have ne_b26ea__b46 : b26ea' ≠ b46 := Nat.ne_of_lt (Nat.lt_of_lt_of_le p26_9.lt (Nat.le_of_eq g46.symm))
    have ne_b26li__b46 : b26li' ≠ b46 := Nat.ne_of_lt (Nat.lt_of_lt_of_le p26_12.lt (Nat.le_of_eq g46.symm))
    have A1 := A1.ext E46
    have p26_1 := p26_1.ext E46
    have p26_2 := p26_2.ext E46
    have p26_5 := p26_5.ext E46
    have p26_8 := p26_8.ext E46
    have p26_9 := p26_9.ext E46
    have p26_12 := p26_12.ext E46
    have O47 := O43.ext E46
    have V46 : Arv Z h46 b46 k46 .int (3 : Int32) [(.int (0 : Int32)), (.int (0 : Int32)), (.int (0 : Int32))] (.int (0 : Int32)) := (Arv.new A46 (by decide)).pad (pad_rep [] (.int (0 : Int32)) 3)
    obtain ⟨cl49, Ar49, q49, S49, Ng49, Hh49, Gg49⟩ := id V46
    obtain ⟨T49, h49, X49, e49, W49, st49⟩ := stI X46 hx hZ e46 Ar49 (j := (0 : Int32)) (inb_of S49 (by decide)) (g := (mkF m 350 #[iv p1, iv p2, iv p3, iv p4, iv p5, iv cp, iv kk0, iv kk1, iv kk2, rv b1, iv 0, iv e1, iv 1, iv v, iv e2, iv 2, iv qv, iv (-1), iv 0, iv 0, iv 0, iv 0, rv b31, .unset, .unset, .unset] [.int kk0, .int 0, .ref b46, .ref b46])) rfl rfl (hb hby at_350)
    have V49 : Arv Z h49 b46 k46 .int (3 : Int32) [(.int kk0), (.int (0 : Int32)), (.int (0 : Int32))] (.int (0 : Int32)) := Arv.set Ar49 q49 S49 Ng49 Hh49 Gg49 rfl W49 0 rfl (Nat.le_of_ble_eq_true rfl)
    have A1 := A1.wr W49
    have p26_1 := p26_1.other W49 (Or.inl ne_b1_b46)
    have p26_2 := p26_2.other W49 (Or.inl ne_b1_b46)
    have p26_5 := p26_5.other W49 (Or.inl ne_b1_b46)
    have p26_8 := p26_8.other W49 ne_b26lo__b46
    have p26_9 := p26_9.other W49 ne_b26ea__b46
    have p26_12 := p26_12.other W49 ne_b26li__b46
    have O50 := O47.wr W49 g_b46
    have N52 := Fr.snoc X49 N45 g_b46
    obtain ⟨cl53, Ar53, q53, S53, Ng53, Hh53, Gg53⟩ := id V49
    obtain ⟨T53, h53, X53, e53, W53, st53⟩ := stI X49 hx hZ e49 Ar53 (j := (1 : Int32)) (inb_of S53 (by decide)) (g := (mkF m 355 #[iv p1, iv p2, iv p3, iv p4, iv p5, iv cp, iv kk0, iv kk1, iv kk2, rv b1, iv 0, iv e1, iv 1, iv v, iv e2, iv 2, iv qv, iv (-1), iv 0, iv 0, iv 0, iv 0, rv b31, .unset, .unset, .unset] [.int kk1, .int 1, .ref b46, .ref b46])) rfl rfl (hb hby at_355)
    have V53 : Arv Z h53 b46 k46 .int (3 : Int32) [(.int kk0), (.int kk1), (.int (0 : Int32))] (.int (0 : Int32)) := Arv.set Ar53 q53 S53 Ng53 Hh53 Gg53 rfl W53 1 rfl (Nat.le_of_ble_eq_true rfl)
    have A1 := A1.wr W53
    have p26_1 := p26_1.other W53 (Or.inl ne_b1_b46)
    have p26_2 := p26_2.other W53 (Or.inl ne_b1_b46)
    have p26_5 := p26_5.other W53 (Or.inl ne_b1_b46)
    have p26_8 := p26_8.other W53 ne_b26lo__b46
    have p26_9 := p26_9.other W53 ne_b26ea__b46
    have p26_12 := p26_12.other W53 ne_b26li__b46
    have O54 := O50.wr W53 g_b46
    have N56 := Fr.snoc X53 N52 g_b46
    obtain ⟨cl57, Ar57, q57, S57, Ng57, Hh57, Gg57⟩ := id V53
    obtain ⟨T57, h57, X57, e57, W57, st57⟩ := stI X53 hx hZ e53 Ar57 (j := (2 : Int32)) (inb_of S57 (by decide)) (g := (mkF m 360 #[iv p1, iv p2, iv p3, iv p4, iv p5, iv cp, iv kk0, iv kk1, iv kk2, rv b1, iv 0, iv e1, iv 1, iv v, iv e2, iv 2, iv qv, iv (-1), iv 0, iv 0, iv 0, iv 0, rv b31, .unset, .unset, .unset] [.int kk2, .int 2, .ref b46, .ref b46])) rfl rfl (hb hby at_360)
    have A1 := A1.wr W57
    have p26_1 := p26_1.other W57 (Or.inl ne_b1_b46)
    have p26_2 := p26_2.other W57 (Or.inl ne_b1_b46)
    have p26_5 := p26_5.other W57 (Or.inl ne_b1_b46)
    have p26_8 := p26_8.other W57 ne_b26lo__b46
    have p26_9 := p26_9.other W57 ne_b26ea__b46
    have p26_12 := p26_12.other W57 ne_b26li__b46
    have O58 := O54.wr W57 g_b46
    have N60 := Fr.snoc X57 N56 g_b46
    obtain ⟨cq61, kq61, q61a, q61b, q61c⟩ := isOf hZ e57 A1
    obtain ⟨_, _, ⟨T61, L61, k61, n61⟩, -, X61, ⟨Lc61, hQ61, l61, y61, z61⟩, st61⟩ := X57.virtualBack hx (y := y_8) (z := y_8) hown (mvT hZ (W 67 rfl)) (mvT hZ (W 68 rfl)) (notFace_of_selects (args := #[]) (mvT hZ (W 70 rfl))) (mvT hZ (W 70 rfl)) (mvT hZ (W 69 rfl)) (by decide) (backOf (W := 0) (pathN l Z a0 hw [] b1 b26n' b26lo' b26ea' b26li' b26kl' b26ke' b26ki' p1 kk0 p2 kk1 p3 kk2 e1 e2 h57 n0 O58 p26_1 p26_2 p26_5 p26_8 p26_9 p26_12 p26_18 p26_22 p26_25 p26_33 p26_34) hZ (W 71 rfl) (W 2 rfl) (by decide) (by decide)) q61a q61c (g := (mkF m 367 #[iv p1, iv p2, iv p3, iv p4, iv p5, iv cp, iv kk0, iv kk1, iv kk2, rv b1, iv 0, iv e1, iv 1, iv v, iv e2, iv 2, iv qv, iv (-1), iv 0, iv 0, iv 0, iv 0, rv b31, rv b46, .unset, .unset] [.int (-1), .ref b1])) rfl (by rw [hml]; rfl) (Steps.refl _) (argsL := [.int (-1)]) (rest := []) (lenOf pd_6 rfl) rfl (by show 2 * 0 + _ ≤ _; exact Nat.le_of_eq rfl) (hb hby at_367) (fun _ _ => ⟨rfl, e57, (by decide : 24 + 0 ≤ _), (by decide : 435 + 0 ≤ _)⟩)
    dsimp only [Pt.U, Pt.locs, Pt.cells, Pt.slots] at X61 l61 y61 z61 st61 hQ61
    subst l61 y61 z61
    obtain ⟨h61, e61⟩ : ∃ z, T61.heap = z := ⟨_, rfl⟩
    rw [e61] at hQ61
    obtain ⟨rfl, N61q, p61_0, p61_1⟩ := hQ61
    have N61 := Fr.app N60 N61q
    obtain ⟨fs, hr, hrun, hended, hW, hsame⟩ := X61.leave (v := some (.int (1 : Int32))) (fun h => by rw [Bd.returns] at h; cases h)
    refine ⟨_, _, pre30 _ ?_, hrun, hended, _, _, rfl, ?_, ⟨_, rfl⟩, hW, hsame.mono (by decide) (by decide)⟩
    · show Sq p e below m T26 193 #[iv p1, iv p2, iv p3, iv p4, iv p5, iv cp, iv kk0, iv kk1, iv kk2, rv b1, iv 0, iv e1, iv 1, iv v, iv e2, iv 2, iv qv, iv (-1), .unset, .unset, .unset, .unset, .unset, .unset, .unset, .unset] [] _
      refine XS.iconst X26.here hx rfl (hb hby at_193) ?_
      refine XS.istore X26.here hx rfl (hb hby at_194) rfl rfl ?_
      show Sq p e below m T26 196 #[iv p1, iv p2, iv p3, iv p4, iv p5, iv cp, iv kk0, iv kk1, iv kk2, rv b1, iv 0, iv e1, iv 1, iv v, iv e2, iv 2, iv qv, iv (-1), iv 0, .unset, .unset, .unset, .unset, .unset, .unset, .unset] [] _
      refine XS.iconst X26.here hx rfl (hb hby at_196) ?_
      refine XS.istore X26.here hx rfl (hb hby at_197) rfl rfl ?_
      show Sq p e below m T26 199 #[iv p1, iv p2, iv p3, iv p4, iv p5, iv cp, iv kk0, iv kk1, iv kk2, rv b1, iv 0, iv e1, iv 1, iv v, iv e2, iv 2, iv qv, iv (-1), iv 0, iv 0, .unset, .unset, .unset, .unset, .unset, .unset] [] _
      refine XS.iconst X26.here hx rfl (hb hby at_199) ?_
      refine XS.istore X26.here hx rfl (hb hby at_200) rfl rfl ?_
      show Sq p e below m T26 202 #[iv p1, iv p2, iv p3, iv p4, iv p5, iv cp, iv kk0, iv kk1, iv kk2, rv b1, iv 0, iv e1, iv 1, iv v, iv e2, iv 2, iv qv, iv (-1), iv 0, iv 0, iv 0, .unset, .unset, .unset, .unset, .unset] [] _
      refine XS.iconst X26.here hx rfl (hb hby at_202) ?_
      refine XS.istore X26.here hx rfl (hb hby at_203) rfl rfl ?_
      show Sq p e below m T26 205 #[iv p1, iv p2, iv p3, iv p4, iv p5, iv cp, iv kk0, iv kk1, iv kk2, rv b1, iv 0, iv e1, iv 1, iv v, iv e2, iv 2, iv qv, iv (-1), iv 0, iv 0, iv 0, iv 0, .unset, .unset, .unset, .unset] [] _
      refine XS.iload X26.here hx rfl (hb hby at_205) rfl ?_
      refine XS.iconst X26.here hx rfl (hb hby at_207) ?_
      show Sq p e below m T26 208 #[iv p1, iv p2, iv p3, iv p4, iv p5, iv cp, iv kk0, iv kk1, iv kk2, rv b1, iv 0, iv e1, iv 1, iv v, iv e2, iv 2, iv qv, iv (-1), iv 0, iv 0, iv 0, iv 0, .unset, .unset, .unset, .unset] [.int (-1), .int (-1)] _
      refine XS.icmpNo X26.here hx rfl (hb hby at_208) rfl (teq (rfl : (-1 : Int32) = (-1 : Int32))).2 ?_
      refine XS.iconst X26.here hx rfl (hb hby at_211) ?_
      show Sq p e below m T26 212 #[iv p1, iv p2, iv p3, iv p4, iv p5, iv cp, iv kk0, iv kk1, iv kk2, rv b1, iv 0, iv e1, iv 1, iv v, iv e2, iv 2, iv qv, iv (-1), iv 0, iv 0, iv 0, iv 0, .unset, .unset, .unset, .unset] [.int 0] _
      refine XS.istore X26.here hx rfl (hb hby at_212) rfl rfl ?_
      refine XS.goto X26.here hx rfl (pc0 := 214) (pc' := 326) rfl (hb hby at_214) (by decide) (by decide) ?_
      show Sq p e below m T26 326 #[iv p1, iv p2, iv p3, iv p4, iv p5, iv cp, iv kk0, iv kk1, iv kk2, rv b1, iv 0, iv e1, iv 1, iv v, iv e2, iv 2, iv qv, iv (-1), iv 0, iv 0, iv 0, iv 0, .unset, .unset, .unset, .unset] [] _
      refine XS.iconst X26.here hx rfl (hb hby at_326) ?_
      show Sq p e below m T26 327 #[iv p1, iv p2, iv p3, iv p4, iv p5, iv cp, iv kk0, iv kk1, iv kk2, rv b1, iv 0, iv e1, iv 1, iv v, iv e2, iv 2, iv qv, iv (-1), iv 0, iv 0, iv 0, iv 0, .unset, .unset, .unset, .unset] [.int 3] _
      refine st31 _ ?_
      show Sq p e below m T31 329 #[iv p1, iv p2, iv p3, iv p4, iv p5, iv cp, iv kk0, iv kk1, iv kk2, rv b1, iv 0, iv e1, iv 1, iv v, iv e2, iv 2, iv qv, iv (-1), iv 0, iv 0, iv 0, iv 0, .unset, .unset, .unset, .unset] [.ref b31] _
      refine XS.dup X31.here hx rfl (hb hby at_329) rfl rfl ?_
      refine XS.iconst X31.here hx rfl (hb hby at_330) ?_
      show Sq p e below m T31 331 #[iv p1, iv p2, iv p3, iv p4, iv p5, iv cp, iv kk0, iv kk1, iv kk2, rv b1, iv 0, iv e1, iv 1, iv v, iv e2, iv 2, iv qv, iv (-1), iv 0, iv 0, iv 0, iv 0, .unset, .unset, .unset, .unset] [.int 0, .ref b31, .ref b31] _
      refine XS.iloadN X31.here hx rfl (hb hby at_331) rfl ?_
      show Sq p e below m T31 332 #[iv p1, iv p2, iv p3, iv p4, iv p5, iv cp, iv kk0, iv kk1, iv kk2, rv b1, iv 0, iv e1, iv 1, iv v, iv e2, iv 2, iv qv, iv (-1), iv 0, iv 0, iv 0, iv 0, .unset, .unset, .unset, .unset] [.int p1, .int 0, .ref b31, .ref b31] _
      refine st34 _ ?_
      show Sq p e below m T34 333 #[iv p1, iv p2, iv p3, iv p4, iv p5, iv cp, iv kk0, iv kk1, iv kk2, rv b1, iv 0, iv e1, iv 1, iv v, iv e2, iv 2, iv qv, iv (-1), iv 0, iv 0, iv 0, iv 0, .unset, .unset, .unset, .unset] [.ref b31] _
      refine XS.dup X34.here hx rfl (hb hby at_333) rfl rfl ?_
      refine XS.iconst X34.here hx rfl (hb hby at_334) ?_
      show Sq p e below m T34 335 #[iv p1, iv p2, iv p3, iv p4, iv p5, iv cp, iv kk0, iv kk1, iv kk2, rv b1, iv 0, iv e1, iv 1, iv v, iv e2, iv 2, iv qv, iv (-1), iv 0, iv 0, iv 0, iv 0, .unset, .unset, .unset, .unset] [.int 1, .ref b31, .ref b31] _
      refine XS.iloadN X34.here hx rfl (hb hby at_335) rfl ?_
      show Sq p e below m T34 336 #[iv p1, iv p2, iv p3, iv p4, iv p5, iv cp, iv kk0, iv kk1, iv kk2, rv b1, iv 0, iv e1, iv 1, iv v, iv e2, iv 2, iv qv, iv (-1), iv 0, iv 0, iv 0, iv 0, .unset, .unset, .unset, .unset] [.int p2, .int 1, .ref b31, .ref b31] _
      refine st38 _ ?_
      show Sq p e below m T38 337 #[iv p1, iv p2, iv p3, iv p4, iv p5, iv cp, iv kk0, iv kk1, iv kk2, rv b1, iv 0, iv e1, iv 1, iv v, iv e2, iv 2, iv qv, iv (-1), iv 0, iv 0, iv 0, iv 0, .unset, .unset, .unset, .unset] [.ref b31] _
      refine XS.dup X38.here hx rfl (hb hby at_337) rfl rfl ?_
      refine XS.iconst X38.here hx rfl (hb hby at_338) ?_
      show Sq p e below m T38 339 #[iv p1, iv p2, iv p3, iv p4, iv p5, iv cp, iv kk0, iv kk1, iv kk2, rv b1, iv 0, iv e1, iv 1, iv v, iv e2, iv 2, iv qv, iv (-1), iv 0, iv 0, iv 0, iv 0, .unset, .unset, .unset, .unset] [.int 2, .ref b31, .ref b31] _
      refine XS.iloadN X38.here hx rfl (hb hby at_339) rfl ?_
      show Sq p e below m T38 340 #[iv p1, iv p2, iv p3, iv p4, iv p5, iv cp, iv kk0, iv kk1, iv kk2, rv b1, iv 0, iv e1, iv 1, iv v, iv e2, iv 2, iv qv, iv (-1), iv 0, iv 0, iv 0, iv 0, .unset, .unset, .unset, .unset] [.int p3, .int 2, .ref b31, .ref b31] _
      refine st42 _ ?_
      show Sq p e below m T42 341 #[iv p1, iv p2, iv p3, iv p4, iv p5, iv cp, iv kk0, iv kk1, iv kk2, rv b1, iv 0, iv e1, iv 1, iv v, iv e2, iv 2, iv qv, iv (-1), iv 0, iv 0, iv 0, iv 0, .unset, .unset, .unset, .unset] [.ref b31] _
      refine XS.astore X42.here hx rfl (hb hby at_341) rfl rfl rfl ?_
      refine XS.iconst X42.here hx rfl (hb hby at_343) ?_
      show Sq p e below m T42 344 #[iv p1, iv p2, iv p3, iv p4, iv p5, iv cp, iv kk0, iv kk1, iv kk2, rv b1, iv 0, iv e1, iv 1, iv v, iv e2, iv 2, iv qv, iv (-1), iv 0, iv 0, iv 0, iv 0, rv b31, .unset, .unset, .unset] [.int 3] _
      refine st46 _ ?_
      show Sq p e below m T46 346 #[iv p1, iv p2, iv p3, iv p4, iv p5, iv cp, iv kk0, iv kk1, iv kk2, rv b1, iv 0, iv e1, iv 1, iv v, iv e2, iv 2, iv qv, iv (-1), iv 0, iv 0, iv 0, iv 0, rv b31, .unset, .unset, .unset] [.ref b46] _
      refine XS.dup X46.here hx rfl (hb hby at_346) rfl rfl ?_
      refine XS.iconst X46.here hx rfl (hb hby at_347) ?_
      show Sq p e below m T46 348 #[iv p1, iv p2, iv p3, iv p4, iv p5, iv cp, iv kk0, iv kk1, iv kk2, rv b1, iv 0, iv e1, iv 1, iv v, iv e2, iv 2, iv qv, iv (-1), iv 0, iv 0, iv 0, iv 0, rv b31, .unset, .unset, .unset] [.int 0, .ref b46, .ref b46] _
      refine XS.iload X46.here hx rfl (hb hby at_348) rfl ?_
      show Sq p e below m T46 350 #[iv p1, iv p2, iv p3, iv p4, iv p5, iv cp, iv kk0, iv kk1, iv kk2, rv b1, iv 0, iv e1, iv 1, iv v, iv e2, iv 2, iv qv, iv (-1), iv 0, iv 0, iv 0, iv 0, rv b31, .unset, .unset, .unset] [.int kk0, .int 0, .ref b46, .ref b46] _
      refine st49 _ ?_
      show Sq p e below m T49 351 #[iv p1, iv p2, iv p3, iv p4, iv p5, iv cp, iv kk0, iv kk1, iv kk2, rv b1, iv 0, iv e1, iv 1, iv v, iv e2, iv 2, iv qv, iv (-1), iv 0, iv 0, iv 0, iv 0, rv b31, .unset, .unset, .unset] [.ref b46] _
      refine XS.dup X49.here hx rfl (hb hby at_351) rfl rfl ?_
      refine XS.iconst X49.here hx rfl (hb hby at_352) ?_
      show Sq p e below m T49 353 #[iv p1, iv p2, iv p3, iv p4, iv p5, iv cp, iv kk0, iv kk1, iv kk2, rv b1, iv 0, iv e1, iv 1, iv v, iv e2, iv 2, iv qv, iv (-1), iv 0, iv 0, iv 0, iv 0, rv b31, .unset, .unset, .unset] [.int 1, .ref b46, .ref b46] _
      refine XS.iload X49.here hx rfl (hb hby at_353) rfl ?_
      show Sq p e below m T49 355 #[iv p1, iv p2, iv p3, iv p4, iv p5, iv cp, iv kk0, iv kk1, iv kk2, rv b1, iv 0, iv e1, iv 1, iv v, iv e2, iv 2, iv qv, iv (-1), iv 0, iv 0, iv 0, iv 0, rv b31, .unset, .unset, .unset] [.int kk1, .int 1, .ref b46, .ref b46] _
      refine st53 _ ?_
      show Sq p e below m T53 356 #[iv p1, iv p2, iv p3, iv p4, iv p5, iv cp, iv kk0, iv kk1, iv kk2, rv b1, iv 0, iv e1, iv 1, iv v, iv e2, iv 2, iv qv, iv (-1), iv 0, iv 0, iv 0, iv 0, rv b31, .unset, .unset, .unset] [.ref b46] _
      refine XS.dup X53.here hx rfl (hb hby at_356) rfl rfl ?_
      refine XS.iconst X53.here hx rfl (hb hby at_357) ?_
      show Sq p e below m T53 358 #[iv p1, iv p2, iv p3, iv p4, iv p5, iv cp, iv kk0, iv kk1, iv kk2, rv b1, iv 0, iv e1, iv 1, iv v, iv e2, iv 2, iv qv, iv (-1), iv 0, iv 0, iv 0, iv 0, rv b31, .unset, .unset, .unset] [.int 2, .ref b46, .ref b46] _
      refine XS.iload X53.here hx rfl (hb hby at_358) rfl ?_
      show Sq p e below m T53 360 #[iv p1, iv p2, iv p3, iv p4, iv p5, iv cp, iv kk0, iv kk1, iv kk2, rv b1, iv 0, iv e1, iv 1, iv v, iv e2, iv 2, iv qv, iv (-1), iv 0, iv 0, iv 0, iv 0, rv b31, .unset, .unset, .unset] [.int kk2, .int 2, .ref b46, .ref b46] _
      refine st57 _ ?_
      show Sq p e below m T57 361 #[iv p1, iv p2, iv p3, iv p4, iv p5, iv cp, iv kk0, iv kk1, iv kk2, rv b1, iv 0, iv e1, iv 1, iv v, iv e2, iv 2, iv qv, iv (-1), iv 0, iv 0, iv 0, iv 0, rv b31, .unset, .unset, .unset] [.ref b46] _
      refine XS.astore X57.here hx rfl (hb hby at_361) rfl rfl rfl ?_
      refine XS.aload X57.here hx rfl (hb hby at_363) rfl rfl ?_
      show Sq p e below m T57 365 #[iv p1, iv p2, iv p3, iv p4, iv p5, iv cp, iv kk0, iv kk1, iv kk2, rv b1, iv 0, iv e1, iv 1, iv v, iv e2, iv 2, iv qv, iv (-1), iv 0, iv 0, iv 0, iv 0, rv b31, rv b46, .unset, .unset] [.ref b1] _
      refine XS.iload X57.here hx rfl (hb hby at_365) rfl ?_
      show Sq p e below m T57 367 #[iv p1, iv p2, iv p3, iv p4, iv p5, iv cp, iv kk0, iv kk1, iv kk2, rv b1, iv 0, iv e1, iv 1, iv v, iv e2, iv 2, iv qv, iv (-1), iv 0, iv 0, iv 0, iv 0, rv b31, rv b46, .unset, .unset] [.int (-1), .ref b1] _
      refine st61.trans ?_
      show Sq p e below m T61 370 #[iv p1, iv p2, iv p3, iv p4, iv p5, iv cp, iv kk0, iv kk1, iv kk2, rv b1, iv 0, iv e1, iv 1, iv v, iv e2, iv 2, iv qv, iv (-1), iv 0, iv 0, iv 0, iv 0, rv b31, rv b46, .unset, .unset] [.int 0] _
      refine XS.istore X61.here hx rfl (hb hby at_370) rfl rfl ?_
      refine XS.iload X61.here hx rfl (hb hby at_372) rfl ?_
      show Sq p e below m T61 374 #[iv p1, iv p2, iv p3, iv p4, iv p5, iv cp, iv kk0, iv kk1, iv kk2, rv b1, iv 0, iv e1, iv 1, iv v, iv e2, iv 2, iv qv, iv (-1), iv 0, iv 0, iv 0, iv 0, rv b31, rv b46, iv 0, .unset] [.int 0] _
      refine XS.iload X61.here hx rfl (hb hby at_374) rfl ?_
      refine XS.icmpNo X61.here hx rfl (hb hby at_376) rfl (teq (rfl : (0 : Int32) = (0 : Int32))).2 ?_
      show Sq p e below m T61 379 #[iv p1, iv p2, iv p3, iv p4, iv p5, iv cp, iv kk0, iv kk1, iv kk2, rv b1, iv 0, iv e1, iv 1, iv v, iv e2, iv 2, iv qv, iv (-1), iv 0, iv 0, iv 0, iv 0, rv b31, rv b46, iv 0, .unset] [] _
      refine XS.iconst X61.here hx rfl (hb hby at_379) ?_
      refine XS.goto X61.here hx rfl (pc0 := 380) (pc' := 384) rfl (hb hby at_380) (by decide) (by decide) ?_
      show Sq p e below m T61 384 #[iv p1, iv p2, iv p3, iv p4, iv p5, iv cp, iv kk0, iv kk1, iv kk2, rv b1, iv 0, iv e1, iv 1, iv v, iv e2, iv 2, iv qv, iv (-1), iv 0, iv 0, iv 0, iv 0, rv b31, rv b46, iv 0, .unset] [.int 1] _
      refine XS.istore X61.here hx rfl (hb hby at_384) rfl rfl ?_
      refine XS.iload X61.here hx rfl (hb hby at_386) rfl ?_
      show Sq p e below m T61 388 #[iv p1, iv p2, iv p3, iv p4, iv p5, iv cp, iv kk0, iv kk1, iv kk2, rv b1, iv 0, iv e1, iv 1, iv v, iv e2, iv 2, iv qv, iv (-1), iv 0, iv 0, iv 0, iv 0, rv b31, rv b46, iv 0, iv 1] [.int 1] _
      refine XS.ifNo X61.here hx rfl (hb hby at_388) rfl ((if0 _ _).trans (feq (by decide)).1) ?_
      refine XS.iload X61.here hx rfl (hb hby at_391) rfl ?_
      show Sq p e below m T61 393 #[iv p1, iv p2, iv p3, iv p4, iv p5, iv cp, iv kk0, iv kk1, iv kk2, rv b1, iv 0, iv e1, iv 1, iv v, iv e2, iv 2, iv qv, iv (-1), iv 0, iv 0, iv 0, iv 0, rv b31, rv b46, iv 0, iv 1] [.int 0] _
      refine XS.iconst X61.here hx rfl (hb hby at_393) ?_
      refine XS.icmpYes X61.here hx rfl (pc0 := 394) (pc' := 436) rfl (hb hby at_394) rfl (tlt (by decide)).1 (by decide) (by decide) ?_
      show Sq p e below m T61 436 #[iv p1, iv p2, iv p3, iv p4, iv p5, iv cp, iv kk0, iv kk1, iv kk2, rv b1, iv 0, iv e1, iv 1, iv v, iv e2, iv 2, iv qv, iv (-1), iv 0, iv 0, iv 0, iv 0, rv b31, rv b46, iv 0, iv 1] [] _
      refine XS.iload X61.here hx rfl (hb hby at_436) rfl ?_
      refine XS.ifNo X61.here hx rfl (hb hby at_438) rfl ((if0 _ _).trans (feq (by decide)).1) ?_
      show Sq p e below m T61 441 #[iv p1, iv p2, iv p3, iv p4, iv p5, iv cp, iv kk0, iv kk1, iv kk2, rv b1, iv 0, iv e1, iv 1, iv v, iv e2, iv 2, iv qv, iv (-1), iv 0, iv 0, iv 0, iv 0, rv b31, rv b46, iv 0, iv 1] [] _
      refine XS.iload X61.here hx rfl (hb hby at_441) rfl ?_
      refine XS.iconst X61.here hx rfl (hb hby at_443) ?_
      show Sq p e below m T61 444 #[iv p1, iv p2, iv p3, iv p4, iv p5, iv cp, iv kk0, iv kk1, iv kk2, rv b1, iv 0, iv e1, iv 1, iv v, iv e2, iv 2, iv qv, iv (-1), iv 0, iv 0, iv 0, iv 0, rv b31, rv b46, iv 0, iv 1] [.int 2, .int 0] _
      refine XS.icmpYes X61.here hx rfl (pc0 := 444) (pc' := 486) rfl (hb hby at_444) rfl (tlt (by decide)).1 (by decide) (by decide) ?_
      refine XS.iload X61.here hx rfl (hb hby at_486) rfl ?_
      show Sq p e below m T61 488 #[iv p1, iv p2, iv p3, iv p4, iv p5, iv cp, iv kk0, iv kk1, iv kk2, rv b1, iv 0, iv e1, iv 1, iv v, iv e2, iv 2, iv qv, iv (-1), iv 0, iv 0, iv 0, iv 0, rv b31, rv b46, iv 0, iv 1] [.int 1] _
      refine XS.ifNo X61.here hx rfl (hb hby at_488) rfl ((if0 _ _).trans (feq (by decide)).1) ?_
      refine XS.iload X61.here hx rfl (hb hby at_491) rfl ?_
      show Sq p e below m T61 493 #[iv p1, iv p2, iv p3, iv p4, iv p5, iv cp, iv kk0, iv kk1, iv kk2, rv b1, iv 0, iv e1, iv 1, iv v, iv e2, iv 2, iv qv, iv (-1), iv 0, iv 0, iv 0, iv 0, rv b31, rv b46, iv 0, iv 1] [.int 0] _
      refine XS.iconst X61.here hx rfl (hb hby at_493) ?_
      refine XS.icmpYes X61.here hx rfl (pc0 := 494) (pc' := 536) rfl (hb hby at_494) rfl (tlt (by decide)).1 (by decide) (by decide) ?_
      show Sq p e below m T61 536 #[iv p1, iv p2, iv p3, iv p4, iv p5, iv cp, iv kk0, iv kk1, iv kk2, rv b1, iv 0, iv e1, iv 1, iv v, iv e2, iv 2, iv qv, iv (-1), iv 0, iv 0, iv 0, iv 0, rv b31, rv b46, iv 0, iv 1] [] _
      refine XS.iload X61.here hx rfl (hb hby at_536) rfl ?_
      show Sq p e below m T61 538 #[iv p1, iv p2, iv p3, iv p4, iv p5, iv cp, iv kk0, iv kk1, iv kk2, rv b1, iv 0, iv e1, iv 1, iv v, iv e2, iv 2, iv qv, iv (-1), iv 0, iv 0, iv 0, iv 0, rv b31, rv b46, iv 0, iv 1] [.int 1] _
      exact retN X61 hx (t := .boolean) Bd.returns (by simp) (hb hby at_538) hr
    · show Q_rm0 Z p1 p2 p3 p4 p5 cp kk0 kk1 kk2 v qv w_MIR h0 n0 _ T61.heap _
      rw [e61]
      exact ⟨rfl, N61⟩
set_option maxRecDepth 65536 in
set_option maxHeartbeats 40000000 in
theorem comes_1 {Post : Tables → Env → Array Value → State → Outcome → State → Prop} (hpost : ∀ tb e args s v u, (limb_1_1.after args s (.returned v) u = true ∧ limb_1_2.after args s (.returned v) u = true ∧ True) → FrameEnd s (.returned v) u (Jvm.fieldLocs frame_1_writes args s ++ Jvm.arrayLocs frame_1_arrays args s ++ Jvm.staticLocs frame_1_statics s) 40 512 → Post tb e args s (.returned v) u) :
    ArmFor flags0 classFile x code maxLocals ret World_1 tables_1 room_1 Calls_1 rest_1 Pre_1 Post := by
  intro l hfl _ _ p e ha hc hk s m args below hf hA hF happ hP
  obtain ⟨hcalls, hrest, hpre⟩ := hP
  obtain ⟨-, -, -, hnamed, -, -, -, hat⟩ := (Spec.applies_iff hf).mp happ
  obtain ⟨hg, hn⟩ := and_e (Cond.before_iff.mp (show (Jvm.Cond.and given_1 narrow_1).before args s = true from hpre))
  obtain ⟨gc, gr0⟩ := and_e hg
  obtain ⟨ga0, gr1⟩ := and_e gr0
  obtain ⟨ga1, gr2⟩ := and_e gr1
  obtain ⟨ga2, gr3⟩ := and_e gr2
  obtain ⟨ga3, gr4⟩ := and_e gr3
  obtain ⟨w0, w1, w2, w3, w4, rfl⟩ : ∃ w0 w1 w2 w3 w4 : Value, args = #[w0, w1, w2, w3, w4] := by
    have hs : args.size = 5 := by simpa [Cond.value, given_1] using gc
    obtain ⟨L⟩ := args
    match L, hs with
    | [w0, w1, w2, w3, w4], _ => exact ⟨w0, w1, w2, w3, w4, rfl⟩
  have hw := fun d (hd : d ∈ tables_1) => atoms_spec (ws := Jvm.Cond.code x code maxLocals ret :: tables_1) hat d (List.mem_cons_of_mem _ hd)
  have W := fun (i : Nat) {d : Jvm.Cond} (h : tables_1[i]? = some d) => hw d (List.mem_of_getElem? h)
  obtain ⟨i0, ei0⟩ := is_v ga0
  obtain rfl : w0 = (.int i0) := Option.some.inj ei0
  obtain ⟨i1, ei1⟩ := is_v ga1
  obtain rfl : w1 = (.int i1) := Option.some.inj ei1
  obtain ⟨i2, ei2⟩ := is_v ga2
  obtain rfl : w2 = (.int i2) := Option.some.inj ei2
  obtain ⟨i3, ei3⟩ := is_v ga3
  obtain rfl : w3 = (.int i3) := Option.some.inj ei3
  obtain ⟨i4, ei4⟩ := is_v gr4
  obtain rfl : w4 = (.int i4) := Option.some.inj ei4
  obtain ⟨mc_, mk_, w_MIR, hm1, hm2, hm3, -⟩ := hcalls.1
  have Mo : Mirr s "[Ljava/lang/Object;" w_MIR := ⟨mc_, mk_, hm1, hm2, hm3⟩
  obtain ⟨n, o, h1, h2, h3, _, L, rfl, ⟨rfl, N⟩, hq⟩ := rm0 l s _ hw tables_1 i0 i1 i2 i3 i4 _ _ _ _ _ _ w_MIR s.heap s.heap.size (Old.start s) Mo rfl rfl rfl rfl rfl rfl p e ha hc hk s m _ below hf ((Spec.applies_iff_loose hf).mp happ).1 ⟨rfl, State.Warmed39.refl s, rfl⟩ trivial
  refine ⟨n, _, h1, h2, h3, hpost _ _ _ _ _ _ ⟨Cond.after_iff.mpr rfl, Cond.after_iff.mpr (eq_i res_at (Term.int_eval (1)) rfl), trivial⟩ ⟨hq.1, hq.2.1, (hq.2.2.sift fun y hy => Or.inr (N y hy)).mono (by decide) (by decide)⟩⟩
theorem main_1_1 : Claimed_1_1 := comes_1 fun _ _ _ _ _ _ h hF => ⟨h.1, hF⟩
theorem main_1_2 : Claimed_1_2 := comes_1 fun _ _ _ _ _ _ h hF => ⟨h.2.1, hF⟩
end Jvm.Pilot.@@N@@
namespace Jvm.Pilot.@@N@@
open Jvm Jvm.ClassFile Sem Op Lib Jvm.Free Jvm.Stand Jvm.Pilot.@@N@@.Jvm.D
/-! MADE BY PROGRAM (witnessworld.py) out of the Statement's table words and the real class files: 14 classes; the members and pool entries that the words name. The judged class is class 1, her method 1. -/
namespace start1
open Jvm.ClassFile
def u (s : String) : CpInfo := .utf8 (stringToUtf16 s)
/-- a pool by its gaps: so many unusable entries, then the entry; so many at the end -/
def gap : Nat → List CpInfo → List CpInfo
  | 0, r => r
  | n + 1, r => .unusable :: gap n r
def poolList (es : List (Nat × CpInfo)) (last : Nat) : List CpInfo := es.foldr (fun e r => gap e.1 (e.2 :: r)) (gap last [])
def pool (es : List (Nat × CpInfo)) (last : Nat) : Array CpInfo := ⟨poolList es last⟩
def fileOf (pool : Array CpInfo) (this : Nat) (attrs : Array Attribute := #[]) (ms : Array MethodInfo := #[]) (fl : Nat := 33) (sup : Nat := 0) (ifs : Array Nat := #[]) (fds : Array FieldInfo := #[]) : ClassFile where
  minorVersion := 0
  majorVersion := 65
  constantPool := pool
  accessFlags := fl
  thisClass := this
  superClass := sup
  interfaces := ifs
  fields := fds
  methods := ms
  attributes := attrs
def plain (name : String) (sup : Option ClassId) : Class where
  name := name
  kind := .ordinary
  loader := none
  accessFlags := 33
  super := sup
  interfaces := #[]
  cf := none
  fields := #[]
  methods := #[]
  instanceTypes := #[]
  staticTypes := #[]
  resolved := #[]
  callSites := []
  init := .initialized
  statics := none
  mirror := none

def pool0 : Array CpInfo := pool [(5, u "<init>"), (0, u "()V"), (1, .class_ 10), (1, u "java/lang/Object"), (0, u "getClass"), (0, u "()Ljava/lang/Class;")] 111

def k0c0 : Code := { maxStack := 0, maxLocals := 1, code := object_method_1_code, exceptionTable := #[], attributes := #[] }
def k0m0 : Method := { name := "<init>", desc := "()V", sig := { parameters := [], returnType := none }, accessFlags := 1, code := some k0c0 }
def k0m1 : Method := { name := "getClass", desc := "()Ljava/lang/Class;", sig := { parameters := [], returnType := some (.object "java/lang/Class") }, accessFlags := 273, code := none }
/-- java/lang/Object -/
def k0 : Class := { plain "java/lang/Object" none with
  accessFlags := 33
  interfaces := #[]
  cf := some (fileOf pool0 8 #[] #[{ accessFlags := 1, nameIndex := 5, descriptorIndex := 6, attributes := #[] }, { accessFlags := 273, nameIndex := 11, descriptorIndex := 12, attributes := #[] }] 33 0 #[] #[])
  fields := #[]
  methods := #[k0m0, k0m1]
  instanceTypes := #[]
  staticTypes := #[]
  resolved := Array.replicate 124 none
  statics := none }

def pool1 : Array CpInfo := pool [(2, .class_ 4), (1, u "java/lang/Object"), (0, u "<init>"), (0, u "()V"), (0, .class_ 8), (0, u "com/example/dodder/dodder/engine/PathWrites"), (0, .methodref 7 10), (0, .nameAndType 5 11), (0, u "(I)V"), (0, .methodref 7 13), (0, .nameAndType 14 11), (0, u "clear"), (0, .methodref 7 16), (0, .nameAndType 17 18), (0, u "write"), (0, u "(III)I"), (0, .methodref 7 20), (0, .nameAndType 21 22), (0, u "path"), (0, u "(I)I"), (0, .methodref 7 24), (0, .nameAndType 25 22), (0, u "slot"), (0, .methodref 7 27), (0, .nameAndType 28 22), (0, u "value"), (0, .methodref 30 31), (0, .class_ 32), (0, .nameAndType 33 34), (0, u "com/example/dodder/dodder/engine/PathWritesPathPinLaw"), (0, u "expectedValue"), (0, u "(II)I"), (2, u "law"), (0, u "(IIIII)Z")] 5

def k1m0 : Method := { name := "<init>", desc := "()V", sig := { parameters := [], returnType := none }, accessFlags := 1, code := none }
def k1c1 : Code := { maxStack := 4, maxLocals := 26, code := code, exceptionTable := #[], attributes := #[] }
def k1m1 : Method := { name := "law", desc := "(IIIII)Z", sig := { parameters := [.int, .int, .int, .int, .int], returnType := some .boolean }, accessFlags := 9, code := some k1c1 }
def k1c2 : Code := { maxStack := 2, maxLocals := 2, code := method_3_code, exceptionTable := #[], attributes := #[] }
def k1m2 : Method := { name := "expectedValue", desc := "(II)I", sig := { parameters := [.int, .int], returnType := some .int }, accessFlags := 10, code := some k1c2 }
/-- com/example/dodder/dodder/engine/PathWritesPathPinLaw -/
def k1 : Class := { plain "com/example/dodder/dodder/engine/PathWritesPathPinLaw" (some 0) with
  accessFlags := 49
  interfaces := #[]
  cf := some (fileOf pool1 30 #[] #[{ accessFlags := 1, nameIndex := 5, descriptorIndex := 6, attributes := #[] }, { accessFlags := 9, nameIndex := 37, descriptorIndex := 38, attributes := #[] }, { accessFlags := 10, nameIndex := 33, descriptorIndex := 34, attributes := #[] }] 49 2 #[] #[])
  fields := #[]
  methods := #[k1m0, k1m1, k1m2]
  instanceTypes := #[]
  staticTypes := #[]
  resolved := Array.replicate 44 none
  statics := none }

def pool2 : Array CpInfo := pool [(1, .methodref 2 3), (0, .class_ 4), (0, .nameAndType 5 6), (0, u "java/lang/Object"), (0, u "<init>"), (0, u "()V"), (0, .class_ 8), (0, u "com/example/dodder/dodder/engine/PathWrites"), (0, .fieldref 7 10), (0, .nameAndType 11 12), (0, u "run"), (0, u "[I"), (0, .fieldref 7 14), (0, .nameAndType 15 12), (0, u "logged"), (0, .fieldref 7 17), (0, .nameAndType 18 12), (0, u "earlierWrites"), (0, .fieldref 7 20), (0, .nameAndType 21 22), (0, u "madeAfter"), (0, u "[Ljava/lang/Object;"), (0, .fieldref 7 24), (0, .nameAndType 25 12), (0, u "unmade"), (0, .fieldref 7 27), (0, .nameAndType 28 12), (0, u "listed"), (0, .fieldref 7 30), (0, .nameAndType 31 32), (0, u "writes"), (0, u "I"), (0, .fieldref 7 34), (0, .nameAndType 35 32), (0, u "position"), (0, .methodref 37 38), (0, .class_ 39), (0, .nameAndType 40 41), (0, u "java/lang/Math"), (0, u "max"), (0, u "(II)I"), (0, .methodref 43 44), (0, .class_ 45), (0, .nameAndType 46 47), (0, u "java/util/Arrays"), (0, u "copyOf"), (0, u "([II)[I"), (0, .methodref 43 49), (0, .nameAndType 46 50), (0, u "([Ljava/lang/Object;I)[Ljava/lang/Object;"), (10, .class_ 63), (1, u "com/example/dodder/dodder/engine/Captures"), (2, .methodref 61 67), (0, .nameAndType 68 69), (0, u "valueOf"), (0, u "(III)I"), (7, u "NONE"), (2, u "RUN"), (1, u "(I)V"), (2, u "clear"), (0, u "write"), (3, u "path"), (0, u "(I)I"), (0, u "slot"), (0, u "value")] 2

def k2c0 : Code := { maxStack := 3, maxLocals := 2, code := prog_20_method_1_code, exceptionTable := #[], attributes := #[] }
def k2m0 : Method := { name := "<init>", desc := "(I)V", sig := { parameters := [.int], returnType := none }, accessFlags := 0, code := some k2c0 }
def k2c1 : Code := { maxStack := 2, maxLocals := 2, code := prog_20_method_2_code, exceptionTable := #[], attributes := #[] }
def k2m1 : Method := { name := "clear", desc := "(I)V", sig := { parameters := [.int], returnType := none }, accessFlags := 0, code := some k2c1 }
def k2c2 : Code := { maxStack := 4, maxLocals := 5, code := prog_20_method_3_code, exceptionTable := #[], attributes := #[] }
def k2m2 : Method := { name := "write", desc := "(III)I", sig := { parameters := [.int, .int, .int], returnType := some .int }, accessFlags := 0, code := some k2c2 }
def k2c3 : Code := { maxStack := 5, maxLocals := 5, code := prog_20_method_6_code, exceptionTable := #[], attributes := #[] }
def k2m3 : Method := { name := "path", desc := "(I)I", sig := { parameters := [.int], returnType := some .int }, accessFlags := 0, code := some k2c3 }
def k2c4 : Code := { maxStack := 3, maxLocals := 2, code := prog_20_method_7_code, exceptionTable := #[], attributes := #[] }
def k2m4 : Method := { name := "slot", desc := "(I)I", sig := { parameters := [.int], returnType := some .int }, accessFlags := 0, code := some k2c4 }
def k2c5 : Code := { maxStack := 3, maxLocals := 2, code := prog_20_method_8_code, exceptionTable := #[], attributes := #[] }
def k2m5 : Method := { name := "value", desc := "(I)I", sig := { parameters := [.int], returnType := some .int }, accessFlags := 0, code := some k2c5 }
/-- com/example/dodder/dodder/engine/PathWrites -/
def k2 : Class := { plain "com/example/dodder/dodder/engine/PathWrites" (some 0) with
  accessFlags := 48
  interfaces := #[]
  cf := some (fileOf pool2 7 #[] #[{ accessFlags := 0, nameIndex := 5, descriptorIndex := 82, attributes := #[] }, { accessFlags := 0, nameIndex := 85, descriptorIndex := 82, attributes := #[] }, { accessFlags := 0, nameIndex := 86, descriptorIndex := 69, attributes := #[] }, { accessFlags := 0, nameIndex := 90, descriptorIndex := 91, attributes := #[] }, { accessFlags := 0, nameIndex := 92, descriptorIndex := 91, attributes := #[] }, { accessFlags := 0, nameIndex := 93, descriptorIndex := 91, attributes := #[] }] 48 2 #[] #[{ accessFlags := 24, nameIndex := 77, descriptorIndex := 32, attributes := #[] }, { accessFlags := 26, nameIndex := 80, descriptorIndex := 32, attributes := #[] }, { accessFlags := 2, nameIndex := 15, descriptorIndex := 12, attributes := #[] }, { accessFlags := 2, nameIndex := 18, descriptorIndex := 12, attributes := #[] }, { accessFlags := 2, nameIndex := 31, descriptorIndex := 32, attributes := #[] }, { accessFlags := 2, nameIndex := 35, descriptorIndex := 32, attributes := #[] }, { accessFlags := 2, nameIndex := 21, descriptorIndex := 22, attributes := #[] }, { accessFlags := 2, nameIndex := 25, descriptorIndex := 12, attributes := #[] }, { accessFlags := 18, nameIndex := 11, descriptorIndex := 12, attributes := #[] }, { accessFlags := 2, nameIndex := 28, descriptorIndex := 12, attributes := #[] }])
  fields := #[{ name := "NONE", type := .int, accessFlags := 24, slot := 0, constantValue := 0 }, { name := "RUN", type := .int, accessFlags := 26, slot := 1, constantValue := 0 }, { name := "logged", type := (.array .int), accessFlags := 2, slot := 0, constantValue := 0 }, { name := "earlierWrites", type := (.array .int), accessFlags := 2, slot := 1, constantValue := 0 }, { name := "writes", type := .int, accessFlags := 2, slot := 2, constantValue := 0 }, { name := "position", type := .int, accessFlags := 2, slot := 3, constantValue := 0 }, { name := "madeAfter", type := (.array (.object "java/lang/Object")), accessFlags := 2, slot := 4, constantValue := 0 }, { name := "unmade", type := (.array .int), accessFlags := 2, slot := 5, constantValue := 0 }, { name := "run", type := (.array .int), accessFlags := 18, slot := 6, constantValue := 0 }, { name := "listed", type := (.array .int), accessFlags := 2, slot := 7, constantValue := 0 }]
  methods := #[k2m0, k2m1, k2m2, k2m3, k2m4, k2m5]
  instanceTypes := #[(.array .int), (.array .int), .int, .int, (.array (.object "java/lang/Object")), (.array .int), (.array .int), (.array .int)]
  staticTypes := #[.int, .int]
  resolved := Array.replicate 96 none
  statics := none }

def pool3 : Array CpInfo := pool [(1, .class_ 2), (0, u "java/lang/Math"), (1, .class_ 6), (1, u "java/lang/Object"), (0, u "<init>"), (0, u "()V"), (89, .class_ 100), (1, u "java/lang/Math$RandomNumberGeneratorHolder"), (71, u "negativeZeroFloatBits"), (0, u "J"), (2, u "negativeZeroDoubleBits"), (21, u "max"), (2, u "min"), (43, u "$assertionsDisabled"), (0, u "Z"), (88, u "(II)I"), (2, u "twoToTheDoubleScaleDown"), (0, u "D"), (4, u "twoToTheDoubleScaleUp"), (9, u "E"), (3, u "PI"), (2, u "TAU"), (2, u "DEGREES_TO_RADIANS"), (0, u "RADIANS_TO_DEGREES")] 94

def k3m0 : Method := { name := "<init>", desc := "()V", sig := { parameters := [], returnType := none }, accessFlags := 2, code := none }
def k3c1 : Code := { maxStack := 2, maxLocals := 2, code := jdk_29_method_65_code, exceptionTable := #[], attributes := #[] }
def k3m1 : Method := { name := "max", desc := "(II)I", sig := { parameters := [.int, .int], returnType := some .int }, accessFlags := 9, code := some k3c1 }
def k3c2 : Code := { maxStack := 2, maxLocals := 2, code := jdk_29_method_69_code, exceptionTable := #[], attributes := #[] }
def k3m2 : Method := { name := "min", desc := "(II)I", sig := { parameters := [.int, .int], returnType := some .int }, accessFlags := 9, code := some k3c2 }
/-- java/lang/Math -/
def k3 : Class := { plain "java/lang/Math" (some 0) with
  accessFlags := 49
  interfaces := #[]
  cf := some (fileOf pool3 1 #[.nestMembers #[98]] #[{ accessFlags := 2, nameIndex := 7, descriptorIndex := 8, attributes := #[] }, { accessFlags := 9, nameIndex := 198, descriptorIndex := 335, attributes := #[] }, { accessFlags := 9, nameIndex := 201, descriptorIndex := 335, attributes := #[] }] 49 4 #[] #[{ accessFlags := 25, nameIndex := 354, descriptorIndex := 339, attributes := #[] }, { accessFlags := 25, nameIndex := 358, descriptorIndex := 339, attributes := #[] }, { accessFlags := 25, nameIndex := 361, descriptorIndex := 339, attributes := #[] }, { accessFlags := 26, nameIndex := 364, descriptorIndex := 339, attributes := #[] }, { accessFlags := 26, nameIndex := 365, descriptorIndex := 339, attributes := #[] }, { accessFlags := 26, nameIndex := 172, descriptorIndex := 173, attributes := #[] }, { accessFlags := 26, nameIndex := 176, descriptorIndex := 173, attributes := #[] }, { accessFlags := 8, nameIndex := 344, descriptorIndex := 339, attributes := #[] }, { accessFlags := 8, nameIndex := 338, descriptorIndex := 339, attributes := #[] }, { accessFlags := 4120, nameIndex := 245, descriptorIndex := 246, attributes := #[] }])
  fields := #[{ name := "E", type := .double, accessFlags := 25, slot := 0, constantValue := 0 }, { name := "PI", type := .double, accessFlags := 25, slot := 1, constantValue := 0 }, { name := "TAU", type := .double, accessFlags := 25, slot := 2, constantValue := 0 }, { name := "DEGREES_TO_RADIANS", type := .double, accessFlags := 26, slot := 3, constantValue := 0 }, { name := "RADIANS_TO_DEGREES", type := .double, accessFlags := 26, slot := 4, constantValue := 0 }, { name := "negativeZeroFloatBits", type := .long, accessFlags := 26, slot := 5, constantValue := 0 }, { name := "negativeZeroDoubleBits", type := .long, accessFlags := 26, slot := 6, constantValue := 0 }, { name := "twoToTheDoubleScaleUp", type := .double, accessFlags := 8, slot := 7, constantValue := 0 }, { name := "twoToTheDoubleScaleDown", type := .double, accessFlags := 8, slot := 8, constantValue := 0 }, { name := "$assertionsDisabled", type := .boolean, accessFlags := 4120, slot := 9, constantValue := 0 }]
  methods := #[k3m0, k3m1, k3m2]
  instanceTypes := #[]
  staticTypes := #[.double, .double, .double, .double, .double, .long, .long, .double, .double, .boolean]
  resolved := Array.replicate 460 none
  statics := none }

def pool4 : Array CpInfo := pool [(2, .class_ 4), (1, u "java/lang/Object"), (0, u "<init>"), (0, u "()V"), (7, .class_ 16), (1, u "java/util/Arrays"), (57, .class_ 76), (1, u "java/util/Arrays$NaturalOrder"), (9, .methodref 2 87), (0, .nameAndType 88 89), (0, u "getClass"), (0, u "()Ljava/lang/Class;"), (20, .class_ 111), (0, u "[Ljava/lang/Object;"), (1, .class_ 115), (1, u "java/util/Arrays$LegacyMergeSort"), (1, u "Z"), (32, .methodref 151 152), (0, .class_ 153), (0, .nameAndType 154 155), (0, u "java/lang/System"), (0, u "arraycopy"), (0, u "(Ljava/lang/Object;ILjava/lang/Object;II)V"), (144, .methodref 14 301), (0, .nameAndType 302 303), (0, u "copyOf"), (0, u "([Ljava/lang/Object;ILjava/lang/Class;)[Ljava/lang/Object;"), (0, .methodref 305 306), (0, .class_ 307), (0, .nameAndType 308 309), (0, u "java/lang/Math"), (0, u "min"), (0, u "(II)I"), (65, .class_ 376), (0, u "java/util/Arrays$ArrayList"), (68, u "$assertionsDisabled"), (269, u "MIN_ARRAY_SORT_GRAN"), (0, u "I"), (2, u "INSERTIONSORT_THRESHOLD"), (140, u "([Ljava/lang/Object;I)[Ljava/lang/Object;"), (10, u "([II)[I"), (103, .class_ 976), (0, u "java/util/Arrays$ArrayItr")] 52

def k4m0 : Method := { name := "<init>", desc := "()V", sig := { parameters := [], returnType := none }, accessFlags := 2, code := none }
def k4c1 : Code := { maxStack := 3, maxLocals := 2, code := jdk_65_method_119_code, exceptionTable := #[], attributes := #[] }
def k4m1 : Method := { name := "copyOf", desc := "([Ljava/lang/Object;I)[Ljava/lang/Object;", sig := { parameters := [(.array (.object "java/lang/Object")), .int], returnType := some (.array (.object "java/lang/Object")) }, accessFlags := 9, code := some k4c1 }
def k4c2 : Code := { maxStack := 6, maxLocals := 4, code := jdk_65_method_120_code, exceptionTable := #[], attributes := #[] }
def k4m2 : Method := { name := "copyOf", desc := "([Ljava/lang/Object;ILjava/lang/Class;)[Ljava/lang/Object;", sig := { parameters := [(.array (.object "java/lang/Object")), .int, (.object "java/lang/Class")], returnType := some (.array (.object "java/lang/Object")) }, accessFlags := 9, code := some k4c2 }
def k4c3 : Code := { maxStack := 6, maxLocals := 3, code := jdk_65_method_123_code, exceptionTable := #[], attributes := #[] }
def k4m3 : Method := { name := "copyOf", desc := "([II)[I", sig := { parameters := [(.array .int), .int], returnType := some (.array .int) }, accessFlags := 9, code := some k4c3 }
/-- java/util/Arrays -/
def k4 : Class := { plain "java/util/Arrays" (some 0) with
  accessFlags := 49
  interfaces := #[]
  cf := some (fileOf pool4 14 #[.nestMembers #[975, 375, 113, 74]] #[{ accessFlags := 2, nameIndex := 5, descriptorIndex := 6, attributes := #[] }, { accessFlags := 9, nameIndex := 302, descriptorIndex := 860, attributes := #[] }, { accessFlags := 9, nameIndex := 302, descriptorIndex := 303, attributes := #[] }, { accessFlags := 9, nameIndex := 302, descriptorIndex := 871, attributes := #[] }] 49 2 #[] #[{ accessFlags := 26, nameIndex := 715, descriptorIndex := 716, attributes := #[] }, { accessFlags := 26, nameIndex := 719, descriptorIndex := 716, attributes := #[] }, { accessFlags := 4120, nameIndex := 445, descriptorIndex := 117, attributes := #[] }])
  fields := #[{ name := "MIN_ARRAY_SORT_GRAN", type := .int, accessFlags := 26, slot := 0, constantValue := 0 }, { name := "INSERTIONSORT_THRESHOLD", type := .int, accessFlags := 26, slot := 1, constantValue := 0 }, { name := "$assertionsDisabled", type := .boolean, accessFlags := 4120, slot := 2, constantValue := 0 }]
  methods := #[k4m0, k4m1, k4m2, k4m3]
  instanceTypes := #[]
  staticTypes := #[.int, .int, .boolean]
  resolved := Array.replicate 1029 none
  statics := none }

def pool5 : Array CpInfo := pool [(2, .class_ 4), (1, u "java/lang/Object"), (0, u "<init>"), (0, u "()V"), (1, .class_ 10), (1, u "java/lang/System"), (0, u "allowSecurityManager"), (0, u "I"), (16, u "cons"), (0, u "Ljava/io/Console;"), (77, .class_ 110), (1, u "java/lang/System$CallersHolder"), (43, u "initialErrStream"), (0, u "Ljava/io/PrintStream;"), (19, u "security"), (0, u "Ljava/lang/SecurityManager;"), (31, .class_ 209), (0, u "java/lang/System$1"), (7, u "props"), (0, u "Ljava/util/Properties;"), (2, u "lineSeparator"), (0, u "Ljava/lang/String;"), (96, .class_ 321), (1, u "java/lang/System$LoggerFinder"), (5, .class_ 328), (0, u "java/lang/System$Logger"), (67, u "err"), (2, u "out"), (91, u "notSupportedJnuEncoding"), (15, u "in"), (17, u "initialIn"), (0, u "Ljava/io/InputStream;"), (35, u "bootLayer"), (0, u "Ljava/lang/ModuleLayer;"), (99, .class_ 664), (0, u "java/lang/System$2"), (9, u "NEVER"), (2, u "MAYBE"), (49, u "arraycopy"), (0, u "(Ljava/lang/Object;ILjava/lang/Object;II)V"), (72, .class_ 802), (0, u "java/lang/System$Logger$Level")] 31

def k5m0 : Method := { name := "<init>", desc := "()V", sig := { parameters := [], returnType := none }, accessFlags := 2, code := none }
def k5m1 : Method := { name := "arraycopy", desc := "(Ljava/lang/Object;ILjava/lang/Object;II)V", sig := { parameters := [(.object "java/lang/Object"), .int, (.object "java/lang/Object"), .int, .int], returnType := none }, accessFlags := 265, code := none }
/-- java/lang/System -/
def k5 : Class := { plain "java/lang/System" (some 0) with
  accessFlags := 49
  interfaces := #[]
  cf := some (fileOf pool5 8 #[.nestMembers #[319, 327, 801, 108, 663, 208]] #[{ accessFlags := 2, nameIndex := 5, descriptorIndex := 6, attributes := #[] }, { accessFlags := 265, nameIndex := 727, descriptorIndex := 728, attributes := #[] }] 49 2 #[] #[{ accessFlags := 25, nameIndex := 507, descriptorIndex := 526, attributes := #[] }, { accessFlags := 25, nameIndex := 399, descriptorIndex := 155, attributes := #[] }, { accessFlags := 25, nameIndex := 396, descriptorIndex := 155, attributes := #[] }, { accessFlags := 10, nameIndex := 525, descriptorIndex := 526, attributes := #[] }, { accessFlags := 26, nameIndex := 674, descriptorIndex := 12, attributes := #[] }, { accessFlags := 26, nameIndex := 677, descriptorIndex := 12, attributes := #[] }, { accessFlags := 10, nameIndex := 11, descriptorIndex := 12, attributes := #[] }, { accessFlags := 74, nameIndex := 175, descriptorIndex := 176, attributes := #[] }, { accessFlags := 10, nameIndex := 491, descriptorIndex := 222, attributes := #[] }, { accessFlags := 74, nameIndex := 29, descriptorIndex := 30, attributes := #[] }, { accessFlags := 74, nameIndex := 154, descriptorIndex := 155, attributes := #[] }, { accessFlags := 10, nameIndex := 217, descriptorIndex := 218, attributes := #[] }, { accessFlags := 10, nameIndex := 221, descriptorIndex := 222, attributes := #[] }, { accessFlags := 8, nameIndex := 562, descriptorIndex := 563, attributes := #[] }])
  fields := #[{ name := "in", type := (.object "java/io/InputStream"), accessFlags := 25, slot := 0, constantValue := 0 }, { name := "out", type := (.object "java/io/PrintStream"), accessFlags := 25, slot := 1, constantValue := 0 }, { name := "err", type := (.object "java/io/PrintStream"), accessFlags := 25, slot := 2, constantValue := 0 }, { name := "initialIn", type := (.object "java/io/InputStream"), accessFlags := 10, slot := 3, constantValue := 0 }, { name := "NEVER", type := .int, accessFlags := 26, slot := 4, constantValue := 0 }, { name := "MAYBE", type := .int, accessFlags := 26, slot := 5, constantValue := 0 }, { name := "allowSecurityManager", type := .int, accessFlags := 10, slot := 6, constantValue := 0 }, { name := "security", type := (.object "java/lang/SecurityManager"), accessFlags := 74, slot := 7, constantValue := 0 }, { name := "notSupportedJnuEncoding", type := (.object "java/lang/String"), accessFlags := 10, slot := 8, constantValue := 0 }, { name := "cons", type := (.object "java/io/Console"), accessFlags := 74, slot := 9, constantValue := 0 }, { name := "initialErrStream", type := (.object "java/io/PrintStream"), accessFlags := 74, slot := 10, constantValue := 0 }, { name := "props", type := (.object "java/util/Properties"), accessFlags := 10, slot := 11, constantValue := 0 }, { name := "lineSeparator", type := (.object "java/lang/String"), accessFlags := 10, slot := 12, constantValue := 0 }, { name := "bootLayer", type := (.object "java/lang/ModuleLayer"), accessFlags := 8, slot := 13, constantValue := 0 }]
  methods := #[k5m0, k5m1]
  instanceTypes := #[]
  staticTypes := #[(.object "java/io/InputStream"), (.object "java/io/PrintStream"), (.object "java/io/PrintStream"), (.object "java/io/InputStream"), .int, .int, .int, (.object "java/lang/SecurityManager"), (.object "java/lang/String"), (.object "java/io/Console"), (.object "java/io/PrintStream"), (.object "java/util/Properties"), (.object "java/lang/String"), (.object "java/lang/ModuleLayer")]
  resolved := Array.replicate 834 none
  statics := none }

def pool6 : Array CpInfo := pool [(1, .class_ 2), (0, u "com/example/dodder/dodder/engine/Captures"), (1, .class_ 6), (1, u "java/lang/Object"), (0, u "<init>"), (0, u "()V"), (5, .class_ 16), (1, u "com/example/dodder/dodder/engine/Captures$Tree"), (30, u "valueOf"), (0, u "(III)I"), (5, u "AT_POSITION"), (0, u "I"), (2, u "AT_AFTER"), (1, u "AT_NONE"), (1, u "FLAT_SLOTS"), (1, u "BITS"), (1, u "WIDTH"), (1, u "MASK")] 16

def k6m0 : Method := { name := "<init>", desc := "()V", sig := { parameters := [], returnType := none }, accessFlags := 2, code := none }
def k6c1 : Code := { maxStack := 2, maxLocals := 4, code := prog_8_method_6_code, exceptionTable := #[], attributes := #[] }
def k6m1 : Method := { name := "valueOf", desc := "(III)I", sig := { parameters := [.int, .int, .int], returnType := some .int }, accessFlags := 8, code := some k6c1 }
/-- com/example/dodder/dodder/engine/Captures -/
def k6 : Class := { plain "com/example/dodder/dodder/engine/Captures" (some 0) with
  accessFlags := 48
  interfaces := #[]
  cf := some (fileOf pool6 1 #[.nestMembers #[14]] #[{ accessFlags := 2, nameIndex := 7, descriptorIndex := 8, attributes := #[] }, { accessFlags := 8, nameIndex := 47, descriptorIndex := 48, attributes := #[] }] 48 4 #[] #[{ accessFlags := 24, nameIndex := 54, descriptorIndex := 55, attributes := #[] }, { accessFlags := 24, nameIndex := 58, descriptorIndex := 55, attributes := #[] }, { accessFlags := 24, nameIndex := 60, descriptorIndex := 55, attributes := #[] }, { accessFlags := 26, nameIndex := 62, descriptorIndex := 55, attributes := #[] }, { accessFlags := 26, nameIndex := 64, descriptorIndex := 55, attributes := #[] }, { accessFlags := 26, nameIndex := 66, descriptorIndex := 55, attributes := #[] }, { accessFlags := 26, nameIndex := 68, descriptorIndex := 55, attributes := #[] }])
  fields := #[{ name := "AT_POSITION", type := .int, accessFlags := 24, slot := 0, constantValue := 0 }, { name := "AT_AFTER", type := .int, accessFlags := 24, slot := 1, constantValue := 0 }, { name := "AT_NONE", type := .int, accessFlags := 24, slot := 2, constantValue := 0 }, { name := "FLAT_SLOTS", type := .int, accessFlags := 26, slot := 3, constantValue := 0 }, { name := "BITS", type := .int, accessFlags := 26, slot := 4, constantValue := 0 }, { name := "WIDTH", type := .int, accessFlags := 26, slot := 5, constantValue := 0 }, { name := "MASK", type := .int, accessFlags := 26, slot := 6, constantValue := 0 }]
  methods := #[k6m0, k6m1]
  instanceTypes := #[]
  staticTypes := #[.int, .int, .int, .int, .int, .int, .int]
  resolved := Array.replicate 85 none
  statics := none }

def pool7 : Array CpInfo := pool [(1, u "java/lang/Cloneable"), (0, .class_ 1), (0, u "java/lang/Object"), (0, .class_ 3)] 3

/-- java/lang/Cloneable -/
def k7 : Class := { plain "java/lang/Cloneable" (some 0) with
  accessFlags := 1537
  interfaces := #[]
  cf := some (fileOf pool7 2 #[] #[] 1537 4 #[] #[])
  fields := #[]
  methods := #[]
  instanceTypes := #[]
  staticTypes := #[]
  resolved := Array.replicate 8 none
  statics := none }

def pool8 : Array CpInfo := pool [(1, u "java/io/Serializable"), (0, .class_ 1), (0, u "java/lang/Object"), (0, .class_ 3)] 3

/-- java/io/Serializable -/
def k8 : Class := { plain "java/io/Serializable" (some 0) with
  accessFlags := 1537
  interfaces := #[]
  cf := some (fileOf pool8 2 #[] #[] 1537 4 #[] #[])
  fields := #[]
  methods := #[]
  instanceTypes := #[]
  staticTypes := #[]
  resolved := Array.replicate 8 none
  statics := none }

/-- the primitive byte -/
def k9 : Class := { plain "byte" none with kind := .primitive 'B', accessFlags := 0x411 }
/-- [B -/
def k10 : Class := { plain "[B" (some 0) with kind := .array 9 .byte, interfaces := #[7, 8], accessFlags := 1041 }

/-- the primitive int -/
def k11 : Class := { plain "int" none with kind := .primitive 'I', accessFlags := 0x411 }
/-- [I -/
def k12 : Class := { plain "[I" (some 0) with kind := .array 11 .int, interfaces := #[7, 8], accessFlags := 1041 }

/-- [Ljava/lang/Object; -/
def k13 : Class := { plain "[Ljava/lang/Object;" (some 0) with kind := .array 0 (.object "java/lang/Object"), interfaces := #[7, 8], accessFlags := 1041, mirror := some 0 }

def heap : Heap := #[{ cls := 0, slots := #[], vm := .mirror 13 }]
def classes : Array Class := #[k0, k1, k2, k3, k4, k5, k6, k7, k8, k9, k10, k11, k12, k13]
def interned : List (Array UInt16 × Addr) := []
def slotsUsed : Nat := 0
def theMethod : MethodId := ⟨1, 1⟩
def args0 : Array Value := #[.int 5, .int 3, .int 5, .int 3, .int 0]
def aboutOver (below : List Frame) : State where
  vm := { classes := classes, interned := interned.toArray }
  heap := heap
  slotsUsed := slotsUsed
  threads := #[{ frames := .invoking theMethod args0 :: below }]
def below0 : List Frame := [.native { method := ⟨0, 0⟩, args := #[] }]
def about1 : State := aboutOver below0
def p0 : Program := .bare "" "" ""
def e0 : Env := launch0.env 0 0 0
theorem w_frames : about1.frames = Frame.invoking theMethod args0 :: below0 := rfl
set_option maxRecDepth 65536 in
theorem w_args : argsFit about1.vm theMethod args0 = true := by decide +kernel
set_option maxRecDepth 65536 in
theorem w_heap : heapFits about1 = true := by decide +kernel
set_option maxRecDepth 65536 in
theorem w_runnable : about1.curStatus? = some .runnable := by decide +kernel
set_option maxRecDepth 65536 in
theorem w_alone : about1.alone = true := by decide +kernel
set_option maxRecDepth 65536 in
theorem w_named : about1.methodNamed? x = some theMethod := by decide +kernel
set_option maxRecDepth 65536 in
theorem w_hears : about1.hears theMethod below0 = true := by decide +kernel
set_option maxRecDepth 65536 in
theorem w_ripe : about1.ripe theMethod args0 below0 = true := by decide +kernel
theorem w_running : about1.status = .running := rfl
set_option maxRecDepth 65536 in
theorem w_room : about1.hasRoom e0.platform room_1 = true :=
  launch0.hasRoom_least _ room_1 (by decide +kernel) (by decide +kernel) (by decide +kernel) (by decide +kernel) (by decide +kernel) (by decide +kernel)
theorem allAtoms_all (ts : List Jvm.Cond) (a : Array Jvm.Value) (st : Jvm.State) : (allAtoms ts).before a st = ts.all (fun c => c.before a st) := by
  induction ts with
  | nil => rfl
  | cons c t ih =>
    show (Jvm.Cond.and c (allAtoms t)).before a st = _
    rw [Jvm.Cond.before_and, ih, List.all_cons]
def words1 : List Jvm.Cond := Jvm.Cond.code x code maxLocals ret :: tables_1
/-- a 'code' word, met by the world's own term for the bytes: nothing is compared byte by byte -/
theorem code_word {y : MethodName} {bytes : ByteArray} {mx : Nat} {rt : Option FieldType} {a : Array Value} {s : State} {m : MethodId} {meth : Method} {c : Code} (h1 : s.methodNamed? y = some m) (h2 : s.vm.method? m = some meth) (h3 : meth.code = some c) (h4 : c.code = bytes)
    (h5 : (c.maxLocals == mx && c.exceptionTable.isEmpty && decide (c.maxStack ≤ mostOperands) && decide (meth.sig.returnType = rt) && !meth.locks && decide (parseMethodDescriptor y.desc = some meth.sig)) = true) : (Jvm.Cond.code y bytes mx rt).before a s = true := by
  simp only [Bool.and_eq_true, beq_iff_eq, Bool.not_eq_true', decide_eq_true_eq] at h5
  obtain ⟨⟨⟨⟨⟨g1, g2⟩, g3⟩, g4⟩, g5⟩, g6⟩ := h5
  simp [Cond.before, Cond.holds, Cond.value, h1, h2, h3, h4, g1, g2, g3, g4, g5, g6]
def isCode : Jvm.Cond → Bool
  | .code _ _ _ _ => true
  | _ => false
theorem all_split {L : List Jvm.Cond} {P : Jvm.Cond → Bool} (h1 : L.all (fun c => isCode c || P c) = true) (h2 : ∀ c ∈ L.filter isCode, P c = true) : L.all P = true := by
  refine List.all_eq_true.mpr fun c hc => ?_
  have h := List.all_eq_true.mp h1 c hc
  rcases Bool.eq_false_or_eq_true (isCode c) with hi | hi
  · exact h2 c (List.mem_filter.mpr ⟨hc, hi⟩)
  · simpa [hi] using h
set_option maxRecDepth 65536 in
theorem w_c0 : (Jvm.Cond.code x code maxLocals ret).before args0 about1 = true := code_word (m := ⟨1, 1⟩) (meth := k1m1) (c := k1c1) (by decide +kernel) rfl rfl rfl (by decide +kernel)
set_option maxRecDepth 65536 in
theorem w_c1 : (Jvm.Cond.code ({ cls := "com/example/dodder/dodder/engine/PathWrites", name := "<init>", desc := "(I)V" } : Jvm.MethodName) prog_20_method_1_code (2 : Nat) (Option.none : Option Jvm.ClassFile.FieldType)).before args0 about1 = true := code_word (m := ⟨2, 0⟩) (meth := k2m0) (c := k2c0) (by decide +kernel) rfl rfl rfl (by decide +kernel)
set_option maxRecDepth 65536 in
theorem w_c2 : (Jvm.Cond.code ({ cls := "java/lang/Object", name := "<init>", desc := "()V" } : Jvm.MethodName) object_method_1_code (1 : Nat) (Option.none : Option Jvm.ClassFile.FieldType)).before args0 about1 = true := code_word (m := ⟨0, 0⟩) (meth := k0m0) (c := k0c0) (by decide +kernel) rfl rfl rfl (by decide +kernel)
set_option maxRecDepth 65536 in
theorem w_c3 : (Jvm.Cond.code ({ cls := "com/example/dodder/dodder/engine/PathWrites", name := "clear", desc := "(I)V" } : Jvm.MethodName) prog_20_method_2_code (2 : Nat) (Option.none : Option Jvm.ClassFile.FieldType)).before args0 about1 = true := code_word (m := ⟨2, 1⟩) (meth := k2m1) (c := k2c1) (by decide +kernel) rfl rfl rfl (by decide +kernel)
set_option maxRecDepth 65536 in
theorem w_c4 : (Jvm.Cond.code ({ cls := "com/example/dodder/dodder/engine/PathWrites", name := "write", desc := "(III)I" } : Jvm.MethodName) prog_20_method_3_code (5 : Nat) (Option.some Jvm.ClassFile.FieldType.int)).before args0 about1 = true := code_word (m := ⟨2, 2⟩) (meth := k2m2) (c := k2c2) (by decide +kernel) rfl rfl rfl (by decide +kernel)
set_option maxRecDepth 65536 in
theorem w_c5 : (Jvm.Cond.code ({ cls := "java/lang/Math", name := "max", desc := "(II)I" } : Jvm.MethodName) jdk_29_method_65_code (2 : Nat) (Option.some Jvm.ClassFile.FieldType.int)).before args0 about1 = true := code_word (m := ⟨3, 1⟩) (meth := k3m1) (c := k3c1) (by decide +kernel) rfl rfl rfl (by decide +kernel)
set_option maxRecDepth 65536 in
theorem w_c6 : (Jvm.Cond.code ({ cls := "java/util/Arrays", name := "copyOf", desc := "([II)[I" } : Jvm.MethodName) jdk_65_method_123_code (3 : Nat) (Option.some (Jvm.ClassFile.FieldType.array Jvm.ClassFile.FieldType.int))).before args0 about1 = true := code_word (m := ⟨4, 3⟩) (meth := k4m3) (c := k4c3) (by decide +kernel) rfl rfl rfl (by decide +kernel)
set_option maxRecDepth 65536 in
theorem w_c7 : (Jvm.Cond.code ({ cls := "java/lang/Math", name := "min", desc := "(II)I" } : Jvm.MethodName) jdk_29_method_69_code (2 : Nat) (Option.some Jvm.ClassFile.FieldType.int)).before args0 about1 = true := code_word (m := ⟨3, 2⟩) (meth := k3m2) (c := k3c2) (by decide +kernel) rfl rfl rfl (by decide +kernel)
set_option maxRecDepth 65536 in
theorem w_c8 : (Jvm.Cond.code ({ cls := "java/util/Arrays", name := "copyOf", desc := "([Ljava/lang/Object;I)[Ljava/lang/Object;" } : Jvm.MethodName) jdk_65_method_119_code (2 : Nat) (Option.some (Jvm.ClassFile.FieldType.array (Jvm.ClassFile.FieldType.object "java/lang/Object")))).before args0 about1 = true := code_word (m := ⟨4, 1⟩) (meth := k4m1) (c := k4c1) (by decide +kernel) rfl rfl rfl (by decide +kernel)
set_option maxRecDepth 65536 in
theorem w_c9 : (Jvm.Cond.code ({ cls := "java/util/Arrays", name := "copyOf", desc := "([Ljava/lang/Object;ILjava/lang/Class;)[Ljava/lang/Object;" } : Jvm.MethodName) jdk_65_method_120_code (4 : Nat) (Option.some (Jvm.ClassFile.FieldType.array (Jvm.ClassFile.FieldType.object "java/lang/Object")))).before args0 about1 = true := code_word (m := ⟨4, 2⟩) (meth := k4m2) (c := k4c2) (by decide +kernel) rfl rfl rfl (by decide +kernel)
set_option maxRecDepth 65536 in
theorem w_c10 : (Jvm.Cond.code ({ cls := "com/example/dodder/dodder/engine/PathWrites", name := "path", desc := "(I)I" } : Jvm.MethodName) prog_20_method_6_code (5 : Nat) (Option.some Jvm.ClassFile.FieldType.int)).before args0 about1 = true := code_word (m := ⟨2, 3⟩) (meth := k2m3) (c := k2c3) (by decide +kernel) rfl rfl rfl (by decide +kernel)
set_option maxRecDepth 65536 in
theorem w_c11 : (Jvm.Cond.code ({ cls := "com/example/dodder/dodder/engine/PathWrites", name := "slot", desc := "(I)I" } : Jvm.MethodName) prog_20_method_7_code (2 : Nat) (Option.some Jvm.ClassFile.FieldType.int)).before args0 about1 = true := code_word (m := ⟨2, 4⟩) (meth := k2m4) (c := k2c4) (by decide +kernel) rfl rfl rfl (by decide +kernel)
set_option maxRecDepth 65536 in
theorem w_c12 : (Jvm.Cond.code ({ cls := "com/example/dodder/dodder/engine/PathWrites", name := "value", desc := "(I)I" } : Jvm.MethodName) prog_20_method_8_code (2 : Nat) (Option.some Jvm.ClassFile.FieldType.int)).before args0 about1 = true := code_word (m := ⟨2, 5⟩) (meth := k2m5) (c := k2c5) (by decide +kernel) rfl rfl rfl (by decide +kernel)
set_option maxRecDepth 65536 in
theorem w_c13 : (Jvm.Cond.code ({ cls := "com/example/dodder/dodder/engine/Captures", name := "valueOf", desc := "(III)I" } : Jvm.MethodName) prog_8_method_6_code (4 : Nat) (Option.some Jvm.ClassFile.FieldType.int)).before args0 about1 = true := code_word (m := ⟨6, 1⟩) (meth := k6m1) (c := k6c1) (by decide +kernel) rfl rfl rfl (by decide +kernel)
set_option maxRecDepth 65536 in
theorem w_c14 : (Jvm.Cond.code ({ cls := "com/example/dodder/dodder/engine/PathWritesPathPinLaw", name := "expectedValue", desc := "(II)I" } : Jvm.MethodName) method_3_code (2 : Nat) (Option.some Jvm.ClassFile.FieldType.int)).before args0 about1 = true := code_word (m := ⟨1, 2⟩) (meth := k1m2) (c := k1c2) (by decide +kernel) rfl rfl rfl (by decide +kernel)
def codes1 : List Jvm.Cond := [Jvm.Cond.code x code maxLocals ret, Jvm.Cond.code ({ cls := "com/example/dodder/dodder/engine/PathWrites", name := "<init>", desc := "(I)V" } : Jvm.MethodName) prog_20_method_1_code (2 : Nat) (Option.none : Option Jvm.ClassFile.FieldType), Jvm.Cond.code ({ cls := "java/lang/Object", name := "<init>", desc := "()V" } : Jvm.MethodName) object_method_1_code (1 : Nat) (Option.none : Option Jvm.ClassFile.FieldType), Jvm.Cond.code ({ cls := "com/example/dodder/dodder/engine/PathWrites", name := "clear", desc := "(I)V" } : Jvm.MethodName) prog_20_method_2_code (2 : Nat) (Option.none : Option Jvm.ClassFile.FieldType), Jvm.Cond.code ({ cls := "com/example/dodder/dodder/engine/PathWrites", name := "write", desc := "(III)I" } : Jvm.MethodName) prog_20_method_3_code (5 : Nat) (Option.some Jvm.ClassFile.FieldType.int), Jvm.Cond.code ({ cls := "java/lang/Math", name := "max", desc := "(II)I" } : Jvm.MethodName) jdk_29_method_65_code (2 : Nat) (Option.some Jvm.ClassFile.FieldType.int), Jvm.Cond.code ({ cls := "java/util/Arrays", name := "copyOf", desc := "([II)[I" } : Jvm.MethodName) jdk_65_method_123_code (3 : Nat) (Option.some (Jvm.ClassFile.FieldType.array Jvm.ClassFile.FieldType.int)), Jvm.Cond.code ({ cls := "java/lang/Math", name := "min", desc := "(II)I" } : Jvm.MethodName) jdk_29_method_69_code (2 : Nat) (Option.some Jvm.ClassFile.FieldType.int), Jvm.Cond.code ({ cls := "java/util/Arrays", name := "copyOf", desc := "([Ljava/lang/Object;I)[Ljava/lang/Object;" } : Jvm.MethodName) jdk_65_method_119_code (2 : Nat) (Option.some (Jvm.ClassFile.FieldType.array (Jvm.ClassFile.FieldType.object "java/lang/Object"))), Jvm.Cond.code ({ cls := "java/util/Arrays", name := "copyOf", desc := "([Ljava/lang/Object;ILjava/lang/Class;)[Ljava/lang/Object;" } : Jvm.MethodName) jdk_65_method_120_code (4 : Nat) (Option.some (Jvm.ClassFile.FieldType.array (Jvm.ClassFile.FieldType.object "java/lang/Object"))), Jvm.Cond.code ({ cls := "com/example/dodder/dodder/engine/PathWrites", name := "path", desc := "(I)I" } : Jvm.MethodName) prog_20_method_6_code (5 : Nat) (Option.some Jvm.ClassFile.FieldType.int), Jvm.Cond.code ({ cls := "com/example/dodder/dodder/engine/PathWrites", name := "slot", desc := "(I)I" } : Jvm.MethodName) prog_20_method_7_code (2 : Nat) (Option.some Jvm.ClassFile.FieldType.int), Jvm.Cond.code ({ cls := "com/example/dodder/dodder/engine/PathWrites", name := "value", desc := "(I)I" } : Jvm.MethodName) prog_20_method_8_code (2 : Nat) (Option.some Jvm.ClassFile.FieldType.int), Jvm.Cond.code ({ cls := "com/example/dodder/dodder/engine/Captures", name := "valueOf", desc := "(III)I" } : Jvm.MethodName) prog_8_method_6_code (4 : Nat) (Option.some Jvm.ClassFile.FieldType.int), Jvm.Cond.code ({ cls := "com/example/dodder/dodder/engine/PathWritesPathPinLaw", name := "expectedValue", desc := "(II)I" } : Jvm.MethodName) method_3_code (2 : Nat) (Option.some Jvm.ClassFile.FieldType.int)]
set_option maxRecDepth 65536 in
theorem codes_eq : words1.filter isCode = codes1 := rfl
theorem w_codes : ∀ c ∈ words1.filter isCode, c.before args0 about1 = true := by
  rw [codes_eq]
  intro c hc
  simp only [codes1, List.mem_cons, List.not_mem_nil, or_false] at hc
  rcases hc with rfl | rfl | rfl | rfl | rfl | rfl | rfl | rfl | rfl | rfl | rfl | rfl | rfl | rfl | rfl
  · exact w_c0
  · exact w_c1
  · exact w_c2
  · exact w_c3
  · exact w_c4
  · exact w_c5
  · exact w_c6
  · exact w_c7
  · exact w_c8
  · exact w_c9
  · exact w_c10
  · exact w_c11
  · exact w_c12
  · exact w_c13
  · exact w_c14
set_option maxRecDepth 65536 in
theorem w_t1 : (words1.take 24).all (fun c => isCode c || c.before args0 about1) = true := by decide +kernel
set_option maxRecDepth 65536 in
theorem w_t2 : ((words1.drop 24).take 24).all (fun c => isCode c || c.before args0 about1) = true := by decide +kernel
set_option maxRecDepth 65536 in
theorem w_t3 : (((words1.drop 24).drop 24).take 24).all (fun c => isCode c || c.before args0 about1) = true := by decide +kernel
set_option maxRecDepth 65536 in
theorem w_t4 : (((words1.drop 24).drop 24).drop 24).all (fun c => isCode c || c.before args0 about1) = true := by decide +kernel
theorem w_tables : (allAtoms (Jvm.Cond.code x code maxLocals ret :: tables_1)).before args0 about1 = true := by
  rw [allAtoms_all]
  show words1.all (fun c => c.before args0 about1) = true
  refine all_split ?_ w_codes
  rw [← List.take_append_drop 24 words1, List.all_append, w_t1, ← List.take_append_drop 24 (words1.drop 24), List.all_append, w_t2, ← List.take_append_drop 24 ((words1.drop 24).drop 24), List.all_append, w_t3, w_t4]
  rfl
set_option maxRecDepth 65536 in
theorem w_case : (Jvm.Cond.and given_1 narrow_1).before args0 about1 = true := by decide +kernel
theorem w_applies : (headSpec (Jvm.Cond.code x code maxLocals ret :: tables_1) room_1).applies x e0.platform about1 = true :=
  (Spec.applies_iff w_frames).mpr ⟨w_running, w_runnable, w_alone, w_named, w_hears, w_ripe, w_room, w_tables⟩
theorem atStart : AtStart classFile x code maxLocals ret World_1 tables_1 room_1 Calls_1 rest_1 Pre_1 launch0 p0 e0 about1 theMethod args0 below0 :=
  ⟨lists_1, trivial, launch0.admits_env _ _ _, launch0.least_env, fairChoices_fair.cas, fairChoices_fair.clock, w_frames, w_args, w_heap, w_applies, ⟨⟨13, k13, 0, by decide +kernel, rfl, rfl, _, rfl, rfl⟩, trivial⟩, trivial, w_case⟩
end start1
theorem witness_1 : WitnessClaimed_1 := ⟨start1.p0, start1.e0, start1.about1, start1.theMethod, start1.args0, start1.below0, start1.atStart⟩
end Jvm.Pilot.@@N@@
