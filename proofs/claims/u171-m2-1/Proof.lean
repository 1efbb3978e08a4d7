import JvmDerived
import JvmDerived.Pilot.@@N@@Statement
import JvmDerived.Pilot.@@N@@Code
set_option linter.unusedVariables false
set_option linter.unusedSimpArgs false
namespace Jvm.RoadKit
open Sem ClassFile Op Lib Jvm.Stand Jvm.Free Jvm.LawKit
section New
variable {p : Program} {l : Launch} {e : Env} {R : Room} {s : State} {m : MethodId} {args : Array Value} {below : List Frame} {meth : Method} {c : Code} {T : State} {locs : List Loc} {cells slots : Nat}
theorem retI (X : Stand p l e R s m args below meth c T locs cells slots) (hx : p.tables.exec = Jvm.exec) {pc : Nat} {Ls : Array Slot} {z : Int32} {rest : List Value} (hret : meth.sig.returnType = some .int) (hd : decode c.code pc = .ok (.ireturn, 1)) {fs : List Frame}
    (hl : ∀ (f : JFrame) (acts : List Action), f.method = m → f.locked = none → f.entered = [] → (doReturn e (T.setTop f) acts (some (.int z))).1 = T.setFrames fs) : Steps p.tables e below (T.setTop (mkF m pc Ls (.int z :: rest))) (T.setFrames fs) := by
  have hm' : T.vm.method? m = some meth := X.method'
  have hn : narrow .int (.int z) = .int z := rfl
  show Steps p.tables e below (T.setTop { method := m, pc := pc, locals := Ls, stack := _ :: rest, locked := none }) _
  jvm_step X.here [X.here.top, hx, hd, hm', hret, hn]
  first | (intro acts; rw [hl _ acts rfl rfl rfl]) | rw [hl _ _ rfl rfl rfl]
  exact Steps.refl _
abbrev Sq (p : Program) (e : Env) (below : List Frame) (m : MethodId) (T : State) (pc : Nat) (L : Array Slot) (S : List Value) (t : State) : Prop := Steps p.tables e below (T.setTop (mkF m pc L S)) t
abbrev Ctr (l : Launch) (Z : State) (y : MethodName) (b : ByteArray) (ml : Nat) (rt : Option FieldType) (ws : List Cond) (rm : Room) (as' : Array Value) (h0 : Heap) (Q : Option Value → Heap → List Loc → Prop) : Prop :=
  MetFree l y (head1 (Cond.code y b ml rt :: ws) rm) (fun a U => a = as' ∧ Z.Warmed39 U.vm ∧ U.heap = h0) (fun _ _ _ _ _ => True) (fun _ U o U' => ∃ v L, o = .returned v ∧ Q v U'.heap L ∧ FrameEnd U o U' L rm.cells rm.slots)
theorem own_sz {Z : State} {n0 : Nat} {h : Heap} (O : Old Z n0 h) : n0 ≤ h.size := O.1 ▸ O.2.1
theorem own_selpriv {Z s : State} {a0 args : Array Value} {y : MethodName} {n : Nat} (hZ : Z.Warmed39 s.vm) (wi : (Cond.instantiable y.cls n).before a0 Z = true) (wm : (Cond.instanceMethod y).before a0 Z = true) (wp : (Cond.privateMethod y).before a0 Z = true) (hy : y.cls ≠ "java/lang/invoke/MethodHandle" ∧ y.cls ≠ "java/lang/invoke/VarHandle") : (Cond.selects y.cls y y).before args s = true := by
  obtain ⟨c, k, h1, h2, -, h4, -⟩ := Cond.instantiable_spec (mv (args := args) hZ wi)
  have hk : k.isInterface = false := by cases h : k.isInterface <;> simp_all
  exact selects_self_of_private h1 h2 hk (Cond.privateMethod_at (mvP hZ wp (args := args))) (mv hZ wm) hy
theorem own_fldinj {Z : State} {h : Heap} {a : Addr} {C n d : String} {v w : Value} (F : Fld Z h a C n d v) (G : Fld Z h a C n d w) : v = w := by
  obtain ⟨c1, cf, k, i, f, h1, h2, -, -, -, -, h3⟩ := F
  obtain ⟨c2, cf2, k2, i2, f2, g1, g2, -, -, -, -, g3⟩ := G
  cases h1.symm.trans g1
  cases h2.symm.trans g2
  exact Option.some.inj (h3.symm.trans g3)
theorem own_ne {Z : State} {h : Heap} {a b : Addr} {C n d : String} {v w : Value} (F : Fld Z h a C n d v) (G : Fld Z h b C n d w) (q : v ≠ w) : a ≠ b := fun e => by
  subst e; exact q (own_fldinj F G)
theorem own_static {s : State} {args : Array Value} {C f d K : String} (h : (Cond.exactly (Term.static C f d) K).value args s none s [] = some true) (hi : (Cond.initializedFor C f d).before args s = true ∨ ((Cond.initialized C).before args s = true ∧ (Cond.laysStatic C f d).before args s = true)) :
    ∃ w, Sta s s.heap C f d (.ref w) ∧ Exa s s.heap w K ∧ (Term.static C f d).eval args s none [] s = some (.ref w) := by
  obtain ⟨w, ev⟩ := exa_v h
  exact ⟨w, Sta.start ev hi, Exa.start ev h, ev⟩
theorem own_field {s : State} {args : Array Value} {t : Term} {w : Addr} {O f d : String} {n : Int32} (ev : t.eval args s none [] s = some (.ref w)) (h : (Cond.eq (Term.field t O f d) (Term.int n)).value args s none s [] = some true) : Fld s s.heap w O f d (.int n) := by
  have q := eqv_i (Term.int_eval n) h
  rw [fld_at ev] at q
  exact Fld.start q
theorem own_fldR {s : State} {args : Array Value} {t : Term} {w : Addr} {O f d : String} {v : Value} (ev : t.eval args s none [] s = some (.ref w)) (h : (Term.field t O f d).eval args s none [] s = some v) : Fld s s.heap w O f d v := Fld.start ((fld_at ev).symm.trans h)
theorem own_eqR {s : State} {args : Array Value} {a b : Term} {y : Addr} (hb : b.eval args s none [] s = some (.ref y)) (h : (Cond.eq a b).value args s none s [] = some true) : a.eval args s none [] s = some (.ref y) :=
  Cond.eq_refs (by simp [Cond.holds, h]) hb rfl
theorem own_len {s : State} {args : Array Value} {t : Term} {a : Addr} {c : Cell} {ty : FieldType} {n : Int32} (ev : t.eval args s none [] s = some (.ref a)) (A : Arr s s.heap a c ty) (h : (Cond.eq (Term.length t) (Term.int n)).value args s none s [] = some true) :
    c.slots.size < 2 ^ 31 ∧ c.slots.size.toInt32 = n := by
  have q := eqv_i (Term.int_eval n) h
  have f := A.fin (Vm.Alike.refl _)
  simp [Term.eval, ev, f] at q
  exact ⟨by simpa using q.1, q.2⟩
theorem own_arvE {s : State} {a : Addr} {c : Cell} {ty : FieldType} {d : Value} (A : Arr s s.heap a c ty) (h : c.slots.size < 2 ^ 31 ∧ c.slots.size.toInt32 = (0 : Int32)) : ∃ k, Arv s s.heap a k ty (0 : Int32) [] d := by
  have e : c.slots.size = 0 := by
    have q := len_toInt h.1
    rw [h.2] at q
    have : (0 : Int32).toInt = 0 := by decide
    omega
  exact ⟨_, c, A, rfl, e, by decide, fun k hk => by omega, fun k hk => by omega⟩
theorem own_nsroot {Z : State} {a0 : Array Value} {O K : String} {n : Nat} (w : (Cond.noSuperclass O).before a0 Z = true) (wi : (Cond.instantiable K n).before a0 Z = true) (hn : O ≠ K) : NS Z O K := by
  obtain ⟨c, k, h1, h2, h3, -, -⟩ := Cond.noSuperclass_spec w
  obtain ⟨t, kt, g1, -⟩ := Cond.instantiable_spec wi
  refine ⟨c, t, h1, g1, fun fuel => ?_⟩
  cases fuel with
  | zero => rfl
  | succ f => simp [Vm.isSubclassAux, ids_ne h1 g1 hn, h2, h3]
theorem own_nsno {Z : State} {a0 : Array Value} {C S K : String} {n : Nat} (w : (Cond.superclass C S).before a0 Z = true) (wi : (Cond.instantiable K n).before a0 Z = true) (q : NS Z C K) (hn : C ≠ K) : ∃ c t, Z.vm.findClass C = some c ∧ Z.vm.findClass K = some t ∧ Z.vm.assignable c t = false := by
  obtain ⟨c, t, h0, g0, n3⟩ := q
  obtain ⟨p, k, kp, -, h2, -, -, h5, -⟩ := Cond.superclass_spec h0 w
  obtain ⟨t', kt, g1, g2, g3, g4, -⟩ := Cond.instantiable_spec wi
  cases g0.symm.trans g1
  have g5 : kt.isInterface = false := by cases hh : kt.isInterface <;> simp_all
  refine ⟨c, t, h0, g0, ?_⟩
  show Z.vm.assignableAux (255 + 1) c t = false
  simp [Vm.assignableAux, ids_ne h0 g0 hn, h2, g2, h5, g3, g5, Vm.isSubclass, n3]
theorem own_mvNest {Z s : State} {a0 args : Array Value} {own host : String} {index : Nat} {y : MethodName} (hZ : Z.Warmed39 s.vm) (w : (Cond.methodLinkNest own index y host).before a0 Z = true) : (Cond.methodLinkNest own index y host).before args s = true := (Cond.methodLinkNest_wide hZ w :)
def Mirr (Z : State) (C : String) (m : Addr) : Prop := ∃ (c : ClassId) (k : Class), Z.vm.findClass C = some c ∧ Z.vm.classes[c]? = some k ∧ k.mirror = some m
theorem own_gcls {Z : State} {h : Heap} {a : Addr} (X : Stand p l e R s m args below meth c T locs cells slots) (hx : p.tables.exec = Jvm.exec) (hZ : Z.Warmed39 s.vm) {a0 : Array Value} {own C : String} {index : Nat} (hown : s.vm.findClass own = some m.cls)
    (w1 : (Cond.methodLink own index ⟨"java/lang/Object", "getClass", "()Ljava/lang/Class;"⟩).before a0 Z = true) (w2 : (Cond.declares ⟨"java/lang/Object", "getClass", "()Ljava/lang/Class;"⟩).before a0 Z = true) (w4 : (Cond.selects C ⟨"java/lang/Object", "getClass", "()Ljava/lang/Class;"⟩ ⟨"java/lang/Object", "getClass", "()Ljava/lang/Class;"⟩).before a0 Z = true)
    (w5 : (Cond.instanceMethod ⟨"java/lang/Object", "getClass", "()Ljava/lang/Class;"⟩).before a0 Z = true) (w6 : (Cond.native ⟨"java/lang/Object", "getClass", "()Ljava/lang/Class;"⟩).before a0 Z = true) (eT : T.heap = h) (E : Exa Z h a C) {mr : Addr} (M : Mirr Z C mr)
    {g : JFrame} (hg : g.method = m) (hsize : g.locals.size = c.maxLocals) {rest : List Value} (hs : g.stack = .ref a :: rest) (hd : decode c.code g.pc = .ok (.invokevirtual index, 3)) (hf : 1 ≤ R.frames) {W : Nat} (hW : 2 * g.monitorRoom + (rest.map fun v => v.category).sum ≤ W) (hl : W + (nativeFrameWords "java/lang/Object" "getClass" 1 + 11) ≤ R.locals) :
    ∃ T', Stand p l e R s m args below meth c T' locs cells slots ∧ T'.heap = h ∧ ∀ target, Steps p.tables e below (T'.setTop { g with pc := g.pc + 3, stack := .ref mr :: rest }) target → Steps p.tables e below (T.setTop g) target := by
  obtain ⟨cB, kB, i1, i2, i3⟩ := isOf hZ eT E
  obtain ⟨cc, kc, m1, m2, m3⟩ := M
  rw [hZ.alike.findClass] at i1
  cases i1.symm.trans m1
  obtain ⟨k', q, ek⟩ := hZ.alike.2.2 _ _ m2
  have hsel := mvT (args := args) hZ w4
  obtain ⟨vm', X', st⟩ := X.getClassOf hx hown (mvT hZ w1) (mvT hZ w2) (notFace_of_selects (args := args) hsel) hsel (mvT hZ w5) (mvT hZ w6) (by rw [hZ.alike.findClass]; exact m1) i3 q (by rw [ek]; exact m3) hg hsize hs hd hf (by omega)
  exact ⟨_, X', eT, st⟩
theorem own_ldcM {Z : State} {h : Heap} (X : Stand p l e R s m args below meth c T locs cells slots) (hx : p.tables.exec = Jvm.exec) (hZ : Z.Warmed39 s.vm) {a0 : Array Value} {own C : String} {index : Nat} (hown : s.vm.findClass own = some m.cls) (w : (Cond.classLink own index C).before a0 Z = true) (eT : T.heap = h) {mr : Addr} (M : Mirr Z C mr)
    {g : JFrame} (hg : g.method = m) (hd : decode c.code g.pc = .ok (.ldc index, 2)) : ∃ T', Stand p l e R s m args below meth c T' locs cells slots ∧ T'.heap = h ∧ ∀ target, Steps p.tables e below (T'.setTop { g with pc := g.pc + 2, stack := .ref mr :: g.stack }) target → Steps p.tables e below (T.setTop g) target := by
  obtain ⟨cc, kc, m1, m2, m3⟩ := M
  obtain ⟨k', q, ek⟩ := hZ.alike.2.2 _ _ m2
  have ev : (Term.mirror C).eval args s none [] s = some (.ref mr) := by
    have f1 : s.vm.findClass C = some cc := by rw [hZ.alike.findClass]; exact m1
    have f3 : k'.mirror = some mr := by rw [ek]; exact m3
    simp [Term.eval, f1, q, f3]
  obtain ⟨vm', X', st⟩ := X.ldcMirror hx hown (mvT hZ w) ev hg hd
  exact ⟨_, X', eT, st⟩
theorem own_cut {Z : State} {h : Heap} {a : Addr} {kc : ClassId} {ty : FieldType} {k : Int32} {us : List Value} (V : Arv Z h a kc ty k ((List.replicate 7 Value.null).take (0 : Int32).toNatClampNeg ++ us ++ (List.replicate 7 Value.null).drop ((0 : Int32).toNatClampNeg + k.toNatClampNeg)) .null) : Arv Z h a kc ty k us .null := by
  have e : ((List.replicate 7 Value.null).take (0 : Int32).toNatClampNeg ++ us ++ (List.replicate 7 Value.null).drop ((0 : Int32).toNatClampNeg + k.toNatClampNeg)) = us ++ List.replicate (7 - ((0 : Int32).toNatClampNeg + k.toNatClampNeg)) Value.null := by
    rw [List.drop_replicate, show (0 : Int32).toNatClampNeg = 0 from rfl]; rfl
  rw [e] at V
  exact V.pad fun i => (pad_rep us .null _ i).symm
theorem own_stol {Z : State} {h : Heap} {a : Addr} {c : Cell} {k : ClassId} {ty : FieldType} {a0 : Array Value} {D : String} (A : Arr Z h a c ty) (q : c.cls = k) (O : Ovr Z k "java/lang/Object") (E : Ext Z.heap h) (w : (Cond.castable D "java/lang/Object").before a0 Z = true) : ∀ us : List Value, (∀ v ∈ us, ∃ y, v = .ref y ∧ Exa Z Z.heap y D) → StoL Z h a us
  | [], _ => trivial
  | v :: r, H => ⟨by
      obtain ⟨y, rfl, hy⟩ := H v (List.mem_cons_self ..)
      exact Sto.ofV A q O (Ins.of_exa (hy.ext E) w), own_stol A q O E w r fun u hu => H u (List.mem_cons_of_mem _ hu)⟩
theorem own_all {P : Value → Prop} {x : Value} (h : P x) (n : Nat) : ∀ v ∈ List.replicate n x, P v := fun v hv => by rw [List.eq_of_mem_replicate hv]; exact h
theorem own_c4 {k : Int32} (h : k < (10 : Int32)) : (0 : Int32).toNatClampNeg + k.toNatClampNeg ≤ (10 : Int32).toNatClampNeg := by
  rw [Int32.lt_iff_toInt_lt] at h
  have e : (10 : Int32).toInt = 10 := by decide
  show 0 + k.toInt.toNat ≤ 10
  omega
theorem own_c7 {k : Int32} (h : k.toNatClampNeg ≤ 7) : (0 : Int32).toNatClampNeg + k.toNatClampNeg ≤ (List.replicate 7 Value.null).length := by
  rw [List.length_replicate, show (0 : Int32).toNatClampNeg = 0 from rfl]; omega
theorem own_s0 {n : Int32} (h : 0 ≤ n.toInt ∧ n.toInt ≤ 7) : n = (0 : Int32) ∨ (0 : Int32) < n := by
  by_cases e : n.toInt = 0
  · exact Or.inl (Int32.toInt_inj.mp e)
  · refine Or.inr ?_
    rw [Int32.lt_iff_toInt_lt]
    have : (0 : Int32).toInt = 0 := by decide
    omega
theorem own_sk {n j k : Int32} (h : j < n) (e : k.toInt = j.toInt + 1) : n = k ∨ k < n := by
  rw [Int32.lt_iff_toInt_lt] at h
  by_cases q : n.toInt = k.toInt
  · exact Or.inl (Int32.toInt_inj.mp q)
  · refine Or.inr ?_
    rw [Int32.lt_iff_toInt_lt]
    omega
theorem own_s67 {n : Int32} (h : 0 ≤ n.toInt ∧ n.toInt ≤ 7) (h5 : (5 : Int32) < n) : n = (6 : Int32) ∨ n = (7 : Int32) := by
  rw [Int32.lt_iff_toInt_lt] at h5
  have : (5 : Int32).toInt = 5 := by decide
  by_cases q : n.toInt = 6
  · exact Or.inl (Int32.toInt_inj.mp q)
  · refine Or.inr (Int32.toInt_inj.mp ?_)
    show n.toInt = 7
    omega
theorem own_n7 {x n : Int32} (h : (x &&& (7 : Int32)) = n) : 0 ≤ n.toInt ∧ n.toInt ≤ 7 := by
  have a := c_mask x 7 3 (by decide) (by decide)
  rw [h] at a
  omega
theorem own_arv5 {s : State} {a : Addr} {c : Cell} {d0 d1 d2 d3 d4 : Addr} (A : Arr s s.heap a c (.object "java/lang/Object")) (h : c.slots.size < 2 ^ 31 ∧ c.slots.size.toInt32 = (5 : Int32)) (h0 : c.slots[0]? = some (.ref d0)) (h1 : c.slots[1]? = some (.ref d1)) (h2 : c.slots[2]? = some (.ref d2)) (h3 : c.slots[3]? = some (.ref d3)) (h4 : c.slots[4]? = some (.ref d4)) :
    ∃ k, Arv s s.heap a k (.object "java/lang/Object") (5 : Int32) [.ref d0, .ref d1, .ref d2, .ref d3, .ref d4] .null := by
  have e : c.slots.size = 5 := by
    have q := len_toInt h.1
    rw [h.2] at q
    have : (5 : Int32).toInt = 5 := by decide
    omega
  refine ⟨_, c, A, rfl, e, by decide, fun k hk => ?_, fun k hk => ?_⟩
  · rw [e] at hk
    match k, hk with
    | 0, _ => exact h0
    | 1, _ => exact h1
    | 2, _ => exact h2
    | 3, _ => exact h3
    | 4, _ => exact h4
  · rw [e] at hk
    match k, hk with
    | 0, _ => rfl
    | 1, _ => rfl
    | 2, _ => rfl
    | 3, _ => rfl
    | 4, _ => rfl
theorem own_lI {r k : Int32} {K : Int64} (e : K.toInt = k.toInt ∧ 0 ≤ k.toInt ∧ k.toInt ≤ 7) : (K - (r.toInt64)).toInt = k.toInt - r.toInt := by
  have a := c_lsub K r.toInt64
  have b := rng64 (K - r.toInt64)
  have c := c_i2l r
  have d := rng32 r
  omega
theorem own_lf {r k : Int32} {K : Int64} (e : K.toInt = k.toInt ∧ 0 ≤ k.toInt ∧ k.toInt ≤ 7) (h : r < k) : ¬ ((lcmpW (K - (r.toInt64)) (1 : Int64)) < (0 : Int32)) := by
  rw [lw_lt, Int64.lt_iff_toInt_lt, own_lI e]
  rw [Int32.lt_iff_toInt_lt] at h
  have : (1 : Int64).toInt = 1 := by decide
  omega
theorem own_lt {r k : Int32} {K : Int64} (e : K.toInt = k.toInt ∧ 0 ≤ k.toInt ∧ k.toInt ≤ 7) (h : ¬ (r < k)) : (lcmpW (K - (r.toInt64)) (1 : Int64)) < (0 : Int32) := by
  rw [lw_lt, Int64.lt_iff_toInt_lt, own_lI e]
  rw [Int32.lt_iff_toInt_lt] at h
  have : (1 : Int64).toInt = 1 := by decide
  omega
end New
end Jvm.RoadKit
namespace Jvm.Pilot.@@N@@
open Jvm Jvm.ClassFile Sem Op Lib Jvm.Free Jvm.Stand Jvm.LawKit Jvm.RoadKit Bundle Jvm.Pilot.@@N@@.Jvm.D
theorem d5_0 : decode jdk_22_method_1_code 0 = .ok (.aload_n 0, 1) := by decide +kernel
theorem d5_1 : decode jdk_22_method_1_code 1 = .ok (.invokespecial 1, 3) := by decide +kernel
theorem d5_4 : decode jdk_22_method_1_code 4 = .ok (.return_, 1) := by decide +kernel
def Q_acinit (Z : State) (a : Addr) (h0 : Heap) (n0 : Nat) (v : Option Value) (h : Heap) (L : List Loc) : Prop := v = none ∧ Fr n0 L ∧ h = h0
theorem ef_0 (m : MethodId) (x0 : Addr) : entryFrame m #[(.ref x0)] 1 = mkF m 0 #[.val (.ref x0)] [] := by first | (simp [entryFrame, mkF, argsToLocals, Value.category]; done) | rfl
theorem pn_0 : plainName "java/util/AbstractCollection" = true := by first | (simp [plainName, overriddenIn]; done) | decide +kernel
abbrev y_0 : MethodName := ⟨"java/util/AbstractCollection", "<init>", "()V"⟩
set_option maxRecDepth 65536 in
set_option maxHeartbeats 40000000 in
theorem acinit (l : Launch) (Z : State) (a0 : Array Value) (hw : ∀ d ∈ tables_1, d.before a0 Z = true) (ws : List Jvm.Cond) (a : Addr) (h0 : Heap) (n0 : Nat) (O : Old Z n0 h0) :
    Ctr l Z y_0 jdk_22_method_1_code 1 none ws ({ frames := 1, cells := 0, slots := 0, locals := 12 } : Room) #[(.ref a)] h0 (Q_acinit Z a h0 n0) := by
  refine MetFree.of_bodySF (plainFor_of_name pn_0) hisR ?_
  intro p e s m args below meth c s₁ Bd hml0 hP hK
  obtain ⟨rfl, hZ, hh⟩ := hP
  have W := fun (i : Nat) {d : Jvm.Cond} (h : tables_1[i]? = some d) => hw d (List.mem_of_getElem? h)
  have hx := Bd.exec
  have hby := Bd.bytes
  have hml : c.maxLocals = 1 := hml0
  have hown : s.vm.findClass "java/util/AbstractCollection" = some m.cls := findClass_of_methodNamed Bd.named
  have hnm := (name_of_methodNamed Bd.named Bd.method).1
  have X0 : Stand p l e ({ frames := 1, cells := 0, slots := 0, locals := 12 } : Room) s m #[(.ref a)] below meth c s₁ [] 0 0 := Stand.of_body Bd
  have e0 : s₁.heap = h0 := by rw [← hh, Bd.state]; rfl
  have N0 := Fr.nil n0
  have pre0 : ∀ t, Steps p.tables e below (s₁.setTop (mkF m 0 #[.val (.ref a)] [])) t → Steps p.tables e below (s₁.setTop (entryFrame m #[(.ref a)] 1)) t := fun t kk_ => castTop (ef_0 m a) kk_
  obtain ⟨T1, X1, e1, st1⟩ := initO X0 hx hZ hown (W 42 rfl) (W 43 rfl) (W 44 rfl) e0 (g := (mkF m 1 #[rv a] [.ref a])) rfl (by rw [hml]; rfl) rfl (hb hby d5_1) (by decide) (W := 0) (by show 2 * 0 + _ ≤ _; exact Nat.le_of_eq rfl) (by decide)
  obtain ⟨fs, hr, hrun, hended, hW, hsame⟩ := X1.leave (v := none) (fun _ => rfl)
  refine ⟨_, _, pre0 _ ?_, hrun, hended, _, _, rfl, ?_, ⟨_, rfl⟩, hW, hsame.mono (by decide) (by decide)⟩
  · show Sq p e below m s₁ 0 #[rv a] [] _
    refine XS.aloadN X0.here hx rfl (hb hby d5_0) rfl rfl ?_
    show Sq p e below m s₁ 1 #[rv a] [.ref a] _
    refine st1 _ ?_
    show Sq p e below m T1 4 #[rv a] [] _
    exact X1.returnOut hx Bd.returns (hb hby d5_4) hr
  · show Q_acinit Z a h0 n0 _ T1.heap _
    rw [e1]
    exact ⟨rfl, N0, rfl⟩
theorem d4_0 : decode jdk_39_method_1_code 0 = .ok (.aload_n 0, 1) := by decide +kernel
theorem d4_1 : decode jdk_39_method_1_code 1 = .ok (.invokespecial 1, 3) := by decide +kernel
theorem pd_0 : parseMethodDescriptor "()V" = some ⟨[], none⟩ := by decide +kernel
theorem d4_4 : decode jdk_39_method_1_code 4 = .ok (.aload_n 0, 1) := by decide +kernel
theorem d4_5 : decode jdk_39_method_1_code 5 = .ok (.iconst 0, 1) := by decide +kernel
theorem d4_6 : decode jdk_39_method_1_code 6 = .ok (.putfield 7, 3) := by decide +kernel
theorem d4_9 : decode jdk_39_method_1_code 9 = .ok (.return_, 1) := by decide +kernel
def Q_abinit (Z : State) (a : Addr) (u : Value) (u2 : Value) (h0 : Heap) (n0 : Nat) (v : Option Value) (h : Heap) (L : List Loc) : Prop := v = none ∧ Fr n0 L ∧ Keep h0 h [a] ∧ Fld Z h a "java/util/ArrayList" "elementData" "[Ljava/lang/Object;" u ∧ Fld Z h a "java/util/ArrayList" "size" "I" u2 ∧ Fld Z h a "java/util/AbstractList" "modCount" "I" (.int (0 : Int32))
theorem ef_1 (m : MethodId) (x0 : Addr) : entryFrame m #[(.ref x0)] 1 = mkF m 0 #[.val (.ref x0)] [] := by first | (simp [entryFrame, mkF, argsToLocals, Value.category]; done) | rfl
theorem pn_1 : plainName "java/util/AbstractList" = true := by first | (simp [plainName, overriddenIn]; done) | decide +kernel
abbrev y_1 : MethodName := ⟨"java/util/AbstractList", "<init>", "()V"⟩
set_option maxRecDepth 65536 in
set_option maxHeartbeats 40000000 in
theorem abinit (l : Launch) (Z : State) (a0 : Array Value) (hw : ∀ d ∈ tables_1, d.before a0 Z = true) (ws : List Jvm.Cond) (a : Addr) (u : Value) (u2 : Value) (h0 : Heap) (n0 : Nat) (O : Old Z n0 h0) (Ea : Exa Z h0 a "java/util/ArrayList") (FelementData : Fld Z h0 a "java/util/ArrayList" "elementData" "[Ljava/lang/Object;" u) (Fsize : Fld Z h0 a "java/util/ArrayList" "size" "I" u2) (FmodCount : Fld Z h0 a "java/util/AbstractList" "modCount" "I" (.int (0 : Int32))) (ga : n0 ≤ a) :
    Ctr l Z y_1 jdk_39_method_1_code 1 none ws ({ frames := 2, cells := 0, slots := 0, locals := 24 } : Room) #[(.ref a)] h0 (Q_abinit Z a u u2 h0 n0) := by
  refine MetFree.of_bodySF (plainFor_of_name pn_1) hisR ?_
  intro p e s m args below meth c s₁ Bd hml0 hP hK
  obtain ⟨rfl, hZ, hh⟩ := hP
  have W := fun (i : Nat) {d : Jvm.Cond} (h : tables_1[i]? = some d) => hw d (List.mem_of_getElem? h)
  have hx := Bd.exec
  have hby := Bd.bytes
  have hml : c.maxLocals = 1 := hml0
  have hown : s.vm.findClass "java/util/AbstractList" = some m.cls := findClass_of_methodNamed Bd.named
  have hnm := (name_of_methodNamed Bd.named Bd.method).1
  have X0 : Stand p l e ({ frames := 2, cells := 0, slots := 0, locals := 24 } : Room) s m #[(.ref a)] below meth c s₁ [] 0 0 := Stand.of_body Bd
  have e0 : s₁.heap = h0 := by rw [← hh, Bd.state]; rfl
  have N0 := Fr.nil n0
  have pre0 : ∀ t, Steps p.tables e below (s₁.setTop (mkF m 0 #[.val (.ref a)] [])) t → Steps p.tables e below (s₁.setTop (entryFrame m #[(.ref a)] 1)) t := fun t kk_ => castTop (ef_1 m a) kk_
  have K0 := Keep.refl h0 [a]
  obtain ⟨_, _, ⟨T1, L1, k1, n1⟩, -, X1, ⟨Lc1, hQ1, l1, y1, z1⟩, st1⟩ := X0.specialBack hx (y := y_0) rfl hown (mvT hZ (W 36 rfl)) (mvT hZ (W 37 rfl)) (mvT hZ (W 41 rfl)) (by decide) (backOf (W := 0) (acinit l Z a0 hw [] a h0 n0 O ) hZ (W 41 rfl) (W 40 rfl) (by decide) (by decide)) (g := (mkF m 1 #[rv a] [.ref a])) rfl (by rw [hml]; rfl) (Steps.refl _) (a := a) (argsL := []) (rest := []) (lenOf pd_0 rfl) rfl (by show 2 * 0 + _ ≤ _; exact Nat.le_of_eq rfl) (hb hby d4_1) (fun _ _ => ⟨rfl, e0, (by decide : 0 + 0 ≤ _), (by decide : 0 + 0 ≤ _)⟩)
  dsimp only [Pt.U, Pt.locs, Pt.cells, Pt.slots] at X1 l1 y1 z1 st1 hQ1
  subst l1 y1 z1
  obtain ⟨h1, e1⟩ : ∃ z, T1.heap = z := ⟨_, rfl⟩
  rw [e1] at hQ1
  obtain ⟨rfl, N1q, p1_0⟩ := hQ1
  have N1 := Fr.app N0 N1q
  rw [p1_0] at e1
  obtain ⟨T2, h2, X2, e2, W2, st2⟩ := putF X1 hx hZ hown (host := "") (Or.inl (W 45 rfl)) Via.refl e1 FmodCount Ea (Or.inl (W 46 rfl)) (W 25 rfl) (ty := .int) (by decide) rfl rfl (g := (mkF m 6 #[rv a] [.int 0, .ref a])) rfl rfl (hb hby d4_6)
  have Fz2 := FmodCount.same W2
  have FelementData := FelementData.other W2 (Or.inr (slot_ne (Or.inl (W 49 rfl)) (Or.inl (W 46 rfl)) (by decide) (t := (.array (.object "java/lang/Object"))) (t' := .int) (by decide) (by decide)))
  have Fsize := Fsize.other W2 (Or.inr (slot_ne (Or.inl (W 85 rfl)) (Or.inl (W 46 rfl)) (by decide) (t := .int) (t' := .int) (by decide) (by decide)))
  have K4 := K0.wr W2 (Or.inl (List.mem_of_getElem? (i := 0) rfl))
  have N5 := Fr.snoc X2 N1 ga
  obtain ⟨fs, hr, hrun, hended, hW, hsame⟩ := X2.leave (v := none) (fun _ => rfl)
  refine ⟨_, _, pre0 _ ?_, hrun, hended, _, _, rfl, ?_, ⟨_, rfl⟩, hW, hsame.mono (by decide) (by decide)⟩
  · show Sq p e below m s₁ 0 #[rv a] [] _
    refine XS.aloadN X0.here hx rfl (hb hby d4_0) rfl rfl ?_
    show Sq p e below m s₁ 1 #[rv a] [.ref a] _
    refine st1.trans ?_
    show Sq p e below m T1 4 #[rv a] [] _
    refine XS.aloadN X1.here hx rfl (hb hby d4_4) rfl rfl ?_
    refine XS.iconst X1.here hx rfl (hb hby d4_5) ?_
    show Sq p e below m T1 6 #[rv a] [.int 0, .ref a] _
    refine st2 _ ?_
    show Sq p e below m T2 9 #[rv a] [] _
    exact X2.returnOut hx Bd.returns (hb hby d4_9) hr
  · show Q_abinit Z a u u2 h0 n0 _ T2.heap _
    rw [e2]
    exact ⟨rfl, N5, K4, FelementData, Fsize, Fz2⟩
theorem d3_0 : decode jdk_38_method_2_code 0 = .ok (.aload_n 0, 1) := by decide +kernel
theorem d3_1 : decode jdk_38_method_2_code 1 = .ok (.invokespecial 1, 3) := by decide +kernel
theorem d3_4 : decode jdk_38_method_2_code 4 = .ok (.aload_n 0, 1) := by decide +kernel
theorem d3_5 : decode jdk_38_method_2_code 5 = .ok (.getstatic 39, 3) := by decide +kernel
theorem d3_8 : decode jdk_38_method_2_code 8 = .ok (.putfield 9, 3) := by decide +kernel
theorem d3_11 : decode jdk_38_method_2_code 11 = .ok (.return_, 1) := by decide +kernel
def Q_alinit (Z : State) (a : Addr) (w_DEF : Addr) (h0 : Heap) (n0 : Nat) (v : Option Value) (h : Heap) (L : List Loc) : Prop := v = none ∧ Fr n0 L ∧ Keep h0 h [a] ∧ Fld Z h a "java/util/ArrayList" "elementData" "[Ljava/lang/Object;" (.ref w_DEF) ∧ Fld Z h a "java/util/ArrayList" "size" "I" (.int (0 : Int32)) ∧ Fld Z h a "java/util/AbstractList" "modCount" "I" (.int (0 : Int32))
theorem ef_2 (m : MethodId) (x0 : Addr) : entryFrame m #[(.ref x0)] 1 = mkF m 0 #[.val (.ref x0)] [] := by first | (simp [entryFrame, mkF, argsToLocals, Value.category]; done) | rfl
theorem pn_2 : plainName "java/util/ArrayList" = true := by first | (simp [plainName, overriddenIn]; done) | decide +kernel
abbrev y_2 : MethodName := ⟨"java/util/ArrayList", "<init>", "()V"⟩
set_option maxRecDepth 65536 in
set_option maxHeartbeats 40000000 in
theorem alinit (l : Launch) (Z : State) (a0 : Array Value) (hw : ∀ d ∈ tables_1, d.before a0 Z = true) (ws : List Jvm.Cond) (a : Addr) (w_DEF : Addr) (h0 : Heap) (n0 : Nat) (O : Old Z n0 h0) (Ea : Exa Z h0 a "java/util/ArrayList") (FelementData : Fld Z h0 a "java/util/ArrayList" "elementData" "[Ljava/lang/Object;" .null) (Fsize : Fld Z h0 a "java/util/ArrayList" "size" "I" (.int (0 : Int32))) (FmodCount : Fld Z h0 a "java/util/AbstractList" "modCount" "I" (.int (0 : Int32))) (ga : n0 ≤ a) (S_w_DEF : Sta Z Z.heap "java/util/ArrayList" "DEFAULTCAPACITY_EMPTY_ELEMENTDATA" "[Ljava/lang/Object;" (.ref w_DEF)) :
    Ctr l Z y_2 jdk_38_method_2_code 1 none ws ({ frames := 3, cells := 0, slots := 0, locals := 36 } : Room) #[(.ref a)] h0 (Q_alinit Z a w_DEF h0 n0) := by
  refine MetFree.of_bodySF (plainFor_of_name pn_2) hisR ?_
  intro p e s m args below meth c s₁ Bd hml0 hP hK
  obtain ⟨rfl, hZ, hh⟩ := hP
  have W := fun (i : Nat) {d : Jvm.Cond} (h : tables_1[i]? = some d) => hw d (List.mem_of_getElem? h)
  have hx := Bd.exec
  have hby := Bd.bytes
  have hml : c.maxLocals = 1 := hml0
  have hown : s.vm.findClass "java/util/ArrayList" = some m.cls := findClass_of_methodNamed Bd.named
  have hnm := (name_of_methodNamed Bd.named Bd.method).1
  have X0 : Stand p l e ({ frames := 3, cells := 0, slots := 0, locals := 36 } : Room) s m #[(.ref a)] below meth c s₁ [] 0 0 := Stand.of_body Bd
  have e0 : s₁.heap = h0 := by rw [← hh, Bd.state]; rfl
  have N0 := Fr.nil n0
  have pre0 : ∀ t, Steps p.tables e below (s₁.setTop (mkF m 0 #[.val (.ref a)] [])) t → Steps p.tables e below (s₁.setTop (entryFrame m #[(.ref a)] 1)) t := fun t kk_ => castTop (ef_2 m a) kk_
  have K0 := Keep.refl h0 [a]
  obtain ⟨_, _, ⟨T1, L1, k1, n1⟩, -, X1, ⟨Lc1, hQ1, l1, y1, z1⟩, st1⟩ := X0.specialBack hx (y := y_1) rfl hown (mvT hZ (W 30 rfl)) (mvT hZ (W 31 rfl)) (mvT hZ (W 35 rfl)) (by decide) (backOf (W := 0) (abinit l Z a0 hw [] a .null (.int (0 : Int32)) h0 n0 O Ea FelementData Fsize FmodCount ga) hZ (W 35 rfl) (W 34 rfl) (by decide) (by decide)) (g := (mkF m 1 #[rv a] [.ref a])) rfl (by rw [hml]; rfl) (Steps.refl _) (a := a) (argsL := []) (rest := []) (lenOf pd_0 rfl) rfl (by show 2 * 0 + _ ≤ _; exact Nat.le_of_eq rfl) (hb hby d3_1) (fun _ _ => ⟨rfl, e0, (by decide : 0 + 0 ≤ _), (by decide : 0 + 0 ≤ _)⟩)
  dsimp only [Pt.U, Pt.locs, Pt.cells, Pt.slots] at X1 l1 y1 z1 st1 hQ1
  subst l1 y1 z1
  obtain ⟨h1, e1⟩ : ∃ z, T1.heap = z := ⟨_, rfl⟩
  rw [e1] at hQ1
  obtain ⟨rfl, N1q, p1_0, p1_1, p1_2, p1_3⟩ := hQ1
  have N1 := Fr.app N0 N1q
  have Ea := Ea.keep p1_0
  have O2 := O.keep p1_0 (allS ga all0)
  have K3 := K0.trans p1_0 (allS (Or.inl (List.mem_of_getElem? (i := 0) rfl)) all0)
  obtain ⟨T4, X4, e4, st4⟩ := getS2 X1 hx hZ hown (host := "") (Or.inl (W 47 rfl)) Via.refl e1 (S_w_DEF.ext O2.2) (g := (mkF m 5 #[rv a] [.ref a])) rfl (hb hby d3_5)
  obtain ⟨T5, h5, X5, e5, W5, st5⟩ := putF X4 hx hZ hown (host := "") (Or.inl (W 48 rfl)) Via.refl e4 p1_1 Ea (Or.inl (W 49 rfl)) (W 25 rfl) (ty := (.array (.object "java/lang/Object"))) (by decide) rfl rfl (g := (mkF m 8 #[rv a] [.ref w_DEF, .ref a])) rfl rfl (hb hby d3_8)
  have Fz5 := p1_1.same W5
  have p1_2 := p1_2.other W5 (Or.inr (slot_ne (Or.inl (W 85 rfl)) (Or.inl (W 49 rfl)) (by decide) (t := .int) (t' := (.array (.object "java/lang/Object"))) (by decide) (by decide)))
  have p1_3 := p1_3.other W5 (Or.inr (slot_ne (Or.inl (W 46 rfl)) (Or.inl (W 49 rfl)) (by decide) (t := .int) (t' := (.array (.object "java/lang/Object"))) (by decide) (by decide)))
  have K7 := K3.wr W5 (Or.inl (List.mem_of_getElem? (i := 0) rfl))
  have N8 := Fr.snoc X5 N1 ga
  obtain ⟨fs, hr, hrun, hended, hW, hsame⟩ := X5.leave (v := none) (fun _ => rfl)
  refine ⟨_, _, pre0 _ ?_, hrun, hended, _, _, rfl, ?_, ⟨_, rfl⟩, hW, hsame.mono (by decide) (by decide)⟩
  · show Sq p e below m s₁ 0 #[rv a] [] _
    refine XS.aloadN X0.here hx rfl (hb hby d3_0) rfl rfl ?_
    show Sq p e below m s₁ 1 #[rv a] [.ref a] _
    refine st1.trans ?_
    show Sq p e below m T1 4 #[rv a] [] _
    refine XS.aloadN X1.here hx rfl (hb hby d3_4) rfl rfl ?_
    show Sq p e below m T1 5 #[rv a] [.ref a] _
    refine st4 _ ?_
    show Sq p e below m T4 8 #[rv a] [.ref w_DEF, .ref a] _
    refine st5 _ ?_
    show Sq p e below m T5 11 #[rv a] [] _
    exact X5.returnOut hx Bd.returns (hb hby d3_11) hr
  · show Q_alinit Z a w_DEF h0 n0 _ T5.heap _
    rw [e5]
    exact ⟨rfl, N8, K7, Fz5, p1_2, p1_3⟩
theorem d20_0 : decode jdk_29_method_65_code 0 = .ok (.iload_n 0, 1) := by decide +kernel
theorem d20_1 : decode jdk_29_method_65_code 1 = .ok (.iload_n 1, 1) := by decide +kernel
theorem d20_2 : decode jdk_29_method_65_code 2 = .ok (.if_icmp .lt 7, 3) := by decide +kernel
theorem d20_5 : decode jdk_29_method_65_code 5 = .ok (.iload_n 0, 1) := by decide +kernel
theorem d20_6 : decode jdk_29_method_65_code 6 = .ok (.goto 4, 3) := by decide +kernel
theorem d20_10 : decode jdk_29_method_65_code 10 = .ok (.ireturn, 1) := by decide +kernel
def Q_max10 (Z : State) (h0 : Heap) (n0 : Nat) (v : Option Value) (h : Heap) (L : List Loc) : Prop := v = some (.int (10 : Int32)) ∧ Fr n0 L ∧ h = h0
theorem ef_3 (m : MethodId) (x0 : Int32) (x1 : Int32) : entryFrame m #[(.int x0), (.int x1)] 2 = mkF m 0 #[.val (.int x0), .val (.int x1)] [] := by first | (simp [entryFrame, mkF, argsToLocals, Value.category]; done) | rfl
abbrev y_3 : MethodName := ⟨"java/lang/Math", "max", "(II)I"⟩
set_option maxRecDepth 65536 in
set_option maxHeartbeats 40000000 in
theorem max10 (l : Launch) (Z : State) (a0 : Array Value) (hw : ∀ d ∈ tables_1, d.before a0 Z = true) (ws : List Jvm.Cond) (h0 : Heap) (n0 : Nat) (O : Old Z n0 h0) :
    Ctr l Z y_3 jdk_29_method_65_code 2 (some .int) ws ({ frames := 0, cells := 0, slots := 0, locals := 0 } : Room) #[(.int (10 : Int32)), (.int (1 : Int32))] h0 (Q_max10 Z  h0 n0) := by
  refine MetFree.of_bodySF (Jvm.Free.JP.mathPlain rfl (by decide +kernel)) hisR ?_
  intro p e s m args below meth c s₁ Bd hml0 hP hK
  obtain ⟨rfl, hZ, hh⟩ := hP
  have W := fun (i : Nat) {d : Jvm.Cond} (h : tables_1[i]? = some d) => hw d (List.mem_of_getElem? h)
  have hx := Bd.exec
  have hby := Bd.bytes
  have hml : c.maxLocals = 2 := hml0
  have hown : s.vm.findClass "java/lang/Math" = some m.cls := findClass_of_methodNamed Bd.named
  have hnm := (name_of_methodNamed Bd.named Bd.method).1
  have X0 : Stand p l e ({ frames := 0, cells := 0, slots := 0, locals := 0 } : Room) s m #[(.int (10 : Int32)), (.int (1 : Int32))] below meth c s₁ [] 0 0 := Stand.of_body Bd
  have e0 : s₁.heap = h0 := by rw [← hh, Bd.state]; rfl
  have N0 := Fr.nil n0
  have pre0 : ∀ t, Steps p.tables e below (s₁.setTop (mkF m 0 #[.val (.int (10 : Int32)), .val (.int (1 : Int32))] [])) t → Steps p.tables e below (s₁.setTop (entryFrame m #[(.int (10 : Int32)), (.int (1 : Int32))] 2)) t := fun t kk_ => castTop (ef_3 m (10 : Int32) (1 : Int32)) kk_
  obtain ⟨fs, hr, hrun, hended, hW, hsame⟩ := X0.leave (v := some (.int (10 : Int32))) (fun h => by rw [Bd.returns] at h; cases h)
  refine ⟨_, _, pre0 _ ?_, hrun, hended, _, _, rfl, ?_, ⟨_, rfl⟩, hW, hsame.mono (by decide) (by decide)⟩
  · show Sq p e below m s₁ 0 #[iv 10, iv 1] [] _
    refine XS.iloadN X0.here hx rfl (hb hby d20_0) rfl ?_
    refine XS.iloadN X0.here hx rfl (hb hby d20_1) rfl ?_
    show Sq p e below m s₁ 2 #[iv 10, iv 1] [.int 1, .int 10] _
    refine XS.icmpNo X0.here hx rfl (hb hby d20_2) rfl (flt (by decide)).1 ?_
    refine XS.iloadN X0.here hx rfl (hb hby d20_5) rfl ?_
    show Sq p e below m s₁ 6 #[iv 10, iv 1] [.int 10] _
    refine XS.goto X0.here hx rfl (pc0 := 6) (pc' := 10) rfl (hb hby d20_6) (by decide) (by decide) ?_
    show Sq p e below m s₁ 10 #[iv 10, iv 1] [.int 10] _
    exact retI X0 hx Bd.returns (hb hby d20_10) hr
  · show Q_max10 Z  h0 n0 _ s₁.heap _
    rw [e0]
    exact ⟨rfl, N0, rfl⟩
theorem d19_0 : decode jdk_38_method_6_code 0 = .ok (.aload_n 0, 1) := by decide +kernel
theorem d19_1 : decode jdk_38_method_6_code 1 = .ok (.getfield 9, 3) := by decide +kernel
theorem d19_4 : decode jdk_38_method_6_code 4 = .ok (.arraylength, 1) := by decide +kernel
theorem d19_5 : decode jdk_38_method_6_code 5 = .ok (.istore_n 2, 1) := by decide +kernel
theorem d19_6 : decode jdk_38_method_6_code 6 = .ok (.iload_n 2, 1) := by decide +kernel
theorem d19_7 : decode jdk_38_method_6_code 7 = .ok (.ifCond .gt 13, 3) := by decide +kernel
theorem d19_10 : decode jdk_38_method_6_code 10 = .ok (.aload_n 0, 1) := by decide +kernel
theorem d19_11 : decode jdk_38_method_6_code 11 = .ok (.getfield 9, 3) := by decide +kernel
theorem d19_14 : decode jdk_38_method_6_code 14 = .ok (.getstatic 39, 3) := by decide +kernel
theorem d19_17 : decode jdk_38_method_6_code 17 = .ok (.if_acmp .eq 28, 3) := by decide +kernel
theorem d19_45 : decode jdk_38_method_6_code 45 = .ok (.aload_n 0, 1) := by decide +kernel
theorem d19_46 : decode jdk_38_method_6_code 46 = .ok (.bipush 10, 2) := by decide +kernel
theorem d19_48 : decode jdk_38_method_6_code 48 = .ok (.iload_n 1, 1) := by decide +kernel
theorem d19_49 : decode jdk_38_method_6_code 49 = .ok (.invokestatic 79, 3) := by decide +kernel
theorem pd_1 : parseMethodDescriptor "(II)I" = some ⟨[.int, .int], some .int⟩ := by decide +kernel
theorem d19_52 : decode jdk_38_method_6_code 52 = .ok (.anewarray 7, 3) := by decide +kernel
theorem d19_55 : decode jdk_38_method_6_code 55 = .ok (.dup_x1, 1) := by decide +kernel
theorem d19_56 : decode jdk_38_method_6_code 56 = .ok (.putfield 9, 3) := by decide +kernel
theorem d19_59 : decode jdk_38_method_6_code 59 = .ok (.areturn, 1) := by decide +kernel
def Q_growI (Z : State) (a : Addr) (mc : Value) (w_DEF : Addr) (kdef : ClassId) (h0 : Heap) (n0 : Nat) (v : Option Value) (h : Heap) (L : List Loc) : Prop := ∃ b : Addr, ∃ kb : ClassId, v = some (.ref b) ∧ Fr n0 L ∧ Keep h0 h [a] ∧ h0.size ≤ b ∧ Fld Z h a "java/util/ArrayList" "elementData" "[Ljava/lang/Object;" (.ref b) ∧ Fld Z h a "java/util/ArrayList" "size" "I" (.int (0 : Int32)) ∧ Fld Z h a "java/util/AbstractList" "modCount" "I" mc ∧ Arv Z h b kb (.object "java/lang/Object") (10 : Int32) [.null, .null, .null, .null, .null, .null, .null, .null, .null, .null] .null ∧ Ovr Z kb "java/lang/Object" ∧ Exa Z h b "[Ljava/lang/Object;"
theorem ef_4 (m : MethodId) (x0 : Addr) (x1 : Int32) : entryFrame m #[(.ref x0), (.int x1)] 4 = mkF m 0 #[.val (.ref x0), .val (.int x1), .unset, .unset] [] := by first | (simp [entryFrame, mkF, argsToLocals, Value.category]; done) | rfl
abbrev y_4 : MethodName := ⟨"java/util/ArrayList", "grow", "(I)[Ljava/lang/Object;"⟩
set_option maxRecDepth 65536 in
set_option maxHeartbeats 40000000 in
theorem growI (l : Launch) (Z : State) (a0 : Array Value) (hw : ∀ d ∈ tables_1, d.before a0 Z = true) (ws : List Jvm.Cond) (a : Addr) (mc : Value) (w_DEF : Addr) (kdef : ClassId) (h0 : Heap) (n0 : Nat) (O : Old Z n0 h0) (Ea : Exa Z h0 a "java/util/ArrayList") (FelementData : Fld Z h0 a "java/util/ArrayList" "elementData" "[Ljava/lang/Object;" (.ref w_DEF)) (Fsize : Fld Z h0 a "java/util/ArrayList" "size" "I" (.int (0 : Int32))) (FmodCount : Fld Z h0 a "java/util/AbstractList" "modCount" "I" mc) (ga : n0 ≤ a) (S_w_DEF : Sta Z Z.heap "java/util/ArrayList" "DEFAULTCAPACITY_EMPTY_ELEMENTDATA" "[Ljava/lang/Object;" (.ref w_DEF)) (V_w_DEF : Arv Z Z.heap w_DEF kdef (.object "java/lang/Object") (0 : Int32) [] .null) :
    Ctr l Z y_4 jdk_38_method_6_code 4 (some (.array (.object "java/lang/Object"))) ws ({ frames := 1, cells := 1, slots := 10, locals := 14 } : Room) #[(.ref a), (.int (1 : Int32))] h0 (Q_growI Z a mc w_DEF kdef h0 n0) := by
  refine MetFree.of_bodySF (plainFor_of_name pn_2) hisR ?_
  intro p e s m args below meth c s₁ Bd hml0 hP hK
  obtain ⟨rfl, hZ, hh⟩ := hP
  have W := fun (i : Nat) {d : Jvm.Cond} (h : tables_1[i]? = some d) => hw d (List.mem_of_getElem? h)
  have hx := Bd.exec
  have hby := Bd.bytes
  have hml : c.maxLocals = 4 := hml0
  have hown : s.vm.findClass "java/util/ArrayList" = some m.cls := findClass_of_methodNamed Bd.named
  have hnm := (name_of_methodNamed Bd.named Bd.method).1
  have X0 : Stand p l e ({ frames := 1, cells := 1, slots := 10, locals := 14 } : Room) s m #[(.ref a), (.int (1 : Int32))] below meth c s₁ [] 0 0 := Stand.of_body Bd
  have e0 : s₁.heap = h0 := by rw [← hh, Bd.state]; rfl
  have N0 := Fr.nil n0
  have pre0 : ∀ t, Steps p.tables e below (s₁.setTop (mkF m 0 #[.val (.ref a), .val (.int (1 : Int32)), .unset, .unset] [])) t → Steps p.tables e below (s₁.setTop (entryFrame m #[(.ref a), (.int (1 : Int32))] 4)) t := fun t kk_ => castTop (ef_4 m a (1 : Int32)) kk_
  have K0 := Keep.refl h0 [a]
  obtain ⟨T1, X1, e1, st1⟩ := getF X0 hx hZ hown (host := "") (Or.inl (W 48 rfl)) Via.refl e0 FelementData (g := (mkF m 1 #[rv a, iv 1, .unset, .unset] [.ref a])) rfl rfl (hb hby d19_1)
  obtain ⟨cl2, Ar2, -, S2, Ng2, -, -⟩ := id (V_w_DEF.ext O.2)
  have st2 := X1.arraylength hx (by rw [e1]; exact Ar2.1) (State.isArrayOf_alike hZ.alike Ar2.2.1) (g := (mkF m 4 #[rv a, iv 1, .unset, .unset] [.ref w_DEF])) rfl rfl (hb hby d19_4)
  rw [len_of S2 Ng2] at st2
  obtain ⟨T3, X3, e3, st3⟩ := getF X1 hx hZ hown (host := "") (Or.inl (W 48 rfl)) Via.refl e1 FelementData (g := (mkF m 11 #[rv a, iv 1, iv 0, .unset] [.ref a])) rfl rfl (hb hby d19_11)
  obtain ⟨T4, X4, e4, st4⟩ := getS2 X3 hx hZ hown (host := "") (Or.inl (W 47 rfl)) Via.refl e3 (S_w_DEF.ext O.2) (g := (mkF m 14 #[rv a, iv 1, iv 0, .unset] [.ref w_DEF])) rfl (hb hby d19_14)
  obtain ⟨_, _, ⟨T5, L5, k5, n5⟩, -, X5, ⟨Lc5, hQ5, l5, y5, z5⟩, st5⟩ := Jvm.LawKit.callS X4 hx (y := y_3) hown (mvT hZ (W 138 rfl)) (mvT hZ (W 139 rfl)) (mvT hZ (W 140 rfl)) (mvT hZ (W 141 rfl)) (by decide) (backOf (W := 1) (max10 l Z a0 hw []  h0 n0 O ) hZ (W 141 rfl) (W 140 rfl) (by decide) (by decide)) (g := (mkF m 49 #[rv a, iv 1, iv 0, .unset] [.int 1, .int 10, .ref a])) rfl (by rw [hml]; rfl) (argsL := [.int 10, .int 1]) (rest := [.ref a]) (lenOf pd_1 rfl) rfl (by show 2 * 0 + _ ≤ _; exact Nat.le_of_eq rfl) (hb hby d19_49) (fun _ _ => ⟨rfl, e4, (by decide : 0 + 0 ≤ _), (by decide : 0 + 0 ≤ _)⟩)
  dsimp only [Pt.U, Pt.locs, Pt.cells, Pt.slots] at X5 l5 y5 z5 st5 hQ5
  subst l5 y5 z5
  obtain ⟨h5, e5⟩ : ∃ z, T5.heap = z := ⟨_, rfl⟩
  rw [e5] at hQ5
  obtain ⟨rfl, N5q, p5_0⟩ := hQ5
  have N5 := Fr.app N0 N5q
  rw [p5_0] at e5
  obtain ⟨T6, h6, k6, X6, e6, E6, A6, A6x, Ov6, st6⟩ := newRE X5 hx hZ hown (W 142 rfl) (W 143 rfl) e5 (g := (mkF m 52 #[rv a, iv 1, iv 0, .unset] [.int 10, .ref a])) rfl (hb hby d19_52) rfl (by decide) (cap := 10) (by decide) (by decide) (by decide) (by decide) (ad := "[Ljava/lang/Object;") (by decide)
  obtain ⟨b6, g6⟩ : ∃ z, z = h0.size := ⟨_, rfl⟩
  rw [← g6] at A6 A6x st6
  have sz_b6 : h0.size ≤ b6 := Nat.le_trans K0.1 (Nat.le_of_eq g6.symm)
  have ne_a_b6 : a ≠ b6 := Nat.ne_of_lt (Nat.lt_of_lt_of_le Ea.lt (Nat.le_of_eq g6.symm))
  have Ea := Ea.ext E6
  have FelementData := FelementData.ext E6
  have Fsize := Fsize.ext E6
  have FmodCount := FmodCount.ext E6
  have K8 := K0.ext E6
  have V6 : Arv Z h6 b6 k6 (.object "java/lang/Object") (10 : Int32) [.null, .null, .null, .null, .null, .null, .null, .null, .null, .null] .null := (Arv.new A6 (by decide)).pad (pad_rep [] .null 10)
  obtain ⟨T9, h9, X9, e9, W9, st9⟩ := putF X6 hx hZ hown (host := "") (Or.inl (W 48 rfl)) Via.refl e6 FelementData Ea (Or.inl (W 49 rfl)) (W 25 rfl) (ty := (.array (.object "java/lang/Object"))) (by decide) rfl rfl (g := (mkF m 56 #[rv a, iv 1, iv 0, .unset] [.ref b6, .ref a, .ref b6])) rfl rfl (hb hby d19_56)
  have Fz9 := FelementData.same W9
  have Fsize := Fsize.other W9 (Or.inr (slot_ne (Or.inl (W 85 rfl)) (Or.inl (W 49 rfl)) (by decide) (t := .int) (t' := (.array (.object "java/lang/Object"))) (by decide) (by decide)))
  have FmodCount := FmodCount.other W9 (Or.inr (slot_ne (Or.inl (W 46 rfl)) (Or.inl (W 49 rfl)) (by decide) (t := .int) (t' := (.array (.object "java/lang/Object"))) (by decide) (by decide)))
  have V6 := V6.other W9 (Ne.symm ne_a_b6)
  have A6x := A6x.wr W9
  have K11 := K8.wr W9 (Or.inl (List.mem_of_getElem? (i := 0) rfl))
  have N12 := Fr.snoc X9 N5 ga
  obtain ⟨fs, hr, hrun, hended, hW, hsame⟩ := X9.leave (v := some (.ref b6)) (fun h => by rw [Bd.returns] at h; cases h)
  refine ⟨_, _, pre0 _ ?_, hrun, hended, _, _, rfl, ?_, ⟨_, rfl⟩, hW, hsame.mono (by decide) (by decide)⟩
  · show Sq p e below m s₁ 0 #[rv a, iv 1, .unset, .unset] [] _
    refine XS.aloadN X0.here hx rfl (hb hby d19_0) rfl rfl ?_
    show Sq p e below m s₁ 1 #[rv a, iv 1, .unset, .unset] [.ref a] _
    refine st1 _ ?_
    show Sq p e below m T1 4 #[rv a, iv 1, .unset, .unset] [.ref w_DEF] _
    refine st2 _ ?_
    show Sq p e below m T1 5 #[rv a, iv 1, .unset, .unset] [.int 0] _
    refine XS.istoreN X1.here hx rfl (hb hby d19_5) rfl rfl ?_
    refine XS.iloadN X1.here hx rfl (hb hby d19_6) rfl ?_
    show Sq p e below m T1 7 #[rv a, iv 1, iv 0, .unset] [.int 0] _
    refine XS.ifNo X1.here hx rfl (hb hby d19_7) rfl ((if0 _ _).trans (flt (by decide)).2.2.1) ?_
    refine XS.aloadN X1.here hx rfl (hb hby d19_10) rfl rfl ?_
    show Sq p e below m T1 11 #[rv a, iv 1, iv 0, .unset] [.ref a] _
    refine st3 _ ?_
    show Sq p e below m T3 14 #[rv a, iv 1, iv 0, .unset] [.ref w_DEF] _
    refine st4 _ ?_
    show Sq p e below m T4 17 #[rv a, iv 1, iv 0, .unset] [.ref w_DEF, .ref w_DEF] _
    refine Jvm.RoadKit.acmp (g := (mkF m 17 #[rv a, iv 1, iv 0, .unset] [.ref w_DEF, .ref w_DEF])) X4 hx rfl rfl rfl (pc0 := 17) (pc' := 45) (same := true) rfl (hb hby d19_17) rfl (decide_eq_true rfl) (by decide) (by decide) ?_
    show Sq p e below m T4 45 #[rv a, iv 1, iv 0, .unset] [] _
    refine XS.aloadN X4.here hx rfl (hb hby d19_45) rfl rfl ?_
    refine XS.bipush X4.here hx rfl (hb hby d19_46) ?_
    show Sq p e below m T4 48 #[rv a, iv 1, iv 0, .unset] [.int 10, .ref a] _
    refine XS.iloadN X4.here hx rfl (hb hby d19_48) rfl ?_
    show Sq p e below m T4 49 #[rv a, iv 1, iv 0, .unset] [.int 1, .int 10, .ref a] _
    refine st5 _ ?_
    show Sq p e below m T5 52 #[rv a, iv 1, iv 0, .unset] [.int 10, .ref a] _
    refine st6 _ ?_
    show Sq p e below m T6 55 #[rv a, iv 1, iv 0, .unset] [.ref b6, .ref a] _
    refine XS.dupX1 X6.here hx rfl (hb hby d19_55) rfl rfl rfl ?_
    show Sq p e below m T6 56 #[rv a, iv 1, iv 0, .unset] [.ref b6, .ref a, .ref b6] _
    refine st9 _ ?_
    show Sq p e below m T9 59 #[rv a, iv 1, iv 0, .unset] [.ref b6] _
    jvm_step X9.here [X9.here.top, hx, (hb hby d19_59), X9.method', Bd.returns, Value.isRef, FieldType.isReference]
    first | (intro acts; rw [hr _ acts rfl rfl rfl]) | rw [hr _ _ rfl rfl rfl]
    exact Steps.refl _
  · show Q_growI Z a mc w_DEF kdef h0 n0 _ T9.heap _
    rw [e9]
    exact ⟨b6, k6, rfl, N12, K11, sz_b6, Fz9, Fsize, FmodCount, V6, Ov6, A6x⟩
theorem d18_0 : decode jdk_38_method_7_code 0 = .ok (.aload_n 0, 1) := by decide +kernel
theorem d18_1 : decode jdk_38_method_7_code 1 = .ok (.aload_n 0, 1) := by decide +kernel
theorem d18_2 : decode jdk_38_method_7_code 2 = .ok (.getfield 48, 3) := by decide +kernel
theorem d18_5 : decode jdk_38_method_7_code 5 = .ok (.iconst 1, 1) := by decide +kernel
theorem d18_6 : decode jdk_38_method_7_code 6 = .ok (.iadd, 1) := by decide +kernel
theorem d18_7 : decode jdk_38_method_7_code 7 = .ok (.invokevirtual 69, 3) := by decide +kernel
theorem pd_2 : parseMethodDescriptor "(I)[Ljava/lang/Object;" = some ⟨[.int], some (.array (.object "java/lang/Object"))⟩ := by decide +kernel
theorem d18_10 : decode jdk_38_method_7_code 10 = .ok (.areturn, 1) := by decide +kernel
def Q_grow0 (Z : State) (a : Addr) (mc : Value) (w_DEF : Addr) (kdef : ClassId) (h0 : Heap) (n0 : Nat) (v : Option Value) (h : Heap) (L : List Loc) : Prop := ∃ b : Addr, ∃ kb : ClassId, v = some (.ref b) ∧ Fr n0 L ∧ Keep h0 h [a] ∧ h0.size ≤ b ∧ Fld Z h a "java/util/ArrayList" "elementData" "[Ljava/lang/Object;" (.ref b) ∧ Fld Z h a "java/util/ArrayList" "size" "I" (.int (0 : Int32)) ∧ Fld Z h a "java/util/AbstractList" "modCount" "I" mc ∧ Arv Z h b kb (.object "java/lang/Object") (10 : Int32) [.null, .null, .null, .null, .null, .null, .null, .null, .null, .null] .null ∧ Ovr Z kb "java/lang/Object" ∧ Exa Z h b "[Ljava/lang/Object;"
theorem ef_5 (m : MethodId) (x0 : Addr) : entryFrame m #[(.ref x0)] 1 = mkF m 0 #[.val (.ref x0)] [] := by first | (simp [entryFrame, mkF, argsToLocals, Value.category]; done) | rfl
abbrev y_5 : MethodName := ⟨"java/util/ArrayList", "grow", "()[Ljava/lang/Object;"⟩
set_option maxRecDepth 65536 in
set_option maxHeartbeats 40000000 in
theorem grow0 (l : Launch) (Z : State) (a0 : Array Value) (hw : ∀ d ∈ tables_1, d.before a0 Z = true) (ws : List Jvm.Cond) (a : Addr) (mc : Value) (w_DEF : Addr) (kdef : ClassId) (h0 : Heap) (n0 : Nat) (O : Old Z n0 h0) (Ea : Exa Z h0 a "java/util/ArrayList") (FelementData : Fld Z h0 a "java/util/ArrayList" "elementData" "[Ljava/lang/Object;" (.ref w_DEF)) (Fsize : Fld Z h0 a "java/util/ArrayList" "size" "I" (.int (0 : Int32))) (FmodCount : Fld Z h0 a "java/util/AbstractList" "modCount" "I" mc) (ga : n0 ≤ a) (S_w_DEF : Sta Z Z.heap "java/util/ArrayList" "DEFAULTCAPACITY_EMPTY_ELEMENTDATA" "[Ljava/lang/Object;" (.ref w_DEF)) (V_w_DEF : Arv Z Z.heap w_DEF kdef (.object "java/lang/Object") (0 : Int32) [] .null) :
    Ctr l Z y_5 jdk_38_method_7_code 1 (some (.array (.object "java/lang/Object"))) ws ({ frames := 2, cells := 1, slots := 10, locals := 29 } : Room) #[(.ref a)] h0 (Q_grow0 Z a mc w_DEF kdef h0 n0) := by
  refine MetFree.of_bodySF (plainFor_of_name pn_2) hisR ?_
  intro p e s m args below meth c s₁ Bd hml0 hP hK
  obtain ⟨rfl, hZ, hh⟩ := hP
  have W := fun (i : Nat) {d : Jvm.Cond} (h : tables_1[i]? = some d) => hw d (List.mem_of_getElem? h)
  have hx := Bd.exec
  have hby := Bd.bytes
  have hml : c.maxLocals = 1 := hml0
  have hown : s.vm.findClass "java/util/ArrayList" = some m.cls := findClass_of_methodNamed Bd.named
  have hnm := (name_of_methodNamed Bd.named Bd.method).1
  have X0 : Stand p l e ({ frames := 2, cells := 1, slots := 10, locals := 29 } : Room) s m #[(.ref a)] below meth c s₁ [] 0 0 := Stand.of_body Bd
  have e0 : s₁.heap = h0 := by rw [← hh, Bd.state]; rfl
  have N0 := Fr.nil n0
  have pre0 : ∀ t, Steps p.tables e below (s₁.setTop (mkF m 0 #[.val (.ref a)] [])) t → Steps p.tables e below (s₁.setTop (entryFrame m #[(.ref a)] 1)) t := fun t kk_ => castTop (ef_5 m a) kk_
  have K0 := Keep.refl h0 [a]
  obtain ⟨T1, X1, e1, st1⟩ := getF X0 hx hZ hown (host := "") (Or.inl (W 84 rfl)) Via.refl e0 Fsize (g := (mkF m 2 #[rv a] [.ref a, .ref a])) rfl rfl (hb hby d18_2)
  obtain ⟨cq2, q2, q2'⟩ := Ea.cell
  obtain ⟨_, _, ⟨T2, L2, k2, n2⟩, -, X2, ⟨Lc2, hQ2, l2, y2, z2⟩, st2⟩ := X1.privateBack hx (y := y_4) hown (mvT hZ (W 133 rfl)) (mvT hZ (W 134 rfl)) (mvT hZ (W 136 rfl)) (Cond.privateMethod_at (mvP hZ (W 135 rfl) (args := #[]))) (mvT hZ (W 137 rfl)) (by decide) (backOf (W := 0) (growI l Z a0 hw [] a mc w_DEF kdef h0 n0 O Ea FelementData Fsize FmodCount ga S_w_DEF V_w_DEF) hZ (W 137 rfl) (W 26 rfl) (by decide) (by decide)) (g := (mkF m 7 #[rv a] [.int 1, .ref a])) rfl (by rw [hml]; rfl) (Steps.refl _) (a := a) (by rw [e1]; exact q2) q2' (argsL := [.int 1]) (rest := []) (lenOf pd_2 rfl) rfl (by show 2 * 0 + _ ≤ _; exact Nat.le_of_eq rfl) (hb hby d18_7) (fun _ _ => ⟨rfl, e1, (by decide : 0 + 1 ≤ _), (by decide : 0 + 10 ≤ _)⟩)
  dsimp only [Pt.U, Pt.locs, Pt.cells, Pt.slots] at X2 l2 y2 z2 st2 hQ2
  subst l2 y2 z2
  obtain ⟨h2, e2⟩ : ∃ z, T2.heap = z := ⟨_, rfl⟩
  rw [e2] at hQ2
  obtain ⟨b2b, b2kb, rfl, N2q, p2_0, p2_1, p2_2, p2_3, p2_4, p2_5, p2_6, p2_7⟩ := hQ2
  have N2 := Fr.app N0 N2q
  have sz_b2b : h0.size ≤ b2b := Nat.le_trans K0.1 p2_1
  have K4 := K0.trans p2_0 (allS (Or.inl (List.mem_of_getElem? (i := 0) rfl)) all0)
  obtain ⟨fs, hr, hrun, hended, hW, hsame⟩ := X2.leave (v := some (.ref b2b)) (fun h => by rw [Bd.returns] at h; cases h)
  refine ⟨_, _, pre0 _ ?_, hrun, hended, _, _, rfl, ?_, ⟨_, rfl⟩, hW, hsame.mono (by decide) (by decide)⟩
  · show Sq p e below m s₁ 0 #[rv a] [] _
    refine XS.aloadN X0.here hx rfl (hb hby d18_0) rfl rfl ?_
    refine XS.aloadN X0.here hx rfl (hb hby d18_1) rfl rfl ?_
    show Sq p e below m s₁ 2 #[rv a] [.ref a, .ref a] _
    refine st1 _ ?_
    show Sq p e below m T1 5 #[rv a] [.int 0, .ref a] _
    refine XS.iconst X1.here hx rfl (hb hby d18_5) ?_
    refine XS.iadd X1.here hx rfl (hb hby d18_6) rfl ?_
    show Sq p e below m T1 7 #[rv a] [.int ((0 : Int32) + (1 : Int32)), .ref a] _
    rw [show ((0 : Int32) + (1 : Int32)) = (1 : Int32) from by decide]
    show Sq p e below m T1 7 #[rv a] [.int 1, .ref a] _
    refine st2.trans ?_
    show Sq p e below m T2 10 #[rv a] [.ref b2b] _
    jvm_step X2.here [X2.here.top, hx, (hb hby d18_10), X2.method', Bd.returns, Value.isRef, FieldType.isReference]
    first | (intro acts; rw [hr _ acts rfl rfl rfl]) | rw [hr _ _ rfl rfl rfl]
    exact Steps.refl _
  · show Q_grow0 Z a mc w_DEF kdef h0 n0 _ T2.heap _
    rw [e2]
    exact ⟨b2b, b2kb, rfl, N2, K4, sz_b2b, p2_2, p2_3, p2_4, p2_5, p2_6, p2_7⟩
theorem d28_0 : decode jdk_47_method_1_code 0 = .ok (.aload_n 0, 1) := by decide +kernel
theorem d28_1 : decode jdk_47_method_1_code 1 = .ok (.invokespecial 1, 3) := by decide +kernel
theorem d28_4 : decode jdk_47_method_1_code 4 = .ok (.return_, 1) := by decide +kernel
def Q_aicinit (Z : State) (a : Addr) (h0 : Heap) (n0 : Nat) (v : Option Value) (h : Heap) (L : List Loc) : Prop := v = none ∧ Fr n0 L ∧ h = h0
theorem ef_6 (m : MethodId) (x0 : Addr) : entryFrame m #[(.ref x0)] 1 = mkF m 0 #[.val (.ref x0)] [] := by first | (simp [entryFrame, mkF, argsToLocals, Value.category]; done) | rfl
theorem pn_3 : plainName "java/util/ImmutableCollections$AbstractImmutableCollection" = true := by first | (simp [plainName, overriddenIn]; done) | decide +kernel
abbrev y_6 : MethodName := ⟨"java/util/ImmutableCollections$AbstractImmutableCollection", "<init>", "()V"⟩
set_option maxRecDepth 65536 in
set_option maxHeartbeats 40000000 in
theorem aicinit (l : Launch) (Z : State) (a0 : Array Value) (hw : ∀ d ∈ tables_1, d.before a0 Z = true) (ws : List Jvm.Cond) (a : Addr) (h0 : Heap) (n0 : Nat) (O : Old Z n0 h0) :
    Ctr l Z y_6 jdk_47_method_1_code 1 none ws ({ frames := 2, cells := 0, slots := 0, locals := 24 } : Room) #[(.ref a)] h0 (Q_aicinit Z a h0 n0) := by
  refine MetFree.of_bodySF (plainFor_of_name pn_3) hisR ?_
  intro p e s m args below meth c s₁ Bd hml0 hP hK
  obtain ⟨rfl, hZ, hh⟩ := hP
  have W := fun (i : Nat) {d : Jvm.Cond} (h : tables_1[i]? = some d) => hw d (List.mem_of_getElem? h)
  have hx := Bd.exec
  have hby := Bd.bytes
  have hml : c.maxLocals = 1 := hml0
  have hown : s.vm.findClass "java/util/ImmutableCollections$AbstractImmutableCollection" = some m.cls := findClass_of_methodNamed Bd.named
  have hnm := (name_of_methodNamed Bd.named Bd.method).1
  have X0 : Stand p l e ({ frames := 2, cells := 0, slots := 0, locals := 24 } : Room) s m #[(.ref a)] below meth c s₁ [] 0 0 := Stand.of_body Bd
  have e0 : s₁.heap = h0 := by rw [← hh, Bd.state]; rfl
  have N0 := Fr.nil n0
  have pre0 : ∀ t, Steps p.tables e below (s₁.setTop (mkF m 0 #[.val (.ref a)] [])) t → Steps p.tables e below (s₁.setTop (entryFrame m #[(.ref a)] 1)) t := fun t kk_ => castTop (ef_6 m a) kk_
  obtain ⟨_, _, ⟨T1, L1, k1, n1⟩, -, X1, ⟨Lc1, hQ1, l1, y1, z1⟩, st1⟩ := X0.specialBack hx (y := y_0) rfl hown (mvT hZ (W 197 rfl)) (mvT hZ (W 37 rfl)) (mvT hZ (W 41 rfl)) (by decide) (backOf (W := 0) (acinit l Z a0 hw [] a h0 n0 O ) hZ (W 41 rfl) (W 40 rfl) (by decide) (by decide)) (g := (mkF m 1 #[rv a] [.ref a])) rfl (by rw [hml]; rfl) (Steps.refl _) (a := a) (argsL := []) (rest := []) (lenOf pd_0 rfl) rfl (by show 2 * 0 + _ ≤ _; exact Nat.le_of_eq rfl) (hb hby d28_1) (fun _ _ => ⟨rfl, e0, (by decide : 0 + 0 ≤ _), (by decide : 0 + 0 ≤ _)⟩)
  dsimp only [Pt.U, Pt.locs, Pt.cells, Pt.slots] at X1 l1 y1 z1 st1 hQ1
  subst l1 y1 z1
  obtain ⟨h1, e1⟩ : ∃ z, T1.heap = z := ⟨_, rfl⟩
  rw [e1] at hQ1
  obtain ⟨rfl, N1q, p1_0⟩ := hQ1
  have N1 := Fr.app N0 N1q
  rw [p1_0] at e1
  obtain ⟨fs, hr, hrun, hended, hW, hsame⟩ := X1.leave (v := none) (fun _ => rfl)
  refine ⟨_, _, pre0 _ ?_, hrun, hended, _, _, rfl, ?_, ⟨_, rfl⟩, hW, hsame.mono (by decide) (by decide)⟩
  · show Sq p e below m s₁ 0 #[rv a] [] _
    refine XS.aloadN X0.here hx rfl (hb hby d28_0) rfl rfl ?_
    show Sq p e below m s₁ 1 #[rv a] [.ref a] _
    refine st1.trans ?_
    show Sq p e below m T1 4 #[rv a] [] _
    exact X1.returnOut hx Bd.returns (hb hby d28_4) hr
  · show Q_aicinit Z a h0 n0 _ T1.heap _
    rw [e1]
    exact ⟨rfl, N1, rfl⟩
theorem d27_0 : decode jdk_46_method_1_code 0 = .ok (.aload_n 0, 1) := by decide +kernel
theorem d27_1 : decode jdk_46_method_1_code 1 = .ok (.invokespecial 1, 3) := by decide +kernel
theorem d27_4 : decode jdk_46_method_1_code 4 = .ok (.return_, 1) := by decide +kernel
def Q_ailinit (Z : State) (a : Addr) (h0 : Heap) (n0 : Nat) (v : Option Value) (h : Heap) (L : List Loc) : Prop := v = none ∧ Fr n0 L ∧ h = h0
theorem ef_7 (m : MethodId) (x0 : Addr) : entryFrame m #[(.ref x0)] 1 = mkF m 0 #[.val (.ref x0)] [] := by first | (simp [entryFrame, mkF, argsToLocals, Value.category]; done) | rfl
theorem pn_4 : plainName "java/util/ImmutableCollections$AbstractImmutableList" = true := by first | (simp [plainName, overriddenIn]; done) | decide +kernel
abbrev y_7 : MethodName := ⟨"java/util/ImmutableCollections$AbstractImmutableList", "<init>", "()V"⟩
set_option maxRecDepth 65536 in
set_option maxHeartbeats 40000000 in
theorem ailinit (l : Launch) (Z : State) (a0 : Array Value) (hw : ∀ d ∈ tables_1, d.before a0 Z = true) (ws : List Jvm.Cond) (a : Addr) (h0 : Heap) (n0 : Nat) (O : Old Z n0 h0) :
    Ctr l Z y_7 jdk_46_method_1_code 1 none ws ({ frames := 3, cells := 0, slots := 0, locals := 36 } : Room) #[(.ref a)] h0 (Q_ailinit Z a h0 n0) := by
  refine MetFree.of_bodySF (plainFor_of_name pn_4) hisR ?_
  intro p e s m args below meth c s₁ Bd hml0 hP hK
  obtain ⟨rfl, hZ, hh⟩ := hP
  have W := fun (i : Nat) {d : Jvm.Cond} (h : tables_1[i]? = some d) => hw d (List.mem_of_getElem? h)
  have hx := Bd.exec
  have hby := Bd.bytes
  have hml : c.maxLocals = 1 := hml0
  have hown : s.vm.findClass "java/util/ImmutableCollections$AbstractImmutableList" = some m.cls := findClass_of_methodNamed Bd.named
  have hnm := (name_of_methodNamed Bd.named Bd.method).1
  have X0 : Stand p l e ({ frames := 3, cells := 0, slots := 0, locals := 36 } : Room) s m #[(.ref a)] below meth c s₁ [] 0 0 := Stand.of_body Bd
  have e0 : s₁.heap = h0 := by rw [← hh, Bd.state]; rfl
  have N0 := Fr.nil n0
  have pre0 : ∀ t, Steps p.tables e below (s₁.setTop (mkF m 0 #[.val (.ref a)] [])) t → Steps p.tables e below (s₁.setTop (entryFrame m #[(.ref a)] 1)) t := fun t kk_ => castTop (ef_7 m a) kk_
  obtain ⟨_, _, ⟨T1, L1, k1, n1⟩, -, X1, ⟨Lc1, hQ1, l1, y1, z1⟩, st1⟩ := X0.specialBack hx (y := y_6) rfl hown (mvT hZ (W 191 rfl)) (mvT hZ (W 192 rfl)) (mvT hZ (W 196 rfl)) (by decide) (backOf (W := 0) (aicinit l Z a0 hw [] a h0 n0 O ) hZ (W 196 rfl) (W 195 rfl) (by decide) (by decide)) (g := (mkF m 1 #[rv a] [.ref a])) rfl (by rw [hml]; rfl) (Steps.refl _) (a := a) (argsL := []) (rest := []) (lenOf pd_0 rfl) rfl (by show 2 * 0 + _ ≤ _; exact Nat.le_of_eq rfl) (hb hby d27_1) (fun _ _ => ⟨rfl, e0, (by decide : 0 + 0 ≤ _), (by decide : 0 + 0 ≤ _)⟩)
  dsimp only [Pt.U, Pt.locs, Pt.cells, Pt.slots] at X1 l1 y1 z1 st1 hQ1
  subst l1 y1 z1
  obtain ⟨h1, e1⟩ : ∃ z, T1.heap = z := ⟨_, rfl⟩
  rw [e1] at hQ1
  obtain ⟨rfl, N1q, p1_0⟩ := hQ1
  have N1 := Fr.app N0 N1q
  rw [p1_0] at e1
  obtain ⟨fs, hr, hrun, hended, hW, hsame⟩ := X1.leave (v := none) (fun _ => rfl)
  refine ⟨_, _, pre0 _ ?_, hrun, hended, _, _, rfl, ?_, ⟨_, rfl⟩, hW, hsame.mono (by decide) (by decide)⟩
  · show Sq p e below m s₁ 0 #[rv a] [] _
    refine XS.aloadN X0.here hx rfl (hb hby d27_0) rfl rfl ?_
    show Sq p e below m s₁ 1 #[rv a] [.ref a] _
    refine st1.trans ?_
    show Sq p e below m T1 4 #[rv a] [] _
    exact X1.returnOut hx Bd.returns (hb hby d27_4) hr
  · show Q_ailinit Z a h0 n0 _ T1.heap _
    rw [e1]
    exact ⟨rfl, N1, rfl⟩
theorem d8_0 : decode jdk_30_method_1_code 0 = .ok (.aload_n 0, 1) := by decide +kernel
theorem d8_1 : decode jdk_30_method_1_code 1 = .ok (.invokespecial 1, 3) := by decide +kernel
theorem d8_4 : decode jdk_30_method_1_code 4 = .ok (.return_, 1) := by decide +kernel
def Q_recinit (Z : State) (a : Addr) (h0 : Heap) (n0 : Nat) (v : Option Value) (h : Heap) (L : List Loc) : Prop := v = none ∧ Fr n0 L ∧ h = h0
theorem ef_8 (m : MethodId) (x0 : Addr) : entryFrame m #[(.ref x0)] 1 = mkF m 0 #[.val (.ref x0)] [] := by first | (simp [entryFrame, mkF, argsToLocals, Value.category]; done) | rfl
theorem pn_5 : plainName "java/lang/Record" = true := by first | (simp [plainName, overriddenIn]; done) | decide +kernel
abbrev y_8 : MethodName := ⟨"java/lang/Record", "<init>", "()V"⟩
set_option maxRecDepth 65536 in
set_option maxHeartbeats 40000000 in
theorem recinit (l : Launch) (Z : State) (a0 : Array Value) (hw : ∀ d ∈ tables_1, d.before a0 Z = true) (ws : List Jvm.Cond) (a : Addr) (h0 : Heap) (n0 : Nat) (O : Old Z n0 h0) :
    Ctr l Z y_8 jdk_30_method_1_code 1 none ws ({ frames := 1, cells := 0, slots := 0, locals := 12 } : Room) #[(.ref a)] h0 (Q_recinit Z a h0 n0) := by
  refine MetFree.of_bodySF (plainFor_of_name pn_5) hisR ?_
  intro p e s m args below meth c s₁ Bd hml0 hP hK
  obtain ⟨rfl, hZ, hh⟩ := hP
  have W := fun (i : Nat) {d : Jvm.Cond} (h : tables_1[i]? = some d) => hw d (List.mem_of_getElem? h)
  have hx := Bd.exec
  have hby := Bd.bytes
  have hml : c.maxLocals = 1 := hml0
  have hown : s.vm.findClass "java/lang/Record" = some m.cls := findClass_of_methodNamed Bd.named
  have hnm := (name_of_methodNamed Bd.named Bd.method).1
  have X0 : Stand p l e ({ frames := 1, cells := 0, slots := 0, locals := 12 } : Room) s m #[(.ref a)] below meth c s₁ [] 0 0 := Stand.of_body Bd
  have e0 : s₁.heap = h0 := by rw [← hh, Bd.state]; rfl
  have N0 := Fr.nil n0
  have pre0 : ∀ t, Steps p.tables e below (s₁.setTop (mkF m 0 #[.val (.ref a)] [])) t → Steps p.tables e below (s₁.setTop (entryFrame m #[(.ref a)] 1)) t := fun t kk_ => castTop (ef_8 m a) kk_
  obtain ⟨T1, X1, e1, st1⟩ := initO X0 hx hZ hown (W 60 rfl) (W 43 rfl) (W 44 rfl) e0 (g := (mkF m 1 #[rv a] [.ref a])) rfl (by rw [hml]; rfl) rfl (hb hby d8_1) (by decide) (W := 0) (by show 2 * 0 + _ ≤ _; exact Nat.le_of_eq rfl) (by decide)
  obtain ⟨fs, hr, hrun, hended, hW, hsame⟩ := X1.leave (v := none) (fun _ => rfl)
  refine ⟨_, _, pre0 _ ?_, hrun, hended, _, _, rfl, ?_, ⟨_, rfl⟩, hW, hsame.mono (by decide) (by decide)⟩
  · show Sq p e below m s₁ 0 #[rv a] [] _
    refine XS.aloadN X0.here hx rfl (hb hby d8_0) rfl rfl ?_
    show Sq p e below m s₁ 1 #[rv a] [.ref a] _
    refine st1 _ ?_
    show Sq p e below m T1 4 #[rv a] [] _
    exact X1.returnOut hx Bd.returns (hb hby d8_4) hr
  · show Q_recinit Z a h0 n0 _ T1.heap _
    rw [e1]
    exact ⟨rfl, N0, rfl⟩
theorem d29_0 : decode jdk_31_method_10_code 0 = .ok (.aload_n 0, 1) := by decide +kernel
theorem d29_1 : decode jdk_31_method_10_code 1 = .ok (.ifnonnull 11, 3) := by decide +kernel
theorem d29_12 : decode jdk_31_method_10_code 12 = .ok (.aload_n 0, 1) := by decide +kernel
theorem d29_13 : decode jdk_31_method_10_code 13 = .ok (.areturn, 1) := by decide +kernel
def Q_rnn (Z : State) (y1 : Addr) (h0 : Heap) (n0 : Nat) (v : Option Value) (h : Heap) (L : List Loc) : Prop := v = some (.ref y1) ∧ Fr n0 L ∧ h = h0
theorem ef_9 (m : MethodId) (x0 : Addr) : entryFrame m #[(.ref x0)] 1 = mkF m 0 #[.val (.ref x0)] [] := by first | (simp [entryFrame, mkF, argsToLocals, Value.category]; done) | rfl
theorem pn_6 : plainName "java/util/Objects" = true := by first | (simp [plainName, overriddenIn]; done) | decide +kernel
abbrev y_9 : MethodName := ⟨"java/util/Objects", "requireNonNull", "(Ljava/lang/Object;)Ljava/lang/Object;"⟩
set_option maxRecDepth 65536 in
set_option maxHeartbeats 40000000 in
theorem rnn (l : Launch) (Z : State) (a0 : Array Value) (hw : ∀ d ∈ tables_1, d.before a0 Z = true) (ws : List Jvm.Cond) (y1 : Addr) (h0 : Heap) (n0 : Nat) (O : Old Z n0 h0) :
    Ctr l Z y_9 jdk_31_method_10_code 1 (some (.object "java/lang/Object")) ws ({ frames := 0, cells := 0, slots := 0, locals := 0 } : Room) #[(.ref y1)] h0 (Q_rnn Z y1 h0 n0) := by
  refine MetFree.of_bodySF (plainFor_of_name pn_6) hisR ?_
  intro p e s m args below meth c s₁ Bd hml0 hP hK
  obtain ⟨rfl, hZ, hh⟩ := hP
  have W := fun (i : Nat) {d : Jvm.Cond} (h : tables_1[i]? = some d) => hw d (List.mem_of_getElem? h)
  have hx := Bd.exec
  have hby := Bd.bytes
  have hml : c.maxLocals = 1 := hml0
  have hown : s.vm.findClass "java/util/Objects" = some m.cls := findClass_of_methodNamed Bd.named
  have hnm := (name_of_methodNamed Bd.named Bd.method).1
  have X0 : Stand p l e ({ frames := 0, cells := 0, slots := 0, locals := 0 } : Room) s m #[(.ref y1)] below meth c s₁ [] 0 0 := Stand.of_body Bd
  have e0 : s₁.heap = h0 := by rw [← hh, Bd.state]; rfl
  have N0 := Fr.nil n0
  have pre0 : ∀ t, Steps p.tables e below (s₁.setTop (mkF m 0 #[.val (.ref y1)] [])) t → Steps p.tables e below (s₁.setTop (entryFrame m #[(.ref y1)] 1)) t := fun t kk_ => castTop (ef_9 m y1) kk_
  obtain ⟨fs, hr, hrun, hended, hW, hsame⟩ := X0.leave (v := some (.ref y1)) (fun h => by rw [Bd.returns] at h; cases h)
  refine ⟨_, _, pre0 _ ?_, hrun, hended, _, _, rfl, ?_, ⟨_, rfl⟩, hW, hsame.mono (by decide) (by decide)⟩
  · show Sq p e below m s₁ 0 #[rv y1] [] _
    refine XS.aloadN X0.here hx rfl (hb hby d29_0) rfl rfl ?_
    refine XS.ifnonnullYes X0.here hx rfl (pc0 := 1) (pc' := 12) rfl (hb hby d29_1) rfl (by decide) (by decide) ?_
    show Sq p e below m s₁ 12 #[rv y1] [] _
    refine XS.aloadN X0.here hx rfl (hb hby d29_12) rfl rfl ?_
    show Sq p e below m s₁ 13 #[rv y1] [.ref y1] _
    jvm_step X0.here [X0.here.top, hx, (hb hby d29_13), X0.method', Bd.returns, Value.isRef, FieldType.isReference]
    first | (intro acts; rw [hr _ acts rfl rfl rfl]) | rw [hr _ _ rfl rfl rfl]
    exact Steps.refl _
  · show Q_rnn Z y1 h0 n0 _ s₁.heap _
    rw [e0]
    exact ⟨rfl, N0, rfl⟩
theorem d12_0 : decode jdk_40_method_36_code 0 = .ok (.getstatic 90, 3) := by decide +kernel
theorem d12_3 : decode jdk_40_method_36_code 3 = .ok (.areturn, 1) := by decide +kernel
def Q_listof0 (Z : State) (w_ELIST : Addr) (h0 : Heap) (n0 : Nat) (v : Option Value) (h : Heap) (L : List Loc) : Prop := v = some (.ref w_ELIST) ∧ Fr n0 L ∧ h = h0
theorem ef_10 (m : MethodId) : entryFrame m #[] 0 = mkF m 0 #[] [] := by first | (simp [entryFrame, mkF, argsToLocals, Value.category]; done) | rfl
theorem pn_7 : plainName "java/util/List" = true := by first | (simp [plainName, overriddenIn]; done) | decide +kernel
abbrev y_10 : MethodName := ⟨"java/util/List", "of", "()Ljava/util/List;"⟩
set_option maxRecDepth 65536 in
set_option maxHeartbeats 40000000 in
theorem listof0 (l : Launch) (Z : State) (a0 : Array Value) (hw : ∀ d ∈ tables_1, d.before a0 Z = true) (ws : List Jvm.Cond) (w_ELIST : Addr) (h0 : Heap) (n0 : Nat) (O : Old Z n0 h0) (S_w_ELIST : Sta Z Z.heap "java/util/ImmutableCollections" "EMPTY_LIST" "Ljava/util/ImmutableCollections$ListN;" (.ref w_ELIST)) :
    Ctr l Z y_10 jdk_40_method_36_code 0 (some (.object "java/util/List")) ws ({ frames := 0, cells := 0, slots := 0, locals := 0 } : Room) #[] h0 (Q_listof0 Z w_ELIST h0 n0) := by
  refine MetFree.of_bodySF (plainFor_of_name pn_7) hisR ?_
  intro p e s m args below meth c s₁ Bd hml0 hP hK
  obtain ⟨rfl, hZ, hh⟩ := hP
  have W := fun (i : Nat) {d : Jvm.Cond} (h : tables_1[i]? = some d) => hw d (List.mem_of_getElem? h)
  have hx := Bd.exec
  have hby := Bd.bytes
  have hml : c.maxLocals = 0 := hml0
  have hown : s.vm.findClass "java/util/List" = some m.cls := findClass_of_methodNamed Bd.named
  have hnm := (name_of_methodNamed Bd.named Bd.method).1
  have X0 : Stand p l e ({ frames := 0, cells := 0, slots := 0, locals := 0 } : Room) s m #[] below meth c s₁ [] 0 0 := Stand.of_body Bd
  have e0 : s₁.heap = h0 := by rw [← hh, Bd.state]; rfl
  have N0 := Fr.nil n0
  have pre0 : ∀ t, Steps p.tables e below (s₁.setTop (mkF m 0 #[] [])) t → Steps p.tables e below (s₁.setTop (entryFrame m #[] 0)) t := fun t kk_ => castTop (ef_10 m ) kk_
  obtain ⟨T1, X1, e1, st1⟩ := getS2 X0 hx hZ hown (host := "") (Or.inl (W 89 rfl)) Via.refl e0 (S_w_ELIST.ext O.2) (g := (mkF m 0 #[] [])) rfl (hb hby d12_0)
  obtain ⟨fs, hr, hrun, hended, hW, hsame⟩ := X1.leave (v := some (.ref w_ELIST)) (fun h => by rw [Bd.returns] at h; cases h)
  refine ⟨_, _, pre0 _ ?_, hrun, hended, _, _, rfl, ?_, ⟨_, rfl⟩, hW, hsame.mono (by decide) (by decide)⟩
  · show Sq p e below m s₁ 0 #[] [] _
    refine st1 _ ?_
    show Sq p e below m T1 3 #[] [.ref w_ELIST] _
    jvm_step X1.here [X1.here.top, hx, (hb hby d12_3), X1.method', Bd.returns, Value.isRef, FieldType.isReference]
    first | (intro acts; rw [hr _ acts rfl rfl rfl]) | rw [hr _ _ rfl rfl rfl]
    exact Steps.refl _
  · show Q_listof0 Z w_ELIST h0 n0 _ T1.heap _
    rw [e1]
    exact ⟨rfl, N0, rfl⟩
theorem d26_0 : decode jdk_44_method_1_code 0 = .ok (.aload_n 0, 1) := by decide +kernel
theorem d26_1 : decode jdk_44_method_1_code 1 = .ok (.invokespecial 1, 3) := by decide +kernel
theorem d26_4 : decode jdk_44_method_1_code 4 = .ok (.aload_n 0, 1) := by decide +kernel
theorem d26_5 : decode jdk_44_method_1_code 5 = .ok (.aload_n 1, 1) := by decide +kernel
theorem d26_6 : decode jdk_44_method_1_code 6 = .ok (.invokestatic 7, 3) := by decide +kernel
theorem pd_3 : parseMethodDescriptor "(Ljava/lang/Object;)Ljava/lang/Object;" = some ⟨[(.object "java/lang/Object")], some (.object "java/lang/Object")⟩ := by decide +kernel
theorem d26_9 : decode jdk_44_method_1_code 9 = .ok (.putfield 13, 3) := by decide +kernel
theorem d26_12 : decode jdk_44_method_1_code 12 = .ok (.aload_n 0, 1) := by decide +kernel
theorem d26_13 : decode jdk_44_method_1_code 13 = .ok (.getstatic 19, 3) := by decide +kernel
theorem d26_16 : decode jdk_44_method_1_code 16 = .ok (.putfield 24, 3) := by decide +kernel
theorem d26_19 : decode jdk_44_method_1_code 19 = .ok (.return_, 1) := by decide +kernel
def Q_l1init (Z : State) (a : Addr) (y1 : Addr) (w_EMPTY : Addr) (h0 : Heap) (n0 : Nat) (v : Option Value) (h : Heap) (L : List Loc) : Prop := v = none ∧ Fr n0 L ∧ Keep h0 h [a] ∧ Fld Z h a "java/util/ImmutableCollections$List12" "e0" "Ljava/lang/Object;" (.ref y1) ∧ Fld Z h a "java/util/ImmutableCollections$List12" "e1" "Ljava/lang/Object;" (.ref w_EMPTY)
theorem ef_11 (m : MethodId) (x0 : Addr) (x1 : Addr) : entryFrame m #[(.ref x0), (.ref x1)] 2 = mkF m 0 #[.val (.ref x0), .val (.ref x1)] [] := by first | (simp [entryFrame, mkF, argsToLocals, Value.category]; done) | rfl
theorem pn_8 : plainName "java/util/ImmutableCollections$List12" = true := by first | (simp [plainName, overriddenIn]; done) | decide +kernel
abbrev y_11 : MethodName := ⟨"java/util/ImmutableCollections$List12", "<init>", "(Ljava/lang/Object;)V"⟩
set_option maxRecDepth 65536 in
set_option maxHeartbeats 40000000 in
theorem l1init (l : Launch) (Z : State) (a0 : Array Value) (hw : ∀ d ∈ tables_1, d.before a0 Z = true) (ws : List Jvm.Cond) (a : Addr) (y1 : Addr) (w_EMPTY : Addr) (h0 : Heap) (n0 : Nat) (O : Old Z n0 h0) (Ea : Exa Z h0 a "java/util/ImmutableCollections$List12") (Fe0 : Fld Z h0 a "java/util/ImmutableCollections$List12" "e0" "Ljava/lang/Object;" .null) (Fe1 : Fld Z h0 a "java/util/ImmutableCollections$List12" "e1" "Ljava/lang/Object;" .null) (ga : n0 ≤ a) (S_w_EMPTY : Sta Z Z.heap "java/util/ImmutableCollections" "EMPTY" "Ljava/lang/Object;" (.ref w_EMPTY)) :
    Ctr l Z y_11 jdk_44_method_1_code 2 none ws ({ frames := 4, cells := 0, slots := 0, locals := 48 } : Room) #[(.ref a), (.ref y1)] h0 (Q_l1init Z a y1 w_EMPTY h0 n0) := by
  refine MetFree.of_bodySF (plainFor_of_name pn_8) hisR ?_
  intro p e s m args below meth c s₁ Bd hml0 hP hK
  obtain ⟨rfl, hZ, hh⟩ := hP
  have W := fun (i : Nat) {d : Jvm.Cond} (h : tables_1[i]? = some d) => hw d (List.mem_of_getElem? h)
  have hx := Bd.exec
  have hby := Bd.bytes
  have hml : c.maxLocals = 2 := hml0
  have hown : s.vm.findClass "java/util/ImmutableCollections$List12" = some m.cls := findClass_of_methodNamed Bd.named
  have hnm := (name_of_methodNamed Bd.named Bd.method).1
  have X0 : Stand p l e ({ frames := 4, cells := 0, slots := 0, locals := 48 } : Room) s m #[(.ref a), (.ref y1)] below meth c s₁ [] 0 0 := Stand.of_body Bd
  have e0 : s₁.heap = h0 := by rw [← hh, Bd.state]; rfl
  have N0 := Fr.nil n0
  have pre0 : ∀ t, Steps p.tables e below (s₁.setTop (mkF m 0 #[.val (.ref a), .val (.ref y1)] [])) t → Steps p.tables e below (s₁.setTop (entryFrame m #[(.ref a), (.ref y1)] 2)) t := fun t kk_ => castTop (ef_11 m a y1) kk_
  have K0 := Keep.refl h0 [a]
  obtain ⟨_, _, ⟨T1, L1, k1, n1⟩, -, X1, ⟨Lc1, hQ1, l1, y1, z1⟩, st1⟩ := X0.specialBack hx (y := y_7) rfl hown (mvT hZ (W 185 rfl)) (mvT hZ (W 186 rfl)) (mvT hZ (W 190 rfl)) (by decide) (backOf (W := 0) (ailinit l Z a0 hw [] a h0 n0 O ) hZ (W 190 rfl) (W 189 rfl) (by decide) (by decide)) (g := (mkF m 1 #[rv a, rv y1] [.ref a])) rfl (by rw [hml]; rfl) (Steps.refl _) (a := a) (argsL := []) (rest := []) (lenOf pd_0 rfl) rfl (by show 2 * 0 + _ ≤ _; exact Nat.le_of_eq rfl) (hb hby d26_1) (fun _ _ => ⟨rfl, e0, (by decide : 0 + 0 ≤ _), (by decide : 0 + 0 ≤ _)⟩)
  dsimp only [Pt.U, Pt.locs, Pt.cells, Pt.slots] at X1 l1 y1 z1 st1 hQ1
  subst l1 y1 z1
  obtain ⟨h1, e1⟩ : ∃ z, T1.heap = z := ⟨_, rfl⟩
  rw [e1] at hQ1
  obtain ⟨rfl, N1q, p1_0⟩ := hQ1
  have N1 := Fr.app N0 N1q
  rw [p1_0] at e1
  obtain ⟨_, _, ⟨T2, L2, k2, n2⟩, -, X2, ⟨Lc2, hQ2, l2, y2, z2⟩, st2⟩ := Jvm.LawKit.callS X1 hx (y := y_9) hown (mvT hZ (W 199 rfl)) (mvT hZ (W 200 rfl)) (mvT hZ (W 201 rfl)) (mvT hZ (W 202 rfl)) (by decide) (backOf (W := 1) (rnn l Z a0 hw [] y1 h0 n0 O ) hZ (W 202 rfl) (W 201 rfl) (by decide) (by decide)) (g := (mkF m 6 #[rv a, rv y1] [.ref y1, .ref a])) rfl (by rw [hml]; rfl) (argsL := [.ref y1]) (rest := [.ref a]) (lenOf pd_3 rfl) rfl (by show 2 * 0 + _ ≤ _; exact Nat.le_of_eq rfl) (hb hby d26_6) (fun _ _ => ⟨rfl, e1, (by decide : 0 + 0 ≤ _), (by decide : 0 + 0 ≤ _)⟩)
  dsimp only [Pt.U, Pt.locs, Pt.cells, Pt.slots] at X2 l2 y2 z2 st2 hQ2
  subst l2 y2 z2
  obtain ⟨h2, e2⟩ : ∃ z, T2.heap = z := ⟨_, rfl⟩
  rw [e2] at hQ2
  obtain ⟨rfl, N2q, p2_0⟩ := hQ2
  have N2 := Fr.app N1 N2q
  rw [p2_0] at e2
  obtain ⟨T3, h3, X3, e3, W3, st3⟩ := putF X2 hx hZ hown (host := "") (Or.inl (W 203 rfl)) Via.refl e2 Fe0 Ea (Or.inr ⟨(W 204 rfl), rfl, hnm⟩) (W 179 rfl) (ty := (.object "java/lang/Object")) (by decide) rfl rfl (g := (mkF m 9 #[rv a, rv y1] [.ref y1, .ref a])) rfl rfl (hb hby d26_9)
  have Fz3 := Fe0.same W3
  have Ea := Ea.wr W3
  have Fe1 := Fe1.other W3 (Or.inr (slot_ne (Or.inr (W 207 rfl)) (Or.inr (W 204 rfl)) (by decide) (t := (.object "java/lang/Object")) (t' := (.object "java/lang/Object")) (by decide) (by decide)))
  have O4 := O.wr W3 ga
  have K5 := K0.wr W3 (Or.inl (List.mem_of_getElem? (i := 0) rfl))
  have N6 := Fr.snoc X3 N2 ga
  obtain ⟨T7, X7, e7, st7⟩ := getS2 X3 hx hZ hown (Or.inr (W 205 rfl)) Via.refl e3 (S_w_EMPTY.ext O4.2) (g := (mkF m 13 #[rv a, rv y1] [.ref a])) rfl (hb hby d26_13)
  obtain ⟨T8, h8, X8, e8, W8, st8⟩ := putF X7 hx hZ hown (host := "") (Or.inl (W 206 rfl)) Via.refl e7 Fe1 Ea (Or.inr ⟨(W 207 rfl), rfl, hnm⟩) (W 179 rfl) (ty := (.object "java/lang/Object")) (by decide) rfl rfl (g := (mkF m 16 #[rv a, rv y1] [.ref w_EMPTY, .ref a])) rfl rfl (hb hby d26_16)
  have Fz8 := Fe1.same W8
  have Fz3 := Fz3.other W8 (Or.inr (slot_ne (Or.inr (W 204 rfl)) (Or.inr (W 207 rfl)) (by decide) (t := (.object "java/lang/Object")) (t' := (.object "java/lang/Object")) (by decide) (by decide)))
  have K10 := K5.wr W8 (Or.inl (List.mem_of_getElem? (i := 0) rfl))
  have N11 := Fr.snoc X8 N6 ga
  obtain ⟨fs, hr, hrun, hended, hW, hsame⟩ := X8.leave (v := none) (fun _ => rfl)
  refine ⟨_, _, pre0 _ ?_, hrun, hended, _, _, rfl, ?_, ⟨_, rfl⟩, hW, hsame.mono (by decide) (by decide)⟩
  · show Sq p e below m s₁ 0 #[rv a, rv y1] [] _
    refine XS.aloadN X0.here hx rfl (hb hby d26_0) rfl rfl ?_
    show Sq p e below m s₁ 1 #[rv a, rv y1] [.ref a] _
    refine st1.trans ?_
    show Sq p e below m T1 4 #[rv a, rv y1] [] _
    refine XS.aloadN X1.here hx rfl (hb hby d26_4) rfl rfl ?_
    refine XS.aloadN X1.here hx rfl (hb hby d26_5) rfl rfl ?_
    show Sq p e below m T1 6 #[rv a, rv y1] [.ref y1, .ref a] _
    refine st2 _ ?_
    show Sq p e below m T2 9 #[rv a, rv y1] [.ref y1, .ref a] _
    refine st3 _ ?_
    show Sq p e below m T3 12 #[rv a, rv y1] [] _
    refine XS.aloadN X3.here hx rfl (hb hby d26_12) rfl rfl ?_
    show Sq p e below m T3 13 #[rv a, rv y1] [.ref a] _
    refine st7 _ ?_
    show Sq p e below m T7 16 #[rv a, rv y1] [.ref w_EMPTY, .ref a] _
    refine st8 _ ?_
    show Sq p e below m T8 19 #[rv a, rv y1] [] _
    exact X8.returnOut hx Bd.returns (hb hby d26_19) hr
  · show Q_l1init Z a y1 w_EMPTY h0 n0 _ T8.heap _
    rw [e8]
    exact ⟨rfl, N11, K10, Fz3, Fz8⟩
theorem d32_0 : decode jdk_44_method_2_code 0 = .ok (.aload_n 0, 1) := by decide +kernel
theorem d32_1 : decode jdk_44_method_2_code 1 = .ok (.invokespecial 1, 3) := by decide +kernel
theorem d32_4 : decode jdk_44_method_2_code 4 = .ok (.aload_n 0, 1) := by decide +kernel
theorem d32_5 : decode jdk_44_method_2_code 5 = .ok (.aload_n 1, 1) := by decide +kernel
theorem d32_6 : decode jdk_44_method_2_code 6 = .ok (.invokestatic 7, 3) := by decide +kernel
theorem d32_9 : decode jdk_44_method_2_code 9 = .ok (.putfield 13, 3) := by decide +kernel
theorem d32_12 : decode jdk_44_method_2_code 12 = .ok (.aload_n 0, 1) := by decide +kernel
theorem d32_13 : decode jdk_44_method_2_code 13 = .ok (.aload_n 2, 1) := by decide +kernel
theorem d32_14 : decode jdk_44_method_2_code 14 = .ok (.invokestatic 7, 3) := by decide +kernel
theorem d32_17 : decode jdk_44_method_2_code 17 = .ok (.putfield 24, 3) := by decide +kernel
theorem d32_20 : decode jdk_44_method_2_code 20 = .ok (.return_, 1) := by decide +kernel
def Q_l2init (Z : State) (a : Addr) (y1 : Addr) (y2 : Addr) (h0 : Heap) (n0 : Nat) (v : Option Value) (h : Heap) (L : List Loc) : Prop := v = none ∧ Fr n0 L ∧ Keep h0 h [a] ∧ Fld Z h a "java/util/ImmutableCollections$List12" "e0" "Ljava/lang/Object;" (.ref y1) ∧ Fld Z h a "java/util/ImmutableCollections$List12" "e1" "Ljava/lang/Object;" (.ref y2)
theorem ef_12 (m : MethodId) (x0 : Addr) (x1 : Addr) (x2 : Addr) : entryFrame m #[(.ref x0), (.ref x1), (.ref x2)] 3 = mkF m 0 #[.val (.ref x0), .val (.ref x1), .val (.ref x2)] [] := by first | (simp [entryFrame, mkF, argsToLocals, Value.category]; done) | rfl
abbrev y_12 : MethodName := ⟨"java/util/ImmutableCollections$List12", "<init>", "(Ljava/lang/Object;Ljava/lang/Object;)V"⟩
set_option maxRecDepth 65536 in
set_option maxHeartbeats 40000000 in
theorem l2init (l : Launch) (Z : State) (a0 : Array Value) (hw : ∀ d ∈ tables_1, d.before a0 Z = true) (ws : List Jvm.Cond) (a : Addr) (y1 : Addr) (y2 : Addr) (h0 : Heap) (n0 : Nat) (O : Old Z n0 h0) (Ea : Exa Z h0 a "java/util/ImmutableCollections$List12") (Fe0 : Fld Z h0 a "java/util/ImmutableCollections$List12" "e0" "Ljava/lang/Object;" .null) (Fe1 : Fld Z h0 a "java/util/ImmutableCollections$List12" "e1" "Ljava/lang/Object;" .null) (ga : n0 ≤ a) :
    Ctr l Z y_12 jdk_44_method_2_code 3 none ws ({ frames := 4, cells := 0, slots := 0, locals := 48 } : Room) #[(.ref a), (.ref y1), (.ref y2)] h0 (Q_l2init Z a y1 y2 h0 n0) := by
  refine MetFree.of_bodySF (plainFor_of_name pn_8) hisR ?_
  intro p e s m args below meth c s₁ Bd hml0 hP hK
  obtain ⟨rfl, hZ, hh⟩ := hP
  have W := fun (i : Nat) {d : Jvm.Cond} (h : tables_1[i]? = some d) => hw d (List.mem_of_getElem? h)
  have hx := Bd.exec
  have hby := Bd.bytes
  have hml : c.maxLocals = 3 := hml0
  have hown : s.vm.findClass "java/util/ImmutableCollections$List12" = some m.cls := findClass_of_methodNamed Bd.named
  have hnm := (name_of_methodNamed Bd.named Bd.method).1
  have X0 : Stand p l e ({ frames := 4, cells := 0, slots := 0, locals := 48 } : Room) s m #[(.ref a), (.ref y1), (.ref y2)] below meth c s₁ [] 0 0 := Stand.of_body Bd
  have e0 : s₁.heap = h0 := by rw [← hh, Bd.state]; rfl
  have N0 := Fr.nil n0
  have pre0 : ∀ t, Steps p.tables e below (s₁.setTop (mkF m 0 #[.val (.ref a), .val (.ref y1), .val (.ref y2)] [])) t → Steps p.tables e below (s₁.setTop (entryFrame m #[(.ref a), (.ref y1), (.ref y2)] 3)) t := fun t kk_ => castTop (ef_12 m a y1 y2) kk_
  have K0 := Keep.refl h0 [a]
  obtain ⟨_, _, ⟨T1, L1, k1, n1⟩, -, X1, ⟨Lc1, hQ1, l1, y1, z1⟩, st1⟩ := X0.specialBack hx (y := y_7) rfl hown (mvT hZ (W 185 rfl)) (mvT hZ (W 186 rfl)) (mvT hZ (W 190 rfl)) (by decide) (backOf (W := 0) (ailinit l Z a0 hw [] a h0 n0 O ) hZ (W 190 rfl) (W 189 rfl) (by decide) (by decide)) (g := (mkF m 1 #[rv a, rv y1, rv y2] [.ref a])) rfl (by rw [hml]; rfl) (Steps.refl _) (a := a) (argsL := []) (rest := []) (lenOf pd_0 rfl) rfl (by show 2 * 0 + _ ≤ _; exact Nat.le_of_eq rfl) (hb hby d32_1) (fun _ _ => ⟨rfl, e0, (by decide : 0 + 0 ≤ _), (by decide : 0 + 0 ≤ _)⟩)
  dsimp only [Pt.U, Pt.locs, Pt.cells, Pt.slots] at X1 l1 y1 z1 st1 hQ1
  subst l1 y1 z1
  obtain ⟨h1, e1⟩ : ∃ z, T1.heap = z := ⟨_, rfl⟩
  rw [e1] at hQ1
  obtain ⟨rfl, N1q, p1_0⟩ := hQ1
  have N1 := Fr.app N0 N1q
  rw [p1_0] at e1
  obtain ⟨_, _, ⟨T2, L2, k2, n2⟩, -, X2, ⟨Lc2, hQ2, l2, y2, z2⟩, st2⟩ := Jvm.LawKit.callS X1 hx (y := y_9) hown (mvT hZ (W 199 rfl)) (mvT hZ (W 200 rfl)) (mvT hZ (W 201 rfl)) (mvT hZ (W 202 rfl)) (by decide) (backOf (W := 1) (rnn l Z a0 hw [] y1 h0 n0 O ) hZ (W 202 rfl) (W 201 rfl) (by decide) (by decide)) (g := (mkF m 6 #[rv a, rv y1, rv y2] [.ref y1, .ref a])) rfl (by rw [hml]; rfl) (argsL := [.ref y1]) (rest := [.ref a]) (lenOf pd_3 rfl) rfl (by show 2 * 0 + _ ≤ _; exact Nat.le_of_eq rfl) (hb hby d32_6) (fun _ _ => ⟨rfl, e1, (by decide : 0 + 0 ≤ _), (by decide : 0 + 0 ≤ _)⟩)
  dsimp only [Pt.U, Pt.locs, Pt.cells, Pt.slots] at X2 l2 y2 z2 st2 hQ2
  subst l2 y2 z2
  obtain ⟨h2, e2⟩ : ∃ z, T2.heap = z := ⟨_, rfl⟩
  rw [e2] at hQ2
  obtain ⟨rfl, N2q, p2_0⟩ := hQ2
  have N2 := Fr.app N1 N2q
  rw [p2_0] at e2
  obtain ⟨T3, h3, X3, e3, W3, st3⟩ := putF X2 hx hZ hown (host := "") (Or.inl (W 203 rfl)) Via.refl e2 Fe0 Ea (Or.inr ⟨(W 204 rfl), rfl, hnm⟩) (W 179 rfl) (ty := (.object "java/lang/Object")) (by decide) rfl rfl (g := (mkF m 9 #[rv a, rv y1, rv y2] [.ref y1, .ref a])) rfl rfl (hb hby d32_9)
  have Fz3 := Fe0.same W3
  have Ea := Ea.wr W3
  have Fe1 := Fe1.other W3 (Or.inr (slot_ne (Or.inr (W 207 rfl)) (Or.inr (W 204 rfl)) (by decide) (t := (.object "java/lang/Object")) (t' := (.object "java/lang/Object")) (by decide) (by decide)))
  have O4 := O.wr W3 ga
  have K5 := K0.wr W3 (Or.inl (List.mem_of_getElem? (i := 0) rfl))
  have N6 := Fr.snoc X3 N2 ga
  obtain ⟨_, _, ⟨T7, L7, k7, n7⟩, -, X7, ⟨Lc7, hQ7, l7, y7, z7⟩, st7⟩ := Jvm.LawKit.callS X3 hx (y := y_9) hown (mvT hZ (W 199 rfl)) (mvT hZ (W 200 rfl)) (mvT hZ (W 201 rfl)) (mvT hZ (W 202 rfl)) (by decide) (backOf (W := 1) (rnn l Z a0 hw [] y2 h3 n0 O4 ) hZ (W 202 rfl) (W 201 rfl) (by decide) (by decide)) (g := (mkF m 14 #[rv a, rv y1, rv y2] [.ref y2, .ref a])) rfl (by rw [hml]; rfl) (argsL := [.ref y2]) (rest := [.ref a]) (lenOf pd_3 rfl) rfl (by show 2 * 0 + _ ≤ _; exact Nat.le_of_eq rfl) (hb hby d32_14) (fun _ _ => ⟨rfl, e3, (by decide : 0 + 0 ≤ _), (by decide : 0 + 0 ≤ _)⟩)
  dsimp only [Pt.U, Pt.locs, Pt.cells, Pt.slots] at X7 l7 y7 z7 st7 hQ7
  subst l7 y7 z7
  obtain ⟨h7, e7⟩ : ∃ z, T7.heap = z := ⟨_, rfl⟩
  rw [e7] at hQ7
  obtain ⟨rfl, N7q, p7_0⟩ := hQ7
  have N7 := Fr.app N6 N7q
  rw [p7_0] at e7
  obtain ⟨T8, h8, X8, e8, W8, st8⟩ := putF X7 hx hZ hown (host := "") (Or.inl (W 206 rfl)) Via.refl e7 Fe1 Ea (Or.inr ⟨(W 207 rfl), rfl, hnm⟩) (W 179 rfl) (ty := (.object "java/lang/Object")) (by decide) rfl rfl (g := (mkF m 17 #[rv a, rv y1, rv y2] [.ref y2, .ref a])) rfl rfl (hb hby d32_17)
  have Fz8 := Fe1.same W8
  have Fz3 := Fz3.other W8 (Or.inr (slot_ne (Or.inr (W 204 rfl)) (Or.inr (W 207 rfl)) (by decide) (t := (.object "java/lang/Object")) (t' := (.object "java/lang/Object")) (by decide) (by decide)))
  have K10 := K5.wr W8 (Or.inl (List.mem_of_getElem? (i := 0) rfl))
  have N11 := Fr.snoc X8 N7 ga
  obtain ⟨fs, hr, hrun, hended, hW, hsame⟩ := X8.leave (v := none) (fun _ => rfl)
  refine ⟨_, _, pre0 _ ?_, hrun, hended, _, _, rfl, ?_, ⟨_, rfl⟩, hW, hsame.mono (by decide) (by decide)⟩
  · show Sq p e below m s₁ 0 #[rv a, rv y1, rv y2] [] _
    refine XS.aloadN X0.here hx rfl (hb hby d32_0) rfl rfl ?_
    show Sq p e below m s₁ 1 #[rv a, rv y1, rv y2] [.ref a] _
    refine st1.trans ?_
    show Sq p e below m T1 4 #[rv a, rv y1, rv y2] [] _
    refine XS.aloadN X1.here hx rfl (hb hby d32_4) rfl rfl ?_
    refine XS.aloadN X1.here hx rfl (hb hby d32_5) rfl rfl ?_
    show Sq p e below m T1 6 #[rv a, rv y1, rv y2] [.ref y1, .ref a] _
    refine st2 _ ?_
    show Sq p e below m T2 9 #[rv a, rv y1, rv y2] [.ref y1, .ref a] _
    refine st3 _ ?_
    show Sq p e below m T3 12 #[rv a, rv y1, rv y2] [] _
    refine XS.aloadN X3.here hx rfl (hb hby d32_12) rfl rfl ?_
    refine XS.aloadN X3.here hx rfl (hb hby d32_13) rfl rfl ?_
    show Sq p e below m T3 14 #[rv a, rv y1, rv y2] [.ref y2, .ref a] _
    refine st7 _ ?_
    show Sq p e below m T7 17 #[rv a, rv y1, rv y2] [.ref y2, .ref a] _
    refine st8 _ ?_
    show Sq p e below m T8 20 #[rv a, rv y1, rv y2] [] _
    exact X8.returnOut hx Bd.returns (hb hby d32_20) hr
  · show Q_l2init Z a y1 y2 h0 n0 _ T8.heap _
    rw [e8]
    exact ⟨rfl, N11, K10, Fz3, Fz8⟩
theorem d31_0 : decode jdk_45_method_1_code 0 = .ok (.aload_n 0, 1) := by decide +kernel
theorem d31_1 : decode jdk_45_method_1_code 1 = .ok (.invokespecial 1, 3) := by decide +kernel
theorem d31_4 : decode jdk_45_method_1_code 4 = .ok (.aload_n 0, 1) := by decide +kernel
theorem d31_5 : decode jdk_45_method_1_code 5 = .ok (.aload_n 1, 1) := by decide +kernel
theorem d31_6 : decode jdk_45_method_1_code 6 = .ok (.putfield 7, 3) := by decide +kernel
theorem d31_9 : decode jdk_45_method_1_code 9 = .ok (.aload_n 0, 1) := by decide +kernel
theorem d31_10 : decode jdk_45_method_1_code 10 = .ok (.iload_n 2, 1) := by decide +kernel
theorem d31_11 : decode jdk_45_method_1_code 11 = .ok (.putfield 13, 3) := by decide +kernel
theorem d31_14 : decode jdk_45_method_1_code 14 = .ok (.return_, 1) := by decide +kernel
def Q_lninit (Z : State) (a : Addr) (y1 : Addr) (h0 : Heap) (n0 : Nat) (v : Option Value) (h : Heap) (L : List Loc) : Prop := v = none ∧ Fr n0 L ∧ Keep h0 h [a] ∧ Fld Z h a "java/util/ImmutableCollections$ListN" "elements" "[Ljava/lang/Object;" (.ref y1) ∧ Fld Z h a "java/util/ImmutableCollections$ListN" "allowNulls" "Z" (.int (0 : Int32))
theorem ef_13 (m : MethodId) (x0 : Addr) (x1 : Addr) (x2 : Int32) : entryFrame m #[(.ref x0), (.ref x1), (.int x2)] 3 = mkF m 0 #[.val (.ref x0), .val (.ref x1), .val (.int x2)] [] := by first | (simp [entryFrame, mkF, argsToLocals, Value.category]; done) | rfl
theorem pn_9 : plainName "java/util/ImmutableCollections$ListN" = true := by first | (simp [plainName, overriddenIn]; done) | decide +kernel
abbrev y_13 : MethodName := ⟨"java/util/ImmutableCollections$ListN", "<init>", "([Ljava/lang/Object;Z)V"⟩
set_option maxRecDepth 65536 in
set_option maxHeartbeats 40000000 in
theorem lninit (l : Launch) (Z : State) (a0 : Array Value) (hw : ∀ d ∈ tables_1, d.before a0 Z = true) (ws : List Jvm.Cond) (a : Addr) (y1 : Addr) (h0 : Heap) (n0 : Nat) (O : Old Z n0 h0) (Ea : Exa Z h0 a "java/util/ImmutableCollections$ListN") (Felements : Fld Z h0 a "java/util/ImmutableCollections$ListN" "elements" "[Ljava/lang/Object;" .null) (FallowNulls : Fld Z h0 a "java/util/ImmutableCollections$ListN" "allowNulls" "Z" (.int (0 : Int32))) (ga : n0 ≤ a) :
    Ctr l Z y_13 jdk_45_method_1_code 3 none ws ({ frames := 4, cells := 0, slots := 0, locals := 48 } : Room) #[(.ref a), (.ref y1), (.int (0 : Int32))] h0 (Q_lninit Z a y1 h0 n0) := by
  refine MetFree.of_bodySF (plainFor_of_name pn_9) hisR ?_
  intro p e s m args below meth c s₁ Bd hml0 hP hK
  obtain ⟨rfl, hZ, hh⟩ := hP
  have W := fun (i : Nat) {d : Jvm.Cond} (h : tables_1[i]? = some d) => hw d (List.mem_of_getElem? h)
  have hx := Bd.exec
  have hby := Bd.bytes
  have hml : c.maxLocals = 3 := hml0
  have hown : s.vm.findClass "java/util/ImmutableCollections$ListN" = some m.cls := findClass_of_methodNamed Bd.named
  have hnm := (name_of_methodNamed Bd.named Bd.method).1
  have X0 : Stand p l e ({ frames := 4, cells := 0, slots := 0, locals := 48 } : Room) s m #[(.ref a), (.ref y1), (.int (0 : Int32))] below meth c s₁ [] 0 0 := Stand.of_body Bd
  have e0 : s₁.heap = h0 := by rw [← hh, Bd.state]; rfl
  have N0 := Fr.nil n0
  have pre0 : ∀ t, Steps p.tables e below (s₁.setTop (mkF m 0 #[.val (.ref a), .val (.ref y1), .val (.int (0 : Int32))] [])) t → Steps p.tables e below (s₁.setTop (entryFrame m #[(.ref a), (.ref y1), (.int (0 : Int32))] 3)) t := fun t kk_ => castTop (ef_13 m a y1 (0 : Int32)) kk_
  have K0 := Keep.refl h0 [a]
  obtain ⟨_, _, ⟨T1, L1, k1, n1⟩, -, X1, ⟨Lc1, hQ1, l1, y1, z1⟩, st1⟩ := X0.specialBack hx (y := y_7) rfl hown (mvT hZ (W 220 rfl)) (mvT hZ (W 186 rfl)) (mvT hZ (W 190 rfl)) (by decide) (backOf (W := 0) (ailinit l Z a0 hw [] a h0 n0 O ) hZ (W 190 rfl) (W 189 rfl) (by decide) (by decide)) (g := (mkF m 1 #[rv a, rv y1, iv 0] [.ref a])) rfl (by rw [hml]; rfl) (Steps.refl _) (a := a) (argsL := []) (rest := []) (lenOf pd_0 rfl) rfl (by show 2 * 0 + _ ≤ _; exact Nat.le_of_eq rfl) (hb hby d31_1) (fun _ _ => ⟨rfl, e0, (by decide : 0 + 0 ≤ _), (by decide : 0 + 0 ≤ _)⟩)
  dsimp only [Pt.U, Pt.locs, Pt.cells, Pt.slots] at X1 l1 y1 z1 st1 hQ1
  subst l1 y1 z1
  obtain ⟨h1, e1⟩ : ∃ z, T1.heap = z := ⟨_, rfl⟩
  rw [e1] at hQ1
  obtain ⟨rfl, N1q, p1_0⟩ := hQ1
  have N1 := Fr.app N0 N1q
  rw [p1_0] at e1
  obtain ⟨T2, h2, X2, e2, W2, st2⟩ := putF X1 hx hZ hown (host := "") (Or.inl (W 20 rfl)) Via.refl e1 Felements Ea (Or.inr ⟨(W 21 rfl), rfl, hnm⟩) (W 215 rfl) (ty := (.array (.object "java/lang/Object"))) (by decide) rfl rfl (g := (mkF m 6 #[rv a, rv y1, iv 0] [.ref y1, .ref a])) rfl rfl (hb hby d31_6)
  have Fz2 := Felements.same W2
  have Ea := Ea.wr W2
  have FallowNulls := FallowNulls.other W2 (Or.inr (slot_ne (Or.inr (W 225 rfl)) (Or.inr (W 21 rfl)) (by decide) (t := .boolean) (t' := (.array (.object "java/lang/Object"))) (by decide) (by decide)))
  have K4 := K0.wr W2 (Or.inl (List.mem_of_getElem? (i := 0) rfl))
  have N5 := Fr.snoc X2 N1 ga
  obtain ⟨T6, h6, X6, e6, W6, st6⟩ := putFN X2 hx hZ hown (W 224 rfl) Via.refl e2 FallowNulls Ea (Or.inr ⟨(W 225 rfl), rfl, hnm⟩) (W 215 rfl) (ty := .boolean) (v' := (.int (0 : Int32))) (by decide) rfl (by decide) (g := (mkF m 11 #[rv a, rv y1, iv 0] [.int 0, .ref a])) rfl rfl (hb hby d31_11)
  have Fz6 := FallowNulls.same W6
  have Fz2 := Fz2.other W6 (Or.inr (slot_ne (Or.inr (W 21 rfl)) (Or.inr (W 225 rfl)) (by decide) (t := (.array (.object "java/lang/Object"))) (t' := .boolean) (by decide) (by decide)))
  have K8 := K4.wr W6 (Or.inl (List.mem_of_getElem? (i := 0) rfl))
  have N9 := Fr.snoc X6 N5 ga
  obtain ⟨fs, hr, hrun, hended, hW, hsame⟩ := X6.leave (v := none) (fun _ => rfl)
  refine ⟨_, _, pre0 _ ?_, hrun, hended, _, _, rfl, ?_, ⟨_, rfl⟩, hW, hsame.mono (by decide) (by decide)⟩
  · show Sq p e below m s₁ 0 #[rv a, rv y1, iv 0] [] _
    refine XS.aloadN X0.here hx rfl (hb hby d31_0) rfl rfl ?_
    show Sq p e below m s₁ 1 #[rv a, rv y1, iv 0] [.ref a] _
    refine st1.trans ?_
    show Sq p e below m T1 4 #[rv a, rv y1, iv 0] [] _
    refine XS.aloadN X1.here hx rfl (hb hby d31_4) rfl rfl ?_
    refine XS.aloadN X1.here hx rfl (hb hby d31_5) rfl rfl ?_
    show Sq p e below m T1 6 #[rv a, rv y1, iv 0] [.ref y1, .ref a] _
    refine st2 _ ?_
    show Sq p e below m T2 9 #[rv a, rv y1, iv 0] [] _
    refine XS.aloadN X2.here hx rfl (hb hby d31_9) rfl rfl ?_
    refine XS.iloadN X2.here hx rfl (hb hby d31_10) rfl ?_
    show Sq p e below m T2 11 #[rv a, rv y1, iv 0] [.int 0, .ref a] _
    refine st6 _ ?_
    show Sq p e below m T6 14 #[rv a, rv y1, iv 0] [] _
    exact X6.returnOut hx Bd.returns (hb hby d31_14) hr
  · show Q_lninit Z a y1 h0 n0 _ T6.heap _
    rw [e6]
    exact ⟨rfl, N9, K8, Fz2, Fz6⟩
theorem d15_0 : decode jdk_45_method_3_code 0 = .ok (.aload_n 0, 1) := by decide +kernel
theorem d15_1 : decode jdk_45_method_3_code 1 = .ok (.getfield 7, 3) := by decide +kernel
theorem d15_4 : decode jdk_45_method_3_code 4 = .ok (.arraylength, 1) := by decide +kernel
theorem d15_5 : decode jdk_45_method_3_code 5 = .ok (.ireturn, 1) := by decide +kernel
def Q_lnsz (Z : State) (a : Addr) (b : Addr) (kb : ClassId) (k : Int32) (vs : List Value) (h0 : Heap) (n0 : Nat) (v : Option Value) (h : Heap) (L : List Loc) : Prop := v = some (.int k) ∧ Fr n0 L ∧ h = h0
theorem ef_14 (m : MethodId) (x0 : Addr) : entryFrame m #[(.ref x0)] 1 = mkF m 0 #[.val (.ref x0)] [] := by first | (simp [entryFrame, mkF, argsToLocals, Value.category]; done) | rfl
abbrev y_14 : MethodName := ⟨"java/util/ImmutableCollections$ListN", "size", "()I"⟩
set_option maxRecDepth 65536 in
set_option maxHeartbeats 40000000 in
theorem lnsz (l : Launch) (Z : State) (a0 : Array Value) (hw : ∀ d ∈ tables_1, d.before a0 Z = true) (ws : List Jvm.Cond) (a : Addr) (b : Addr) (kb : ClassId) (k : Int32) (vs : List Value) (h0 : Heap) (n0 : Nat) (O : Old Z n0 h0) (Fe : Fld Z h0 a "java/util/ImmutableCollections$ListN" "elements" "[Ljava/lang/Object;" (.ref b)) (Vb : Arv Z h0 b kb (.object "java/lang/Object") k vs .null) :
    Ctr l Z y_14 jdk_45_method_3_code 1 (some .int) ws ({ frames := 0, cells := 0, slots := 0, locals := 0 } : Room) #[(.ref a)] h0 (Q_lnsz Z a b kb k vs h0 n0) := by
  refine MetFree.of_bodySF (plainFor_of_name pn_9) hisR ?_
  intro p e s m args below meth c s₁ Bd hml0 hP hK
  obtain ⟨rfl, hZ, hh⟩ := hP
  have W := fun (i : Nat) {d : Jvm.Cond} (h : tables_1[i]? = some d) => hw d (List.mem_of_getElem? h)
  have hx := Bd.exec
  have hby := Bd.bytes
  have hml : c.maxLocals = 1 := hml0
  have hown : s.vm.findClass "java/util/ImmutableCollections$ListN" = some m.cls := findClass_of_methodNamed Bd.named
  have hnm := (name_of_methodNamed Bd.named Bd.method).1
  have X0 : Stand p l e ({ frames := 0, cells := 0, slots := 0, locals := 0 } : Room) s m #[(.ref a)] below meth c s₁ [] 0 0 := Stand.of_body Bd
  have e0 : s₁.heap = h0 := by rw [← hh, Bd.state]; rfl
  have N0 := Fr.nil n0
  have pre0 : ∀ t, Steps p.tables e below (s₁.setTop (mkF m 0 #[.val (.ref a)] [])) t → Steps p.tables e below (s₁.setTop (entryFrame m #[(.ref a)] 1)) t := fun t kk_ => castTop (ef_14 m a) kk_
  obtain ⟨T1, X1, e1, st1⟩ := getF X0 hx hZ hown (host := "") (Or.inl (W 20 rfl)) Via.refl e0 Fe (g := (mkF m 1 #[rv a] [.ref a])) rfl rfl (hb hby d15_1)
  obtain ⟨cl2, Ar2, -, S2, Ng2, -, -⟩ := id Vb
  have st2 := X1.arraylength hx (by rw [e1]; exact Ar2.1) (State.isArrayOf_alike hZ.alike Ar2.2.1) (g := (mkF m 4 #[rv a] [.ref b])) rfl rfl (hb hby d15_4)
  rw [len_of S2 Ng2] at st2
  obtain ⟨fs, hr, hrun, hended, hW, hsame⟩ := X1.leave (v := some (.int k)) (fun h => by rw [Bd.returns] at h; cases h)
  refine ⟨_, _, pre0 _ ?_, hrun, hended, _, _, rfl, ?_, ⟨_, rfl⟩, hW, hsame.mono (by decide) (by decide)⟩
  · show Sq p e below m s₁ 0 #[rv a] [] _
    refine XS.aloadN X0.here hx rfl (hb hby d15_0) rfl rfl ?_
    show Sq p e below m s₁ 1 #[rv a] [.ref a] _
    refine st1 _ ?_
    show Sq p e below m T1 4 #[rv a] [.ref b] _
    refine st2 _ ?_
    show Sq p e below m T1 5 #[rv a] [.int k] _
    exact retI X1 hx Bd.returns (hb hby d15_5) hr
  · show Q_lnsz Z a b kb k vs h0 n0 _ T1.heap _
    rw [e1]
    exact ⟨rfl, N0, rfl⟩
theorem d33_0 : decode jdk_44_method_3_code 0 = .ok (.aload_n 0, 1) := by decide +kernel
theorem d33_1 : decode jdk_44_method_3_code 1 = .ok (.getfield 24, 3) := by decide +kernel
theorem d33_4 : decode jdk_44_method_3_code 4 = .ok (.getstatic 19, 3) := by decide +kernel
theorem d33_7 : decode jdk_44_method_3_code 7 = .ok (.if_acmp .eq 7, 3) := by decide +kernel
theorem d33_14 : decode jdk_44_method_3_code 14 = .ok (.iconst 1, 1) := by decide +kernel
theorem d33_15 : decode jdk_44_method_3_code 15 = .ok (.ireturn, 1) := by decide +kernel
def Q_l1sz (Z : State) (a : Addr) (w_EMPTY : Addr) (h0 : Heap) (n0 : Nat) (v : Option Value) (h : Heap) (L : List Loc) : Prop := v = some (.int (1 : Int32)) ∧ Fr n0 L ∧ h = h0
theorem ef_15 (m : MethodId) (x0 : Addr) : entryFrame m #[(.ref x0)] 1 = mkF m 0 #[.val (.ref x0)] [] := by first | (simp [entryFrame, mkF, argsToLocals, Value.category]; done) | rfl
abbrev y_15 : MethodName := ⟨"java/util/ImmutableCollections$List12", "size", "()I"⟩
set_option maxRecDepth 65536 in
set_option maxHeartbeats 40000000 in
theorem l1sz (l : Launch) (Z : State) (a0 : Array Value) (hw : ∀ d ∈ tables_1, d.before a0 Z = true) (ws : List Jvm.Cond) (a : Addr) (w_EMPTY : Addr) (h0 : Heap) (n0 : Nat) (O : Old Z n0 h0) (Fe : Fld Z h0 a "java/util/ImmutableCollections$List12" "e1" "Ljava/lang/Object;" (.ref w_EMPTY)) (S_w_EMPTY : Sta Z Z.heap "java/util/ImmutableCollections" "EMPTY" "Ljava/lang/Object;" (.ref w_EMPTY)) :
    Ctr l Z y_15 jdk_44_method_3_code 1 (some .int) ws ({ frames := 0, cells := 0, slots := 0, locals := 0 } : Room) #[(.ref a)] h0 (Q_l1sz Z a w_EMPTY h0 n0) := by
  refine MetFree.of_bodySF (plainFor_of_name pn_8) hisR ?_
  intro p e s m args below meth c s₁ Bd hml0 hP hK
  obtain ⟨rfl, hZ, hh⟩ := hP
  have W := fun (i : Nat) {d : Jvm.Cond} (h : tables_1[i]? = some d) => hw d (List.mem_of_getElem? h)
  have hx := Bd.exec
  have hby := Bd.bytes
  have hml : c.maxLocals = 1 := hml0
  have hown : s.vm.findClass "java/util/ImmutableCollections$List12" = some m.cls := findClass_of_methodNamed Bd.named
  have hnm := (name_of_methodNamed Bd.named Bd.method).1
  have X0 : Stand p l e ({ frames := 0, cells := 0, slots := 0, locals := 0 } : Room) s m #[(.ref a)] below meth c s₁ [] 0 0 := Stand.of_body Bd
  have e0 : s₁.heap = h0 := by rw [← hh, Bd.state]; rfl
  have N0 := Fr.nil n0
  have pre0 : ∀ t, Steps p.tables e below (s₁.setTop (mkF m 0 #[.val (.ref a)] [])) t → Steps p.tables e below (s₁.setTop (entryFrame m #[(.ref a)] 1)) t := fun t kk_ => castTop (ef_15 m a) kk_
  obtain ⟨T1, X1, e1, st1⟩ := getF X0 hx hZ hown (host := "") (Or.inl (W 206 rfl)) Via.refl e0 Fe (g := (mkF m 1 #[rv a] [.ref a])) rfl rfl (hb hby d33_1)
  obtain ⟨T2, X2, e2, st2⟩ := getS2 X1 hx hZ hown (Or.inr (W 205 rfl)) Via.refl e1 (S_w_EMPTY.ext O.2) (g := (mkF m 4 #[rv a] [.ref w_EMPTY])) rfl (hb hby d33_4)
  obtain ⟨fs, hr, hrun, hended, hW, hsame⟩ := X2.leave (v := some (.int (1 : Int32))) (fun h => by rw [Bd.returns] at h; cases h)
  refine ⟨_, _, pre0 _ ?_, hrun, hended, _, _, rfl, ?_, ⟨_, rfl⟩, hW, hsame.mono (by decide) (by decide)⟩
  · show Sq p e below m s₁ 0 #[rv a] [] _
    refine XS.aloadN X0.here hx rfl (hb hby d33_0) rfl rfl ?_
    show Sq p e below m s₁ 1 #[rv a] [.ref a] _
    refine st1 _ ?_
    show Sq p e below m T1 4 #[rv a] [.ref w_EMPTY] _
    refine st2 _ ?_
    show Sq p e below m T2 7 #[rv a] [.ref w_EMPTY, .ref w_EMPTY] _
    refine Jvm.RoadKit.acmp (g := (mkF m 7 #[rv a] [.ref w_EMPTY, .ref w_EMPTY])) X2 hx rfl rfl rfl (pc0 := 7) (pc' := 14) (same := true) rfl (hb hby d33_7) rfl (decide_eq_true rfl) (by decide) (by decide) ?_
    show Sq p e below m T2 14 #[rv a] [] _
    refine XS.iconst X2.here hx rfl (hb hby d33_14) ?_
    show Sq p e below m T2 15 #[rv a] [.int 1] _
    exact retI X2 hx Bd.returns (hb hby d33_15) hr
  · show Q_l1sz Z a w_EMPTY h0 n0 _ T2.heap _
    rw [e2]
    exact ⟨rfl, N0, rfl⟩
theorem d33_10 : decode jdk_44_method_3_code 10 = .ok (.iconst 2, 1) := by decide +kernel
theorem d33_11 : decode jdk_44_method_3_code 11 = .ok (.goto 4, 3) := by decide +kernel
def Q_l2sz (Z : State) (a : Addr) (y2 : Addr) (w_EMPTY : Addr) (h0 : Heap) (n0 : Nat) (v : Option Value) (h : Heap) (L : List Loc) : Prop := v = some (.int (2 : Int32)) ∧ Fr n0 L ∧ h = h0
set_option maxRecDepth 65536 in
set_option maxHeartbeats 40000000 in
theorem l2sz (l : Launch) (Z : State) (a0 : Array Value) (hw : ∀ d ∈ tables_1, d.before a0 Z = true) (ws : List Jvm.Cond) (a : Addr) (y2 : Addr) (w_EMPTY : Addr) (h0 : Heap) (n0 : Nat) (O : Old Z n0 h0) (Fe : Fld Z h0 a "java/util/ImmutableCollections$List12" "e1" "Ljava/lang/Object;" (.ref y2)) (S_w_EMPTY : Sta Z Z.heap "java/util/ImmutableCollections" "EMPTY" "Ljava/lang/Object;" (.ref w_EMPTY)) (ne2 : y2 ≠ w_EMPTY) :
    Ctr l Z y_15 jdk_44_method_3_code 1 (some .int) ws ({ frames := 0, cells := 0, slots := 0, locals := 0 } : Room) #[(.ref a)] h0 (Q_l2sz Z a y2 w_EMPTY h0 n0) := by
  refine MetFree.of_bodySF (plainFor_of_name pn_8) hisR ?_
  intro p e s m args below meth c s₁ Bd hml0 hP hK
  obtain ⟨rfl, hZ, hh⟩ := hP
  have W := fun (i : Nat) {d : Jvm.Cond} (h : tables_1[i]? = some d) => hw d (List.mem_of_getElem? h)
  have hx := Bd.exec
  have hby := Bd.bytes
  have hml : c.maxLocals = 1 := hml0
  have hown : s.vm.findClass "java/util/ImmutableCollections$List12" = some m.cls := findClass_of_methodNamed Bd.named
  have hnm := (name_of_methodNamed Bd.named Bd.method).1
  have X0 : Stand p l e ({ frames := 0, cells := 0, slots := 0, locals := 0 } : Room) s m #[(.ref a)] below meth c s₁ [] 0 0 := Stand.of_body Bd
  have e0 : s₁.heap = h0 := by rw [← hh, Bd.state]; rfl
  have N0 := Fr.nil n0
  have pre0 : ∀ t, Steps p.tables e below (s₁.setTop (mkF m 0 #[.val (.ref a)] [])) t → Steps p.tables e below (s₁.setTop (entryFrame m #[(.ref a)] 1)) t := fun t kk_ => castTop (ef_15 m a) kk_
  obtain ⟨T1, X1, e1, st1⟩ := getF X0 hx hZ hown (host := "") (Or.inl (W 206 rfl)) Via.refl e0 Fe (g := (mkF m 1 #[rv a] [.ref a])) rfl rfl (hb hby d33_1)
  obtain ⟨T2, X2, e2, st2⟩ := getS2 X1 hx hZ hown (Or.inr (W 205 rfl)) Via.refl e1 (S_w_EMPTY.ext O.2) (g := (mkF m 4 #[rv a] [.ref y2])) rfl (hb hby d33_4)
  obtain ⟨fs, hr, hrun, hended, hW, hsame⟩ := X2.leave (v := some (.int (2 : Int32))) (fun h => by rw [Bd.returns] at h; cases h)
  refine ⟨_, _, pre0 _ ?_, hrun, hended, _, _, rfl, ?_, ⟨_, rfl⟩, hW, hsame.mono (by decide) (by decide)⟩
  · show Sq p e below m s₁ 0 #[rv a] [] _
    refine XS.aloadN X0.here hx rfl (hb hby d33_0) rfl rfl ?_
    show Sq p e below m s₁ 1 #[rv a] [.ref a] _
    refine st1 _ ?_
    show Sq p e below m T1 4 #[rv a] [.ref y2] _
    refine st2 _ ?_
    show Sq p e below m T2 7 #[rv a] [.ref w_EMPTY, .ref y2] _
    refine Jvm.RoadKit.acmp (g := (mkF m 7 #[rv a] [.ref w_EMPTY, .ref y2])) X2 hx rfl rfl rfl (pc0 := 7) (pc' := 10) (same := false) rfl (hb hby d33_7) rfl (decide_eq_false fun q => ne2 (Value.ref.inj q)) (by decide) (by decide) ?_
    show Sq p e below m T2 10 #[rv a] [] _
    refine XS.iconst X2.here hx rfl (hb hby d33_10) ?_
    refine XS.goto X2.here hx rfl (pc0 := 11) (pc' := 15) rfl (hb hby d33_11) (by decide) (by decide) ?_
    show Sq p e below m T2 15 #[rv a] [.int 2] _
    exact retI X2 hx Bd.returns (hb hby d33_15) hr
  · show Q_l2sz Z a y2 w_EMPTY h0 n0 _ T2.heap _
    rw [e2]
    exact ⟨rfl, N0, rfl⟩
theorem d11_0 : decode jdk_38_method_9_code 0 = .ok (.aload_n 0, 1) := by decide +kernel
theorem d11_1 : decode jdk_38_method_9_code 1 = .ok (.getfield 48, 3) := by decide +kernel
theorem d11_4 : decode jdk_38_method_9_code 4 = .ok (.ifCond .ne 7, 3) := by decide +kernel
theorem d11_7 : decode jdk_38_method_9_code 7 = .ok (.iconst 1, 1) := by decide +kernel
theorem d11_8 : decode jdk_38_method_9_code 8 = .ok (.goto 4, 3) := by decide +kernel
theorem d11_12 : decode jdk_38_method_9_code 12 = .ok (.ireturn, 1) := by decide +kernel
def Q_emp0 (Z : State) (a : Addr) (h0 : Heap) (n0 : Nat) (v : Option Value) (h : Heap) (L : List Loc) : Prop := v = some (.int (1 : Int32)) ∧ Fr n0 L ∧ h = h0
theorem ef_16 (m : MethodId) (x0 : Addr) : entryFrame m #[(.ref x0)] 1 = mkF m 0 #[.val (.ref x0)] [] := by first | (simp [entryFrame, mkF, argsToLocals, Value.category]; done) | rfl
abbrev y_16 : MethodName := ⟨"java/util/ArrayList", "isEmpty", "()Z"⟩
set_option maxRecDepth 65536 in
set_option maxHeartbeats 40000000 in
theorem emp0 (l : Launch) (Z : State) (a0 : Array Value) (hw : ∀ d ∈ tables_1, d.before a0 Z = true) (ws : List Jvm.Cond) (a : Addr) (h0 : Heap) (n0 : Nat) (O : Old Z n0 h0) (Fs : Fld Z h0 a "java/util/ArrayList" "size" "I" (.int (0 : Int32))) :
    Ctr l Z y_16 jdk_38_method_9_code 1 (some .boolean) ws ({ frames := 0, cells := 0, slots := 0, locals := 0 } : Room) #[(.ref a)] h0 (Q_emp0 Z a h0 n0) := by
  refine MetFree.of_bodySF (plainFor_of_name pn_2) hisR ?_
  intro p e s m args below meth c s₁ Bd hml0 hP hK
  obtain ⟨rfl, hZ, hh⟩ := hP
  have W := fun (i : Nat) {d : Jvm.Cond} (h : tables_1[i]? = some d) => hw d (List.mem_of_getElem? h)
  have hx := Bd.exec
  have hby := Bd.bytes
  have hml : c.maxLocals = 1 := hml0
  have hown : s.vm.findClass "java/util/ArrayList" = some m.cls := findClass_of_methodNamed Bd.named
  have hnm := (name_of_methodNamed Bd.named Bd.method).1
  have X0 : Stand p l e ({ frames := 0, cells := 0, slots := 0, locals := 0 } : Room) s m #[(.ref a)] below meth c s₁ [] 0 0 := Stand.of_body Bd
  have e0 : s₁.heap = h0 := by rw [← hh, Bd.state]; rfl
  have N0 := Fr.nil n0
  have pre0 : ∀ t, Steps p.tables e below (s₁.setTop (mkF m 0 #[.val (.ref a)] [])) t → Steps p.tables e below (s₁.setTop (entryFrame m #[(.ref a)] 1)) t := fun t kk_ => castTop (ef_16 m a) kk_
  obtain ⟨T1, X1, e1, st1⟩ := getF X0 hx hZ hown (host := "") (Or.inl (W 84 rfl)) Via.refl e0 Fs (g := (mkF m 1 #[rv a] [.ref a])) rfl rfl (hb hby d11_1)
  obtain ⟨fs, hr, hrun, hended, hW, hsame⟩ := X1.leave (v := some (.int (1 : Int32))) (fun h => by rw [Bd.returns] at h; cases h)
  refine ⟨_, _, pre0 _ ?_, hrun, hended, _, _, rfl, ?_, ⟨_, rfl⟩, hW, hsame.mono (by decide) (by decide)⟩
  · show Sq p e below m s₁ 0 #[rv a] [] _
    refine XS.aloadN X0.here hx rfl (hb hby d11_0) rfl rfl ?_
    show Sq p e below m s₁ 1 #[rv a] [.ref a] _
    refine st1 _ ?_
    show Sq p e below m T1 4 #[rv a] [.int 0] _
    refine XS.ifNo X1.here hx rfl (hb hby d11_4) rfl ((if0 _ _).trans (teq (rfl : (0 : Int32) = (0 : Int32))).2) ?_
    refine XS.iconst X1.here hx rfl (hb hby d11_7) ?_
    show Sq p e below m T1 8 #[rv a] [.int 1] _
    refine XS.goto X1.here hx rfl (pc0 := 8) (pc' := 12) rfl (hb hby d11_8) (by decide) (by decide) ?_
    show Sq p e below m T1 12 #[rv a] [.int 1] _
    exact retN X1 hx (t := .boolean) Bd.returns (by simp) (hb hby d11_12) hr
  · show Q_emp0 Z a h0 n0 _ T1.heap _
    rw [e1]
    exact ⟨rfl, N0, rfl⟩
theorem d11_11 : decode jdk_38_method_9_code 11 = .ok (.iconst 0, 1) := by decide +kernel
def Q_emp1 (Z : State) (a : Addr) (k : Int32) (h0 : Heap) (n0 : Nat) (v : Option Value) (h : Heap) (L : List Loc) : Prop := v = some (.int (0 : Int32)) ∧ Fr n0 L ∧ h = h0
set_option maxRecDepth 65536 in
set_option maxHeartbeats 40000000 in
theorem emp1 (l : Launch) (Z : State) (a0 : Array Value) (hw : ∀ d ∈ tables_1, d.before a0 Z = true) (ws : List Jvm.Cond) (a : Addr) (k : Int32) (h0 : Heap) (n0 : Nat) (O : Old Z n0 h0) (Fs : Fld Z h0 a "java/util/ArrayList" "size" "I" (.int k)) (hk : ¬ (k = (0 : Int32))) :
    Ctr l Z y_16 jdk_38_method_9_code 1 (some .boolean) ws ({ frames := 0, cells := 0, slots := 0, locals := 0 } : Room) #[(.ref a)] h0 (Q_emp1 Z a k h0 n0) := by
  refine MetFree.of_bodySF (plainFor_of_name pn_2) hisR ?_
  intro p e s m args below meth c s₁ Bd hml0 hP hK
  obtain ⟨rfl, hZ, hh⟩ := hP
  have W := fun (i : Nat) {d : Jvm.Cond} (h : tables_1[i]? = some d) => hw d (List.mem_of_getElem? h)
  have hx := Bd.exec
  have hby := Bd.bytes
  have hml : c.maxLocals = 1 := hml0
  have hown : s.vm.findClass "java/util/ArrayList" = some m.cls := findClass_of_methodNamed Bd.named
  have hnm := (name_of_methodNamed Bd.named Bd.method).1
  have X0 : Stand p l e ({ frames := 0, cells := 0, slots := 0, locals := 0 } : Room) s m #[(.ref a)] below meth c s₁ [] 0 0 := Stand.of_body Bd
  have e0 : s₁.heap = h0 := by rw [← hh, Bd.state]; rfl
  have N0 := Fr.nil n0
  have pre0 : ∀ t, Steps p.tables e below (s₁.setTop (mkF m 0 #[.val (.ref a)] [])) t → Steps p.tables e below (s₁.setTop (entryFrame m #[(.ref a)] 1)) t := fun t kk_ => castTop (ef_16 m a) kk_
  obtain ⟨T1, X1, e1, st1⟩ := getF X0 hx hZ hown (host := "") (Or.inl (W 84 rfl)) Via.refl e0 Fs (g := (mkF m 1 #[rv a] [.ref a])) rfl rfl (hb hby d11_1)
  obtain ⟨fs, hr, hrun, hended, hW, hsame⟩ := X1.leave (v := some (.int (0 : Int32))) (fun h => by rw [Bd.returns] at h; cases h)
  refine ⟨_, _, pre0 _ ?_, hrun, hended, _, _, rfl, ?_, ⟨_, rfl⟩, hW, hsame.mono (by decide) (by decide)⟩
  · show Sq p e below m s₁ 0 #[rv a] [] _
    refine XS.aloadN X0.here hx rfl (hb hby d11_0) rfl rfl ?_
    show Sq p e below m s₁ 1 #[rv a] [.ref a] _
    refine st1 _ ?_
    show Sq p e below m T1 4 #[rv a] [.int k] _
    refine XS.ifYes X1.here hx rfl (pc0 := 4) (pc' := 11) rfl (hb hby d11_4) rfl ((if0 _ _).trans (feq (hk : ¬ (k = (0 : Int32)))).2) (by decide) (by decide) ?_
    refine XS.iconst X1.here hx rfl (hb hby d11_11) ?_
    show Sq p e below m T1 12 #[rv a] [.int 0] _
    exact retN X1 hx (t := .boolean) Bd.returns (by simp) (hb hby d11_12) hr
  · show Q_emp1 Z a k h0 n0 _ T1.heap _
    rw [e1]
    exact ⟨rfl, N0, rfl⟩
theorem d17_0 : decode jdk_38_method_24_code 0 = .ok (.iload_n 3, 1) := by decide +kernel
theorem d17_1 : decode jdk_38_method_24_code 1 = .ok (.aload_n 2, 1) := by decide +kernel
theorem d17_2 : decode jdk_38_method_24_code 2 = .ok (.arraylength, 1) := by decide +kernel
theorem d17_3 : decode jdk_38_method_24_code 3 = .ok (.if_icmp .ne 8, 3) := by decide +kernel
theorem d17_6 : decode jdk_38_method_24_code 6 = .ok (.aload_n 0, 1) := by decide +kernel
theorem d17_7 : decode jdk_38_method_24_code 7 = .ok (.invokevirtual 129, 3) := by decide +kernel
theorem pd_4 : parseMethodDescriptor "()[Ljava/lang/Object;" = some ⟨[], some (.array (.object "java/lang/Object"))⟩ := by decide +kernel
theorem d17_10 : decode jdk_38_method_24_code 10 = .ok (.astore_n 2, 1) := by decide +kernel
theorem d17_11 : decode jdk_38_method_24_code 11 = .ok (.aload_n 2, 1) := by decide +kernel
theorem d17_12 : decode jdk_38_method_24_code 12 = .ok (.iload_n 3, 1) := by decide +kernel
theorem d17_13 : decode jdk_38_method_24_code 13 = .ok (.aload_n 1, 1) := by decide +kernel
theorem d17_14 : decode jdk_38_method_24_code 14 = .ok (.aastore, 1) := by decide +kernel
theorem d17_15 : decode jdk_38_method_24_code 15 = .ok (.aload_n 0, 1) := by decide +kernel
theorem d17_16 : decode jdk_38_method_24_code 16 = .ok (.iload_n 3, 1) := by decide +kernel
theorem d17_17 : decode jdk_38_method_24_code 17 = .ok (.iconst 1, 1) := by decide +kernel
theorem d17_18 : decode jdk_38_method_24_code 18 = .ok (.iadd, 1) := by decide +kernel
theorem d17_19 : decode jdk_38_method_24_code 19 = .ok (.putfield 48, 3) := by decide +kernel
theorem d17_22 : decode jdk_38_method_24_code 22 = .ok (.return_, 1) := by decide +kernel
def Q_addh0D (Z : State) (a : Addr) (x1 : Addr) (mc : Value) (w_DEF : Addr) (kdef : ClassId) (h0 : Heap) (n0 : Nat) (v : Option Value) (h : Heap) (L : List Loc) : Prop := ∃ b : Addr, ∃ kb : ClassId, v = none ∧ Fr n0 L ∧ Keep h0 h [a] ∧ h0.size ≤ b ∧ Fld Z h a "java/util/ArrayList" "elementData" "[Ljava/lang/Object;" (.ref b) ∧ Fld Z h a "java/util/ArrayList" "size" "I" (.int (1 : Int32)) ∧ Fld Z h a "java/util/AbstractList" "modCount" "I" mc ∧ Arv Z h b kb (.object "java/lang/Object") (10 : Int32) [(.ref x1), .null, .null, .null, .null, .null, .null, .null, .null, .null] .null ∧ Ovr Z kb "java/lang/Object" ∧ Exa Z h b "[Ljava/lang/Object;"
theorem ef_17 (m : MethodId) (x0 : Addr) (x1 : Addr) (x2 : Addr) (x3 : Int32) : entryFrame m #[(.ref x0), (.ref x1), (.ref x2), (.int x3)] 4 = mkF m 0 #[.val (.ref x0), .val (.ref x1), .val (.ref x2), .val (.int x3)] [] := by first | (simp [entryFrame, mkF, argsToLocals, Value.category]; done) | rfl
abbrev y_17 : MethodName := ⟨"java/util/ArrayList", "add", "(Ljava/lang/Object;[Ljava/lang/Object;I)V"⟩
set_option maxRecDepth 65536 in
set_option maxHeartbeats 40000000 in
theorem addh0D (l : Launch) (Z : State) (a0 : Array Value) (hw : ∀ d ∈ tables_1, d.before a0 Z = true) (ws : List Jvm.Cond) (a : Addr) (x1 : Addr) (mc : Value) (w_DEF : Addr) (kdef : ClassId) (h0 : Heap) (n0 : Nat) (O : Old Z n0 h0) (Ea : Exa Z h0 a "java/util/ArrayList") (Ex : Exa Z h0 x1 "java/time/Duration") (FelementData : Fld Z h0 a "java/util/ArrayList" "elementData" "[Ljava/lang/Object;" (.ref w_DEF)) (Fsize : Fld Z h0 a "java/util/ArrayList" "size" "I" (.int (0 : Int32))) (FmodCount : Fld Z h0 a "java/util/AbstractList" "modCount" "I" mc) (ga : n0 ≤ a) (S_w_DEF : Sta Z Z.heap "java/util/ArrayList" "DEFAULTCAPACITY_EMPTY_ELEMENTDATA" "[Ljava/lang/Object;" (.ref w_DEF)) (V_w_DEF : Arv Z Z.heap w_DEF kdef (.object "java/lang/Object") (0 : Int32) [] .null) :
    Ctr l Z y_17 jdk_38_method_24_code 4 none ws ({ frames := 3, cells := 1, slots := 10, locals := 41 } : Room) #[(.ref a), (.ref x1), (.ref w_DEF), (.int (0 : Int32))] h0 (Q_addh0D Z a x1 mc w_DEF kdef h0 n0) := by
  refine MetFree.of_bodySF (plainFor_of_name pn_2) hisR ?_
  intro p e s m args below meth c s₁ Bd hml0 hP hK
  obtain ⟨rfl, hZ, hh⟩ := hP
  have W := fun (i : Nat) {d : Jvm.Cond} (h : tables_1[i]? = some d) => hw d (List.mem_of_getElem? h)
  have hx := Bd.exec
  have hby := Bd.bytes
  have hml : c.maxLocals = 4 := hml0
  have hown : s.vm.findClass "java/util/ArrayList" = some m.cls := findClass_of_methodNamed Bd.named
  have hnm := (name_of_methodNamed Bd.named Bd.method).1
  have X0 : Stand p l e ({ frames := 3, cells := 1, slots := 10, locals := 41 } : Room) s m #[(.ref a), (.ref x1), (.ref w_DEF), (.int (0 : Int32))] below meth c s₁ [] 0 0 := Stand.of_body Bd
  have e0 : s₁.heap = h0 := by rw [← hh, Bd.state]; rfl
  have N0 := Fr.nil n0
  have pre0 : ∀ t, Steps p.tables e below (s₁.setTop (mkF m 0 #[.val (.ref a), .val (.ref x1), .val (.ref w_DEF), .val (.int (0 : Int32))] [])) t → Steps p.tables e below (s₁.setTop (entryFrame m #[(.ref a), (.ref x1), (.ref w_DEF), (.int (0 : Int32))] 4)) t := fun t kk_ => castTop (ef_17 m a x1 w_DEF (0 : Int32)) kk_
  have K0 := Keep.refl h0 [a]
  obtain ⟨cl1, Ar1, -, S1, Ng1, -, -⟩ := id (V_w_DEF.ext O.2)
  have st1 := X0.arraylength hx (by rw [e0]; exact Ar1.1) (State.isArrayOf_alike hZ.alike Ar1.2.1) (g := (mkF m 2 #[rv a, rv x1, rv w_DEF, iv 0] [.ref w_DEF, .int 0])) rfl rfl (hb hby d17_2)
  rw [len_of S1 Ng1] at st1
  obtain ⟨cq2, q2, q2'⟩ := Ea.cell
  obtain ⟨_, _, ⟨T2, L2, k2, n2⟩, -, X2, ⟨Lc2, hQ2, l2, y2, z2⟩, st2⟩ := X0.privateBack hx (y := y_5) hown (mvT hZ (W 128 rfl)) (mvT hZ (W 129 rfl)) (mvT hZ (W 131 rfl)) (Cond.privateMethod_at (mvP hZ (W 130 rfl) (args := #[]))) (mvT hZ (W 132 rfl)) (by decide) (backOf (W := 0) (grow0 l Z a0 hw [] a mc w_DEF kdef h0 n0 O Ea FelementData Fsize FmodCount ga S_w_DEF V_w_DEF) hZ (W 132 rfl) (W 26 rfl) (by decide) (by decide)) (g := (mkF m 7 #[rv a, rv x1, rv w_DEF, iv 0] [.ref a])) rfl (by rw [hml]; rfl) (Steps.refl _) (a := a) (by rw [e0]; exact q2) q2' (argsL := []) (rest := []) (lenOf pd_4 rfl) rfl (by show 2 * 0 + _ ≤ _; exact Nat.le_of_eq rfl) (hb hby d17_7) (fun _ _ => ⟨rfl, e0, (by decide : 0 + 1 ≤ _), (by decide : 0 + 10 ≤ _)⟩)
  dsimp only [Pt.U, Pt.locs, Pt.cells, Pt.slots] at X2 l2 y2 z2 st2 hQ2
  subst l2 y2 z2
  obtain ⟨h2, e2⟩ : ∃ z, T2.heap = z := ⟨_, rfl⟩
  rw [e2] at hQ2
  obtain ⟨b2b, b2kb, rfl, N2q, p2_0, p2_1, p2_2, p2_3, p2_4, p2_5, p2_6, p2_7⟩ := hQ2
  have N2 := Fr.app N0 N2q
  have g_b2b : n0 ≤ b2b := Nat.le_trans (own_sz O) p2_1
  have sz_b2b : h0.size ≤ b2b := Nat.le_trans K0.1 p2_1
  have ne_a_b2b : a ≠ b2b := Nat.ne_of_lt (Nat.lt_of_lt_of_le Ea.lt p2_1)
  have Ea := Ea.keep p2_0
  have Ex := Ex.keep p2_0
  have K4 := K0.trans p2_0 (allS (Or.inl (List.mem_of_getElem? (i := 0) rfl)) all0)
  obtain ⟨cl5, Ar5, q5, S5, Ng5, Hh5, Gg5⟩ := id p2_5
  obtain ⟨T5, h5, X5, e5, W5, st5⟩ := stR X2 hx hZ e2 Ar5 (j := (0 : Int32)) (inb_of S5 (by decide)) rfl (Sto.ofV Ar5 q5 p2_6 (Ins.of_exa Ex (W 144 rfl))) (g := (mkF m 14 #[rv a, rv x1, rv b2b, iv 0] [.ref x1, .int 0, .ref b2b])) rfl rfl (hb hby d17_14)
  have V5 : Arv Z h5 b2b b2kb (.object "java/lang/Object") (10 : Int32) [(.ref x1), .null, .null, .null, .null, .null, .null, .null, .null, .null] .null := Arv.set Ar5 q5 S5 Ng5 Hh5 Gg5 rfl W5 0 rfl (Nat.le_of_ble_eq_true rfl)
  have Ea := Ea.wr W5
  have p2_2 := p2_2.other W5 (Or.inl ne_a_b2b)
  have p2_3 := p2_3.other W5 (Or.inl ne_a_b2b)
  have p2_4 := p2_4.other W5 (Or.inl ne_a_b2b)
  have p2_7 := p2_7.wr W5
  have K7 := K4.wr W5 (Or.inr sz_b2b)
  have N8 := Fr.snoc X5 N2 g_b2b
  obtain ⟨T9, h9, X9, e9, W9, st9⟩ := putF X5 hx hZ hown (host := "") (Or.inl (W 84 rfl)) Via.refl e5 p2_3 Ea (Or.inl (W 85 rfl)) (W 25 rfl) (ty := .int) (by decide) rfl rfl (g := (mkF m 19 #[rv a, rv x1, rv b2b, iv 0] [.int 1, .ref a])) rfl rfl (hb hby d17_19)
  have Fz9 := p2_3.same W9
  have p2_2 := p2_2.other W9 (Or.inr (slot_ne (Or.inl (W 49 rfl)) (Or.inl (W 85 rfl)) (by decide) (t := (.array (.object "java/lang/Object"))) (t' := .int) (by decide) (by decide)))
  have p2_4 := p2_4.other W9 (Or.inr (slot_ne (Or.inl (W 46 rfl)) (Or.inl (W 85 rfl)) (by decide) (t := .int) (t' := .int) (by decide) (by decide)))
  have p2_7 := p2_7.wr W9
  have V5 := V5.other W9 (Ne.symm ne_a_b2b)
  have K11 := K7.wr W9 (Or.inl (List.mem_of_getElem? (i := 0) rfl))
  have N12 := Fr.snoc X9 N8 ga
  obtain ⟨fs, hr, hrun, hended, hW, hsame⟩ := X9.leave (v := none) (fun _ => rfl)
  refine ⟨_, _, pre0 _ ?_, hrun, hended, _, _, rfl, ?_, ⟨_, rfl⟩, hW, hsame.mono (by decide) (by decide)⟩
  · show Sq p e below m s₁ 0 #[rv a, rv x1, rv w_DEF, iv 0] [] _
    refine XS.iloadN X0.here hx rfl (hb hby d17_0) rfl ?_
    refine XS.aloadN X0.here hx rfl (hb hby d17_1) rfl rfl ?_
    show Sq p e below m s₁ 2 #[rv a, rv x1, rv w_DEF, iv 0] [.ref w_DEF, .int 0] _
    refine st1 _ ?_
    show Sq p e below m s₁ 3 #[rv a, rv x1, rv w_DEF, iv 0] [.int 0, .int 0] _
    refine XS.icmpNo X0.here hx rfl (hb hby d17_3) rfl (teq (rfl : (0 : Int32) = (0 : Int32))).2 ?_
    refine XS.aloadN X0.here hx rfl (hb hby d17_6) rfl rfl ?_
    show Sq p e below m s₁ 7 #[rv a, rv x1, rv w_DEF, iv 0] [.ref a] _
    refine st2.trans ?_
    show Sq p e below m T2 10 #[rv a, rv x1, rv w_DEF, iv 0] [.ref b2b] _
    refine XS.astoreN X2.here hx rfl (hb hby d17_10) rfl rfl rfl ?_
    refine XS.aloadN X2.here hx rfl (hb hby d17_11) rfl rfl ?_
    show Sq p e below m T2 12 #[rv a, rv x1, rv b2b, iv 0] [.ref b2b] _
    refine XS.iloadN X2.here hx rfl (hb hby d17_12) rfl ?_
    refine XS.aloadN X2.here hx rfl (hb hby d17_13) rfl rfl ?_
    show Sq p e below m T2 14 #[rv a, rv x1, rv b2b, iv 0] [.ref x1, .int 0, .ref b2b] _
    refine st5 _ ?_
    show Sq p e below m T5 15 #[rv a, rv x1, rv b2b, iv 0] [] _
    refine XS.aloadN X5.here hx rfl (hb hby d17_15) rfl rfl ?_
    refine XS.iloadN X5.here hx rfl (hb hby d17_16) rfl ?_
    show Sq p e below m T5 17 #[rv a, rv x1, rv b2b, iv 0] [.int 0, .ref a] _
    refine XS.iconst X5.here hx rfl (hb hby d17_17) ?_
    refine XS.iadd X5.here hx rfl (hb hby d17_18) rfl ?_
    show Sq p e below m T5 19 #[rv a, rv x1, rv b2b, iv 0] [.int ((0 : Int32) + (1 : Int32)), .ref a] _
    rw [show ((0 : Int32) + (1 : Int32)) = (1 : Int32) from by decide]
    show Sq p e below m T5 19 #[rv a, rv x1, rv b2b, iv 0] [.int 1, .ref a] _
    refine st9 _ ?_
    show Sq p e below m T9 22 #[rv a, rv x1, rv b2b, iv 0] [] _
    exact X9.returnOut hx Bd.returns (hb hby d17_22) hr
  · show Q_addh0D Z a x1 mc w_DEF kdef h0 n0 _ T9.heap _
    rw [e9]
    exact ⟨b2b, b2kb, rfl, N12, K11, sz_b2b, p2_2, Fz9, p2_4, V5, p2_6, p2_7⟩
theorem d16_0 : decode jdk_38_method_25_code 0 = .ok (.aload_n 0, 1) := by decide +kernel
theorem d16_1 : decode jdk_38_method_25_code 1 = .ok (.dup, 1) := by decide +kernel
theorem d16_2 : decode jdk_38_method_25_code 2 = .ok (.getfield 63, 3) := by decide +kernel
theorem d16_5 : decode jdk_38_method_25_code 5 = .ok (.iconst 1, 1) := by decide +kernel
theorem d16_6 : decode jdk_38_method_25_code 6 = .ok (.iadd, 1) := by decide +kernel
theorem d16_7 : decode jdk_38_method_25_code 7 = .ok (.putfield 63, 3) := by decide +kernel
theorem d16_10 : decode jdk_38_method_25_code 10 = .ok (.aload_n 0, 1) := by decide +kernel
theorem d16_11 : decode jdk_38_method_25_code 11 = .ok (.aload_n 1, 1) := by decide +kernel
theorem d16_12 : decode jdk_38_method_25_code 12 = .ok (.aload_n 0, 1) := by decide +kernel
theorem d16_13 : decode jdk_38_method_25_code 13 = .ok (.getfield 9, 3) := by decide +kernel
theorem d16_16 : decode jdk_38_method_25_code 16 = .ok (.aload_n 0, 1) := by decide +kernel
theorem d16_17 : decode jdk_38_method_25_code 17 = .ok (.getfield 48, 3) := by decide +kernel
theorem d16_20 : decode jdk_38_method_25_code 20 = .ok (.invokevirtual 131, 3) := by decide +kernel
theorem pd_5 : parseMethodDescriptor "(Ljava/lang/Object;[Ljava/lang/Object;I)V" = some ⟨[(.object "java/lang/Object"), (.array (.object "java/lang/Object")), .int], none⟩ := by decide +kernel
theorem d16_23 : decode jdk_38_method_25_code 23 = .ok (.iconst 1, 1) := by decide +kernel
theorem d16_24 : decode jdk_38_method_25_code 24 = .ok (.ireturn, 1) := by decide +kernel
def Q_add0D (Z : State) (a : Addr) (x1 : Addr) (mc : Int32) (w_DEF : Addr) (kdef : ClassId) (h0 : Heap) (n0 : Nat) (v : Option Value) (h : Heap) (L : List Loc) : Prop := ∃ b : Addr, ∃ kb : ClassId, v = some (.int (1 : Int32)) ∧ Fr n0 L ∧ Keep h0 h [a] ∧ h0.size ≤ b ∧ Fld Z h a "java/util/ArrayList" "elementData" "[Ljava/lang/Object;" (.ref b) ∧ Fld Z h a "java/util/ArrayList" "size" "I" (.int (1 : Int32)) ∧ Fld Z h a "java/util/AbstractList" "modCount" "I" (.int (mc + (1 : Int32))) ∧ Arv Z h b kb (.object "java/lang/Object") (10 : Int32) [(.ref x1), .null, .null, .null, .null, .null, .null, .null, .null, .null] .null ∧ Ovr Z kb "java/lang/Object" ∧ Exa Z h b "[Ljava/lang/Object;"
theorem ef_18 (m : MethodId) (x0 : Addr) (x1 : Addr) : entryFrame m #[(.ref x0), (.ref x1)] 2 = mkF m 0 #[.val (.ref x0), .val (.ref x1)] [] := by first | (simp [entryFrame, mkF, argsToLocals, Value.category]; done) | rfl
abbrev y_18 : MethodName := ⟨"java/util/ArrayList", "add", "(Ljava/lang/Object;)Z"⟩
set_option maxRecDepth 65536 in
set_option maxHeartbeats 40000000 in
theorem add0D (l : Launch) (Z : State) (a0 : Array Value) (hw : ∀ d ∈ tables_1, d.before a0 Z = true) (ws : List Jvm.Cond) (a : Addr) (x1 : Addr) (mc : Int32) (w_DEF : Addr) (kdef : ClassId) (h0 : Heap) (n0 : Nat) (O : Old Z n0 h0) (Ea : Exa Z h0 a "java/util/ArrayList") (Ex : Exa Z h0 x1 "java/time/Duration") (FelementData : Fld Z h0 a "java/util/ArrayList" "elementData" "[Ljava/lang/Object;" (.ref w_DEF)) (Fsize : Fld Z h0 a "java/util/ArrayList" "size" "I" (.int (0 : Int32))) (FmodCount : Fld Z h0 a "java/util/AbstractList" "modCount" "I" (.int mc)) (ga : n0 ≤ a) (S_w_DEF : Sta Z Z.heap "java/util/ArrayList" "DEFAULTCAPACITY_EMPTY_ELEMENTDATA" "[Ljava/lang/Object;" (.ref w_DEF)) (V_w_DEF : Arv Z Z.heap w_DEF kdef (.object "java/lang/Object") (0 : Int32) [] .null) :
    Ctr l Z y_18 jdk_38_method_25_code 2 (some .boolean) ws ({ frames := 4, cells := 1, slots := 10, locals := 56 } : Room) #[(.ref a), (.ref x1)] h0 (Q_add0D Z a x1 mc w_DEF kdef h0 n0) := by
  refine MetFree.of_bodySF (plainFor_of_name pn_2) hisR ?_
  intro p e s m args below meth c s₁ Bd hml0 hP hK
  obtain ⟨rfl, hZ, hh⟩ := hP
  have W := fun (i : Nat) {d : Jvm.Cond} (h : tables_1[i]? = some d) => hw d (List.mem_of_getElem? h)
  have hx := Bd.exec
  have hby := Bd.bytes
  have hml : c.maxLocals = 2 := hml0
  have hown : s.vm.findClass "java/util/ArrayList" = some m.cls := findClass_of_methodNamed Bd.named
  have hnm := (name_of_methodNamed Bd.named Bd.method).1
  have X0 : Stand p l e ({ frames := 4, cells := 1, slots := 10, locals := 56 } : Room) s m #[(.ref a), (.ref x1)] below meth c s₁ [] 0 0 := Stand.of_body Bd
  have e0 : s₁.heap = h0 := by rw [← hh, Bd.state]; rfl
  have N0 := Fr.nil n0
  have pre0 : ∀ t, Steps p.tables e below (s₁.setTop (mkF m 0 #[.val (.ref a), .val (.ref x1)] [])) t → Steps p.tables e below (s₁.setTop (entryFrame m #[(.ref a), (.ref x1)] 2)) t := fun t kk_ => castTop (ef_18 m a x1) kk_
  have K0 := Keep.refl h0 [a]
  obtain ⟨T1, X1, e1, st1⟩ := getF X0 hx hZ hown (host := "") (Or.inl (W 121 rfl)) (Via.of (W 122 rfl)) e0 FmodCount (g := (mkF m 2 #[rv a, rv x1] [.ref a, .ref a])) rfl rfl (hb hby d16_2)
  obtain ⟨T2, h2, X2, e2, W2, st2⟩ := putF X1 hx hZ hown (host := "") (Or.inl (W 121 rfl)) (Via.of (W 122 rfl)) e1 FmodCount Ea (Or.inl (W 46 rfl)) (W 25 rfl) (ty := .int) (by decide) rfl rfl (g := (mkF m 7 #[rv a, rv x1] [.int (mc + (1 : Int32)), .ref a])) rfl rfl (hb hby d16_7)
  have Fz2 := FmodCount.same W2
  have Ea := Ea.wr W2
  have Ex := Ex.wr W2
  have FelementData := FelementData.other W2 (Or.inr (slot_ne (Or.inl (W 49 rfl)) (Or.inl (W 46 rfl)) (by decide) (t := (.array (.object "java/lang/Object"))) (t' := .int) (by decide) (by decide)))
  have Fsize := Fsize.other W2 (Or.inr (slot_ne (Or.inl (W 85 rfl)) (Or.inl (W 46 rfl)) (by decide) (t := .int) (t' := .int) (by decide) (by decide)))
  have O3 := O.wr W2 ga
  have K4 := K0.wr W2 (Or.inl (List.mem_of_getElem? (i := 0) rfl))
  have N5 := Fr.snoc X2 N0 ga
  obtain ⟨T6, X6, e6, st6⟩ := getF X2 hx hZ hown (host := "") (Or.inl (W 48 rfl)) Via.refl e2 FelementData (g := (mkF m 13 #[rv a, rv x1] [.ref a, .ref x1, .ref a])) rfl rfl (hb hby d16_13)
  obtain ⟨T7, X7, e7, st7⟩ := getF X6 hx hZ hown (host := "") (Or.inl (W 84 rfl)) Via.refl e6 Fsize (g := (mkF m 17 #[rv a, rv x1] [.ref a, .ref w_DEF, .ref x1, .ref a])) rfl rfl (hb hby d16_17)
  obtain ⟨cq8, q8, q8'⟩ := Ea.cell
  obtain ⟨_, _, ⟨T8, L8, k8, n8⟩, -, X8, ⟨Lc8, hQ8, l8, y8, z8⟩, st8⟩ := X7.privateBack hx (y := y_17) hown (mvT hZ (W 123 rfl)) (mvT hZ (W 124 rfl)) (mvT hZ (W 126 rfl)) (Cond.privateMethod_at (mvP hZ (W 125 rfl) (args := #[]))) (mvT hZ (W 127 rfl)) (by decide) (backOf (W := 0) (addh0D l Z a0 hw [] a x1 (.int (mc + (1 : Int32))) w_DEF kdef h2 n0 O3 Ea Ex FelementData Fsize Fz2 ga S_w_DEF V_w_DEF) hZ (W 127 rfl) (W 26 rfl) (by decide) (by decide)) (g := (mkF m 20 #[rv a, rv x1] [.int 0, .ref w_DEF, .ref x1, .ref a])) rfl (by rw [hml]; rfl) (Steps.refl _) (a := a) (by rw [e7]; exact q8) q8' (argsL := [.ref x1, .ref w_DEF, .int 0]) (rest := []) (lenOf pd_5 rfl) rfl (by show 2 * 0 + _ ≤ _; exact Nat.le_of_eq rfl) (hb hby d16_20) (fun _ _ => ⟨rfl, e7, (by decide : 0 + 1 ≤ _), (by decide : 0 + 10 ≤ _)⟩)
  dsimp only [Pt.U, Pt.locs, Pt.cells, Pt.slots] at X8 l8 y8 z8 st8 hQ8
  subst l8 y8 z8
  obtain ⟨h8, e8⟩ : ∃ z, T8.heap = z := ⟨_, rfl⟩
  rw [e8] at hQ8
  obtain ⟨b8b, b8kb, rfl, N8q, p8_0, p8_1, p8_2, p8_3, p8_4, p8_5, p8_6, p8_7⟩ := hQ8
  have N8 := Fr.app N5 N8q
  have sz_b8b : h0.size ≤ b8b := Nat.le_trans K4.1 p8_1
  have K10 := K4.trans p8_0 (allS (Or.inl (List.mem_of_getElem? (i := 0) rfl)) all0)
  obtain ⟨fs, hr, hrun, hended, hW, hsame⟩ := X8.leave (v := some (.int (1 : Int32))) (fun h => by rw [Bd.returns] at h; cases h)
  refine ⟨_, _, pre0 _ ?_, hrun, hended, _, _, rfl, ?_, ⟨_, rfl⟩, hW, hsame.mono (by decide) (by decide)⟩
  · show Sq p e below m s₁ 0 #[rv a, rv x1] [] _
    refine XS.aloadN X0.here hx rfl (hb hby d16_0) rfl rfl ?_
    refine XS.dup X0.here hx rfl (hb hby d16_1) rfl rfl ?_
    show Sq p e below m s₁ 2 #[rv a, rv x1] [.ref a, .ref a] _
    refine st1 _ ?_
    show Sq p e below m T1 5 #[rv a, rv x1] [.int mc, .ref a] _
    refine XS.iconst X1.here hx rfl (hb hby d16_5) ?_
    refine XS.iadd X1.here hx rfl (hb hby d16_6) rfl ?_
    show Sq p e below m T1 7 #[rv a, rv x1] [.int (mc + (1 : Int32)), .ref a] _
    refine st2 _ ?_
    show Sq p e below m T2 10 #[rv a, rv x1] [] _
    refine XS.aloadN X2.here hx rfl (hb hby d16_10) rfl rfl ?_
    refine XS.aloadN X2.here hx rfl (hb hby d16_11) rfl rfl ?_
    show Sq p e below m T2 12 #[rv a, rv x1] [.ref x1, .ref a] _
    refine XS.aloadN X2.here hx rfl (hb hby d16_12) rfl rfl ?_
    show Sq p e below m T2 13 #[rv a, rv x1] [.ref a, .ref x1, .ref a] _
    refine st6 _ ?_
    show Sq p e below m T6 16 #[rv a, rv x1] [.ref w_DEF, .ref x1, .ref a] _
    refine XS.aloadN X6.here hx rfl (hb hby d16_16) rfl rfl ?_
    show Sq p e below m T6 17 #[rv a, rv x1] [.ref a, .ref w_DEF, .ref x1, .ref a] _
    refine st7 _ ?_
    show Sq p e below m T7 20 #[rv a, rv x1] [.int 0, .ref w_DEF, .ref x1, .ref a] _
    refine st8.trans ?_
    show Sq p e below m T8 23 #[rv a, rv x1] [] _
    refine XS.iconst X8.here hx rfl (hb hby d16_23) ?_
    show Sq p e below m T8 24 #[rv a, rv x1] [.int 1] _
    exact retN X8 hx (t := .boolean) Bd.returns (by simp) (hb hby d16_24) hr
  · show Q_add0D Z a x1 mc w_DEF kdef h0 n0 _ T8.heap _
    rw [e8]
    exact ⟨b8b, b8kb, rfl, N8, K10, sz_b8b, p8_2, p8_3, p8_4, p8_5, p8_6, p8_7⟩
def Q_addhg (Z : State) (a : Addr) (x1 : Addr) (b : Addr) (kb : ClassId) (mc : Value) (k : Int32) (k' : Int32) (vs : List Value) (vs' : List Value) (h0 : Heap) (n0 : Nat) (v : Option Value) (h : Heap) (L : List Loc) : Prop := v = none ∧ Fr n0 L ∧ Keep h0 h [a, b] ∧ Fld Z h a "java/util/ArrayList" "elementData" "[Ljava/lang/Object;" (.ref b) ∧ Fld Z h a "java/util/ArrayList" "size" "I" (.int k') ∧ Fld Z h a "java/util/AbstractList" "modCount" "I" mc ∧ Arv Z h b kb (.object "java/lang/Object") (10 : Int32) vs' .null
theorem ef_19 (m : MethodId) (x0 : Addr) (x1 : Addr) (x2 : Addr) (x3 : Int32) : entryFrame m #[(.ref x0), (.ref x1), (.ref x2), (.int x3)] 4 = mkF m 0 #[.val (.ref x0), .val (.ref x1), .val (.ref x2), .val (.int x3)] [] := by first | (simp [entryFrame, mkF, argsToLocals, Value.category]; done) | rfl
set_option maxRecDepth 65536 in
set_option maxHeartbeats 40000000 in
theorem addhg (l : Launch) (Z : State) (a0 : Array Value) (hw : ∀ d ∈ tables_1, d.before a0 Z = true) (ws : List Jvm.Cond) (a : Addr) (x1 : Addr) (b : Addr) (kb : ClassId) (mc : Value) (k : Int32) (k' : Int32) (vs : List Value) (vs' : List Value) (h0 : Heap) (n0 : Nat) (O : Old Z n0 h0) (Ea : Exa Z h0 a "java/util/ArrayList") (Ex : Exa Z Z.heap x1 "java/time/Duration") (FelementData : Fld Z h0 a "java/util/ArrayList" "elementData" "[Ljava/lang/Object;" (.ref b)) (Fsize : Fld Z h0 a "java/util/ArrayList" "size" "I" (.int k)) (FmodCount : Fld Z h0 a "java/util/AbstractList" "modCount" "I" mc) (ga : n0 ≤ a) (gb : n0 ≤ b) (nab : a ≠ b) (Vb : Arv Z h0 b kb (.object "java/lang/Object") (10 : Int32) vs .null) (Ov : Ovr Z kb "java/lang/Object") (hk : ¬ k < 0 ∧ k < (10 : Int32)) (hk10 : ¬ (k = (10 : Int32))) (hk' : (k + (1 : Int32)) = k') (hset : vs.set k.toNatClampNeg (.ref x1) = vs') (hlen : k.toNatClampNeg < vs.length) :
    Ctr l Z y_17 jdk_38_method_24_code 4 none ws ({ frames := 0, cells := 0, slots := 0, locals := 0 } : Room) #[(.ref a), (.ref x1), (.ref b), (.int k)] h0 (Q_addhg Z a x1 b kb mc k k' vs vs' h0 n0) := by
  refine MetFree.of_bodySF (plainFor_of_name pn_2) hisR ?_
  intro p e s m args below meth c s₁ Bd hml0 hP hK
  obtain ⟨rfl, hZ, hh⟩ := hP
  have W := fun (i : Nat) {d : Jvm.Cond} (h : tables_1[i]? = some d) => hw d (List.mem_of_getElem? h)
  have hx := Bd.exec
  have hby := Bd.bytes
  have hml : c.maxLocals = 4 := hml0
  have hown : s.vm.findClass "java/util/ArrayList" = some m.cls := findClass_of_methodNamed Bd.named
  have hnm := (name_of_methodNamed Bd.named Bd.method).1
  have X0 : Stand p l e ({ frames := 0, cells := 0, slots := 0, locals := 0 } : Room) s m #[(.ref a), (.ref x1), (.ref b), (.int k)] below meth c s₁ [] 0 0 := Stand.of_body Bd
  have e0 : s₁.heap = h0 := by rw [← hh, Bd.state]; rfl
  have N0 := Fr.nil n0
  have pre0 : ∀ t, Steps p.tables e below (s₁.setTop (mkF m 0 #[.val (.ref a), .val (.ref x1), .val (.ref b), .val (.int k)] [])) t → Steps p.tables e below (s₁.setTop (entryFrame m #[(.ref a), (.ref x1), (.ref b), (.int k)] 4)) t := fun t kk_ => castTop (ef_19 m a x1 b k) kk_
  have K0 := Keep.refl h0 [a, b]
  obtain ⟨cl1, Ar1, -, S1, Ng1, -, -⟩ := id Vb
  have st1 := X0.arraylength hx (by rw [e0]; exact Ar1.1) (State.isArrayOf_alike hZ.alike Ar1.2.1) (g := (mkF m 2 #[rv a, rv x1, rv b, iv k] [.ref b, .int k])) rfl rfl (hb hby d17_2)
  rw [len_of S1 Ng1] at st1
  obtain ⟨cl2, Ar2, q2, S2, Ng2, Hh2, Gg2⟩ := id Vb
  obtain ⟨T2, h2, X2, e2, W2, st2⟩ := stR X0 hx hZ e0 Ar2 (j := k) (inb_of S2 (hk : ¬ k < 0 ∧ k < (10 : Int32))) rfl (Sto.ofV Ar2 q2 Ov (Ins.of_exa (Ex.ext O.2) (W 144 rfl))) (g := (mkF m 14 #[rv a, rv x1, rv b, iv k] [.ref x1, .int k, .ref b])) rfl rfl (hb hby d17_14)
  have V2 : Arv Z h2 b kb (.object "java/lang/Object") (10 : Int32) (vs.set k.toNatClampNeg (.ref x1)) .null := Arv.set Ar2 q2 S2 Ng2 Hh2 Gg2 rfl W2 k.toNatClampNeg rfl hlen
  have Ea := Ea.wr W2
  have FelementData := FelementData.other W2 (Or.inl nab)
  have Fsize := Fsize.other W2 (Or.inl nab)
  have FmodCount := FmodCount.other W2 (Or.inl nab)
  have K4 := K0.wr W2 (Or.inl (List.mem_of_getElem? (i := 1) rfl))
  have N5 := Fr.snoc X2 N0 gb
  obtain ⟨T6, h6, X6, e6, W6, st6⟩ := putF X2 hx hZ hown (host := "") (Or.inl (W 84 rfl)) Via.refl e2 Fsize Ea (Or.inl (W 85 rfl)) (W 25 rfl) (ty := .int) (by decide) rfl rfl (g := (mkF m 19 #[rv a, rv x1, rv b, iv k] [.int k', .ref a])) rfl rfl (hb hby d17_19)
  have Fz6 := Fsize.same W6
  have FelementData := FelementData.other W6 (Or.inr (slot_ne (Or.inl (W 49 rfl)) (Or.inl (W 85 rfl)) (by decide) (t := (.array (.object "java/lang/Object"))) (t' := .int) (by decide) (by decide)))
  have FmodCount := FmodCount.other W6 (Or.inr (slot_ne (Or.inl (W 46 rfl)) (Or.inl (W 85 rfl)) (by decide) (t := .int) (t' := .int) (by decide) (by decide)))
  have V2 := V2.other W6 (Ne.symm nab)
  have K8 := K4.wr W6 (Or.inl (List.mem_of_getElem? (i := 0) rfl))
  have N9 := Fr.snoc X6 N5 ga
  obtain ⟨fs, hr, hrun, hended, hW, hsame⟩ := X6.leave (v := none) (fun _ => rfl)
  refine ⟨_, _, pre0 _ ?_, hrun, hended, _, _, rfl, ?_, ⟨_, rfl⟩, hW, hsame.mono (by decide) (by decide)⟩
  · show Sq p e below m s₁ 0 #[rv a, rv x1, rv b, iv k] [] _
    refine XS.iloadN X0.here hx rfl (hb hby d17_0) rfl ?_
    refine XS.aloadN X0.here hx rfl (hb hby d17_1) rfl rfl ?_
    show Sq p e below m s₁ 2 #[rv a, rv x1, rv b, iv k] [.ref b, .int k] _
    refine st1 _ ?_
    show Sq p e below m s₁ 3 #[rv a, rv x1, rv b, iv k] [.int 10, .int k] _
    refine XS.icmpYes X0.here hx rfl (pc0 := 3) (pc' := 11) rfl (hb hby d17_3) rfl (feq (hk10 : ¬ (k = (10 : Int32)))).2 (by decide) (by decide) ?_
    refine XS.aloadN X0.here hx rfl (hb hby d17_11) rfl rfl ?_
    show Sq p e below m s₁ 12 #[rv a, rv x1, rv b, iv k] [.ref b] _
    refine XS.iloadN X0.here hx rfl (hb hby d17_12) rfl ?_
    refine XS.aloadN X0.here hx rfl (hb hby d17_13) rfl rfl ?_
    show Sq p e below m s₁ 14 #[rv a, rv x1, rv b, iv k] [.ref x1, .int k, .ref b] _
    refine st2 _ ?_
    show Sq p e below m T2 15 #[rv a, rv x1, rv b, iv k] [] _
    refine XS.aloadN X2.here hx rfl (hb hby d17_15) rfl rfl ?_
    refine XS.iloadN X2.here hx rfl (hb hby d17_16) rfl ?_
    show Sq p e below m T2 17 #[rv a, rv x1, rv b, iv k] [.int k, .ref a] _
    refine XS.iconst X2.here hx rfl (hb hby d17_17) ?_
    refine XS.iadd X2.here hx rfl (hb hby d17_18) rfl ?_
    show Sq p e below m T2 19 #[rv a, rv x1, rv b, iv k] [.int (k + (1 : Int32)), .ref a] _
    rw [hk']
    show Sq p e below m T2 19 #[rv a, rv x1, rv b, iv k] [.int k', .ref a] _
    refine st6 _ ?_
    show Sq p e below m T6 22 #[rv a, rv x1, rv b, iv k] [] _
    exact X6.returnOut hx Bd.returns (hb hby d17_22) hr
  · show Q_addhg Z a x1 b kb mc k k' vs vs' h0 n0 _ T6.heap _
    rw [e6]
    exact ⟨rfl, N9, K8, FelementData, Fz6, FmodCount, (hset ▸ V2)⟩
def Q_addg (Z : State) (a : Addr) (x1 : Addr) (b : Addr) (kb : ClassId) (mc : Int32) (k : Int32) (k' : Int32) (vs : List Value) (vs' : List Value) (h0 : Heap) (n0 : Nat) (v : Option Value) (h : Heap) (L : List Loc) : Prop := v = some (.int (1 : Int32)) ∧ Fr n0 L ∧ Keep h0 h [a, b] ∧ Fld Z h a "java/util/ArrayList" "elementData" "[Ljava/lang/Object;" (.ref b) ∧ Fld Z h a "java/util/ArrayList" "size" "I" (.int k') ∧ Fld Z h a "java/util/AbstractList" "modCount" "I" (.int (mc + (1 : Int32))) ∧ Arv Z h b kb (.object "java/lang/Object") (10 : Int32) vs' .null
set_option maxRecDepth 65536 in
set_option maxHeartbeats 40000000 in
theorem addg (l : Launch) (Z : State) (a0 : Array Value) (hw : ∀ d ∈ tables_1, d.before a0 Z = true) (ws : List Jvm.Cond) (a : Addr) (x1 : Addr) (b : Addr) (kb : ClassId) (mc : Int32) (k : Int32) (k' : Int32) (vs : List Value) (vs' : List Value) (h0 : Heap) (n0 : Nat) (O : Old Z n0 h0) (Ea : Exa Z h0 a "java/util/ArrayList") (Ex : Exa Z Z.heap x1 "java/time/Duration") (FelementData : Fld Z h0 a "java/util/ArrayList" "elementData" "[Ljava/lang/Object;" (.ref b)) (Fsize : Fld Z h0 a "java/util/ArrayList" "size" "I" (.int k)) (FmodCount : Fld Z h0 a "java/util/AbstractList" "modCount" "I" (.int mc)) (ga : n0 ≤ a) (gb : n0 ≤ b) (nab : a ≠ b) (Vb : Arv Z h0 b kb (.object "java/lang/Object") (10 : Int32) vs .null) (Ov : Ovr Z kb "java/lang/Object") (hk : ¬ k < 0 ∧ k < (10 : Int32)) (hk10 : ¬ (k = (10 : Int32))) (hk' : (k + (1 : Int32)) = k') (hset : vs.set k.toNatClampNeg (.ref x1) = vs') (hlen : k.toNatClampNeg < vs.length) :
    Ctr l Z y_18 jdk_38_method_25_code 2 (some .boolean) ws ({ frames := 1, cells := 0, slots := 0, locals := 15 } : Room) #[(.ref a), (.ref x1)] h0 (Q_addg Z a x1 b kb mc k k' vs vs' h0 n0) := by
  refine MetFree.of_bodySF (plainFor_of_name pn_2) hisR ?_
  intro p e s m args below meth c s₁ Bd hml0 hP hK
  obtain ⟨rfl, hZ, hh⟩ := hP
  have W := fun (i : Nat) {d : Jvm.Cond} (h : tables_1[i]? = some d) => hw d (List.mem_of_getElem? h)
  have hx := Bd.exec
  have hby := Bd.bytes
  have hml : c.maxLocals = 2 := hml0
  have hown : s.vm.findClass "java/util/ArrayList" = some m.cls := findClass_of_methodNamed Bd.named
  have hnm := (name_of_methodNamed Bd.named Bd.method).1
  have X0 : Stand p l e ({ frames := 1, cells := 0, slots := 0, locals := 15 } : Room) s m #[(.ref a), (.ref x1)] below meth c s₁ [] 0 0 := Stand.of_body Bd
  have e0 : s₁.heap = h0 := by rw [← hh, Bd.state]; rfl
  have N0 := Fr.nil n0
  have pre0 : ∀ t, Steps p.tables e below (s₁.setTop (mkF m 0 #[.val (.ref a), .val (.ref x1)] [])) t → Steps p.tables e below (s₁.setTop (entryFrame m #[(.ref a), (.ref x1)] 2)) t := fun t kk_ => castTop (ef_18 m a x1) kk_
  have K0 := Keep.refl h0 [a, b]
  obtain ⟨T1, X1, e1, st1⟩ := getF X0 hx hZ hown (host := "") (Or.inl (W 121 rfl)) (Via.of (W 122 rfl)) e0 FmodCount (g := (mkF m 2 #[rv a, rv x1] [.ref a, .ref a])) rfl rfl (hb hby d16_2)
  obtain ⟨T2, h2, X2, e2, W2, st2⟩ := putF X1 hx hZ hown (host := "") (Or.inl (W 121 rfl)) (Via.of (W 122 rfl)) e1 FmodCount Ea (Or.inl (W 46 rfl)) (W 25 rfl) (ty := .int) (by decide) rfl rfl (g := (mkF m 7 #[rv a, rv x1] [.int (mc + (1 : Int32)), .ref a])) rfl rfl (hb hby d16_7)
  have Fz2 := FmodCount.same W2
  have Ea := Ea.wr W2
  have FelementData := FelementData.other W2 (Or.inr (slot_ne (Or.inl (W 49 rfl)) (Or.inl (W 46 rfl)) (by decide) (t := (.array (.object "java/lang/Object"))) (t' := .int) (by decide) (by decide)))
  have Fsize := Fsize.other W2 (Or.inr (slot_ne (Or.inl (W 85 rfl)) (Or.inl (W 46 rfl)) (by decide) (t := .int) (t' := .int) (by decide) (by decide)))
  have Vb := Vb.other W2 (Ne.symm nab)
  have O3 := O.wr W2 ga
  have K4 := K0.wr W2 (Or.inl (List.mem_of_getElem? (i := 0) rfl))
  have N5 := Fr.snoc X2 N0 ga
  obtain ⟨T6, X6, e6, st6⟩ := getF X2 hx hZ hown (host := "") (Or.inl (W 48 rfl)) Via.refl e2 FelementData (g := (mkF m 13 #[rv a, rv x1] [.ref a, .ref x1, .ref a])) rfl rfl (hb hby d16_13)
  obtain ⟨T7, X7, e7, st7⟩ := getF X6 hx hZ hown (host := "") (Or.inl (W 84 rfl)) Via.refl e6 Fsize (g := (mkF m 17 #[rv a, rv x1] [.ref a, .ref b, .ref x1, .ref a])) rfl rfl (hb hby d16_17)
  obtain ⟨cq8, q8, q8'⟩ := Ea.cell
  obtain ⟨_, _, ⟨T8, L8, k8, n8⟩, -, X8, ⟨Lc8, hQ8, l8, y8, z8⟩, st8⟩ := X7.privateBack hx (y := y_17) hown (mvT hZ (W 123 rfl)) (mvT hZ (W 124 rfl)) (mvT hZ (W 126 rfl)) (Cond.privateMethod_at (mvP hZ (W 125 rfl) (args := #[]))) (mvT hZ (W 127 rfl)) (by decide) (backOf (W := 0) (addhg l Z a0 hw [] a x1 b kb (.int (mc + (1 : Int32))) k k' vs vs' h2 n0 O3 Ea Ex FelementData Fsize Fz2 ga gb nab Vb Ov hk hk10 hk' hset hlen) hZ (W 127 rfl) (W 26 rfl) (by decide) (by decide)) (g := (mkF m 20 #[rv a, rv x1] [.int k, .ref b, .ref x1, .ref a])) rfl (by rw [hml]; rfl) (Steps.refl _) (a := a) (by rw [e7]; exact q8) q8' (argsL := [.ref x1, .ref b, .int k]) (rest := []) (lenOf pd_5 rfl) rfl (by show 2 * 0 + _ ≤ _; exact Nat.le_of_eq rfl) (hb hby d16_20) (fun _ _ => ⟨rfl, e7, (by decide : 0 + 0 ≤ _), (by decide : 0 + 0 ≤ _)⟩)
  dsimp only [Pt.U, Pt.locs, Pt.cells, Pt.slots] at X8 l8 y8 z8 st8 hQ8
  subst l8 y8 z8
  obtain ⟨h8, e8⟩ : ∃ z, T8.heap = z := ⟨_, rfl⟩
  rw [e8] at hQ8
  obtain ⟨rfl, N8q, p8_0, p8_1, p8_2, p8_3, p8_4⟩ := hQ8
  have N8 := Fr.app N5 N8q
  have K10 := K4.trans p8_0 (allS (Or.inl (List.mem_of_getElem? (i := 0) rfl)) (allS (Or.inl (List.mem_of_getElem? (i := 1) rfl)) all0))
  obtain ⟨fs, hr, hrun, hended, hW, hsame⟩ := X8.leave (v := some (.int (1 : Int32))) (fun h => by rw [Bd.returns] at h; cases h)
  refine ⟨_, _, pre0 _ ?_, hrun, hended, _, _, rfl, ?_, ⟨_, rfl⟩, hW, hsame.mono (by decide) (by decide)⟩
  · show Sq p e below m s₁ 0 #[rv a, rv x1] [] _
    refine XS.aloadN X0.here hx rfl (hb hby d16_0) rfl rfl ?_
    refine XS.dup X0.here hx rfl (hb hby d16_1) rfl rfl ?_
    show Sq p e below m s₁ 2 #[rv a, rv x1] [.ref a, .ref a] _
    refine st1 _ ?_
    show Sq p e below m T1 5 #[rv a, rv x1] [.int mc, .ref a] _
    refine XS.iconst X1.here hx rfl (hb hby d16_5) ?_
    refine XS.iadd X1.here hx rfl (hb hby d16_6) rfl ?_
    show Sq p e below m T1 7 #[rv a, rv x1] [.int (mc + (1 : Int32)), .ref a] _
    refine st2 _ ?_
    show Sq p e below m T2 10 #[rv a, rv x1] [] _
    refine XS.aloadN X2.here hx rfl (hb hby d16_10) rfl rfl ?_
    refine XS.aloadN X2.here hx rfl (hb hby d16_11) rfl rfl ?_
    show Sq p e below m T2 12 #[rv a, rv x1] [.ref x1, .ref a] _
    refine XS.aloadN X2.here hx rfl (hb hby d16_12) rfl rfl ?_
    show Sq p e below m T2 13 #[rv a, rv x1] [.ref a, .ref x1, .ref a] _
    refine st6 _ ?_
    show Sq p e below m T6 16 #[rv a, rv x1] [.ref b, .ref x1, .ref a] _
    refine XS.aloadN X6.here hx rfl (hb hby d16_16) rfl rfl ?_
    show Sq p e below m T6 17 #[rv a, rv x1] [.ref a, .ref b, .ref x1, .ref a] _
    refine st7 _ ?_
    show Sq p e below m T7 20 #[rv a, rv x1] [.int k, .ref b, .ref x1, .ref a] _
    refine st8.trans ?_
    show Sq p e below m T8 23 #[rv a, rv x1] [] _
    refine XS.iconst X8.here hx rfl (hb hby d16_23) ?_
    show Sq p e below m T8 24 #[rv a, rv x1] [.int 1] _
    exact retN X8 hx (t := .boolean) Bd.returns (by simp) (hb hby d16_24) hr
  · show Q_addg Z a x1 b kb mc k k' vs vs' h0 n0 _ T8.heap _
    rw [e8]
    exact ⟨rfl, N8, K10, p8_1, p8_2, p8_3, p8_4⟩
theorem d24_0 : decode jdk_29_method_69_code 0 = .ok (.iload_n 0, 1) := by decide +kernel
theorem d24_1 : decode jdk_29_method_69_code 1 = .ok (.iload_n 1, 1) := by decide +kernel
theorem d24_2 : decode jdk_29_method_69_code 2 = .ok (.if_icmp .gt 7, 3) := by decide +kernel
theorem d24_9 : decode jdk_29_method_69_code 9 = .ok (.iload_n 1, 1) := by decide +kernel
theorem d24_10 : decode jdk_29_method_69_code 10 = .ok (.ireturn, 1) := by decide +kernel
def Q_min10 (Z : State) (k : Int32) (h0 : Heap) (n0 : Nat) (v : Option Value) (h : Heap) (L : List Loc) : Prop := v = some (.int k) ∧ Fr n0 L ∧ h = h0
theorem ef_20 (m : MethodId) (x0 : Int32) (x1 : Int32) : entryFrame m #[(.int x0), (.int x1)] 2 = mkF m 0 #[.val (.int x0), .val (.int x1)] [] := by first | (simp [entryFrame, mkF, argsToLocals, Value.category]; done) | rfl
abbrev y_19 : MethodName := ⟨"java/lang/Math", "min", "(II)I"⟩
set_option maxRecDepth 65536 in
set_option maxHeartbeats 40000000 in
theorem min10 (l : Launch) (Z : State) (a0 : Array Value) (hw : ∀ d ∈ tables_1, d.before a0 Z = true) (ws : List Jvm.Cond) (k : Int32) (h0 : Heap) (n0 : Nat) (O : Old Z n0 h0) (hk : k < (10 : Int32)) :
    Ctr l Z y_19 jdk_29_method_69_code 2 (some .int) ws ({ frames := 0, cells := 0, slots := 0, locals := 0 } : Room) #[(.int (10 : Int32)), (.int k)] h0 (Q_min10 Z k h0 n0) := by
  refine MetFree.of_bodySF (Jvm.Free.JP.mathPlain rfl (by decide +kernel)) hisR ?_
  intro p e s m args below meth c s₁ Bd hml0 hP hK
  obtain ⟨rfl, hZ, hh⟩ := hP
  have W := fun (i : Nat) {d : Jvm.Cond} (h : tables_1[i]? = some d) => hw d (List.mem_of_getElem? h)
  have hx := Bd.exec
  have hby := Bd.bytes
  have hml : c.maxLocals = 2 := hml0
  have hown : s.vm.findClass "java/lang/Math" = some m.cls := findClass_of_methodNamed Bd.named
  have hnm := (name_of_methodNamed Bd.named Bd.method).1
  have X0 : Stand p l e ({ frames := 0, cells := 0, slots := 0, locals := 0 } : Room) s m #[(.int (10 : Int32)), (.int k)] below meth c s₁ [] 0 0 := Stand.of_body Bd
  have e0 : s₁.heap = h0 := by rw [← hh, Bd.state]; rfl
  have N0 := Fr.nil n0
  have pre0 : ∀ t, Steps p.tables e below (s₁.setTop (mkF m 0 #[.val (.int (10 : Int32)), .val (.int k)] [])) t → Steps p.tables e below (s₁.setTop (entryFrame m #[(.int (10 : Int32)), (.int k)] 2)) t := fun t kk_ => castTop (ef_20 m (10 : Int32) k) kk_
  obtain ⟨fs, hr, hrun, hended, hW, hsame⟩ := X0.leave (v := some (.int k)) (fun h => by rw [Bd.returns] at h; cases h)
  refine ⟨_, _, pre0 _ ?_, hrun, hended, _, _, rfl, ?_, ⟨_, rfl⟩, hW, hsame.mono (by decide) (by decide)⟩
  · show Sq p e below m s₁ 0 #[iv 10, iv k] [] _
    refine XS.iloadN X0.here hx rfl (hb hby d24_0) rfl ?_
    refine XS.iloadN X0.here hx rfl (hb hby d24_1) rfl ?_
    show Sq p e below m s₁ 2 #[iv 10, iv k] [.int k, .int 10] _
    refine XS.icmpYes X0.here hx rfl (pc0 := 2) (pc' := 9) rfl (hb hby d24_2) rfl (tlt (hk : k < (10 : Int32))).2.2.1 (by decide) (by decide) ?_
    refine XS.iloadN X0.here hx rfl (hb hby d24_9) rfl ?_
    show Sq p e below m s₁ 10 #[iv 10, iv k] [.int k] _
    exact retI X0 hx Bd.returns (hb hby d24_10) hr
  · show Q_min10 Z k h0 n0 _ s₁.heap _
    rw [e0]
    exact ⟨rfl, N0, rfl⟩
theorem d23_0 : decode jdk_65_method_120_code 0 = .ok (.aload_n 2, 1) := by decide +kernel
theorem d23_1 : decode jdk_65_method_120_code 1 = .ok (.ldc 110, 2) := by decide +kernel
theorem d23_3 : decode jdk_65_method_120_code 3 = .ok (.if_acmp .ne 10, 3) := by decide +kernel
theorem d23_6 : decode jdk_65_method_120_code 6 = .ok (.iload_n 1, 1) := by decide +kernel
theorem d23_7 : decode jdk_65_method_120_code 7 = .ok (.anewarray 2, 3) := by decide +kernel
theorem d23_10 : decode jdk_65_method_120_code 10 = .ok (.goto 14, 3) := by decide +kernel
theorem d23_24 : decode jdk_65_method_120_code 24 = .ok (.astore_n 3, 1) := by decide +kernel
theorem d23_25 : decode jdk_65_method_120_code 25 = .ok (.aload_n 0, 1) := by decide +kernel
theorem d23_26 : decode jdk_65_method_120_code 26 = .ok (.iconst 0, 1) := by decide +kernel
theorem d23_27 : decode jdk_65_method_120_code 27 = .ok (.aload_n 3, 1) := by decide +kernel
theorem d23_28 : decode jdk_65_method_120_code 28 = .ok (.iconst 0, 1) := by decide +kernel
theorem d23_29 : decode jdk_65_method_120_code 29 = .ok (.aload_n 0, 1) := by decide +kernel
theorem d23_30 : decode jdk_65_method_120_code 30 = .ok (.arraylength, 1) := by decide +kernel
theorem d23_31 : decode jdk_65_method_120_code 31 = .ok (.iload_n 1, 1) := by decide +kernel
theorem d23_32 : decode jdk_65_method_120_code 32 = .ok (.invokestatic 304, 3) := by decide +kernel
theorem d23_35 : decode jdk_65_method_120_code 35 = .ok (.invokestatic 150, 3) := by decide +kernel
theorem d23_38 : decode jdk_65_method_120_code 38 = .ok (.aload_n 3, 1) := by decide +kernel
theorem d23_39 : decode jdk_65_method_120_code 39 = .ok (.areturn, 1) := by decide +kernel
def Q_cpy3 (Z : State) (b : Addr) (kb : ClassId) (w_MIR : Addr) (k : Int32) (vs : List Value) (us : List Value) (h0 : Heap) (n0 : Nat) (v : Option Value) (h : Heap) (L : List Loc) : Prop := ∃ r : Addr, ∃ kr : ClassId, v = some (.ref r) ∧ Fr n0 L ∧ Keep h0 h [] ∧ h0.size ≤ r ∧ Arv Z h r kr (.object "java/lang/Object") k us .null ∧ Exa Z h r "[Ljava/lang/Object;"
theorem ef_21 (m : MethodId) (x0 : Addr) (x1 : Int32) (x2 : Addr) : entryFrame m #[(.ref x0), (.int x1), (.ref x2)] 4 = mkF m 0 #[.val (.ref x0), .val (.int x1), .val (.ref x2), .unset] [] := by first | (simp [entryFrame, mkF, argsToLocals, Value.category]; done) | rfl
theorem pn_10 : plainName "java/util/Arrays" = true := by first | (simp [plainName, overriddenIn]; done) | decide +kernel
abbrev y_20 : MethodName := ⟨"java/util/Arrays", "copyOf", "([Ljava/lang/Object;ILjava/lang/Class;)[Ljava/lang/Object;"⟩
set_option maxRecDepth 65536 in
set_option maxHeartbeats 40000000 in
theorem cpy3 (l : Launch) (Z : State) (a0 : Array Value) (hw : ∀ d ∈ tables_1, d.before a0 Z = true) (ws : List Jvm.Cond) (b : Addr) (kb : ClassId) (w_MIR : Addr) (k : Int32) (vs : List Value) (us : List Value) (h0 : Heap) (n0 : Nat) (O : Old Z n0 h0) (Vb : Arv Z h0 b kb (.object "java/lang/Object") (10 : Int32) vs .null) (Mo : Mirr Z "[Ljava/lang/Object;" w_MIR) (hk0 : ¬ k < 0) (hk : k < (10 : Int32)) (hk7 : k.toNatClampNeg ≤ 7) (hus : us = (List.range k.toNatClampNeg).map fun i => vs.getD ((0 : Int32).toNatClampNeg + i) .null) (hel : ∀ v ∈ us, ∃ y, v = .ref y ∧ Exa Z Z.heap y "java/time/Duration") :
    Ctr l Z y_20 jdk_65_method_120_code 4 (some (.array (.object "java/lang/Object"))) ws ({ frames := 1, cells := 1, slots := 7, locals := 18 } : Room) #[(.ref b), (.int k), (.ref w_MIR)] h0 (Q_cpy3 Z b kb w_MIR k vs us h0 n0) := by
  refine MetFree.of_bodySF (plainFor_of_name pn_10) hisR ?_
  intro p e s m args below meth c s₁ Bd hml0 hP hK
  obtain ⟨rfl, hZ, hh⟩ := hP
  have W := fun (i : Nat) {d : Jvm.Cond} (h : tables_1[i]? = some d) => hw d (List.mem_of_getElem? h)
  have hx := Bd.exec
  have hby := Bd.bytes
  have hml : c.maxLocals = 4 := hml0
  have hown : s.vm.findClass "java/util/Arrays" = some m.cls := findClass_of_methodNamed Bd.named
  have hnm := (name_of_methodNamed Bd.named Bd.method).1
  have X0 : Stand p l e ({ frames := 1, cells := 1, slots := 7, locals := 18 } : Room) s m #[(.ref b), (.int k), (.ref w_MIR)] below meth c s₁ [] 0 0 := Stand.of_body Bd
  have e0 : s₁.heap = h0 := by rw [← hh, Bd.state]; rfl
  have N0 := Fr.nil n0
  have pre0 : ∀ t, Steps p.tables e below (s₁.setTop (mkF m 0 #[.val (.ref b), .val (.int k), .val (.ref w_MIR), .unset] [])) t → Steps p.tables e below (s₁.setTop (entryFrame m #[(.ref b), (.int k), (.ref w_MIR)] 4)) t := fun t kk_ => castTop (ef_21 m b k w_MIR) kk_
  have K0 := Keep.refl h0 []
  obtain ⟨T1, X1, e1, st1⟩ := own_ldcM X0 hx hZ hown (W 166 rfl) e0 Mo (g := (mkF m 1 #[rv b, iv k, rv w_MIR, .unset] [.ref w_MIR])) rfl (hb hby d23_1)
  obtain ⟨T2, h2, k2, X2, e2, E2, A2, A2x, Ov2, st2⟩ := newRE X1 hx hZ hown (W 167 rfl) (W 143 rfl) e1 (g := (mkF m 7 #[rv b, iv k, rv w_MIR, .unset] [.int k])) rfl (hb hby d23_7) rfl (hk0 : ¬ k < 0) (cap := 7) hk7 (by decide) (by decide) (by decide) (ad := "[Ljava/lang/Object;") (by decide)
  obtain ⟨b2, g2⟩ : ∃ z, z = h0.size := ⟨_, rfl⟩
  rw [← g2] at A2 A2x st2
  have g_b2 : n0 ≤ b2 := Nat.le_trans (own_sz O) (Nat.le_of_eq g2.symm)
  have sz_b2 : h0.size ≤ b2 := Nat.le_trans K0.1 (Nat.le_of_eq g2.symm)
  have Vb := Vb.ext E2
  have O3 := O.ext E2
  have K4 := K0.ext E2
  have V2 : Arv Z h2 b2 k2 (.object "java/lang/Object") k (List.replicate 7 .null) .null := (Arv.new A2 (hk0 : ¬ k < 0)).pad (pad_rep [] .null 7)
  obtain ⟨cl5, Ar5, -, S5, Ng5, -, -⟩ := id Vb
  have st5 := X2.arraylength hx (by rw [e2]; exact Ar5.1) (State.isArrayOf_alike hZ.alike Ar5.2.1) (g := (mkF m 30 #[rv b, iv k, rv w_MIR, rv b2] [.ref b, .int 0, .ref b2, .int 0, .ref b])) rfl rfl (hb hby d23_30)
  rw [len_of S5 Ng5] at st5
  obtain ⟨_, _, ⟨T6, L6, k6, n6⟩, -, X6, ⟨Lc6, hQ6, l6, y6, z6⟩, st6⟩ := Jvm.LawKit.callS X2 hx (y := y_19) hown (mvT hZ (W 168 rfl)) (mvT hZ (W 169 rfl)) (mvT hZ (W 140 rfl)) (mvT hZ (W 170 rfl)) (by decide) (backOf (W := 4) (min10 l Z a0 hw [] k h2 n0 O3 hk) hZ (W 170 rfl) (W 140 rfl) (by decide) (by decide)) (g := (mkF m 32 #[rv b, iv k, rv w_MIR, rv b2] [.int k, .int 10, .int 0, .ref b2, .int 0, .ref b])) rfl (by rw [hml]; rfl) (argsL := [.int 10, .int k]) (rest := [.int 0, .ref b2, .int 0, .ref b]) (lenOf pd_1 rfl) rfl (by show 2 * 0 + _ ≤ _; exact Nat.le_of_eq rfl) (hb hby d23_32) (fun _ _ => ⟨rfl, e2, (by decide : 1 + 0 ≤ _), (by decide : 7 + 0 ≤ _)⟩)
  dsimp only [Pt.U, Pt.locs, Pt.cells, Pt.slots] at X6 l6 y6 z6 st6 hQ6
  subst l6 y6 z6
  obtain ⟨h6, e6⟩ : ∃ z, T6.heap = z := ⟨_, rfl⟩
  rw [e6] at hQ6
  obtain ⟨rfl, N6q, p6_0⟩ := hQ6
  have N6 := Fr.app N0 N6q
  rw [p6_0] at e6
  obtain ⟨clq7, Arq7, qq7, -⟩ := id V2
  have sto7 := own_stol Arq7 qq7 Ov2 O3.2 (W 144 rfl) us hel
  obtain ⟨T8, h8, L8, X8, e8, N8, K8q, V8, st8⟩ := cpA X6 hx hZ hown (W 171 rfl) (W 174 rfl) (W 172 rfl) (W 173 rfl) e6 (us := us) Vb V2 (Or.inr ⟨rfl, rfl, sto7⟩) (by decide) (by decide) hk0 (own_c4 hk) (Nat.le_of_eq (Nat.zero_add _)) hus (own_c7 hk7) N6 g_b2 (g := (mkF m 35 #[rv b, iv k, rv w_MIR, rv b2] [.int k, .int 0, .ref b2, .int 0, .ref b])) rfl (by rw [hml]; rfl) rfl (hb hby d23_35) (by decide) (W := 0) (by show 2 * 0 + _ ≤ _; exact Nat.le_of_eq rfl) (by decide)
  have V8 : Arv Z h8 b2 k2 (.object "java/lang/Object") k us .null := own_cut V8
  have A2x := A2x.keep K8q
  have K10 := K4.trans K8q (allS (Or.inr sz_b2) all0)
  obtain ⟨fs, hr, hrun, hended, hW, hsame⟩ := X8.leave (v := some (.ref b2)) (fun h => by rw [Bd.returns] at h; cases h)
  refine ⟨_, _, pre0 _ ?_, hrun, hended, _, _, rfl, ?_, ⟨_, rfl⟩, hW, hsame.mono (by decide) (by decide)⟩
  · show Sq p e below m s₁ 0 #[rv b, iv k, rv w_MIR, .unset] [] _
    refine XS.aloadN X0.here hx rfl (hb hby d23_0) rfl rfl ?_
    show Sq p e below m s₁ 1 #[rv b, iv k, rv w_MIR, .unset] [.ref w_MIR] _
    refine st1 _ ?_
    show Sq p e below m T1 3 #[rv b, iv k, rv w_MIR, .unset] [.ref w_MIR, .ref w_MIR] _
    refine Jvm.RoadKit.acmp (g := (mkF m 3 #[rv b, iv k, rv w_MIR, .unset] [.ref w_MIR, .ref w_MIR])) X1 hx rfl rfl rfl (pc0 := 3) (pc' := 6) (same := true) rfl (hb hby d23_3) rfl (decide_eq_true rfl) (by decide) (by decide) ?_
    show Sq p e below m T1 6 #[rv b, iv k, rv w_MIR, .unset] [] _
    refine XS.iloadN X1.here hx rfl (hb hby d23_6) rfl ?_
    show Sq p e below m T1 7 #[rv b, iv k, rv w_MIR, .unset] [.int k] _
    refine st2 _ ?_
    show Sq p e below m T2 10 #[rv b, iv k, rv w_MIR, .unset] [.ref b2] _
    refine XS.goto X2.here hx rfl (pc0 := 10) (pc' := 24) rfl (hb hby d23_10) (by decide) (by decide) ?_
    refine XS.astoreN X2.here hx rfl (hb hby d23_24) rfl rfl rfl ?_
    show Sq p e below m T2 25 #[rv b, iv k, rv w_MIR, rv b2] [] _
    refine XS.aloadN X2.here hx rfl (hb hby d23_25) rfl rfl ?_
    refine XS.iconst X2.here hx rfl (hb hby d23_26) ?_
    show Sq p e below m T2 27 #[rv b, iv k, rv w_MIR, rv b2] [.int 0, .ref b] _
    refine XS.aloadN X2.here hx rfl (hb hby d23_27) rfl rfl ?_
    refine XS.iconst X2.here hx rfl (hb hby d23_28) ?_
    show Sq p e below m T2 29 #[rv b, iv k, rv w_MIR, rv b2] [.int 0, .ref b2, .int 0, .ref b] _
    refine XS.aloadN X2.here hx rfl (hb hby d23_29) rfl rfl ?_
    show Sq p e below m T2 30 #[rv b, iv k, rv w_MIR, rv b2] [.ref b, .int 0, .ref b2, .int 0, .ref b] _
    refine st5 _ ?_
    show Sq p e below m T2 31 #[rv b, iv k, rv w_MIR, rv b2] [.int 10, .int 0, .ref b2, .int 0, .ref b] _
    refine XS.iloadN X2.here hx rfl (hb hby d23_31) rfl ?_
    show Sq p e below m T2 32 #[rv b, iv k, rv w_MIR, rv b2] [.int k, .int 10, .int 0, .ref b2, .int 0, .ref b] _
    refine st6 _ ?_
    show Sq p e below m T6 35 #[rv b, iv k, rv w_MIR, rv b2] [.int k, .int 0, .ref b2, .int 0, .ref b] _
    refine st8 _ ?_
    show Sq p e below m T8 38 #[rv b, iv k, rv w_MIR, rv b2] [] _
    refine XS.aloadN X8.here hx rfl (hb hby d23_38) rfl rfl ?_
    show Sq p e below m T8 39 #[rv b, iv k, rv w_MIR, rv b2] [.ref b2] _
    jvm_step X8.here [X8.here.top, hx, (hb hby d23_39), X8.method', Bd.returns, Value.isRef, FieldType.isReference]
    first | (intro acts; rw [hr _ acts rfl rfl rfl]) | rw [hr _ _ rfl rfl rfl]
    exact Steps.refl _
  · show Q_cpy3 Z b kb w_MIR k vs us h0 n0 _ T8.heap _
    rw [e8]
    exact ⟨b2, k2, rfl, N8, K10, sz_b2, V8, A2x⟩
theorem d22_0 : decode jdk_65_method_119_code 0 = .ok (.aload_n 0, 1) := by decide +kernel
theorem d22_1 : decode jdk_65_method_119_code 1 = .ok (.iload_n 1, 1) := by decide +kernel
theorem d22_2 : decode jdk_65_method_119_code 2 = .ok (.aload_n 0, 1) := by decide +kernel
theorem d22_3 : decode jdk_65_method_119_code 3 = .ok (.invokevirtual 86, 3) := by decide +kernel
theorem d22_6 : decode jdk_65_method_119_code 6 = .ok (.invokestatic 300, 3) := by decide +kernel
theorem pd_6 : parseMethodDescriptor "([Ljava/lang/Object;ILjava/lang/Class;)[Ljava/lang/Object;" = some ⟨[(.array (.object "java/lang/Object")), .int, (.object "java/lang/Class")], some (.array (.object "java/lang/Object"))⟩ := by decide +kernel
theorem d22_9 : decode jdk_65_method_119_code 9 = .ok (.areturn, 1) := by decide +kernel
def Q_cpy2 (Z : State) (b : Addr) (kb : ClassId) (w_MIR : Addr) (k : Int32) (vs : List Value) (us : List Value) (h0 : Heap) (n0 : Nat) (v : Option Value) (h : Heap) (L : List Loc) : Prop := ∃ r : Addr, ∃ kr : ClassId, v = some (.ref r) ∧ Fr n0 L ∧ Keep h0 h [] ∧ h0.size ≤ r ∧ Arv Z h r kr (.object "java/lang/Object") k us .null ∧ Exa Z h r "[Ljava/lang/Object;"
theorem ef_22 (m : MethodId) (x0 : Addr) (x1 : Int32) : entryFrame m #[(.ref x0), (.int x1)] 2 = mkF m 0 #[.val (.ref x0), .val (.int x1)] [] := by first | (simp [entryFrame, mkF, argsToLocals, Value.category]; done) | rfl
abbrev y_21 : MethodName := ⟨"java/util/Arrays", "copyOf", "([Ljava/lang/Object;I)[Ljava/lang/Object;"⟩
set_option maxRecDepth 65536 in
set_option maxHeartbeats 40000000 in
theorem cpy2 (l : Launch) (Z : State) (a0 : Array Value) (hw : ∀ d ∈ tables_1, d.before a0 Z = true) (ws : List Jvm.Cond) (b : Addr) (kb : ClassId) (w_MIR : Addr) (k : Int32) (vs : List Value) (us : List Value) (h0 : Heap) (n0 : Nat) (O : Old Z n0 h0) (Vb : Arv Z h0 b kb (.object "java/lang/Object") (10 : Int32) vs .null) (Mo : Mirr Z "[Ljava/lang/Object;" w_MIR) (hk0 : ¬ k < 0) (hk : k < (10 : Int32)) (hk7 : k.toNatClampNeg ≤ 7) (hus : us = (List.range k.toNatClampNeg).map fun i => vs.getD ((0 : Int32).toNatClampNeg + i) .null) (hel : ∀ v ∈ us, ∃ y, v = .ref y ∧ Exa Z Z.heap y "java/time/Duration") (Eb : Exa Z h0 b "[Ljava/lang/Object;") :
    Ctr l Z y_21 jdk_65_method_119_code 2 (some (.array (.object "java/lang/Object"))) ws ({ frames := 2, cells := 1, slots := 7, locals := 33 } : Room) #[(.ref b), (.int k)] h0 (Q_cpy2 Z b kb w_MIR k vs us h0 n0) := by
  refine MetFree.of_bodySF (plainFor_of_name pn_10) hisR ?_
  intro p e s m args below meth c s₁ Bd hml0 hP hK
  obtain ⟨rfl, hZ, hh⟩ := hP
  have W := fun (i : Nat) {d : Jvm.Cond} (h : tables_1[i]? = some d) => hw d (List.mem_of_getElem? h)
  have hx := Bd.exec
  have hby := Bd.bytes
  have hml : c.maxLocals = 2 := hml0
  have hown : s.vm.findClass "java/util/Arrays" = some m.cls := findClass_of_methodNamed Bd.named
  have hnm := (name_of_methodNamed Bd.named Bd.method).1
  have X0 : Stand p l e ({ frames := 2, cells := 1, slots := 7, locals := 33 } : Room) s m #[(.ref b), (.int k)] below meth c s₁ [] 0 0 := Stand.of_body Bd
  have e0 : s₁.heap = h0 := by rw [← hh, Bd.state]; rfl
  have N0 := Fr.nil n0
  have pre0 : ∀ t, Steps p.tables e below (s₁.setTop (mkF m 0 #[.val (.ref b), .val (.int k)] [])) t → Steps p.tables e below (s₁.setTop (entryFrame m #[(.ref b), (.int k)] 2)) t := fun t kk_ => castTop (ef_22 m b k) kk_
  have K0 := Keep.refl h0 []
  obtain ⟨T1, X1, e1, st1⟩ := own_gcls X0 hx hZ hown (W 157 rfl) (W 158 rfl) (W 160 rfl) (W 159 rfl) (W 161 rfl) e0 Eb Mo (g := (mkF m 3 #[rv b, iv k] [.ref b, .int k, .ref b])) rfl (by rw [hml]; rfl) rfl (hb hby d22_3) (by decide) (W := 2) (by show 2 * 0 + _ ≤ _; exact Nat.le_of_eq rfl) (by decide)
  obtain ⟨_, _, ⟨T2, L2, k2, n2⟩, -, X2, ⟨Lc2, hQ2, l2, y2, z2⟩, st2⟩ := Jvm.LawKit.callS X1 hx (y := y_20) hown (mvT hZ (W 163 rfl)) (mvT hZ (W 164 rfl)) (mvT hZ (W 155 rfl)) (mvT hZ (W 165 rfl)) (by decide) (backOf (W := 0) (cpy3 l Z a0 hw [] b kb w_MIR k vs us h0 n0 O Vb Mo hk0 hk hk7 hus hel) hZ (W 165 rfl) (W 155 rfl) (by decide) (by decide)) (g := (mkF m 6 #[rv b, iv k] [.ref w_MIR, .int k, .ref b])) rfl (by rw [hml]; rfl) (argsL := [.ref b, .int k, .ref w_MIR]) (rest := []) (lenOf pd_6 rfl) rfl (by show 2 * 0 + _ ≤ _; exact Nat.le_of_eq rfl) (hb hby d22_6) (fun _ _ => ⟨rfl, e1, (by decide : 0 + 1 ≤ _), (by decide : 0 + 7 ≤ _)⟩)
  dsimp only [Pt.U, Pt.locs, Pt.cells, Pt.slots] at X2 l2 y2 z2 st2 hQ2
  subst l2 y2 z2
  obtain ⟨h2, e2⟩ : ∃ z, T2.heap = z := ⟨_, rfl⟩
  rw [e2] at hQ2
  obtain ⟨b2r, b2kr, rfl, N2q, p2_0, p2_1, p2_2, p2_3⟩ := hQ2
  have N2 := Fr.app N0 N2q
  have sz_b2r : h0.size ≤ b2r := Nat.le_trans K0.1 p2_1
  have K4 := K0.trans p2_0 all0
  obtain ⟨fs, hr, hrun, hended, hW, hsame⟩ := X2.leave (v := some (.ref b2r)) (fun h => by rw [Bd.returns] at h; cases h)
  refine ⟨_, _, pre0 _ ?_, hrun, hended, _, _, rfl, ?_, ⟨_, rfl⟩, hW, hsame.mono (by decide) (by decide)⟩
  · show Sq p e below m s₁ 0 #[rv b, iv k] [] _
    refine XS.aloadN X0.here hx rfl (hb hby d22_0) rfl rfl ?_
    refine XS.iloadN X0.here hx rfl (hb hby d22_1) rfl ?_
    show Sq p e below m s₁ 2 #[rv b, iv k] [.int k, .ref b] _
    refine XS.aloadN X0.here hx rfl (hb hby d22_2) rfl rfl ?_
    show Sq p e below m s₁ 3 #[rv b, iv k] [.ref b, .int k, .ref b] _
    refine st1 _ ?_
    show Sq p e below m T1 6 #[rv b, iv k] [.ref w_MIR, .int k, .ref b] _
    refine st2 _ ?_
    show Sq p e below m T2 9 #[rv b, iv k] [.ref b2r] _
    jvm_step X2.here [X2.here.top, hx, (hb hby d22_9), X2.method', Bd.returns, Value.isRef, FieldType.isReference]
    first | (intro acts; rw [hr _ acts rfl rfl rfl]) | rw [hr _ _ rfl rfl rfl]
    exact Steps.refl _
  · show Q_cpy2 Z b kb w_MIR k vs us h0 n0 _ T2.heap _
    rw [e2]
    exact ⟨b2r, b2kr, rfl, N2, K4, sz_b2r, p2_2, p2_3⟩
theorem d21_0 : decode jdk_38_method_16_code 0 = .ok (.aload_n 0, 1) := by decide +kernel
theorem d21_1 : decode jdk_38_method_16_code 1 = .ok (.getfield 9, 3) := by decide +kernel
theorem d21_4 : decode jdk_38_method_16_code 4 = .ok (.aload_n 0, 1) := by decide +kernel
theorem d21_5 : decode jdk_38_method_16_code 5 = .ok (.getfield 48, 3) := by decide +kernel
theorem d21_8 : decode jdk_38_method_16_code 8 = .ok (.invokestatic 66, 3) := by decide +kernel
theorem pd_7 : parseMethodDescriptor "([Ljava/lang/Object;I)[Ljava/lang/Object;" = some ⟨[(.array (.object "java/lang/Object")), .int], some (.array (.object "java/lang/Object"))⟩ := by decide +kernel
theorem d21_11 : decode jdk_38_method_16_code 11 = .ok (.areturn, 1) := by decide +kernel
def Q_toarr (Z : State) (a : Addr) (b : Addr) (kb : ClassId) (w_MIR : Addr) (k : Int32) (vs : List Value) (us : List Value) (h0 : Heap) (n0 : Nat) (v : Option Value) (h : Heap) (L : List Loc) : Prop := ∃ r : Addr, ∃ kr : ClassId, v = some (.ref r) ∧ Fr n0 L ∧ Keep h0 h [] ∧ h0.size ≤ r ∧ Arv Z h r kr (.object "java/lang/Object") k us .null ∧ Exa Z h r "[Ljava/lang/Object;"
theorem ef_23 (m : MethodId) (x0 : Addr) : entryFrame m #[(.ref x0)] 1 = mkF m 0 #[.val (.ref x0)] [] := by first | (simp [entryFrame, mkF, argsToLocals, Value.category]; done) | rfl
abbrev y_22 : MethodName := ⟨"java/util/ArrayList", "toArray", "()[Ljava/lang/Object;"⟩
set_option maxRecDepth 65536 in
set_option maxHeartbeats 40000000 in
theorem toarr (l : Launch) (Z : State) (a0 : Array Value) (hw : ∀ d ∈ tables_1, d.before a0 Z = true) (ws : List Jvm.Cond) (a : Addr) (b : Addr) (kb : ClassId) (w_MIR : Addr) (k : Int32) (vs : List Value) (us : List Value) (h0 : Heap) (n0 : Nat) (O : Old Z n0 h0) (Vb : Arv Z h0 b kb (.object "java/lang/Object") (10 : Int32) vs .null) (Mo : Mirr Z "[Ljava/lang/Object;" w_MIR) (hk0 : ¬ k < 0) (hk : k < (10 : Int32)) (hk7 : k.toNatClampNeg ≤ 7) (hus : us = (List.range k.toNatClampNeg).map fun i => vs.getD ((0 : Int32).toNatClampNeg + i) .null) (hel : ∀ v ∈ us, ∃ y, v = .ref y ∧ Exa Z Z.heap y "java/time/Duration") (Eb : Exa Z h0 b "[Ljava/lang/Object;") (Fd : Fld Z h0 a "java/util/ArrayList" "elementData" "[Ljava/lang/Object;" (.ref b)) (Fs : Fld Z h0 a "java/util/ArrayList" "size" "I" (.int k)) :
    Ctr l Z y_22 jdk_38_method_16_code 1 (some (.array (.object "java/lang/Object"))) ws ({ frames := 3, cells := 1, slots := 7, locals := 46 } : Room) #[(.ref a)] h0 (Q_toarr Z a b kb w_MIR k vs us h0 n0) := by
  refine MetFree.of_bodySF (plainFor_of_name pn_2) hisR ?_
  intro p e s m args below meth c s₁ Bd hml0 hP hK
  obtain ⟨rfl, hZ, hh⟩ := hP
  have W := fun (i : Nat) {d : Jvm.Cond} (h : tables_1[i]? = some d) => hw d (List.mem_of_getElem? h)
  have hx := Bd.exec
  have hby := Bd.bytes
  have hml : c.maxLocals = 1 := hml0
  have hown : s.vm.findClass "java/util/ArrayList" = some m.cls := findClass_of_methodNamed Bd.named
  have hnm := (name_of_methodNamed Bd.named Bd.method).1
  have X0 : Stand p l e ({ frames := 3, cells := 1, slots := 7, locals := 46 } : Room) s m #[(.ref a)] below meth c s₁ [] 0 0 := Stand.of_body Bd
  have e0 : s₁.heap = h0 := by rw [← hh, Bd.state]; rfl
  have N0 := Fr.nil n0
  have pre0 : ∀ t, Steps p.tables e below (s₁.setTop (mkF m 0 #[.val (.ref a)] [])) t → Steps p.tables e below (s₁.setTop (entryFrame m #[(.ref a)] 1)) t := fun t kk_ => castTop (ef_23 m a) kk_
  have K0 := Keep.refl h0 []
  obtain ⟨T1, X1, e1, st1⟩ := getF X0 hx hZ hown (host := "") (Or.inl (W 48 rfl)) Via.refl e0 Fd (g := (mkF m 1 #[rv a] [.ref a])) rfl rfl (hb hby d21_1)
  obtain ⟨T2, X2, e2, st2⟩ := getF X1 hx hZ hown (host := "") (Or.inl (W 84 rfl)) Via.refl e1 Fs (g := (mkF m 5 #[rv a] [.ref a, .ref b])) rfl rfl (hb hby d21_5)
  obtain ⟨_, _, ⟨T3, L3, k3, n3⟩, -, X3, ⟨Lc3, hQ3, l3, y3, z3⟩, st3⟩ := Jvm.LawKit.callS X2 hx (y := y_21) hown (mvT hZ (W 153 rfl)) (mvT hZ (W 154 rfl)) (mvT hZ (W 155 rfl)) (mvT hZ (W 156 rfl)) (by decide) (backOf (W := 0) (cpy2 l Z a0 hw [] b kb w_MIR k vs us h0 n0 O Vb Mo hk0 hk hk7 hus hel Eb) hZ (W 156 rfl) (W 155 rfl) (by decide) (by decide)) (g := (mkF m 8 #[rv a] [.int k, .ref b])) rfl (by rw [hml]; rfl) (argsL := [.ref b, .int k]) (rest := []) (lenOf pd_7 rfl) rfl (by show 2 * 0 + _ ≤ _; exact Nat.le_of_eq rfl) (hb hby d21_8) (fun _ _ => ⟨rfl, e2, (by decide : 0 + 1 ≤ _), (by decide : 0 + 7 ≤ _)⟩)
  dsimp only [Pt.U, Pt.locs, Pt.cells, Pt.slots] at X3 l3 y3 z3 st3 hQ3
  subst l3 y3 z3
  obtain ⟨h3, e3⟩ : ∃ z, T3.heap = z := ⟨_, rfl⟩
  rw [e3] at hQ3
  obtain ⟨b3r, b3kr, rfl, N3q, p3_0, p3_1, p3_2, p3_3⟩ := hQ3
  have N3 := Fr.app N0 N3q
  have sz_b3r : h0.size ≤ b3r := Nat.le_trans K0.1 p3_1
  have K5 := K0.trans p3_0 all0
  obtain ⟨fs, hr, hrun, hended, hW, hsame⟩ := X3.leave (v := some (.ref b3r)) (fun h => by rw [Bd.returns] at h; cases h)
  refine ⟨_, _, pre0 _ ?_, hrun, hended, _, _, rfl, ?_, ⟨_, rfl⟩, hW, hsame.mono (by decide) (by decide)⟩
  · show Sq p e below m s₁ 0 #[rv a] [] _
    refine XS.aloadN X0.here hx rfl (hb hby d21_0) rfl rfl ?_
    show Sq p e below m s₁ 1 #[rv a] [.ref a] _
    refine st1 _ ?_
    show Sq p e below m T1 4 #[rv a] [.ref b] _
    refine XS.aloadN X1.here hx rfl (hb hby d21_4) rfl rfl ?_
    show Sq p e below m T1 5 #[rv a] [.ref a, .ref b] _
    refine st2 _ ?_
    show Sq p e below m T2 8 #[rv a] [.int k, .ref b] _
    refine st3 _ ?_
    show Sq p e below m T3 11 #[rv a] [.ref b3r] _
    jvm_step X3.here [X3.here.top, hx, (hb hby d21_11), X3.method', Bd.returns, Value.isRef, FieldType.isReference]
    first | (intro acts; rw [hr _ acts rfl rfl rfl]) | rw [hr _ _ rfl rfl rfl]
    exact Steps.refl _
  · show Q_toarr Z a b kb w_MIR k vs us h0 n0 _ T3.heap _
    rw [e3]
    exact ⟨b3r, b3kr, rfl, N3, K5, sz_b3r, p3_2, p3_3⟩
theorem d10_0 : decode jdk_56_method_3_code 0 = .ok (.aload_n 0, 1) := by decide +kernel
theorem d10_1 : decode jdk_56_method_3_code 1 = .ok (.instanceof 10, 3) := by decide +kernel
theorem d10_4 : decode jdk_56_method_3_code 4 = .ok (.ifCond .ne 22, 3) := by decide +kernel
theorem d10_7 : decode jdk_56_method_3_code 7 = .ok (.aload_n 0, 1) := by decide +kernel
theorem d10_8 : decode jdk_56_method_3_code 8 = .ok (.instanceof 12, 3) := by decide +kernel
theorem d10_11 : decode jdk_56_method_3_code 11 = .ok (.ifCond .eq 20, 3) := by decide +kernel
theorem d10_31 : decode jdk_56_method_3_code 31 = .ok (.aload_n 0, 1) := by decide +kernel
theorem d10_32 : decode jdk_56_method_3_code 32 = .ok (.invokeinterface 20 1, 5) := by decide +kernel
theorem pd_8 : parseMethodDescriptor "()Z" = some ⟨[], some .boolean⟩ := by decide +kernel
abbrev y_23 : MethodName := ⟨"java/util/Collection", "isEmpty", "()Z"⟩
theorem d10_37 : decode jdk_56_method_3_code 37 = .ok (.ifCond .eq 7, 3) := by decide +kernel
theorem d10_40 : decode jdk_56_method_3_code 40 = .ok (.invokestatic 26, 3) := by decide +kernel
theorem pd_9 : parseMethodDescriptor "()Ljava/util/List;" = some ⟨[], some (.object "java/util/List")⟩ := by decide +kernel
theorem d10_43 : decode jdk_56_method_3_code 43 = .ok (.areturn, 1) := by decide +kernel
def Q_lcopy0 (Z : State) (a : Addr) (w_ELIST : Addr) (h0 : Heap) (n0 : Nat) (v : Option Value) (h : Heap) (L : List Loc) : Prop := v = some (.ref w_ELIST) ∧ Fr n0 L ∧ h = h0
theorem ef_24 (m : MethodId) (x0 : Addr) : entryFrame m #[(.ref x0)] 2 = mkF m 0 #[.val (.ref x0), .unset] [] := by first | (simp [entryFrame, mkF, argsToLocals, Value.category]; done) | rfl
theorem pn_11 : plainName "java/util/ImmutableCollections" = true := by first | (simp [plainName, overriddenIn]; done) | decide +kernel
abbrev y_24 : MethodName := ⟨"java/util/ImmutableCollections", "listCopy", "(Ljava/util/Collection;)Ljava/util/List;"⟩
set_option maxRecDepth 65536 in
set_option maxHeartbeats 40000000 in
theorem lcopy0 (l : Launch) (Z : State) (a0 : Array Value) (hw : ∀ d ∈ tables_1, d.before a0 Z = true) (ws : List Jvm.Cond) (a : Addr) (w_ELIST : Addr) (h0 : Heap) (n0 : Nat) (O : Old Z n0 h0) (Ea : Exa Z h0 a "java/util/ArrayList") (Fs : Fld Z h0 a "java/util/ArrayList" "size" "I" (.int (0 : Int32))) (S_w_ELIST : Sta Z Z.heap "java/util/ImmutableCollections" "EMPTY_LIST" "Ljava/util/ImmutableCollections$ListN;" (.ref w_ELIST)) :
    Ctr l Z y_24 jdk_56_method_3_code 2 (some (.object "java/util/List")) ws ({ frames := 1, cells := 0, slots := 0, locals := 12 } : Room) #[(.ref a)] h0 (Q_lcopy0 Z a w_ELIST h0 n0) := by
  refine MetFree.of_bodySF (plainFor_of_name pn_11) hisR ?_
  intro p e s m args below meth c s₁ Bd hml0 hP hK
  obtain ⟨rfl, hZ, hh⟩ := hP
  have W := fun (i : Nat) {d : Jvm.Cond} (h : tables_1[i]? = some d) => hw d (List.mem_of_getElem? h)
  have hx := Bd.exec
  have hby := Bd.bytes
  have hml : c.maxLocals = 2 := hml0
  have hown : s.vm.findClass "java/util/ImmutableCollections" = some m.cls := findClass_of_methodNamed Bd.named
  have hnm := (name_of_methodNamed Bd.named Bd.method).1
  have X0 : Stand p l e ({ frames := 1, cells := 0, slots := 0, locals := 12 } : Room) s m #[(.ref a)] below meth c s₁ [] 0 0 := Stand.of_body Bd
  have e0 : s₁.heap = h0 := by rw [← hh, Bd.state]; rfl
  have N0 := Fr.nil n0
  have pre0 : ∀ t, Steps p.tables e below (s₁.setTop (mkF m 0 #[.val (.ref a), .unset] [])) t → Steps p.tables e below (s₁.setTop (entryFrame m #[(.ref a)] 2)) t := fun t kk_ => castTop (ef_24 m a) kk_
  obtain ⟨T1, X1, e1, st1⟩ := instNo X0 hx hZ hown (W 69 rfl) e0 Ea (own_nsno (W 70 rfl) (W 179 rfl) (NS.step (W 70 rfl) (NS.step (W 71 rfl) (NS.step (W 72 rfl) (own_nsroot (W 73 rfl) (W 179 rfl) (by decide)) (by decide)) (by decide)) (by decide)) (by decide)) (g := (mkF m 1 #[rv a, .unset] [.ref a])) rfl rfl (hb hby d10_1)
  obtain ⟨T2, X2, e2, st2⟩ := instNo X1 hx hZ hown (W 74 rfl) e1 Ea (own_nsno (W 70 rfl) (W 215 rfl) (NS.step (W 70 rfl) (NS.step (W 71 rfl) (NS.step (W 72 rfl) (own_nsroot (W 73 rfl) (W 215 rfl) (by decide)) (by decide)) (by decide)) (by decide)) (by decide)) (g := (mkF m 8 #[rv a, .unset] [.ref a])) rfl rfl (hb hby d10_8)
  obtain ⟨cq3, kq3, q3a, q3b, q3c⟩ := isOf hZ e2 Ea
  obtain ⟨_, _, ⟨T3, L3, k3, n3⟩, -, X3, ⟨Lc3, hQ3, l3, y3, z3⟩, st3⟩ := X2.interfaceBack hx (xi := y_23) (y := y_16) hown (mvT hZ (W 75 rfl)) (mvT hZ (W 76 rfl)) (mvT hZ (W 77 rfl)) (mvT hZ (W 78 rfl)) (mvT hZ (W 79 rfl)) (mvT hZ (W 80 rfl)) (mvT hZ (W 81 rfl)) (mvT hZ (W 82 rfl)) (by decide) (backOf (W := 0) (emp0 l Z a0 hw [] a h0 n0 O Fs) hZ (W 83 rfl) (W 26 rfl) (by decide) (by decide)) q3a q3b q3c (g := (mkF m 32 #[rv a, .unset] [.ref a])) rfl (by rw [hml]; rfl) (Steps.refl _) (argsL := []) (rest := []) (lenOf pd_8 rfl) rfl (by show 2 * 0 + _ ≤ _; exact Nat.le_of_eq rfl) (hb hby d10_32) (fun _ _ => ⟨rfl, e2, (by decide : 0 + 0 ≤ _), (by decide : 0 + 0 ≤ _)⟩)
  dsimp only [Pt.U, Pt.locs, Pt.cells, Pt.slots] at X3 l3 y3 z3 st3 hQ3
  subst l3 y3 z3
  obtain ⟨h3, e3⟩ : ∃ z, T3.heap = z := ⟨_, rfl⟩
  rw [e3] at hQ3
  obtain ⟨rfl, N3q, p3_0⟩ := hQ3
  have N3 := Fr.app N0 N3q
  rw [p3_0] at e3
  obtain ⟨_, _, ⟨T4, L4, k4, n4⟩, -, X4, ⟨Lc4, hQ4, l4, y4, z4⟩, st4⟩ := Jvm.LawKit.callS X3 hx (y := y_10) hown (mvT hZ (W 86 rfl)) (mvT hZ (W 87 rfl)) (mvT hZ (W 63 rfl)) (mvT hZ (W 88 rfl)) (by decide) (backOf (W := 0) (listof0 l Z a0 hw [] w_ELIST h0 n0 O S_w_ELIST) hZ (W 88 rfl) (W 63 rfl) (by decide) (by decide)) (g := (mkF m 40 #[rv a, .unset] [])) rfl (by rw [hml]; rfl) (argsL := []) (rest := []) (lenOf pd_9 rfl) rfl (by show 2 * 0 + _ ≤ _; exact Nat.le_of_eq rfl) (hb hby d10_40) (fun _ _ => ⟨rfl, e3, (by decide : 0 + 0 ≤ _), (by decide : 0 + 0 ≤ _)⟩)
  dsimp only [Pt.U, Pt.locs, Pt.cells, Pt.slots] at X4 l4 y4 z4 st4 hQ4
  subst l4 y4 z4
  obtain ⟨h4, e4⟩ : ∃ z, T4.heap = z := ⟨_, rfl⟩
  rw [e4] at hQ4
  obtain ⟨rfl, N4q, p4_0⟩ := hQ4
  have N4 := Fr.app N3 N4q
  rw [p4_0] at e4
  obtain ⟨fs, hr, hrun, hended, hW, hsame⟩ := X4.leave (v := some (.ref w_ELIST)) (fun h => by rw [Bd.returns] at h; cases h)
  refine ⟨_, _, pre0 _ ?_, hrun, hended, _, _, rfl, ?_, ⟨_, rfl⟩, hW, hsame.mono (by decide) (by decide)⟩
  · show Sq p e below m s₁ 0 #[rv a, .unset] [] _
    refine XS.aloadN X0.here hx rfl (hb hby d10_0) rfl rfl ?_
    show Sq p e below m s₁ 1 #[rv a, .unset] [.ref a] _
    refine st1 _ ?_
    show Sq p e below m T1 4 #[rv a, .unset] [.int 0] _
    refine XS.ifNo X1.here hx rfl (hb hby d10_4) rfl ((if0 _ _).trans (teq (rfl : (0 : Int32) = (0 : Int32))).2) ?_
    refine XS.aloadN X1.here hx rfl (hb hby d10_7) rfl rfl ?_
    show Sq p e below m T1 8 #[rv a, .unset] [.ref a] _
    refine st2 _ ?_
    show Sq p e below m T2 11 #[rv a, .unset] [.int 0] _
    refine XS.ifYes X2.here hx rfl (pc0 := 11) (pc' := 31) rfl (hb hby d10_11) rfl ((if0 _ _).trans (teq (rfl : (0 : Int32) = (0 : Int32))).1) (by decide) (by decide) ?_
    refine XS.aloadN X2.here hx rfl (hb hby d10_31) rfl rfl ?_
    show Sq p e below m T2 32 #[rv a, .unset] [.ref a] _
    refine st3.trans ?_
    show Sq p e below m T3 37 #[rv a, .unset] [.int 1] _
    refine XS.ifNo X3.here hx rfl (hb hby d10_37) rfl ((if0 _ _).trans (feq (by decide)).1) ?_
    show Sq p e below m T3 40 #[rv a, .unset] [] _
    refine st4 _ ?_
    show Sq p e below m T4 43 #[rv a, .unset] [.ref w_ELIST] _
    jvm_step X4.here [X4.here.top, hx, (hb hby d10_43), X4.method', Bd.returns, Value.isRef, FieldType.isReference]
    first | (intro acts; rw [hr _ acts rfl rfl rfl]) | rw [hr _ _ rfl rfl rfl]
    exact Steps.refl _
  · show Q_lcopy0 Z a w_ELIST h0 n0 _ T4.heap _
    rw [e4]
    exact ⟨rfl, N4, rfl⟩
theorem d9_0 : decode jdk_40_method_48_code 0 = .ok (.aload_n 0, 1) := by decide +kernel
theorem d9_1 : decode jdk_40_method_48_code 1 = .ok (.invokestatic 112, 3) := by decide +kernel
theorem pd_10 : parseMethodDescriptor "(Ljava/util/Collection;)Ljava/util/List;" = some ⟨[(.object "java/util/Collection")], some (.object "java/util/List")⟩ := by decide +kernel
theorem d9_4 : decode jdk_40_method_48_code 4 = .ok (.areturn, 1) := by decide +kernel
def Q_copyof0 (Z : State) (a : Addr) (w_ELIST : Addr) (h0 : Heap) (n0 : Nat) (v : Option Value) (h : Heap) (L : List Loc) : Prop := v = some (.ref w_ELIST) ∧ Fr n0 L ∧ h = h0
theorem ef_25 (m : MethodId) (x0 : Addr) : entryFrame m #[(.ref x0)] 1 = mkF m 0 #[.val (.ref x0)] [] := by first | (simp [entryFrame, mkF, argsToLocals, Value.category]; done) | rfl
abbrev y_25 : MethodName := ⟨"java/util/List", "copyOf", "(Ljava/util/Collection;)Ljava/util/List;"⟩
set_option maxRecDepth 65536 in
set_option maxHeartbeats 40000000 in
theorem copyof0 (l : Launch) (Z : State) (a0 : Array Value) (hw : ∀ d ∈ tables_1, d.before a0 Z = true) (ws : List Jvm.Cond) (a : Addr) (w_ELIST : Addr) (h0 : Heap) (n0 : Nat) (O : Old Z n0 h0) (Ea : Exa Z h0 a "java/util/ArrayList") (Fs : Fld Z h0 a "java/util/ArrayList" "size" "I" (.int (0 : Int32))) (S_w_ELIST : Sta Z Z.heap "java/util/ImmutableCollections" "EMPTY_LIST" "Ljava/util/ImmutableCollections$ListN;" (.ref w_ELIST)) :
    Ctr l Z y_25 jdk_40_method_48_code 1 (some (.object "java/util/List")) ws ({ frames := 2, cells := 0, slots := 0, locals := 25 } : Room) #[(.ref a)] h0 (Q_copyof0 Z a w_ELIST h0 n0) := by
  refine MetFree.of_bodySF (plainFor_of_name pn_7) hisR ?_
  intro p e s m args below meth c s₁ Bd hml0 hP hK
  obtain ⟨rfl, hZ, hh⟩ := hP
  have W := fun (i : Nat) {d : Jvm.Cond} (h : tables_1[i]? = some d) => hw d (List.mem_of_getElem? h)
  have hx := Bd.exec
  have hby := Bd.bytes
  have hml : c.maxLocals = 1 := hml0
  have hown : s.vm.findClass "java/util/List" = some m.cls := findClass_of_methodNamed Bd.named
  have hnm := (name_of_methodNamed Bd.named Bd.method).1
  have X0 : Stand p l e ({ frames := 2, cells := 0, slots := 0, locals := 25 } : Room) s m #[(.ref a)] below meth c s₁ [] 0 0 := Stand.of_body Bd
  have e0 : s₁.heap = h0 := by rw [← hh, Bd.state]; rfl
  have N0 := Fr.nil n0
  have pre0 : ∀ t, Steps p.tables e below (s₁.setTop (mkF m 0 #[.val (.ref a)] [])) t → Steps p.tables e below (s₁.setTop (entryFrame m #[(.ref a)] 1)) t := fun t kk_ => castTop (ef_25 m a) kk_
  obtain ⟨_, _, ⟨T1, L1, k1, n1⟩, -, X1, ⟨Lc1, hQ1, l1, y1, z1⟩, st1⟩ := Jvm.LawKit.callS X0 hx (y := y_24) hown (mvT hZ (W 65 rfl)) (mvT hZ (W 66 rfl)) (mvT hZ (W 67 rfl)) (mvT hZ (W 68 rfl)) (by decide) (backOf (W := 0) (lcopy0 l Z a0 hw [] a w_ELIST h0 n0 O Ea Fs S_w_ELIST) hZ (W 68 rfl) (W 67 rfl) (by decide) (by decide)) (g := (mkF m 1 #[rv a] [.ref a])) rfl (by rw [hml]; rfl) (argsL := [.ref a]) (rest := []) (lenOf pd_10 rfl) rfl (by show 2 * 0 + _ ≤ _; exact Nat.le_of_eq rfl) (hb hby d9_1) (fun _ _ => ⟨rfl, e0, (by decide : 0 + 0 ≤ _), (by decide : 0 + 0 ≤ _)⟩)
  dsimp only [Pt.U, Pt.locs, Pt.cells, Pt.slots] at X1 l1 y1 z1 st1 hQ1
  subst l1 y1 z1
  obtain ⟨h1, e1⟩ : ∃ z, T1.heap = z := ⟨_, rfl⟩
  rw [e1] at hQ1
  obtain ⟨rfl, N1q, p1_0⟩ := hQ1
  have N1 := Fr.app N0 N1q
  rw [p1_0] at e1
  obtain ⟨fs, hr, hrun, hended, hW, hsame⟩ := X1.leave (v := some (.ref w_ELIST)) (fun h => by rw [Bd.returns] at h; cases h)
  refine ⟨_, _, pre0 _ ?_, hrun, hended, _, _, rfl, ?_, ⟨_, rfl⟩, hW, hsame.mono (by decide) (by decide)⟩
  · show Sq p e below m s₁ 0 #[rv a] [] _
    refine XS.aloadN X0.here hx rfl (hb hby d9_0) rfl rfl ?_
    show Sq p e below m s₁ 1 #[rv a] [.ref a] _
    refine st1 _ ?_
    show Sq p e below m T1 4 #[rv a] [.ref w_ELIST] _
    jvm_step X1.here [X1.here.top, hx, (hb hby d9_4), X1.method', Bd.returns, Value.isRef, FieldType.isReference]
    first | (intro acts; rw [hr _ acts rfl rfl rfl]) | rw [hr _ _ rfl rfl rfl]
    exact Steps.refl _
  · show Q_copyof0 Z a w_ELIST h0 n0 _ T1.heap _
    rw [e1]
    exact ⟨rfl, N1, rfl⟩
theorem d25_0 : decode jdk_40_method_47_code 0 = .ok (.aload_n 0, 1) := by decide +kernel
theorem d25_1 : decode jdk_40_method_47_code 1 = .ok (.arraylength, 1) := by decide +kernel
theorem d25_2 : decode jdk_40_method_47_code 2 = .ok (.tableswitch 57 0 2 #[26, 32, 43], 26) := by decide +kernel
theorem d25_34 : decode jdk_40_method_47_code 34 = .ok (.new 96, 3) := by decide +kernel
theorem d25_37 : decode jdk_40_method_47_code 37 = .ok (.dup, 1) := by decide +kernel
theorem d25_38 : decode jdk_40_method_47_code 38 = .ok (.aload_n 0, 1) := by decide +kernel
theorem d25_39 : decode jdk_40_method_47_code 39 = .ok (.iconst 0, 1) := by decide +kernel
theorem d25_40 : decode jdk_40_method_47_code 40 = .ok (.aaload, 1) := by decide +kernel
theorem d25_41 : decode jdk_40_method_47_code 41 = .ok (.invokespecial 98, 3) := by decide +kernel
theorem pd_11 : parseMethodDescriptor "(Ljava/lang/Object;)V" = some ⟨[(.object "java/lang/Object")], none⟩ := by decide +kernel
theorem d25_44 : decode jdk_40_method_47_code 44 = .ok (.areturn, 1) := by decide +kernel
def Q_ofarr1 (Z : State) (r0 : Addr) (k0 : ClassId) (x1 : Addr) (w_EMPTY : Addr) (h0 : Heap) (n0 : Nat) (v : Option Value) (h : Heap) (L : List Loc) : Prop := ∃ r : Addr, v = some (.ref r) ∧ Fr n0 L ∧ Keep h0 h [] ∧ h0.size ≤ r ∧ Exa Z h r "java/util/ImmutableCollections$List12" ∧ Fld Z h r "java/util/ImmutableCollections$List12" "e1" "Ljava/lang/Object;" (.ref w_EMPTY)
theorem ef_26 (m : MethodId) (x0 : Addr) : entryFrame m #[(.ref x0)] 2 = mkF m 0 #[.val (.ref x0), .unset] [] := by first | (simp [entryFrame, mkF, argsToLocals, Value.category]; done) | rfl
abbrev y_26 : MethodName := ⟨"java/util/List", "of", "([Ljava/lang/Object;)Ljava/util/List;"⟩
set_option maxRecDepth 65536 in
set_option maxHeartbeats 40000000 in
theorem ofarr1 (l : Launch) (Z : State) (a0 : Array Value) (hw : ∀ d ∈ tables_1, d.before a0 Z = true) (ws : List Jvm.Cond) (r0 : Addr) (k0 : ClassId) (x1 : Addr) (w_EMPTY : Addr) (h0 : Heap) (n0 : Nat) (O : Old Z n0 h0) (Vr : Arv Z h0 r0 k0 (.object "java/lang/Object") (1 : Int32) [(.ref x1)] .null) (Ex : Exa Z Z.heap x1 "java/time/Duration") (S_w_EMPTY : Sta Z Z.heap "java/util/ImmutableCollections" "EMPTY" "Ljava/lang/Object;" (.ref w_EMPTY)) :
    Ctr l Z y_26 jdk_40_method_47_code 2 (some (.object "java/util/List")) ws ({ frames := 5, cells := 1, slots := 2, locals := 62 } : Room) #[(.ref r0)] h0 (Q_ofarr1 Z r0 k0 x1 w_EMPTY h0 n0) := by
  refine MetFree.of_bodySF (plainFor_of_name pn_7) hisR ?_
  intro p e s m args below meth c s₁ Bd hml0 hP hK
  obtain ⟨rfl, hZ, hh⟩ := hP
  have W := fun (i : Nat) {d : Jvm.Cond} (h : tables_1[i]? = some d) => hw d (List.mem_of_getElem? h)
  have hx := Bd.exec
  have hby := Bd.bytes
  have hml : c.maxLocals = 2 := hml0
  have hown : s.vm.findClass "java/util/List" = some m.cls := findClass_of_methodNamed Bd.named
  have hnm := (name_of_methodNamed Bd.named Bd.method).1
  have X0 : Stand p l e ({ frames := 5, cells := 1, slots := 2, locals := 62 } : Room) s m #[(.ref r0)] below meth c s₁ [] 0 0 := Stand.of_body Bd
  have e0 : s₁.heap = h0 := by rw [← hh, Bd.state]; rfl
  have N0 := Fr.nil n0
  have pre0 : ∀ t, Steps p.tables e below (s₁.setTop (mkF m 0 #[.val (.ref r0), .unset] [])) t → Steps p.tables e below (s₁.setTop (entryFrame m #[(.ref r0)] 2)) t := fun t kk_ => castTop (ef_26 m r0) kk_
  have K0 := Keep.refl h0 []
  obtain ⟨cl1, Ar1, -, S1, Ng1, -, -⟩ := id Vr
  have st1 := X0.arraylength hx (by rw [e0]; exact Ar1.1) (State.isArrayOf_alike hZ.alike Ar1.2.1) (g := (mkF m 1 #[rv r0, .unset] [.ref r0])) rfl rfl (hb hby d25_1)
  rw [len_of S1 Ng1] at st1
  obtain ⟨T2, h2, X2, e2, E2, A2, D2, -, st2⟩ := newO X0 hx hZ hown (W 178 rfl) (W 179 rfl) (W 180 rfl) e0 (g := (mkF m 34 #[rv r0, .unset] [])) rfl (hb hby d25_34) (by decide) (by decide)
  obtain ⟨b2, g2⟩ : ∃ z, z = h0.size := ⟨_, rfl⟩
  rw [← g2] at A2 D2 st2
  have g_b2 : n0 ≤ b2 := Nat.le_trans (own_sz O) (Nat.le_of_eq g2.symm)
  have sz_b2 : h0.size ≤ b2 := Nat.le_trans K0.1 (Nat.le_of_eq g2.symm)
  have Vr := Vr.ext E2
  have O3 := O.ext E2
  have K4 := K0.ext E2
  have Fz5 : Fld Z h2 b2 "java/util/ImmutableCollections$List12" "e0" "Ljava/lang/Object;" .null := D2 (Or.inr (W 204 rfl)) (ty := (.object "java/lang/Object")) (by decide)
  have Fz6 : Fld Z h2 b2 "java/util/ImmutableCollections$List12" "e1" "Ljava/lang/Object;" .null := D2 (Or.inr (W 207 rfl)) (ty := (.object "java/lang/Object")) (by decide)
  obtain ⟨cl7, Ar7, q7, S7, Ng7, Hh7, Gg7⟩ := id Vr
  have st7 := X2.aaload hx (j := (0 : Int32)) (v := (.ref x1)) (by rw [e2]; exact Ar7.1) (State.isArrayOf_alike hZ.alike Ar7.2.1) rfl Ar7.2.2 (inb_of S7 (by decide)) (Hh7.at (inb_of S7 (by decide)) rfl) (g := (mkF m 40 #[rv r0, .unset] [.int 0, .ref r0, .ref b2, .ref b2])) rfl rfl (hb hby d25_40)
  obtain ⟨_, _, ⟨T8, L8, k8, n8⟩, -, X8, ⟨Lc8, hQ8, l8, y8, z8⟩, st8⟩ := X2.specialBack hx (y := y_11) rfl hown (mvT hZ (W 181 rfl)) (mvT hZ (W 182 rfl)) (mvT hZ (W 184 rfl)) (by decide) (backOf (W := 1) (l1init l Z a0 hw [] b2 x1 w_EMPTY h2 n0 O3 A2 Fz5 Fz6 g_b2 S_w_EMPTY) hZ (W 184 rfl) (W 180 rfl) (by decide) (by decide)) (g := (mkF m 41 #[rv r0, .unset] [.ref x1, .ref b2, .ref b2])) rfl (by rw [hml]; rfl) (Steps.refl _) (a := b2) (argsL := [.ref x1]) (rest := [.ref b2]) (lenOf pd_11 rfl) rfl (by show 2 * 0 + _ ≤ _; exact Nat.le_of_eq rfl) (hb hby d25_41) (fun _ _ => ⟨rfl, e2, (by decide : 1 + 0 ≤ _), (by decide : 2 + 0 ≤ _)⟩)
  dsimp only [Pt.U, Pt.locs, Pt.cells, Pt.slots] at X8 l8 y8 z8 st8 hQ8
  subst l8 y8 z8
  obtain ⟨h8, e8⟩ : ∃ z, T8.heap = z := ⟨_, rfl⟩
  rw [e8] at hQ8
  obtain ⟨rfl, N8q, p8_0, p8_1, p8_2⟩ := hQ8
  have N8 := Fr.app N0 N8q
  have A2 := A2.keep p8_0
  have K10 := K4.trans p8_0 (allS (Or.inr sz_b2) all0)
  obtain ⟨fs, hr, hrun, hended, hW, hsame⟩ := X8.leave (v := some (.ref b2)) (fun h => by rw [Bd.returns] at h; cases h)
  refine ⟨_, _, pre0 _ ?_, hrun, hended, _, _, rfl, ?_, ⟨_, rfl⟩, hW, hsame.mono (by decide) (by decide)⟩
  · show Sq p e below m s₁ 0 #[rv r0, .unset] [] _
    refine XS.aloadN X0.here hx rfl (hb hby d25_0) rfl rfl ?_
    show Sq p e below m s₁ 1 #[rv r0, .unset] [.ref r0] _
    refine st1 _ ?_
    show Sq p e below m s₁ 2 #[rv r0, .unset] [.int 1] _
    refine XS.tswIn X0.here hx rfl (pc0 := 2) (pc' := 34) rfl (hb hby d25_2) rfl (by decide) (o := 32) (by decide) (by decide) (by decide) ?_
    show Sq p e below m s₁ 34 #[rv r0, .unset] [] _
    refine st2 _ ?_
    show Sq p e below m T2 37 #[rv r0, .unset] [.ref b2] _
    refine XS.dup X2.here hx rfl (hb hby d25_37) rfl rfl ?_
    refine XS.aloadN X2.here hx rfl (hb hby d25_38) rfl rfl ?_
    show Sq p e below m T2 39 #[rv r0, .unset] [.ref r0, .ref b2, .ref b2] _
    refine XS.iconst X2.here hx rfl (hb hby d25_39) ?_
    show Sq p e below m T2 40 #[rv r0, .unset] [.int 0, .ref r0, .ref b2, .ref b2] _
    refine st7 _ ?_
    show Sq p e below m T2 41 #[rv r0, .unset] [.ref x1, .ref b2, .ref b2] _
    refine st8.trans ?_
    show Sq p e below m T8 44 #[rv r0, .unset] [.ref b2] _
    jvm_step X8.here [X8.here.top, hx, (hb hby d25_44), X8.method', Bd.returns, Value.isRef, FieldType.isReference]
    first | (intro acts; rw [hr _ acts rfl rfl rfl]) | rw [hr _ _ rfl rfl rfl]
    exact Steps.refl _
  · show Q_ofarr1 Z r0 k0 x1 w_EMPTY h0 n0 _ T8.heap _
    rw [e8]
    exact ⟨b2, rfl, N8, K10, sz_b2, A2, p8_2⟩
theorem d10_44 : decode jdk_56_method_3_code 44 = .ok (.aload_n 0, 1) := by decide +kernel
theorem d10_45 : decode jdk_56_method_3_code 45 = .ok (.invokeinterface 30 1, 5) := by decide +kernel
abbrev y_27 : MethodName := ⟨"java/util/Collection", "toArray", "()[Ljava/lang/Object;"⟩
theorem d10_50 : decode jdk_56_method_3_code 50 = .ok (.invokestatic 34, 3) := by decide +kernel
theorem pd_12 : parseMethodDescriptor "([Ljava/lang/Object;)Ljava/util/List;" = some ⟨[(.array (.object "java/lang/Object"))], some (.object "java/util/List")⟩ := by decide +kernel
theorem d10_53 : decode jdk_56_method_3_code 53 = .ok (.areturn, 1) := by decide +kernel
def Q_lcopy1 (Z : State) (a : Addr) (b : Addr) (kb : ClassId) (x1 : Addr) (w_MIR : Addr) (w_EMPTY : Addr) (h0 : Heap) (n0 : Nat) (v : Option Value) (h : Heap) (L : List Loc) : Prop := ∃ r : Addr, v = some (.ref r) ∧ Fr n0 L ∧ Keep h0 h [] ∧ h0.size ≤ r ∧ Exa Z h r "java/util/ImmutableCollections$List12" ∧ Fld Z h r "java/util/ImmutableCollections$List12" "e1" "Ljava/lang/Object;" (.ref w_EMPTY)
set_option maxRecDepth 65536 in
set_option maxHeartbeats 40000000 in
theorem lcopy1 (l : Launch) (Z : State) (a0 : Array Value) (hw : ∀ d ∈ tables_1, d.before a0 Z = true) (ws : List Jvm.Cond) (a : Addr) (b : Addr) (kb : ClassId) (x1 : Addr) (w_MIR : Addr) (w_EMPTY : Addr) (h0 : Heap) (n0 : Nat) (O : Old Z n0 h0) (Ea : Exa Z h0 a "java/util/ArrayList") (Vb : Arv Z h0 b kb (.object "java/lang/Object") (10 : Int32) [(.ref x1), .null, .null, .null, .null, .null, .null, .null, .null, .null] .null) (Ex : Exa Z Z.heap x1 "java/time/Duration") (Mo : Mirr Z "[Ljava/lang/Object;" w_MIR) (Eb : Exa Z h0 b "[Ljava/lang/Object;") (Fd : Fld Z h0 a "java/util/ArrayList" "elementData" "[Ljava/lang/Object;" (.ref b)) (Fs : Fld Z h0 a "java/util/ArrayList" "size" "I" (.int (1 : Int32))) (S_w_EMPTY : Sta Z Z.heap "java/util/ImmutableCollections" "EMPTY" "Ljava/lang/Object;" (.ref w_EMPTY)) :
    Ctr l Z y_24 jdk_56_method_3_code 2 (some (.object "java/util/List")) ws ({ frames := 6, cells := 2, slots := 9, locals := 75 } : Room) #[(.ref a)] h0 (Q_lcopy1 Z a b kb x1 w_MIR w_EMPTY h0 n0) := by
  refine MetFree.of_bodySF (plainFor_of_name pn_11) hisR ?_
  intro p e s m args below meth c s₁ Bd hml0 hP hK
  obtain ⟨rfl, hZ, hh⟩ := hP
  have W := fun (i : Nat) {d : Jvm.Cond} (h : tables_1[i]? = some d) => hw d (List.mem_of_getElem? h)
  have hx := Bd.exec
  have hby := Bd.bytes
  have hml : c.maxLocals = 2 := hml0
  have hown : s.vm.findClass "java/util/ImmutableCollections" = some m.cls := findClass_of_methodNamed Bd.named
  have hnm := (name_of_methodNamed Bd.named Bd.method).1
  have X0 : Stand p l e ({ frames := 6, cells := 2, slots := 9, locals := 75 } : Room) s m #[(.ref a)] below meth c s₁ [] 0 0 := Stand.of_body Bd
  have e0 : s₁.heap = h0 := by rw [← hh, Bd.state]; rfl
  have N0 := Fr.nil n0
  have pre0 : ∀ t, Steps p.tables e below (s₁.setTop (mkF m 0 #[.val (.ref a), .unset] [])) t → Steps p.tables e below (s₁.setTop (entryFrame m #[(.ref a)] 2)) t := fun t kk_ => castTop (ef_24 m a) kk_
  have K0 := Keep.refl h0 []
  obtain ⟨T1, X1, e1, st1⟩ := instNo X0 hx hZ hown (W 69 rfl) e0 Ea (own_nsno (W 70 rfl) (W 179 rfl) (NS.step (W 70 rfl) (NS.step (W 71 rfl) (NS.step (W 72 rfl) (own_nsroot (W 73 rfl) (W 179 rfl) (by decide)) (by decide)) (by decide)) (by decide)) (by decide)) (g := (mkF m 1 #[rv a, .unset] [.ref a])) rfl rfl (hb hby d10_1)
  obtain ⟨T2, X2, e2, st2⟩ := instNo X1 hx hZ hown (W 74 rfl) e1 Ea (own_nsno (W 70 rfl) (W 215 rfl) (NS.step (W 70 rfl) (NS.step (W 71 rfl) (NS.step (W 72 rfl) (own_nsroot (W 73 rfl) (W 215 rfl) (by decide)) (by decide)) (by decide)) (by decide)) (by decide)) (g := (mkF m 8 #[rv a, .unset] [.ref a])) rfl rfl (hb hby d10_8)
  obtain ⟨cq3, kq3, q3a, q3b, q3c⟩ := isOf hZ e2 Ea
  obtain ⟨_, _, ⟨T3, L3, k3, n3⟩, -, X3, ⟨Lc3, hQ3, l3, y3, z3⟩, st3⟩ := X2.interfaceBack hx (xi := y_23) (y := y_16) hown (mvT hZ (W 75 rfl)) (mvT hZ (W 76 rfl)) (mvT hZ (W 77 rfl)) (mvT hZ (W 78 rfl)) (mvT hZ (W 79 rfl)) (mvT hZ (W 80 rfl)) (mvT hZ (W 81 rfl)) (mvT hZ (W 82 rfl)) (by decide) (backOf (W := 0) (emp1 l Z a0 hw [] a (1 : Int32) h0 n0 O Fs (by decide)) hZ (W 83 rfl) (W 26 rfl) (by decide) (by decide)) q3a q3b q3c (g := (mkF m 32 #[rv a, .unset] [.ref a])) rfl (by rw [hml]; rfl) (Steps.refl _) (argsL := []) (rest := []) (lenOf pd_8 rfl) rfl (by show 2 * 0 + _ ≤ _; exact Nat.le_of_eq rfl) (hb hby d10_32) (fun _ _ => ⟨rfl, e2, (by decide : 0 + 0 ≤ _), (by decide : 0 + 0 ≤ _)⟩)
  dsimp only [Pt.U, Pt.locs, Pt.cells, Pt.slots] at X3 l3 y3 z3 st3 hQ3
  subst l3 y3 z3
  obtain ⟨h3, e3⟩ : ∃ z, T3.heap = z := ⟨_, rfl⟩
  rw [e3] at hQ3
  obtain ⟨rfl, N3q, p3_0⟩ := hQ3
  have N3 := Fr.app N0 N3q
  rw [p3_0] at e3
  obtain ⟨cq4, kq4, q4a, q4b, q4c⟩ := isOf hZ e3 Ea
  obtain ⟨_, _, ⟨T4, L4, k4, n4⟩, -, X4, ⟨Lc4, hQ4, l4, y4, z4⟩, st4⟩ := X3.interfaceBack hx (xi := y_27) (y := y_22) hown (mvT hZ (W 145 rfl)) (mvT hZ (W 146 rfl)) (mvT hZ (W 147 rfl)) (mvT hZ (W 148 rfl)) (mvT hZ (W 149 rfl)) (mvT hZ (W 150 rfl)) (mvT hZ (W 151 rfl)) (mvT hZ (W 82 rfl)) (by decide) (backOf (W := 0) (toarr l Z a0 hw [] a b kb w_MIR (1 : Int32) [(.ref x1), .null, .null, .null, .null, .null, .null, .null, .null, .null] [(.ref x1)] h0 n0 O Vb Mo (by decide) (by decide) (Nat.le_of_ble_eq_true rfl) rfl (own_all (n := 1) ⟨x1, rfl, Ex⟩) Eb Fd Fs) hZ (W 152 rfl) (W 26 rfl) (by decide) (by decide)) q4a q4b q4c (g := (mkF m 45 #[rv a, .unset] [.ref a])) rfl (by rw [hml]; rfl) (Steps.refl _) (argsL := []) (rest := []) (lenOf pd_4 rfl) rfl (by show 2 * 0 + _ ≤ _; exact Nat.le_of_eq rfl) (hb hby d10_45) (fun _ _ => ⟨rfl, e3, (by decide : 0 + 1 ≤ _), (by decide : 0 + 7 ≤ _)⟩)
  dsimp only [Pt.U, Pt.locs, Pt.cells, Pt.slots] at X4 l4 y4 z4 st4 hQ4
  subst l4 y4 z4
  obtain ⟨h4, e4⟩ : ∃ z, T4.heap = z := ⟨_, rfl⟩
  rw [e4] at hQ4
  obtain ⟨b4r, b4kr, rfl, N4q, p4_0, p4_1, p4_2, p4_3⟩ := hQ4
  have N4 := Fr.app N3 N4q
  have O5 := O.keep p4_0 all0
  have K6 := K0.trans p4_0 all0
  obtain ⟨_, _, ⟨T7, L7, k7, n7⟩, -, X7, ⟨Lc7, hQ7, l7, y7, z7⟩, st7⟩ := Jvm.LawKit.callS X4 hx (y := y_26) hown (mvT hZ (W 175 rfl)) (mvT hZ (W 176 rfl)) (mvT hZ (W 63 rfl)) (mvT hZ (W 177 rfl)) (by decide) (backOf (W := 0) (ofarr1 l Z a0 hw [] b4r b4kr x1 w_EMPTY h4 n0 O5 p4_2 Ex S_w_EMPTY) hZ (W 177 rfl) (W 63 rfl) (by decide) (by decide)) (g := (mkF m 50 #[rv a, .unset] [.ref b4r])) rfl (by rw [hml]; rfl) (argsL := [.ref b4r]) (rest := []) (lenOf pd_12 rfl) rfl (by show 2 * 0 + _ ≤ _; exact Nat.le_of_eq rfl) (hb hby d10_50) (fun _ _ => ⟨rfl, e4, (by decide : 1 + 1 ≤ _), (by decide : 7 + 2 ≤ _)⟩)
  dsimp only [Pt.U, Pt.locs, Pt.cells, Pt.slots] at X7 l7 y7 z7 st7 hQ7
  subst l7 y7 z7
  obtain ⟨h7, e7⟩ : ∃ z, T7.heap = z := ⟨_, rfl⟩
  rw [e7] at hQ7
  obtain ⟨b7r, rfl, N7q, p7_0, p7_1, p7_2, p7_3⟩ := hQ7
  have N7 := Fr.app N4 N7q
  have sz_b7r : h0.size ≤ b7r := Nat.le_trans K6.1 p7_1
  have K9 := K6.trans p7_0 all0
  obtain ⟨fs, hr, hrun, hended, hW, hsame⟩ := X7.leave (v := some (.ref b7r)) (fun h => by rw [Bd.returns] at h; cases h)
  refine ⟨_, _, pre0 _ ?_, hrun, hended, _, _, rfl, ?_, ⟨_, rfl⟩, hW, hsame.mono (by decide) (by decide)⟩
  · show Sq p e below m s₁ 0 #[rv a, .unset] [] _
    refine XS.aloadN X0.here hx rfl (hb hby d10_0) rfl rfl ?_
    show Sq p e below m s₁ 1 #[rv a, .unset] [.ref a] _
    refine st1 _ ?_
    show Sq p e below m T1 4 #[rv a, .unset] [.int 0] _
    refine XS.ifNo X1.here hx rfl (hb hby d10_4) rfl ((if0 _ _).trans (teq (rfl : (0 : Int32) = (0 : Int32))).2) ?_
    refine XS.aloadN X1.here hx rfl (hb hby d10_7) rfl rfl ?_
    show Sq p e below m T1 8 #[rv a, .unset] [.ref a] _
    refine st2 _ ?_
    show Sq p e below m T2 11 #[rv a, .unset] [.int 0] _
    refine XS.ifYes X2.here hx rfl (pc0 := 11) (pc' := 31) rfl (hb hby d10_11) rfl ((if0 _ _).trans (teq (rfl : (0 : Int32) = (0 : Int32))).1) (by decide) (by decide) ?_
    refine XS.aloadN X2.here hx rfl (hb hby d10_31) rfl rfl ?_
    show Sq p e below m T2 32 #[rv a, .unset] [.ref a] _
    refine st3.trans ?_
    show Sq p e below m T3 37 #[rv a, .unset] [.int 0] _
    refine XS.ifYes X3.here hx rfl (pc0 := 37) (pc' := 44) rfl (hb hby d10_37) rfl ((if0 _ _).trans (teq (rfl : (0 : Int32) = (0 : Int32))).1) (by decide) (by decide) ?_
    refine XS.aloadN X3.here hx rfl (hb hby d10_44) rfl rfl ?_
    show Sq p e below m T3 45 #[rv a, .unset] [.ref a] _
    refine st4.trans ?_
    show Sq p e below m T4 50 #[rv a, .unset] [.ref b4r] _
    refine st7 _ ?_
    show Sq p e below m T7 53 #[rv a, .unset] [.ref b7r] _
    jvm_step X7.here [X7.here.top, hx, (hb hby d10_53), X7.method', Bd.returns, Value.isRef, FieldType.isReference]
    first | (intro acts; rw [hr _ acts rfl rfl rfl]) | rw [hr _ _ rfl rfl rfl]
    exact Steps.refl _
  · show Q_lcopy1 Z a b kb x1 w_MIR w_EMPTY h0 n0 _ T7.heap _
    rw [e7]
    exact ⟨b7r, rfl, N7, K9, sz_b7r, p7_2, p7_3⟩
def Q_copyof1 (Z : State) (a : Addr) (b : Addr) (kb : ClassId) (x1 : Addr) (w_MIR : Addr) (w_EMPTY : Addr) (h0 : Heap) (n0 : Nat) (v : Option Value) (h : Heap) (L : List Loc) : Prop := ∃ r : Addr, v = some (.ref r) ∧ Fr n0 L ∧ Keep h0 h [] ∧ h0.size ≤ r ∧ Exa Z h r "java/util/ImmutableCollections$List12" ∧ Fld Z h r "java/util/ImmutableCollections$List12" "e1" "Ljava/lang/Object;" (.ref w_EMPTY)
set_option maxRecDepth 65536 in
set_option maxHeartbeats 40000000 in
theorem copyof1 (l : Launch) (Z : State) (a0 : Array Value) (hw : ∀ d ∈ tables_1, d.before a0 Z = true) (ws : List Jvm.Cond) (a : Addr) (b : Addr) (kb : ClassId) (x1 : Addr) (w_MIR : Addr) (w_EMPTY : Addr) (h0 : Heap) (n0 : Nat) (O : Old Z n0 h0) (Ea : Exa Z h0 a "java/util/ArrayList") (Vb : Arv Z h0 b kb (.object "java/lang/Object") (10 : Int32) [(.ref x1), .null, .null, .null, .null, .null, .null, .null, .null, .null] .null) (Ex : Exa Z Z.heap x1 "java/time/Duration") (Mo : Mirr Z "[Ljava/lang/Object;" w_MIR) (Eb : Exa Z h0 b "[Ljava/lang/Object;") (Fd : Fld Z h0 a "java/util/ArrayList" "elementData" "[Ljava/lang/Object;" (.ref b)) (Fs : Fld Z h0 a "java/util/ArrayList" "size" "I" (.int (1 : Int32))) (S_w_EMPTY : Sta Z Z.heap "java/util/ImmutableCollections" "EMPTY" "Ljava/lang/Object;" (.ref w_EMPTY)) :
    Ctr l Z y_25 jdk_40_method_48_code 1 (some (.object "java/util/List")) ws ({ frames := 7, cells := 2, slots := 9, locals := 88 } : Room) #[(.ref a)] h0 (Q_copyof1 Z a b kb x1 w_MIR w_EMPTY h0 n0) := by
  refine MetFree.of_bodySF (plainFor_of_name pn_7) hisR ?_
  intro p e s m args below meth c s₁ Bd hml0 hP hK
  obtain ⟨rfl, hZ, hh⟩ := hP
  have W := fun (i : Nat) {d : Jvm.Cond} (h : tables_1[i]? = some d) => hw d (List.mem_of_getElem? h)
  have hx := Bd.exec
  have hby := Bd.bytes
  have hml : c.maxLocals = 1 := hml0
  have hown : s.vm.findClass "java/util/List" = some m.cls := findClass_of_methodNamed Bd.named
  have hnm := (name_of_methodNamed Bd.named Bd.method).1
  have X0 : Stand p l e ({ frames := 7, cells := 2, slots := 9, locals := 88 } : Room) s m #[(.ref a)] below meth c s₁ [] 0 0 := Stand.of_body Bd
  have e0 : s₁.heap = h0 := by rw [← hh, Bd.state]; rfl
  have N0 := Fr.nil n0
  have pre0 : ∀ t, Steps p.tables e below (s₁.setTop (mkF m 0 #[.val (.ref a)] [])) t → Steps p.tables e below (s₁.setTop (entryFrame m #[(.ref a)] 1)) t := fun t kk_ => castTop (ef_25 m a) kk_
  have K0 := Keep.refl h0 []
  obtain ⟨_, _, ⟨T1, L1, k1, n1⟩, -, X1, ⟨Lc1, hQ1, l1, y1, z1⟩, st1⟩ := Jvm.LawKit.callS X0 hx (y := y_24) hown (mvT hZ (W 65 rfl)) (mvT hZ (W 66 rfl)) (mvT hZ (W 67 rfl)) (mvT hZ (W 68 rfl)) (by decide) (backOf (W := 0) (lcopy1 l Z a0 hw [] a b kb x1 w_MIR w_EMPTY h0 n0 O Ea Vb Ex Mo Eb Fd Fs S_w_EMPTY) hZ (W 68 rfl) (W 67 rfl) (by decide) (by decide)) (g := (mkF m 1 #[rv a] [.ref a])) rfl (by rw [hml]; rfl) (argsL := [.ref a]) (rest := []) (lenOf pd_10 rfl) rfl (by show 2 * 0 + _ ≤ _; exact Nat.le_of_eq rfl) (hb hby d9_1) (fun _ _ => ⟨rfl, e0, (by decide : 0 + 2 ≤ _), (by decide : 0 + 9 ≤ _)⟩)
  dsimp only [Pt.U, Pt.locs, Pt.cells, Pt.slots] at X1 l1 y1 z1 st1 hQ1
  subst l1 y1 z1
  obtain ⟨h1, e1⟩ : ∃ z, T1.heap = z := ⟨_, rfl⟩
  rw [e1] at hQ1
  obtain ⟨b1r, rfl, N1q, p1_0, p1_1, p1_2, p1_3⟩ := hQ1
  have N1 := Fr.app N0 N1q
  have sz_b1r : h0.size ≤ b1r := Nat.le_trans K0.1 p1_1
  have K3 := K0.trans p1_0 all0
  obtain ⟨fs, hr, hrun, hended, hW, hsame⟩ := X1.leave (v := some (.ref b1r)) (fun h => by rw [Bd.returns] at h; cases h)
  refine ⟨_, _, pre0 _ ?_, hrun, hended, _, _, rfl, ?_, ⟨_, rfl⟩, hW, hsame.mono (by decide) (by decide)⟩
  · show Sq p e below m s₁ 0 #[rv a] [] _
    refine XS.aloadN X0.here hx rfl (hb hby d9_0) rfl rfl ?_
    show Sq p e below m s₁ 1 #[rv a] [.ref a] _
    refine st1 _ ?_
    show Sq p e below m T1 4 #[rv a] [.ref b1r] _
    jvm_step X1.here [X1.here.top, hx, (hb hby d9_4), X1.method', Bd.returns, Value.isRef, FieldType.isReference]
    first | (intro acts; rw [hr _ acts rfl rfl rfl]) | rw [hr _ _ rfl rfl rfl]
    exact Steps.refl _
  · show Q_copyof1 Z a b kb x1 w_MIR w_EMPTY h0 n0 _ T1.heap _
    rw [e1]
    exact ⟨b1r, rfl, N1, K3, sz_b1r, p1_2, p1_3⟩
theorem d25_45 : decode jdk_40_method_47_code 45 = .ok (.new 96, 3) := by decide +kernel
theorem d25_48 : decode jdk_40_method_47_code 48 = .ok (.dup, 1) := by decide +kernel
theorem d25_49 : decode jdk_40_method_47_code 49 = .ok (.aload_n 0, 1) := by decide +kernel
theorem d25_50 : decode jdk_40_method_47_code 50 = .ok (.iconst 0, 1) := by decide +kernel
theorem d25_51 : decode jdk_40_method_47_code 51 = .ok (.aaload, 1) := by decide +kernel
theorem d25_52 : decode jdk_40_method_47_code 52 = .ok (.aload_n 0, 1) := by decide +kernel
theorem d25_53 : decode jdk_40_method_47_code 53 = .ok (.iconst 1, 1) := by decide +kernel
theorem d25_54 : decode jdk_40_method_47_code 54 = .ok (.aaload, 1) := by decide +kernel
theorem d25_55 : decode jdk_40_method_47_code 55 = .ok (.invokespecial 100, 3) := by decide +kernel
theorem pd_13 : parseMethodDescriptor "(Ljava/lang/Object;Ljava/lang/Object;)V" = some ⟨[(.object "java/lang/Object"), (.object "java/lang/Object")], none⟩ := by decide +kernel
theorem d25_58 : decode jdk_40_method_47_code 58 = .ok (.areturn, 1) := by decide +kernel
def Q_ofarr2 (Z : State) (r0 : Addr) (k0 : ClassId) (x1 : Addr) (h0 : Heap) (n0 : Nat) (v : Option Value) (h : Heap) (L : List Loc) : Prop := ∃ r : Addr, v = some (.ref r) ∧ Fr n0 L ∧ Keep h0 h [] ∧ h0.size ≤ r ∧ Exa Z h r "java/util/ImmutableCollections$List12" ∧ Fld Z h r "java/util/ImmutableCollections$List12" "e1" "Ljava/lang/Object;" (.ref x1)
set_option maxRecDepth 65536 in
set_option maxHeartbeats 40000000 in
theorem ofarr2 (l : Launch) (Z : State) (a0 : Array Value) (hw : ∀ d ∈ tables_1, d.before a0 Z = true) (ws : List Jvm.Cond) (r0 : Addr) (k0 : ClassId) (x1 : Addr) (h0 : Heap) (n0 : Nat) (O : Old Z n0 h0) (Vr : Arv Z h0 r0 k0 (.object "java/lang/Object") (2 : Int32) [(.ref x1), (.ref x1)] .null) (Ex : Exa Z Z.heap x1 "java/time/Duration") :
    Ctr l Z y_26 jdk_40_method_47_code 2 (some (.object "java/util/List")) ws ({ frames := 5, cells := 1, slots := 2, locals := 63 } : Room) #[(.ref r0)] h0 (Q_ofarr2 Z r0 k0 x1 h0 n0) := by
  refine MetFree.of_bodySF (plainFor_of_name pn_7) hisR ?_
  intro p e s m args below meth c s₁ Bd hml0 hP hK
  obtain ⟨rfl, hZ, hh⟩ := hP
  have W := fun (i : Nat) {d : Jvm.Cond} (h : tables_1[i]? = some d) => hw d (List.mem_of_getElem? h)
  have hx := Bd.exec
  have hby := Bd.bytes
  have hml : c.maxLocals = 2 := hml0
  have hown : s.vm.findClass "java/util/List" = some m.cls := findClass_of_methodNamed Bd.named
  have hnm := (name_of_methodNamed Bd.named Bd.method).1
  have X0 : Stand p l e ({ frames := 5, cells := 1, slots := 2, locals := 63 } : Room) s m #[(.ref r0)] below meth c s₁ [] 0 0 := Stand.of_body Bd
  have e0 : s₁.heap = h0 := by rw [← hh, Bd.state]; rfl
  have N0 := Fr.nil n0
  have pre0 : ∀ t, Steps p.tables e below (s₁.setTop (mkF m 0 #[.val (.ref r0), .unset] [])) t → Steps p.tables e below (s₁.setTop (entryFrame m #[(.ref r0)] 2)) t := fun t kk_ => castTop (ef_26 m r0) kk_
  have K0 := Keep.refl h0 []
  obtain ⟨cl1, Ar1, -, S1, Ng1, -, -⟩ := id Vr
  have st1 := X0.arraylength hx (by rw [e0]; exact Ar1.1) (State.isArrayOf_alike hZ.alike Ar1.2.1) (g := (mkF m 1 #[rv r0, .unset] [.ref r0])) rfl rfl (hb hby d25_1)
  rw [len_of S1 Ng1] at st1
  obtain ⟨T2, h2, X2, e2, E2, A2, D2, -, st2⟩ := newO X0 hx hZ hown (W 178 rfl) (W 179 rfl) (W 180 rfl) e0 (g := (mkF m 45 #[rv r0, .unset] [])) rfl (hb hby d25_45) (by decide) (by decide)
  obtain ⟨b2, g2⟩ : ∃ z, z = h0.size := ⟨_, rfl⟩
  rw [← g2] at A2 D2 st2
  have g_b2 : n0 ≤ b2 := Nat.le_trans (own_sz O) (Nat.le_of_eq g2.symm)
  have sz_b2 : h0.size ≤ b2 := Nat.le_trans K0.1 (Nat.le_of_eq g2.symm)
  have Vr := Vr.ext E2
  have O3 := O.ext E2
  have K4 := K0.ext E2
  have Fz5 : Fld Z h2 b2 "java/util/ImmutableCollections$List12" "e0" "Ljava/lang/Object;" .null := D2 (Or.inr (W 204 rfl)) (ty := (.object "java/lang/Object")) (by decide)
  have Fz6 : Fld Z h2 b2 "java/util/ImmutableCollections$List12" "e1" "Ljava/lang/Object;" .null := D2 (Or.inr (W 207 rfl)) (ty := (.object "java/lang/Object")) (by decide)
  obtain ⟨cl7, Ar7, q7, S7, Ng7, Hh7, Gg7⟩ := id Vr
  have st7 := X2.aaload hx (j := (0 : Int32)) (v := (.ref x1)) (by rw [e2]; exact Ar7.1) (State.isArrayOf_alike hZ.alike Ar7.2.1) rfl Ar7.2.2 (inb_of S7 (by decide)) (Hh7.at (inb_of S7 (by decide)) rfl) (g := (mkF m 51 #[rv r0, .unset] [.int 0, .ref r0, .ref b2, .ref b2])) rfl rfl (hb hby d25_51)
  obtain ⟨cl8, Ar8, q8, S8, Ng8, Hh8, Gg8⟩ := id Vr
  have st8 := X2.aaload hx (j := (1 : Int32)) (v := (.ref x1)) (by rw [e2]; exact Ar8.1) (State.isArrayOf_alike hZ.alike Ar8.2.1) rfl Ar8.2.2 (inb_of S8 (by decide)) (Hh8.at (inb_of S8 (by decide)) rfl) (g := (mkF m 54 #[rv r0, .unset] [.int 1, .ref r0, .ref x1, .ref b2, .ref b2])) rfl rfl (hb hby d25_54)
  obtain ⟨_, _, ⟨T9, L9, k9, n9⟩, -, X9, ⟨Lc9, hQ9, l9, y9, z9⟩, st9⟩ := X2.specialBack hx (y := y_12) rfl hown (mvT hZ (W 226 rfl)) (mvT hZ (W 227 rfl)) (mvT hZ (W 228 rfl)) (by decide) (backOf (W := 1) (l2init l Z a0 hw [] b2 x1 x1 h2 n0 O3 A2 Fz5 Fz6 g_b2) hZ (W 228 rfl) (W 180 rfl) (by decide) (by decide)) (g := (mkF m 55 #[rv r0, .unset] [.ref x1, .ref x1, .ref b2, .ref b2])) rfl (by rw [hml]; rfl) (Steps.refl _) (a := b2) (argsL := [.ref x1, .ref x1]) (rest := [.ref b2]) (lenOf pd_13 rfl) rfl (by show 2 * 0 + _ ≤ _; exact Nat.le_of_eq rfl) (hb hby d25_55) (fun _ _ => ⟨rfl, e2, (by decide : 1 + 0 ≤ _), (by decide : 2 + 0 ≤ _)⟩)
  dsimp only [Pt.U, Pt.locs, Pt.cells, Pt.slots] at X9 l9 y9 z9 st9 hQ9
  subst l9 y9 z9
  obtain ⟨h9, e9⟩ : ∃ z, T9.heap = z := ⟨_, rfl⟩
  rw [e9] at hQ9
  obtain ⟨rfl, N9q, p9_0, p9_1, p9_2⟩ := hQ9
  have N9 := Fr.app N0 N9q
  have A2 := A2.keep p9_0
  have K11 := K4.trans p9_0 (allS (Or.inr sz_b2) all0)
  obtain ⟨fs, hr, hrun, hended, hW, hsame⟩ := X9.leave (v := some (.ref b2)) (fun h => by rw [Bd.returns] at h; cases h)
  refine ⟨_, _, pre0 _ ?_, hrun, hended, _, _, rfl, ?_, ⟨_, rfl⟩, hW, hsame.mono (by decide) (by decide)⟩
  · show Sq p e below m s₁ 0 #[rv r0, .unset] [] _
    refine XS.aloadN X0.here hx rfl (hb hby d25_0) rfl rfl ?_
    show Sq p e below m s₁ 1 #[rv r0, .unset] [.ref r0] _
    refine st1 _ ?_
    show Sq p e below m s₁ 2 #[rv r0, .unset] [.int 2] _
    refine XS.tswIn X0.here hx rfl (pc0 := 2) (pc' := 45) rfl (hb hby d25_2) rfl (by decide) (o := 43) (by decide) (by decide) (by decide) ?_
    show Sq p e below m s₁ 45 #[rv r0, .unset] [] _
    refine st2 _ ?_
    show Sq p e below m T2 48 #[rv r0, .unset] [.ref b2] _
    refine XS.dup X2.here hx rfl (hb hby d25_48) rfl rfl ?_
    refine XS.aloadN X2.here hx rfl (hb hby d25_49) rfl rfl ?_
    show Sq p e below m T2 50 #[rv r0, .unset] [.ref r0, .ref b2, .ref b2] _
    refine XS.iconst X2.here hx rfl (hb hby d25_50) ?_
    show Sq p e below m T2 51 #[rv r0, .unset] [.int 0, .ref r0, .ref b2, .ref b2] _
    refine st7 _ ?_
    show Sq p e below m T2 52 #[rv r0, .unset] [.ref x1, .ref b2, .ref b2] _
    refine XS.aloadN X2.here hx rfl (hb hby d25_52) rfl rfl ?_
    refine XS.iconst X2.here hx rfl (hb hby d25_53) ?_
    show Sq p e below m T2 54 #[rv r0, .unset] [.int 1, .ref r0, .ref x1, .ref b2, .ref b2] _
    refine st8 _ ?_
    show Sq p e below m T2 55 #[rv r0, .unset] [.ref x1, .ref x1, .ref b2, .ref b2] _
    refine st9.trans ?_
    show Sq p e below m T9 58 #[rv r0, .unset] [.ref b2] _
    jvm_step X9.here [X9.here.top, hx, (hb hby d25_58), X9.method', Bd.returns, Value.isRef, FieldType.isReference]
    first | (intro acts; rw [hr _ acts rfl rfl rfl]) | rw [hr _ _ rfl rfl rfl]
    exact Steps.refl _
  · show Q_ofarr2 Z r0 k0 x1 h0 n0 _ T9.heap _
    rw [e9]
    exact ⟨b2, rfl, N9, K11, sz_b2, A2, p9_2⟩
def Q_lcopy2 (Z : State) (a : Addr) (b : Addr) (kb : ClassId) (x1 : Addr) (w_MIR : Addr) (h0 : Heap) (n0 : Nat) (v : Option Value) (h : Heap) (L : List Loc) : Prop := ∃ r : Addr, v = some (.ref r) ∧ Fr n0 L ∧ Keep h0 h [] ∧ h0.size ≤ r ∧ Exa Z h r "java/util/ImmutableCollections$List12" ∧ Fld Z h r "java/util/ImmutableCollections$List12" "e1" "Ljava/lang/Object;" (.ref x1)
set_option maxRecDepth 65536 in
set_option maxHeartbeats 40000000 in
theorem lcopy2 (l : Launch) (Z : State) (a0 : Array Value) (hw : ∀ d ∈ tables_1, d.before a0 Z = true) (ws : List Jvm.Cond) (a : Addr) (b : Addr) (kb : ClassId) (x1 : Addr) (w_MIR : Addr) (h0 : Heap) (n0 : Nat) (O : Old Z n0 h0) (Ea : Exa Z h0 a "java/util/ArrayList") (Vb : Arv Z h0 b kb (.object "java/lang/Object") (10 : Int32) [(.ref x1), (.ref x1), .null, .null, .null, .null, .null, .null, .null, .null] .null) (Ex : Exa Z Z.heap x1 "java/time/Duration") (Mo : Mirr Z "[Ljava/lang/Object;" w_MIR) (Eb : Exa Z h0 b "[Ljava/lang/Object;") (Fd : Fld Z h0 a "java/util/ArrayList" "elementData" "[Ljava/lang/Object;" (.ref b)) (Fs : Fld Z h0 a "java/util/ArrayList" "size" "I" (.int (2 : Int32))) :
    Ctr l Z y_24 jdk_56_method_3_code 2 (some (.object "java/util/List")) ws ({ frames := 6, cells := 2, slots := 9, locals := 76 } : Room) #[(.ref a)] h0 (Q_lcopy2 Z a b kb x1 w_MIR h0 n0) := by
  refine MetFree.of_bodySF (plainFor_of_name pn_11) hisR ?_
  intro p e s m args below meth c s₁ Bd hml0 hP hK
  obtain ⟨rfl, hZ, hh⟩ := hP
  have W := fun (i : Nat) {d : Jvm.Cond} (h : tables_1[i]? = some d) => hw d (List.mem_of_getElem? h)
  have hx := Bd.exec
  have hby := Bd.bytes
  have hml : c.maxLocals = 2 := hml0
  have hown : s.vm.findClass "java/util/ImmutableCollections" = some m.cls := findClass_of_methodNamed Bd.named
  have hnm := (name_of_methodNamed Bd.named Bd.method).1
  have X0 : Stand p l e ({ frames := 6, cells := 2, slots := 9, locals := 76 } : Room) s m #[(.ref a)] below meth c s₁ [] 0 0 := Stand.of_body Bd
  have e0 : s₁.heap = h0 := by rw [← hh, Bd.state]; rfl
  have N0 := Fr.nil n0
  have pre0 : ∀ t, Steps p.tables e below (s₁.setTop (mkF m 0 #[.val (.ref a), .unset] [])) t → Steps p.tables e below (s₁.setTop (entryFrame m #[(.ref a)] 2)) t := fun t kk_ => castTop (ef_24 m a) kk_
  have K0 := Keep.refl h0 []
  obtain ⟨T1, X1, e1, st1⟩ := instNo X0 hx hZ hown (W 69 rfl) e0 Ea (own_nsno (W 70 rfl) (W 179 rfl) (NS.step (W 70 rfl) (NS.step (W 71 rfl) (NS.step (W 72 rfl) (own_nsroot (W 73 rfl) (W 179 rfl) (by decide)) (by decide)) (by decide)) (by decide)) (by decide)) (g := (mkF m 1 #[rv a, .unset] [.ref a])) rfl rfl (hb hby d10_1)
  obtain ⟨T2, X2, e2, st2⟩ := instNo X1 hx hZ hown (W 74 rfl) e1 Ea (own_nsno (W 70 rfl) (W 215 rfl) (NS.step (W 70 rfl) (NS.step (W 71 rfl) (NS.step (W 72 rfl) (own_nsroot (W 73 rfl) (W 215 rfl) (by decide)) (by decide)) (by decide)) (by decide)) (by decide)) (g := (mkF m 8 #[rv a, .unset] [.ref a])) rfl rfl (hb hby d10_8)
  obtain ⟨cq3, kq3, q3a, q3b, q3c⟩ := isOf hZ e2 Ea
  obtain ⟨_, _, ⟨T3, L3, k3, n3⟩, -, X3, ⟨Lc3, hQ3, l3, y3, z3⟩, st3⟩ := X2.interfaceBack hx (xi := y_23) (y := y_16) hown (mvT hZ (W 75 rfl)) (mvT hZ (W 76 rfl)) (mvT hZ (W 77 rfl)) (mvT hZ (W 78 rfl)) (mvT hZ (W 79 rfl)) (mvT hZ (W 80 rfl)) (mvT hZ (W 81 rfl)) (mvT hZ (W 82 rfl)) (by decide) (backOf (W := 0) (emp1 l Z a0 hw [] a (2 : Int32) h0 n0 O Fs (by decide)) hZ (W 83 rfl) (W 26 rfl) (by decide) (by decide)) q3a q3b q3c (g := (mkF m 32 #[rv a, .unset] [.ref a])) rfl (by rw [hml]; rfl) (Steps.refl _) (argsL := []) (rest := []) (lenOf pd_8 rfl) rfl (by show 2 * 0 + _ ≤ _; exact Nat.le_of_eq rfl) (hb hby d10_32) (fun _ _ => ⟨rfl, e2, (by decide : 0 + 0 ≤ _), (by decide : 0 + 0 ≤ _)⟩)
  dsimp only [Pt.U, Pt.locs, Pt.cells, Pt.slots] at X3 l3 y3 z3 st3 hQ3
  subst l3 y3 z3
  obtain ⟨h3, e3⟩ : ∃ z, T3.heap = z := ⟨_, rfl⟩
  rw [e3] at hQ3
  obtain ⟨rfl, N3q, p3_0⟩ := hQ3
  have N3 := Fr.app N0 N3q
  rw [p3_0] at e3
  obtain ⟨cq4, kq4, q4a, q4b, q4c⟩ := isOf hZ e3 Ea
  obtain ⟨_, _, ⟨T4, L4, k4, n4⟩, -, X4, ⟨Lc4, hQ4, l4, y4, z4⟩, st4⟩ := X3.interfaceBack hx (xi := y_27) (y := y_22) hown (mvT hZ (W 145 rfl)) (mvT hZ (W 146 rfl)) (mvT hZ (W 147 rfl)) (mvT hZ (W 148 rfl)) (mvT hZ (W 149 rfl)) (mvT hZ (W 150 rfl)) (mvT hZ (W 151 rfl)) (mvT hZ (W 82 rfl)) (by decide) (backOf (W := 0) (toarr l Z a0 hw [] a b kb w_MIR (2 : Int32) [(.ref x1), (.ref x1), .null, .null, .null, .null, .null, .null, .null, .null] [(.ref x1), (.ref x1)] h0 n0 O Vb Mo (by decide) (by decide) (Nat.le_of_ble_eq_true rfl) rfl (own_all (n := 2) ⟨x1, rfl, Ex⟩) Eb Fd Fs) hZ (W 152 rfl) (W 26 rfl) (by decide) (by decide)) q4a q4b q4c (g := (mkF m 45 #[rv a, .unset] [.ref a])) rfl (by rw [hml]; rfl) (Steps.refl _) (argsL := []) (rest := []) (lenOf pd_4 rfl) rfl (by show 2 * 0 + _ ≤ _; exact Nat.le_of_eq rfl) (hb hby d10_45) (fun _ _ => ⟨rfl, e3, (by decide : 0 + 1 ≤ _), (by decide : 0 + 7 ≤ _)⟩)
  dsimp only [Pt.U, Pt.locs, Pt.cells, Pt.slots] at X4 l4 y4 z4 st4 hQ4
  subst l4 y4 z4
  obtain ⟨h4, e4⟩ : ∃ z, T4.heap = z := ⟨_, rfl⟩
  rw [e4] at hQ4
  obtain ⟨b4r, b4kr, rfl, N4q, p4_0, p4_1, p4_2, p4_3⟩ := hQ4
  have N4 := Fr.app N3 N4q
  have O5 := O.keep p4_0 all0
  have K6 := K0.trans p4_0 all0
  obtain ⟨_, _, ⟨T7, L7, k7, n7⟩, -, X7, ⟨Lc7, hQ7, l7, y7, z7⟩, st7⟩ := Jvm.LawKit.callS X4 hx (y := y_26) hown (mvT hZ (W 175 rfl)) (mvT hZ (W 176 rfl)) (mvT hZ (W 63 rfl)) (mvT hZ (W 177 rfl)) (by decide) (backOf (W := 0) (ofarr2 l Z a0 hw [] b4r b4kr x1 h4 n0 O5 p4_2 Ex) hZ (W 177 rfl) (W 63 rfl) (by decide) (by decide)) (g := (mkF m 50 #[rv a, .unset] [.ref b4r])) rfl (by rw [hml]; rfl) (argsL := [.ref b4r]) (rest := []) (lenOf pd_12 rfl) rfl (by show 2 * 0 + _ ≤ _; exact Nat.le_of_eq rfl) (hb hby d10_50) (fun _ _ => ⟨rfl, e4, (by decide : 1 + 1 ≤ _), (by decide : 7 + 2 ≤ _)⟩)
  dsimp only [Pt.U, Pt.locs, Pt.cells, Pt.slots] at X7 l7 y7 z7 st7 hQ7
  subst l7 y7 z7
  obtain ⟨h7, e7⟩ : ∃ z, T7.heap = z := ⟨_, rfl⟩
  rw [e7] at hQ7
  obtain ⟨b7r, rfl, N7q, p7_0, p7_1, p7_2, p7_3⟩ := hQ7
  have N7 := Fr.app N4 N7q
  have sz_b7r : h0.size ≤ b7r := Nat.le_trans K6.1 p7_1
  have K9 := K6.trans p7_0 all0
  obtain ⟨fs, hr, hrun, hended, hW, hsame⟩ := X7.leave (v := some (.ref b7r)) (fun h => by rw [Bd.returns] at h; cases h)
  refine ⟨_, _, pre0 _ ?_, hrun, hended, _, _, rfl, ?_, ⟨_, rfl⟩, hW, hsame.mono (by decide) (by decide)⟩
  · show Sq p e below m s₁ 0 #[rv a, .unset] [] _
    refine XS.aloadN X0.here hx rfl (hb hby d10_0) rfl rfl ?_
    show Sq p e below m s₁ 1 #[rv a, .unset] [.ref a] _
    refine st1 _ ?_
    show Sq p e below m T1 4 #[rv a, .unset] [.int 0] _
    refine XS.ifNo X1.here hx rfl (hb hby d10_4) rfl ((if0 _ _).trans (teq (rfl : (0 : Int32) = (0 : Int32))).2) ?_
    refine XS.aloadN X1.here hx rfl (hb hby d10_7) rfl rfl ?_
    show Sq p e below m T1 8 #[rv a, .unset] [.ref a] _
    refine st2 _ ?_
    show Sq p e below m T2 11 #[rv a, .unset] [.int 0] _
    refine XS.ifYes X2.here hx rfl (pc0 := 11) (pc' := 31) rfl (hb hby d10_11) rfl ((if0 _ _).trans (teq (rfl : (0 : Int32) = (0 : Int32))).1) (by decide) (by decide) ?_
    refine XS.aloadN X2.here hx rfl (hb hby d10_31) rfl rfl ?_
    show Sq p e below m T2 32 #[rv a, .unset] [.ref a] _
    refine st3.trans ?_
    show Sq p e below m T3 37 #[rv a, .unset] [.int 0] _
    refine XS.ifYes X3.here hx rfl (pc0 := 37) (pc' := 44) rfl (hb hby d10_37) rfl ((if0 _ _).trans (teq (rfl : (0 : Int32) = (0 : Int32))).1) (by decide) (by decide) ?_
    refine XS.aloadN X3.here hx rfl (hb hby d10_44) rfl rfl ?_
    show Sq p e below m T3 45 #[rv a, .unset] [.ref a] _
    refine st4.trans ?_
    show Sq p e below m T4 50 #[rv a, .unset] [.ref b4r] _
    refine st7 _ ?_
    show Sq p e below m T7 53 #[rv a, .unset] [.ref b7r] _
    jvm_step X7.here [X7.here.top, hx, (hb hby d10_53), X7.method', Bd.returns, Value.isRef, FieldType.isReference]
    first | (intro acts; rw [hr _ acts rfl rfl rfl]) | rw [hr _ _ rfl rfl rfl]
    exact Steps.refl _
  · show Q_lcopy2 Z a b kb x1 w_MIR h0 n0 _ T7.heap _
    rw [e7]
    exact ⟨b7r, rfl, N7, K9, sz_b7r, p7_2, p7_3⟩
def Q_copyof2 (Z : State) (a : Addr) (b : Addr) (kb : ClassId) (x1 : Addr) (w_MIR : Addr) (h0 : Heap) (n0 : Nat) (v : Option Value) (h : Heap) (L : List Loc) : Prop := ∃ r : Addr, v = some (.ref r) ∧ Fr n0 L ∧ Keep h0 h [] ∧ h0.size ≤ r ∧ Exa Z h r "java/util/ImmutableCollections$List12" ∧ Fld Z h r "java/util/ImmutableCollections$List12" "e1" "Ljava/lang/Object;" (.ref x1)
set_option maxRecDepth 65536 in
set_option maxHeartbeats 40000000 in
theorem copyof2 (l : Launch) (Z : State) (a0 : Array Value) (hw : ∀ d ∈ tables_1, d.before a0 Z = true) (ws : List Jvm.Cond) (a : Addr) (b : Addr) (kb : ClassId) (x1 : Addr) (w_MIR : Addr) (h0 : Heap) (n0 : Nat) (O : Old Z n0 h0) (Ea : Exa Z h0 a "java/util/ArrayList") (Vb : Arv Z h0 b kb (.object "java/lang/Object") (10 : Int32) [(.ref x1), (.ref x1), .null, .null, .null, .null, .null, .null, .null, .null] .null) (Ex : Exa Z Z.heap x1 "java/time/Duration") (Mo : Mirr Z "[Ljava/lang/Object;" w_MIR) (Eb : Exa Z h0 b "[Ljava/lang/Object;") (Fd : Fld Z h0 a "java/util/ArrayList" "elementData" "[Ljava/lang/Object;" (.ref b)) (Fs : Fld Z h0 a "java/util/ArrayList" "size" "I" (.int (2 : Int32))) :
    Ctr l Z y_25 jdk_40_method_48_code 1 (some (.object "java/util/List")) ws ({ frames := 7, cells := 2, slots := 9, locals := 89 } : Room) #[(.ref a)] h0 (Q_copyof2 Z a b kb x1 w_MIR h0 n0) := by
  refine MetFree.of_bodySF (plainFor_of_name pn_7) hisR ?_
  intro p e s m args below meth c s₁ Bd hml0 hP hK
  obtain ⟨rfl, hZ, hh⟩ := hP
  have W := fun (i : Nat) {d : Jvm.Cond} (h : tables_1[i]? = some d) => hw d (List.mem_of_getElem? h)
  have hx := Bd.exec
  have hby := Bd.bytes
  have hml : c.maxLocals = 1 := hml0
  have hown : s.vm.findClass "java/util/List" = some m.cls := findClass_of_methodNamed Bd.named
  have hnm := (name_of_methodNamed Bd.named Bd.method).1
  have X0 : Stand p l e ({ frames := 7, cells := 2, slots := 9, locals := 89 } : Room) s m #[(.ref a)] below meth c s₁ [] 0 0 := Stand.of_body Bd
  have e0 : s₁.heap = h0 := by rw [← hh, Bd.state]; rfl
  have N0 := Fr.nil n0
  have pre0 : ∀ t, Steps p.tables e below (s₁.setTop (mkF m 0 #[.val (.ref a)] [])) t → Steps p.tables e below (s₁.setTop (entryFrame m #[(.ref a)] 1)) t := fun t kk_ => castTop (ef_25 m a) kk_
  have K0 := Keep.refl h0 []
  obtain ⟨_, _, ⟨T1, L1, k1, n1⟩, -, X1, ⟨Lc1, hQ1, l1, y1, z1⟩, st1⟩ := Jvm.LawKit.callS X0 hx (y := y_24) hown (mvT hZ (W 65 rfl)) (mvT hZ (W 66 rfl)) (mvT hZ (W 67 rfl)) (mvT hZ (W 68 rfl)) (by decide) (backOf (W := 0) (lcopy2 l Z a0 hw [] a b kb x1 w_MIR h0 n0 O Ea Vb Ex Mo Eb Fd Fs) hZ (W 68 rfl) (W 67 rfl) (by decide) (by decide)) (g := (mkF m 1 #[rv a] [.ref a])) rfl (by rw [hml]; rfl) (argsL := [.ref a]) (rest := []) (lenOf pd_10 rfl) rfl (by show 2 * 0 + _ ≤ _; exact Nat.le_of_eq rfl) (hb hby d9_1) (fun _ _ => ⟨rfl, e0, (by decide : 0 + 2 ≤ _), (by decide : 0 + 9 ≤ _)⟩)
  dsimp only [Pt.U, Pt.locs, Pt.cells, Pt.slots] at X1 l1 y1 z1 st1 hQ1
  subst l1 y1 z1
  obtain ⟨h1, e1⟩ : ∃ z, T1.heap = z := ⟨_, rfl⟩
  rw [e1] at hQ1
  obtain ⟨b1r, rfl, N1q, p1_0, p1_1, p1_2, p1_3⟩ := hQ1
  have N1 := Fr.app N0 N1q
  have sz_b1r : h0.size ≤ b1r := Nat.le_trans K0.1 p1_1
  have K3 := K0.trans p1_0 all0
  obtain ⟨fs, hr, hrun, hended, hW, hsame⟩ := X1.leave (v := some (.ref b1r)) (fun h => by rw [Bd.returns] at h; cases h)
  refine ⟨_, _, pre0 _ ?_, hrun, hended, _, _, rfl, ?_, ⟨_, rfl⟩, hW, hsame.mono (by decide) (by decide)⟩
  · show Sq p e below m s₁ 0 #[rv a] [] _
    refine XS.aloadN X0.here hx rfl (hb hby d9_0) rfl rfl ?_
    show Sq p e below m s₁ 1 #[rv a] [.ref a] _
    refine st1 _ ?_
    show Sq p e below m T1 4 #[rv a] [.ref b1r] _
    jvm_step X1.here [X1.here.top, hx, (hb hby d9_4), X1.method', Bd.returns, Value.isRef, FieldType.isReference]
    first | (intro acts; rw [hr _ acts rfl rfl rfl]) | rw [hr _ _ rfl rfl rfl]
    exact Steps.refl _
  · show Q_copyof2 Z a b kb x1 w_MIR h0 n0 _ T1.heap _
    rw [e1]
    exact ⟨b1r, rfl, N1, K3, sz_b1r, p1_2, p1_3⟩
theorem d30_0 : decode jdk_56_method_4_code 0 = .ok (.aload_n 0, 1) := by decide +kernel
theorem d30_1 : decode jdk_56_method_4_code 1 = .ok (.arraylength, 1) := by decide +kernel
theorem d30_2 : decode jdk_56_method_4_code 2 = .ok (.anewarray 2, 3) := by decide +kernel
theorem d30_5 : decode jdk_56_method_4_code 5 = .ok (.astore_n 1, 1) := by decide +kernel
theorem d30_6 : decode jdk_56_method_4_code 6 = .ok (.iconst 0, 1) := by decide +kernel
theorem d30_7 : decode jdk_56_method_4_code 7 = .ok (.istore_n 2, 1) := by decide +kernel
theorem d30_8 : decode jdk_56_method_4_code 8 = .ok (.iload_n 2, 1) := by decide +kernel
theorem d30_9 : decode jdk_56_method_4_code 9 = .ok (.aload_n 0, 1) := by decide +kernel
theorem d30_10 : decode jdk_56_method_4_code 10 = .ok (.arraylength, 1) := by decide +kernel
theorem d30_11 : decode jdk_56_method_4_code 11 = .ok (.if_icmp .ge 18, 3) := by decide +kernel
theorem d30_14 : decode jdk_56_method_4_code 14 = .ok (.aload_n 1, 1) := by decide +kernel
theorem d30_15 : decode jdk_56_method_4_code 15 = .ok (.iload_n 2, 1) := by decide +kernel
theorem d30_16 : decode jdk_56_method_4_code 16 = .ok (.aload_n 0, 1) := by decide +kernel
theorem d30_17 : decode jdk_56_method_4_code 17 = .ok (.iload_n 2, 1) := by decide +kernel
theorem d30_18 : decode jdk_56_method_4_code 18 = .ok (.aaload, 1) := by decide +kernel
theorem d30_19 : decode jdk_56_method_4_code 19 = .ok (.invokestatic 37, 3) := by decide +kernel
theorem d30_22 : decode jdk_56_method_4_code 22 = .ok (.aastore, 1) := by decide +kernel
theorem d30_23 : decode jdk_56_method_4_code 23 = .ok (.iinc 2 1, 3) := by decide +kernel
theorem d30_26 : decode jdk_56_method_4_code 26 = .ok (.goto (-18), 3) := by decide +kernel
theorem d30_29 : decode jdk_56_method_4_code 29 = .ok (.new 12, 3) := by decide +kernel
theorem d30_32 : decode jdk_56_method_4_code 32 = .ok (.dup, 1) := by decide +kernel
theorem d30_33 : decode jdk_56_method_4_code 33 = .ok (.aload_n 1, 1) := by decide +kernel
theorem d30_34 : decode jdk_56_method_4_code 34 = .ok (.iconst 0, 1) := by decide +kernel
theorem d30_35 : decode jdk_56_method_4_code 35 = .ok (.invokespecial 43, 3) := by decide +kernel
theorem pd_14 : parseMethodDescriptor "([Ljava/lang/Object;Z)V" = some ⟨[(.array (.object "java/lang/Object")), .boolean], none⟩ := by decide +kernel
theorem d30_38 : decode jdk_56_method_4_code 38 = .ok (.areturn, 1) := by decide +kernel
def Q_lfa3 (Z : State) (r0 : Addr) (k0 : ClassId) (x1 : Addr) (h0 : Heap) (n0 : Nat) (v : Option Value) (h : Heap) (L : List Loc) : Prop := ∃ r : Addr, ∃ g : Addr, ∃ kg : ClassId, v = some (.ref r) ∧ Fr n0 L ∧ Keep h0 h [] ∧ h0.size ≤ r ∧ h0.size ≤ g ∧ Exa Z h r "java/util/ImmutableCollections$ListN" ∧ Fld Z h r "java/util/ImmutableCollections$ListN" "elements" "[Ljava/lang/Object;" (.ref g) ∧ Arv Z h g kg (.object "java/lang/Object") (3 : Int32) [(.ref x1), (.ref x1), (.ref x1)] .null
theorem ef_27 (m : MethodId) (x0 : Addr) : entryFrame m #[(.ref x0)] 3 = mkF m 0 #[.val (.ref x0), .unset, .unset] [] := by first | (simp [entryFrame, mkF, argsToLocals, Value.category]; done) | rfl
abbrev y_28 : MethodName := ⟨"java/util/ImmutableCollections", "listFromArray", "([Ljava/lang/Object;)Ljava/util/List;"⟩
set_option maxRecDepth 65536 in
set_option maxHeartbeats 40000000 in
theorem lfa3 (l : Launch) (Z : State) (a0 : Array Value) (hw : ∀ d ∈ tables_1, d.before a0 Z = true) (ws : List Jvm.Cond) (r0 : Addr) (k0 : ClassId) (x1 : Addr) (h0 : Heap) (n0 : Nat) (O : Old Z n0 h0) (Vr : Arv Z h0 r0 k0 (.object "java/lang/Object") (3 : Int32) [(.ref x1), (.ref x1), (.ref x1)] .null) (Ex : Exa Z Z.heap x1 "java/time/Duration") :
    Ctr l Z y_28 jdk_56_method_4_code 3 (some (.object "java/util/List")) ws ({ frames := 5, cells := 2, slots := 5, locals := 63 } : Room) #[(.ref r0)] h0 (Q_lfa3 Z r0 k0 x1 h0 n0) := by
  refine MetFree.of_bodySF (plainFor_of_name pn_11) hisR ?_
  intro p e s m args below meth c s₁ Bd hml0 hP hK
  obtain ⟨rfl, hZ, hh⟩ := hP
  have W := fun (i : Nat) {d : Jvm.Cond} (h : tables_1[i]? = some d) => hw d (List.mem_of_getElem? h)
  have hx := Bd.exec
  have hby := Bd.bytes
  have hml : c.maxLocals = 3 := hml0
  have hown : s.vm.findClass "java/util/ImmutableCollections" = some m.cls := findClass_of_methodNamed Bd.named
  have hnm := (name_of_methodNamed Bd.named Bd.method).1
  have X0 : Stand p l e ({ frames := 5, cells := 2, slots := 5, locals := 63 } : Room) s m #[(.ref r0)] below meth c s₁ [] 0 0 := Stand.of_body Bd
  have e0 : s₁.heap = h0 := by rw [← hh, Bd.state]; rfl
  have N0 := Fr.nil n0
  have pre0 : ∀ t, Steps p.tables e below (s₁.setTop (mkF m 0 #[.val (.ref r0), .unset, .unset] [])) t → Steps p.tables e below (s₁.setTop (entryFrame m #[(.ref r0)] 3)) t := fun t kk_ => castTop (ef_27 m r0) kk_
  have K0 := Keep.refl h0 []
  obtain ⟨cl1, Ar1, -, S1, Ng1, -, -⟩ := id Vr
  have st1 := X0.arraylength hx (by rw [e0]; exact Ar1.1) (State.isArrayOf_alike hZ.alike Ar1.2.1) (g := (mkF m 1 #[rv r0, .unset, .unset] [.ref r0])) rfl rfl (hb hby d30_1)
  rw [len_of S1 Ng1] at st1
  obtain ⟨T2, h2, k2, X2, e2, E2, A2, A2x, Ov2, st2⟩ := newRE X0 hx hZ hown (W 213 rfl) (W 143 rfl) e0 (g := (mkF m 2 #[rv r0, .unset, .unset] [.int 3])) rfl (hb hby d30_2) rfl (by decide) (cap := 3) (by decide) (by decide) (by decide) (by decide) (ad := "[Ljava/lang/Object;") (by decide)
  obtain ⟨b2, g2⟩ : ∃ z, z = h0.size := ⟨_, rfl⟩
  rw [← g2] at A2 A2x st2
  have g_b2 : n0 ≤ b2 := Nat.le_trans (own_sz O) (Nat.le_of_eq g2.symm)
  have sz_b2 : h0.size ≤ b2 := Nat.le_trans K0.1 (Nat.le_of_eq g2.symm)
  have ne_r0_b2 : r0 ≠ b2 := Nat.ne_of_lt (Nat.lt_of_lt_of_le Vr.lt (Nat.le_of_eq g2.symm))
  have Vr := Vr.ext E2
  have O3 := O.ext E2
  have K4 := K0.ext E2
  have V2 : Arv Z h2 b2 k2 (.object "java/lang/Object") (3 : Int32) [.null, .null, .null] .null := (Arv.new A2 (by decide)).pad (pad_rep [] .null 3)
  obtain ⟨cl5, Ar5, -, S5, Ng5, -, -⟩ := id Vr
  have st5 := X2.arraylength hx (by rw [e2]; exact Ar5.1) (State.isArrayOf_alike hZ.alike Ar5.2.1) (g := (mkF m 10 #[rv r0, rv b2, iv 0] [.ref r0, .int 0])) rfl rfl (hb hby d30_10)
  rw [len_of S5 Ng5] at st5
  obtain ⟨cl6, Ar6, q6, S6, Ng6, Hh6, Gg6⟩ := id Vr
  have st6 := X2.aaload hx (j := (0 : Int32)) (v := (.ref x1)) (by rw [e2]; exact Ar6.1) (State.isArrayOf_alike hZ.alike Ar6.2.1) rfl Ar6.2.2 (inb_of S6 (by decide)) (Hh6.at (inb_of S6 (by decide)) rfl) (g := (mkF m 18 #[rv r0, rv b2, iv 0] [.int 0, .ref r0, .int 0, .ref b2])) rfl rfl (hb hby d30_18)
  obtain ⟨_, _, ⟨T7, L7, k7, n7⟩, -, X7, ⟨Lc7, hQ7, l7, y7, z7⟩, st7⟩ := Jvm.LawKit.callS X2 hx (y := y_9) hown (mvT hZ (W 214 rfl)) (mvT hZ (W 200 rfl)) (mvT hZ (W 201 rfl)) (mvT hZ (W 202 rfl)) (by decide) (backOf (W := 2) (rnn l Z a0 hw [] x1 h2 n0 O3 ) hZ (W 202 rfl) (W 201 rfl) (by decide) (by decide)) (g := (mkF m 19 #[rv r0, rv b2, iv 0] [.ref x1, .int 0, .ref b2])) rfl (by rw [hml]; rfl) (argsL := [.ref x1]) (rest := [.int 0, .ref b2]) (lenOf pd_3 rfl) rfl (by show 2 * 0 + _ ≤ _; exact Nat.le_of_eq rfl) (hb hby d30_19) (fun _ _ => ⟨rfl, e2, (by decide : 1 + 0 ≤ _), (by decide : 3 + 0 ≤ _)⟩)
  dsimp only [Pt.U, Pt.locs, Pt.cells, Pt.slots] at X7 l7 y7 z7 st7 hQ7
  subst l7 y7 z7
  obtain ⟨h7, e7⟩ : ∃ z, T7.heap = z := ⟨_, rfl⟩
  rw [e7] at hQ7
  obtain ⟨rfl, N7q, p7_0⟩ := hQ7
  have N7 := Fr.app N0 N7q
  rw [p7_0] at e7
  obtain ⟨cl8, Ar8, q8, S8, Ng8, Hh8, Gg8⟩ := id V2
  obtain ⟨T8, h8, X8, e8, W8, st8⟩ := stR X7 hx hZ e7 Ar8 (j := (0 : Int32)) (inb_of S8 (by decide)) rfl (Sto.ofV Ar8 q8 Ov2 (Ins.of_exa (Ex.ext O3.2) (W 144 rfl))) (g := (mkF m 22 #[rv r0, rv b2, iv 0] [.ref x1, .int 0, .ref b2])) rfl rfl (hb hby d30_22)
  have V8 : Arv Z h8 b2 k2 (.object "java/lang/Object") (3 : Int32) [(.ref x1), .null, .null] .null := Arv.set Ar8 q8 S8 Ng8 Hh8 Gg8 rfl W8 0 rfl (Nat.le_of_ble_eq_true rfl)
  have Vr := Vr.other W8 ne_r0_b2
  have A2x := A2x.wr W8
  have O9 := O3.wr W8 g_b2
  have K10 := K4.wr W8 (Or.inr sz_b2)
  have N11 := Fr.snoc X8 N7 g_b2
  obtain ⟨cl12, Ar12, -, S12, Ng12, -, -⟩ := id Vr
  have st12 := X8.arraylength hx (by rw [e8]; exact Ar12.1) (State.isArrayOf_alike hZ.alike Ar12.2.1) (g := (mkF m 10 #[rv r0, rv b2, iv 1] [.ref r0, .int 1])) rfl rfl (hb hby d30_10)
  rw [len_of S12 Ng12] at st12
  obtain ⟨cl13, Ar13, q13, S13, Ng13, Hh13, Gg13⟩ := id Vr
  have st13 := X8.aaload hx (j := (1 : Int32)) (v := (.ref x1)) (by rw [e8]; exact Ar13.1) (State.isArrayOf_alike hZ.alike Ar13.2.1) rfl Ar13.2.2 (inb_of S13 (by decide)) (Hh13.at (inb_of S13 (by decide)) rfl) (g := (mkF m 18 #[rv r0, rv b2, iv 1] [.int 1, .ref r0, .int 1, .ref b2])) rfl rfl (hb hby d30_18)
  obtain ⟨_, _, ⟨T14, L14, k14, n14⟩, -, X14, ⟨Lc14, hQ14, l14, y14, z14⟩, st14⟩ := Jvm.LawKit.callS X8 hx (y := y_9) hown (mvT hZ (W 214 rfl)) (mvT hZ (W 200 rfl)) (mvT hZ (W 201 rfl)) (mvT hZ (W 202 rfl)) (by decide) (backOf (W := 2) (rnn l Z a0 hw [] x1 h8 n0 O9 ) hZ (W 202 rfl) (W 201 rfl) (by decide) (by decide)) (g := (mkF m 19 #[rv r0, rv b2, iv 1] [.ref x1, .int 1, .ref b2])) rfl (by rw [hml]; rfl) (argsL := [.ref x1]) (rest := [.int 1, .ref b2]) (lenOf pd_3 rfl) rfl (by show 2 * 0 + _ ≤ _; exact Nat.le_of_eq rfl) (hb hby d30_19) (fun _ _ => ⟨rfl, e8, (by decide : 1 + 0 ≤ _), (by decide : 3 + 0 ≤ _)⟩)
  dsimp only [Pt.U, Pt.locs, Pt.cells, Pt.slots] at X14 l14 y14 z14 st14 hQ14
  subst l14 y14 z14
  obtain ⟨h14, e14⟩ : ∃ z, T14.heap = z := ⟨_, rfl⟩
  rw [e14] at hQ14
  obtain ⟨rfl, N14q, p14_0⟩ := hQ14
  have N14 := Fr.app N11 N14q
  rw [p14_0] at e14
  obtain ⟨cl15, Ar15, q15, S15, Ng15, Hh15, Gg15⟩ := id V8
  obtain ⟨T15, h15, X15, e15, W15, st15⟩ := stR X14 hx hZ e14 Ar15 (j := (1 : Int32)) (inb_of S15 (by decide)) rfl (Sto.ofV Ar15 q15 Ov2 (Ins.of_exa (Ex.ext O9.2) (W 144 rfl))) (g := (mkF m 22 #[rv r0, rv b2, iv 1] [.ref x1, .int 1, .ref b2])) rfl rfl (hb hby d30_22)
  have V15 : Arv Z h15 b2 k2 (.object "java/lang/Object") (3 : Int32) [(.ref x1), (.ref x1), .null] .null := Arv.set Ar15 q15 S15 Ng15 Hh15 Gg15 rfl W15 1 rfl (Nat.le_of_ble_eq_true rfl)
  have Vr := Vr.other W15 ne_r0_b2
  have A2x := A2x.wr W15
  have O16 := O9.wr W15 g_b2
  have K17 := K10.wr W15 (Or.inr sz_b2)
  have N18 := Fr.snoc X15 N14 g_b2
  obtain ⟨cl19, Ar19, -, S19, Ng19, -, -⟩ := id Vr
  have st19 := X15.arraylength hx (by rw [e15]; exact Ar19.1) (State.isArrayOf_alike hZ.alike Ar19.2.1) (g := (mkF m 10 #[rv r0, rv b2, iv 2] [.ref r0, .int 2])) rfl rfl (hb hby d30_10)
  rw [len_of S19 Ng19] at st19
  obtain ⟨cl20, Ar20, q20, S20, Ng20, Hh20, Gg20⟩ := id Vr
  have st20 := X15.aaload hx (j := (2 : Int32)) (v := (.ref x1)) (by rw [e15]; exact Ar20.1) (State.isArrayOf_alike hZ.alike Ar20.2.1) rfl Ar20.2.2 (inb_of S20 (by decide)) (Hh20.at (inb_of S20 (by decide)) rfl) (g := (mkF m 18 #[rv r0, rv b2, iv 2] [.int 2, .ref r0, .int 2, .ref b2])) rfl rfl (hb hby d30_18)
  obtain ⟨_, _, ⟨T21, L21, k21, n21⟩, -, X21, ⟨Lc21, hQ21, l21, y21, z21⟩, st21⟩ := Jvm.LawKit.callS X15 hx (y := y_9) hown (mvT hZ (W 214 rfl)) (mvT hZ (W 200 rfl)) (mvT hZ (W 201 rfl)) (mvT hZ (W 202 rfl)) (by decide) (backOf (W := 2) (rnn l Z a0 hw [] x1 h15 n0 O16 ) hZ (W 202 rfl) (W 201 rfl) (by decide) (by decide)) (g := (mkF m 19 #[rv r0, rv b2, iv 2] [.ref x1, .int 2, .ref b2])) rfl (by rw [hml]; rfl) (argsL := [.ref x1]) (rest := [.int 2, .ref b2]) (lenOf pd_3 rfl) rfl (by show 2 * 0 + _ ≤ _; exact Nat.le_of_eq rfl) (hb hby d30_19) (fun _ _ => ⟨rfl, e15, (by decide : 1 + 0 ≤ _), (by decide : 3 + 0 ≤ _)⟩)
  dsimp only [Pt.U, Pt.locs, Pt.cells, Pt.slots] at X21 l21 y21 z21 st21 hQ21
  subst l21 y21 z21
  obtain ⟨h21, e21⟩ : ∃ z, T21.heap = z := ⟨_, rfl⟩
  rw [e21] at hQ21
  obtain ⟨rfl, N21q, p21_0⟩ := hQ21
  have N21 := Fr.app N18 N21q
  rw [p21_0] at e21
  obtain ⟨cl22, Ar22, q22, S22, Ng22, Hh22, Gg22⟩ := id V15
  obtain ⟨T22, h22, X22, e22, W22, st22⟩ := stR X21 hx hZ e21 Ar22 (j := (2 : Int32)) (inb_of S22 (by decide)) rfl (Sto.ofV Ar22 q22 Ov2 (Ins.of_exa (Ex.ext O16.2) (W 144 rfl))) (g := (mkF m 22 #[rv r0, rv b2, iv 2] [.ref x1, .int 2, .ref b2])) rfl rfl (hb hby d30_22)
  have V22 : Arv Z h22 b2 k2 (.object "java/lang/Object") (3 : Int32) [(.ref x1), (.ref x1), (.ref x1)] .null := Arv.set Ar22 q22 S22 Ng22 Hh22 Gg22 rfl W22 2 rfl (Nat.le_of_ble_eq_true rfl)
  have Vr := Vr.other W22 ne_r0_b2
  have A2x := A2x.wr W22
  have O23 := O16.wr W22 g_b2
  have K24 := K17.wr W22 (Or.inr sz_b2)
  have N25 := Fr.snoc X22 N21 g_b2
  obtain ⟨cl26, Ar26, -, S26, Ng26, -, -⟩ := id Vr
  have st26 := X22.arraylength hx (by rw [e22]; exact Ar26.1) (State.isArrayOf_alike hZ.alike Ar26.2.1) (g := (mkF m 10 #[rv r0, rv b2, iv 3] [.ref r0, .int 3])) rfl rfl (hb hby d30_10)
  rw [len_of S26 Ng26] at st26
  obtain ⟨T27, h27, X27, e27, E27, A27, D27, -, st27⟩ := newO X22 hx hZ hown (W 74 rfl) (W 215 rfl) (W 18 rfl) e22 (g := (mkF m 29 #[rv r0, rv b2, iv 3] [])) rfl (hb hby d30_29) (by decide) (by decide)
  obtain ⟨b27, g27⟩ : ∃ z, z = h22.size := ⟨_, rfl⟩
  rw [← g27] at A27 D27 st27
  have g_b27 : n0 ≤ b27 := Nat.le_trans (own_sz O23) (Nat.le_of_eq g27.symm)
  have sz_b27 : h0.size ≤ b27 := Nat.le_trans K24.1 (Nat.le_of_eq g27.symm)
  have ne_b2_b27 : b2 ≠ b27 := Nat.ne_of_lt (Nat.lt_of_lt_of_le A2x.lt (Nat.le_of_eq g27.symm))
  have V22 := V22.ext E27
  have O28 := O23.ext E27
  have K29 := K24.ext E27
  have Fz30 : Fld Z h27 b27 "java/util/ImmutableCollections$ListN" "elements" "[Ljava/lang/Object;" .null := D27 (Or.inr (W 21 rfl)) (ty := (.array (.object "java/lang/Object"))) (by decide)
  have Fz31 : Fld Z h27 b27 "java/util/ImmutableCollections$ListN" "allowNulls" "Z" (.int (0 : Int32)) := D27 (Or.inr (W 225 rfl)) (ty := .boolean) (by decide)
  obtain ⟨_, _, ⟨T32, L32, k32, n32⟩, -, X32, ⟨Lc32, hQ32, l32, y32, z32⟩, st32⟩ := X27.specialBackNest hx (y := y_13) rfl hown (own_mvNest hZ (W 216 rfl)) (mvT hZ (W 217 rfl)) (mvT hZ (W 219 rfl)) (by decide) (backOf (W := 1) (lninit l Z a0 hw [] b27 b2 h27 n0 O28 A27 Fz30 Fz31 g_b27) hZ (W 219 rfl) (W 18 rfl) (by decide) (by decide)) (g := (mkF m 35 #[rv r0, rv b2, iv 3] [.int 0, .ref b2, .ref b27, .ref b27])) rfl (by rw [hml]; rfl) (Steps.refl _) (a := b27) (argsL := [.ref b2, .int 0]) (rest := [.ref b27]) (lenOf pd_14 rfl) rfl (by show 2 * 0 + _ ≤ _; exact Nat.le_of_eq rfl) (hb hby d30_35) (fun _ _ => ⟨rfl, e27, (by decide : 2 + 0 ≤ _), (by decide : 5 + 0 ≤ _)⟩)
  dsimp only [Pt.U, Pt.locs, Pt.cells, Pt.slots] at X32 l32 y32 z32 st32 hQ32
  subst l32 y32 z32
  obtain ⟨h32, e32⟩ : ∃ z, T32.heap = z := ⟨_, rfl⟩
  rw [e32] at hQ32
  obtain ⟨rfl, N32q, p32_0, p32_1, p32_2⟩ := hQ32
  have N32 := Fr.app N25 N32q
  have V22 := V22.keep p32_0 (ninS ne_b2_b27 nin0)
  have A27 := A27.keep p32_0
  have K34 := K29.trans p32_0 (allS (Or.inr sz_b27) all0)
  obtain ⟨fs, hr, hrun, hended, hW, hsame⟩ := X32.leave (v := some (.ref b27)) (fun h => by rw [Bd.returns] at h; cases h)
  refine ⟨_, _, pre0 _ ?_, hrun, hended, _, _, rfl, ?_, ⟨_, rfl⟩, hW, hsame.mono (by decide) (by decide)⟩
  · show Sq p e below m s₁ 0 #[rv r0, .unset, .unset] [] _
    refine XS.aloadN X0.here hx rfl (hb hby d30_0) rfl rfl ?_
    show Sq p e below m s₁ 1 #[rv r0, .unset, .unset] [.ref r0] _
    refine st1 _ ?_
    show Sq p e below m s₁ 2 #[rv r0, .unset, .unset] [.int 3] _
    refine st2 _ ?_
    show Sq p e below m T2 5 #[rv r0, .unset, .unset] [.ref b2] _
    refine XS.astoreN X2.here hx rfl (hb hby d30_5) rfl rfl rfl ?_
    refine XS.iconst X2.here hx rfl (hb hby d30_6) ?_
    show Sq p e below m T2 7 #[rv r0, rv b2, .unset] [.int 0] _
    refine XS.istoreN X2.here hx rfl (hb hby d30_7) rfl rfl ?_
    refine XS.iloadN X2.here hx rfl (hb hby d30_8) rfl ?_
    show Sq p e below m T2 9 #[rv r0, rv b2, iv 0] [.int 0] _
    refine XS.aloadN X2.here hx rfl (hb hby d30_9) rfl rfl ?_
    show Sq p e below m T2 10 #[rv r0, rv b2, iv 0] [.ref r0, .int 0] _
    refine st5 _ ?_
    show Sq p e below m T2 11 #[rv r0, rv b2, iv 0] [.int 3, .int 0] _
    refine XS.icmpNo X2.here hx rfl (hb hby d30_11) rfl (tlt (by decide)).2.1 ?_
    refine XS.aloadN X2.here hx rfl (hb hby d30_14) rfl rfl ?_
    show Sq p e below m T2 15 #[rv r0, rv b2, iv 0] [.ref b2] _
    refine XS.iloadN X2.here hx rfl (hb hby d30_15) rfl ?_
    refine XS.aloadN X2.here hx rfl (hb hby d30_16) rfl rfl ?_
    show Sq p e below m T2 17 #[rv r0, rv b2, iv 0] [.ref r0, .int 0, .ref b2] _
    refine XS.iloadN X2.here hx rfl (hb hby d30_17) rfl ?_
    show Sq p e below m T2 18 #[rv r0, rv b2, iv 0] [.int 0, .ref r0, .int 0, .ref b2] _
    refine st6 _ ?_
    show Sq p e below m T2 19 #[rv r0, rv b2, iv 0] [.ref x1, .int 0, .ref b2] _
    refine st7 _ ?_
    show Sq p e below m T7 22 #[rv r0, rv b2, iv 0] [.ref x1, .int 0, .ref b2] _
    refine st8 _ ?_
    show Sq p e below m T8 23 #[rv r0, rv b2, iv 0] [] _
    refine XS.iinc X8.here hx rfl (hb hby d30_23) rfl rfl ?_
    show Sq p e below m T8 26 #[rv r0, rv b2, iv ((0 : Int32) + (1 : Int32))] [] _
    rw [show ((0 : Int32) + (1 : Int32)) = (1 : Int32) from by decide]
    show Sq p e below m T8 26 #[rv r0, rv b2, iv 1] [] _
    refine XS.goto X8.here hx rfl (pc0 := 26) (pc' := 8) rfl (hb hby d30_26) (by decide) (by decide) ?_
    refine XS.iloadN X8.here hx rfl (hb hby d30_8) rfl ?_
    show Sq p e below m T8 9 #[rv r0, rv b2, iv 1] [.int 1] _
    refine XS.aloadN X8.here hx rfl (hb hby d30_9) rfl rfl ?_
    show Sq p e below m T8 10 #[rv r0, rv b2, iv 1] [.ref r0, .int 1] _
    refine st12 _ ?_
    show Sq p e below m T8 11 #[rv r0, rv b2, iv 1] [.int 3, .int 1] _
    refine XS.icmpNo X8.here hx rfl (hb hby d30_11) rfl (tlt (by decide)).2.1 ?_
    refine XS.aloadN X8.here hx rfl (hb hby d30_14) rfl rfl ?_
    show Sq p e below m T8 15 #[rv r0, rv b2, iv 1] [.ref b2] _
    refine XS.iloadN X8.here hx rfl (hb hby d30_15) rfl ?_
    refine XS.aloadN X8.here hx rfl (hb hby d30_16) rfl rfl ?_
    show Sq p e below m T8 17 #[rv r0, rv b2, iv 1] [.ref r0, .int 1, .ref b2] _
    refine XS.iloadN X8.here hx rfl (hb hby d30_17) rfl ?_
    show Sq p e below m T8 18 #[rv r0, rv b2, iv 1] [.int 1, .ref r0, .int 1, .ref b2] _
    refine st13 _ ?_
    show Sq p e below m T8 19 #[rv r0, rv b2, iv 1] [.ref x1, .int 1, .ref b2] _
    refine st14 _ ?_
    show Sq p e below m T14 22 #[rv r0, rv b2, iv 1] [.ref x1, .int 1, .ref b2] _
    refine st15 _ ?_
    show Sq p e below m T15 23 #[rv r0, rv b2, iv 1] [] _
    refine XS.iinc X15.here hx rfl (hb hby d30_23) rfl rfl ?_
    show Sq p e below m T15 26 #[rv r0, rv b2, iv ((1 : Int32) + (1 : Int32))] [] _
    rw [show ((1 : Int32) + (1 : Int32)) = (2 : Int32) from by decide]
    show Sq p e below m T15 26 #[rv r0, rv b2, iv 2] [] _
    refine XS.goto X15.here hx rfl (pc0 := 26) (pc' := 8) rfl (hb hby d30_26) (by decide) (by decide) ?_
    refine XS.iloadN X15.here hx rfl (hb hby d30_8) rfl ?_
    show Sq p e below m T15 9 #[rv r0, rv b2, iv 2] [.int 2] _
    refine XS.aloadN X15.here hx rfl (hb hby d30_9) rfl rfl ?_
    show Sq p e below m T15 10 #[rv r0, rv b2, iv 2] [.ref r0, .int 2] _
    refine st19 _ ?_
    show Sq p e below m T15 11 #[rv r0, rv b2, iv 2] [.int 3, .int 2] _
    refine XS.icmpNo X15.here hx rfl (hb hby d30_11) rfl (tlt (by decide)).2.1 ?_
    refine XS.aloadN X15.here hx rfl (hb hby d30_14) rfl rfl ?_
    show Sq p e below m T15 15 #[rv r0, rv b2, iv 2] [.ref b2] _
    refine XS.iloadN X15.here hx rfl (hb hby d30_15) rfl ?_
    refine XS.aloadN X15.here hx rfl (hb hby d30_16) rfl rfl ?_
    show Sq p e below m T15 17 #[rv r0, rv b2, iv 2] [.ref r0, .int 2, .ref b2] _
    refine XS.iloadN X15.here hx rfl (hb hby d30_17) rfl ?_
    show Sq p e below m T15 18 #[rv r0, rv b2, iv 2] [.int 2, .ref r0, .int 2, .ref b2] _
    refine st20 _ ?_
    show Sq p e below m T15 19 #[rv r0, rv b2, iv 2] [.ref x1, .int 2, .ref b2] _
    refine st21 _ ?_
    show Sq p e below m T21 22 #[rv r0, rv b2, iv 2] [.ref x1, .int 2, .ref b2] _
    refine st22 _ ?_
    show Sq p e below m T22 23 #[rv r0, rv b2, iv 2] [] _
    refine XS.iinc X22.here hx rfl (hb hby d30_23) rfl rfl ?_
    show Sq p e below m T22 26 #[rv r0, rv b2, iv ((2 : Int32) + (1 : Int32))] [] _
    rw [show ((2 : Int32) + (1 : Int32)) = (3 : Int32) from by decide]
    show Sq p e below m T22 26 #[rv r0, rv b2, iv 3] [] _
    refine XS.goto X22.here hx rfl (pc0 := 26) (pc' := 8) rfl (hb hby d30_26) (by decide) (by decide) ?_
    refine XS.iloadN X22.here hx rfl (hb hby d30_8) rfl ?_
    show Sq p e below m T22 9 #[rv r0, rv b2, iv 3] [.int 3] _
    refine XS.aloadN X22.here hx rfl (hb hby d30_9) rfl rfl ?_
    show Sq p e below m T22 10 #[rv r0, rv b2, iv 3] [.ref r0, .int 3] _
    refine st26 _ ?_
    show Sq p e below m T22 11 #[rv r0, rv b2, iv 3] [.int 3, .int 3] _
    refine XS.icmpYes X22.here hx rfl (pc0 := 11) (pc' := 29) rfl (hb hby d30_11) rfl (flt (by decide)).2.1 (by decide) (by decide) ?_
    show Sq p e below m T22 29 #[rv r0, rv b2, iv 3] [] _
    refine st27 _ ?_
    show Sq p e below m T27 32 #[rv r0, rv b2, iv 3] [.ref b27] _
    refine XS.dup X27.here hx rfl (hb hby d30_32) rfl rfl ?_
    refine XS.aloadN X27.here hx rfl (hb hby d30_33) rfl rfl ?_
    show Sq p e below m T27 34 #[rv r0, rv b2, iv 3] [.ref b2, .ref b27, .ref b27] _
    refine XS.iconst X27.here hx rfl (hb hby d30_34) ?_
    show Sq p e below m T27 35 #[rv r0, rv b2, iv 3] [.int 0, .ref b2, .ref b27, .ref b27] _
    refine st32.trans ?_
    show Sq p e below m T32 38 #[rv r0, rv b2, iv 3] [.ref b27] _
    jvm_step X32.here [X32.here.top, hx, (hb hby d30_38), X32.method', Bd.returns, Value.isRef, FieldType.isReference]
    first | (intro acts; rw [hr _ acts rfl rfl rfl]) | rw [hr _ _ rfl rfl rfl]
    exact Steps.refl _
  · show Q_lfa3 Z r0 k0 x1 h0 n0 _ T32.heap _
    rw [e32]
    exact ⟨b27, b2, k2, rfl, N32, K34, sz_b27, sz_b2, A27, p32_1, V22⟩
theorem d25_59 : decode jdk_40_method_47_code 59 = .ok (.aload_n 0, 1) := by decide +kernel
theorem d25_60 : decode jdk_40_method_47_code 60 = .ok (.invokestatic 109, 3) := by decide +kernel
theorem d25_63 : decode jdk_40_method_47_code 63 = .ok (.areturn, 1) := by decide +kernel
def Q_ofarr3 (Z : State) (r0 : Addr) (k0 : ClassId) (x1 : Addr) (h0 : Heap) (n0 : Nat) (v : Option Value) (h : Heap) (L : List Loc) : Prop := ∃ r : Addr, ∃ g : Addr, ∃ kg : ClassId, v = some (.ref r) ∧ Fr n0 L ∧ Keep h0 h [] ∧ h0.size ≤ r ∧ h0.size ≤ g ∧ Exa Z h r "java/util/ImmutableCollections$ListN" ∧ Fld Z h r "java/util/ImmutableCollections$ListN" "elements" "[Ljava/lang/Object;" (.ref g) ∧ Arv Z h g kg (.object "java/lang/Object") (3 : Int32) [(.ref x1), (.ref x1), (.ref x1)] .null
set_option maxRecDepth 65536 in
set_option maxHeartbeats 40000000 in
theorem ofarr3 (l : Launch) (Z : State) (a0 : Array Value) (hw : ∀ d ∈ tables_1, d.before a0 Z = true) (ws : List Jvm.Cond) (r0 : Addr) (k0 : ClassId) (x1 : Addr) (h0 : Heap) (n0 : Nat) (O : Old Z n0 h0) (Vr : Arv Z h0 r0 k0 (.object "java/lang/Object") (3 : Int32) [(.ref x1), (.ref x1), (.ref x1)] .null) (Ex : Exa Z Z.heap x1 "java/time/Duration") :
    Ctr l Z y_26 jdk_40_method_47_code 2 (some (.object "java/util/List")) ws ({ frames := 6, cells := 2, slots := 5, locals := 77 } : Room) #[(.ref r0)] h0 (Q_ofarr3 Z r0 k0 x1 h0 n0) := by
  refine MetFree.of_bodySF (plainFor_of_name pn_7) hisR ?_
  intro p e s m args below meth c s₁ Bd hml0 hP hK
  obtain ⟨rfl, hZ, hh⟩ := hP
  have W := fun (i : Nat) {d : Jvm.Cond} (h : tables_1[i]? = some d) => hw d (List.mem_of_getElem? h)
  have hx := Bd.exec
  have hby := Bd.bytes
  have hml : c.maxLocals = 2 := hml0
  have hown : s.vm.findClass "java/util/List" = some m.cls := findClass_of_methodNamed Bd.named
  have hnm := (name_of_methodNamed Bd.named Bd.method).1
  have X0 : Stand p l e ({ frames := 6, cells := 2, slots := 5, locals := 77 } : Room) s m #[(.ref r0)] below meth c s₁ [] 0 0 := Stand.of_body Bd
  have e0 : s₁.heap = h0 := by rw [← hh, Bd.state]; rfl
  have N0 := Fr.nil n0
  have pre0 : ∀ t, Steps p.tables e below (s₁.setTop (mkF m 0 #[.val (.ref r0), .unset] [])) t → Steps p.tables e below (s₁.setTop (entryFrame m #[(.ref r0)] 2)) t := fun t kk_ => castTop (ef_26 m r0) kk_
  have K0 := Keep.refl h0 []
  obtain ⟨cl1, Ar1, -, S1, Ng1, -, -⟩ := id Vr
  have st1 := X0.arraylength hx (by rw [e0]; exact Ar1.1) (State.isArrayOf_alike hZ.alike Ar1.2.1) (g := (mkF m 1 #[rv r0, .unset] [.ref r0])) rfl rfl (hb hby d25_1)
  rw [len_of S1 Ng1] at st1
  obtain ⟨_, _, ⟨T2, L2, k2, n2⟩, -, X2, ⟨Lc2, hQ2, l2, y2, z2⟩, st2⟩ := Jvm.LawKit.callS X0 hx (y := y_28) hown (mvT hZ (W 210 rfl)) (mvT hZ (W 211 rfl)) (mvT hZ (W 67 rfl)) (mvT hZ (W 212 rfl)) (by decide) (backOf (W := 0) (lfa3 l Z a0 hw [] r0 k0 x1 h0 n0 O Vr Ex) hZ (W 212 rfl) (W 67 rfl) (by decide) (by decide)) (g := (mkF m 60 #[rv r0, .unset] [.ref r0])) rfl (by rw [hml]; rfl) (argsL := [.ref r0]) (rest := []) (lenOf pd_12 rfl) rfl (by show 2 * 0 + _ ≤ _; exact Nat.le_of_eq rfl) (hb hby d25_60) (fun _ _ => ⟨rfl, e0, (by decide : 0 + 2 ≤ _), (by decide : 0 + 5 ≤ _)⟩)
  dsimp only [Pt.U, Pt.locs, Pt.cells, Pt.slots] at X2 l2 y2 z2 st2 hQ2
  subst l2 y2 z2
  obtain ⟨h2, e2⟩ : ∃ z, T2.heap = z := ⟨_, rfl⟩
  rw [e2] at hQ2
  obtain ⟨b2r, b2g, b2kg, rfl, N2q, p2_0, p2_1, p2_2, p2_3, p2_4, p2_5⟩ := hQ2
  have N2 := Fr.app N0 N2q
  have sz_b2r : h0.size ≤ b2r := Nat.le_trans K0.1 p2_1
  have sz_b2g : h0.size ≤ b2g := Nat.le_trans K0.1 p2_2
  have K4 := K0.trans p2_0 all0
  obtain ⟨fs, hr, hrun, hended, hW, hsame⟩ := X2.leave (v := some (.ref b2r)) (fun h => by rw [Bd.returns] at h; cases h)
  refine ⟨_, _, pre0 _ ?_, hrun, hended, _, _, rfl, ?_, ⟨_, rfl⟩, hW, hsame.mono (by decide) (by decide)⟩
  · show Sq p e below m s₁ 0 #[rv r0, .unset] [] _
    refine XS.aloadN X0.here hx rfl (hb hby d25_0) rfl rfl ?_
    show Sq p e below m s₁ 1 #[rv r0, .unset] [.ref r0] _
    refine st1 _ ?_
    show Sq p e below m s₁ 2 #[rv r0, .unset] [.int 3] _
    refine XS.tswOut X0.here hx rfl (pc0 := 2) (pc' := 59) rfl (hb hby d25_2) rfl (by decide) (by decide) (by decide) ?_
    refine XS.aloadN X0.here hx rfl (hb hby d25_59) rfl rfl ?_
    show Sq p e below m s₁ 60 #[rv r0, .unset] [.ref r0] _
    refine st2 _ ?_
    show Sq p e below m T2 63 #[rv r0, .unset] [.ref b2r] _
    jvm_step X2.here [X2.here.top, hx, (hb hby d25_63), X2.method', Bd.returns, Value.isRef, FieldType.isReference]
    first | (intro acts; rw [hr _ acts rfl rfl rfl]) | rw [hr _ _ rfl rfl rfl]
    exact Steps.refl _
  · show Q_ofarr3 Z r0 k0 x1 h0 n0 _ T2.heap _
    rw [e2]
    exact ⟨b2r, b2g, b2kg, rfl, N2, K4, sz_b2r, sz_b2g, p2_3, p2_4, p2_5⟩
def Q_lcopy3 (Z : State) (a : Addr) (b : Addr) (kb : ClassId) (x1 : Addr) (w_MIR : Addr) (h0 : Heap) (n0 : Nat) (v : Option Value) (h : Heap) (L : List Loc) : Prop := ∃ r : Addr, ∃ g : Addr, ∃ kg : ClassId, v = some (.ref r) ∧ Fr n0 L ∧ Keep h0 h [] ∧ h0.size ≤ r ∧ h0.size ≤ g ∧ Exa Z h r "java/util/ImmutableCollections$ListN" ∧ Fld Z h r "java/util/ImmutableCollections$ListN" "elements" "[Ljava/lang/Object;" (.ref g) ∧ Arv Z h g kg (.object "java/lang/Object") (3 : Int32) [(.ref x1), (.ref x1), (.ref x1)] .null
set_option maxRecDepth 65536 in
set_option maxHeartbeats 40000000 in
theorem lcopy3 (l : Launch) (Z : State) (a0 : Array Value) (hw : ∀ d ∈ tables_1, d.before a0 Z = true) (ws : List Jvm.Cond) (a : Addr) (b : Addr) (kb : ClassId) (x1 : Addr) (w_MIR : Addr) (h0 : Heap) (n0 : Nat) (O : Old Z n0 h0) (Ea : Exa Z h0 a "java/util/ArrayList") (Vb : Arv Z h0 b kb (.object "java/lang/Object") (10 : Int32) [(.ref x1), (.ref x1), (.ref x1), .null, .null, .null, .null, .null, .null, .null] .null) (Ex : Exa Z Z.heap x1 "java/time/Duration") (Mo : Mirr Z "[Ljava/lang/Object;" w_MIR) (Eb : Exa Z h0 b "[Ljava/lang/Object;") (Fd : Fld Z h0 a "java/util/ArrayList" "elementData" "[Ljava/lang/Object;" (.ref b)) (Fs : Fld Z h0 a "java/util/ArrayList" "size" "I" (.int (3 : Int32))) :
    Ctr l Z y_24 jdk_56_method_3_code 2 (some (.object "java/util/List")) ws ({ frames := 7, cells := 3, slots := 12, locals := 90 } : Room) #[(.ref a)] h0 (Q_lcopy3 Z a b kb x1 w_MIR h0 n0) := by
  refine MetFree.of_bodySF (plainFor_of_name pn_11) hisR ?_
  intro p e s m args below meth c s₁ Bd hml0 hP hK
  obtain ⟨rfl, hZ, hh⟩ := hP
  have W := fun (i : Nat) {d : Jvm.Cond} (h : tables_1[i]? = some d) => hw d (List.mem_of_getElem? h)
  have hx := Bd.exec
  have hby := Bd.bytes
  have hml : c.maxLocals = 2 := hml0
  have hown : s.vm.findClass "java/util/ImmutableCollections" = some m.cls := findClass_of_methodNamed Bd.named
  have hnm := (name_of_methodNamed Bd.named Bd.method).1
  have X0 : Stand p l e ({ frames := 7, cells := 3, slots := 12, locals := 90 } : Room) s m #[(.ref a)] below meth c s₁ [] 0 0 := Stand.of_body Bd
  have e0 : s₁.heap = h0 := by rw [← hh, Bd.state]; rfl
  have N0 := Fr.nil n0
  have pre0 : ∀ t, Steps p.tables e below (s₁.setTop (mkF m 0 #[.val (.ref a), .unset] [])) t → Steps p.tables e below (s₁.setTop (entryFrame m #[(.ref a)] 2)) t := fun t kk_ => castTop (ef_24 m a) kk_
  have K0 := Keep.refl h0 []
  obtain ⟨T1, X1, e1, st1⟩ := instNo X0 hx hZ hown (W 69 rfl) e0 Ea (own_nsno (W 70 rfl) (W 179 rfl) (NS.step (W 70 rfl) (NS.step (W 71 rfl) (NS.step (W 72 rfl) (own_nsroot (W 73 rfl) (W 179 rfl) (by decide)) (by decide)) (by decide)) (by decide)) (by decide)) (g := (mkF m 1 #[rv a, .unset] [.ref a])) rfl rfl (hb hby d10_1)
  obtain ⟨T2, X2, e2, st2⟩ := instNo X1 hx hZ hown (W 74 rfl) e1 Ea (own_nsno (W 70 rfl) (W 215 rfl) (NS.step (W 70 rfl) (NS.step (W 71 rfl) (NS.step (W 72 rfl) (own_nsroot (W 73 rfl) (W 215 rfl) (by decide)) (by decide)) (by decide)) (by decide)) (by decide)) (g := (mkF m 8 #[rv a, .unset] [.ref a])) rfl rfl (hb hby d10_8)
  obtain ⟨cq3, kq3, q3a, q3b, q3c⟩ := isOf hZ e2 Ea
  obtain ⟨_, _, ⟨T3, L3, k3, n3⟩, -, X3, ⟨Lc3, hQ3, l3, y3, z3⟩, st3⟩ := X2.interfaceBack hx (xi := y_23) (y := y_16) hown (mvT hZ (W 75 rfl)) (mvT hZ (W 76 rfl)) (mvT hZ (W 77 rfl)) (mvT hZ (W 78 rfl)) (mvT hZ (W 79 rfl)) (mvT hZ (W 80 rfl)) (mvT hZ (W 81 rfl)) (mvT hZ (W 82 rfl)) (by decide) (backOf (W := 0) (emp1 l Z a0 hw [] a (3 : Int32) h0 n0 O Fs (by decide)) hZ (W 83 rfl) (W 26 rfl) (by decide) (by decide)) q3a q3b q3c (g := (mkF m 32 #[rv a, .unset] [.ref a])) rfl (by rw [hml]; rfl) (Steps.refl _) (argsL := []) (rest := []) (lenOf pd_8 rfl) rfl (by show 2 * 0 + _ ≤ _; exact Nat.le_of_eq rfl) (hb hby d10_32) (fun _ _ => ⟨rfl, e2, (by decide : 0 + 0 ≤ _), (by decide : 0 + 0 ≤ _)⟩)
  dsimp only [Pt.U, Pt.locs, Pt.cells, Pt.slots] at X3 l3 y3 z3 st3 hQ3
  subst l3 y3 z3
  obtain ⟨h3, e3⟩ : ∃ z, T3.heap = z := ⟨_, rfl⟩
  rw [e3] at hQ3
  obtain ⟨rfl, N3q, p3_0⟩ := hQ3
  have N3 := Fr.app N0 N3q
  rw [p3_0] at e3
  obtain ⟨cq4, kq4, q4a, q4b, q4c⟩ := isOf hZ e3 Ea
  obtain ⟨_, _, ⟨T4, L4, k4, n4⟩, -, X4, ⟨Lc4, hQ4, l4, y4, z4⟩, st4⟩ := X3.interfaceBack hx (xi := y_27) (y := y_22) hown (mvT hZ (W 145 rfl)) (mvT hZ (W 146 rfl)) (mvT hZ (W 147 rfl)) (mvT hZ (W 148 rfl)) (mvT hZ (W 149 rfl)) (mvT hZ (W 150 rfl)) (mvT hZ (W 151 rfl)) (mvT hZ (W 82 rfl)) (by decide) (backOf (W := 0) (toarr l Z a0 hw [] a b kb w_MIR (3 : Int32) [(.ref x1), (.ref x1), (.ref x1), .null, .null, .null, .null, .null, .null, .null] [(.ref x1), (.ref x1), (.ref x1)] h0 n0 O Vb Mo (by decide) (by decide) (Nat.le_of_ble_eq_true rfl) rfl (own_all (n := 3) ⟨x1, rfl, Ex⟩) Eb Fd Fs) hZ (W 152 rfl) (W 26 rfl) (by decide) (by decide)) q4a q4b q4c (g := (mkF m 45 #[rv a, .unset] [.ref a])) rfl (by rw [hml]; rfl) (Steps.refl _) (argsL := []) (rest := []) (lenOf pd_4 rfl) rfl (by show 2 * 0 + _ ≤ _; exact Nat.le_of_eq rfl) (hb hby d10_45) (fun _ _ => ⟨rfl, e3, (by decide : 0 + 1 ≤ _), (by decide : 0 + 7 ≤ _)⟩)
  dsimp only [Pt.U, Pt.locs, Pt.cells, Pt.slots] at X4 l4 y4 z4 st4 hQ4
  subst l4 y4 z4
  obtain ⟨h4, e4⟩ : ∃ z, T4.heap = z := ⟨_, rfl⟩
  rw [e4] at hQ4
  obtain ⟨b4r, b4kr, rfl, N4q, p4_0, p4_1, p4_2, p4_3⟩ := hQ4
  have N4 := Fr.app N3 N4q
  have O5 := O.keep p4_0 all0
  have K6 := K0.trans p4_0 all0
  obtain ⟨_, _, ⟨T7, L7, k7, n7⟩, -, X7, ⟨Lc7, hQ7, l7, y7, z7⟩, st7⟩ := Jvm.LawKit.callS X4 hx (y := y_26) hown (mvT hZ (W 175 rfl)) (mvT hZ (W 176 rfl)) (mvT hZ (W 63 rfl)) (mvT hZ (W 177 rfl)) (by decide) (backOf (W := 0) (ofarr3 l Z a0 hw [] b4r b4kr x1 h4 n0 O5 p4_2 Ex) hZ (W 177 rfl) (W 63 rfl) (by decide) (by decide)) (g := (mkF m 50 #[rv a, .unset] [.ref b4r])) rfl (by rw [hml]; rfl) (argsL := [.ref b4r]) (rest := []) (lenOf pd_12 rfl) rfl (by show 2 * 0 + _ ≤ _; exact Nat.le_of_eq rfl) (hb hby d10_50) (fun _ _ => ⟨rfl, e4, (by decide : 1 + 2 ≤ _), (by decide : 7 + 5 ≤ _)⟩)
  dsimp only [Pt.U, Pt.locs, Pt.cells, Pt.slots] at X7 l7 y7 z7 st7 hQ7
  subst l7 y7 z7
  obtain ⟨h7, e7⟩ : ∃ z, T7.heap = z := ⟨_, rfl⟩
  rw [e7] at hQ7
  obtain ⟨b7r, b7g, b7kg, rfl, N7q, p7_0, p7_1, p7_2, p7_3, p7_4, p7_5⟩ := hQ7
  have N7 := Fr.app N4 N7q
  have sz_b7r : h0.size ≤ b7r := Nat.le_trans K6.1 p7_1
  have sz_b7g : h0.size ≤ b7g := Nat.le_trans K6.1 p7_2
  have K9 := K6.trans p7_0 all0
  obtain ⟨fs, hr, hrun, hended, hW, hsame⟩ := X7.leave (v := some (.ref b7r)) (fun h => by rw [Bd.returns] at h; cases h)
  refine ⟨_, _, pre0 _ ?_, hrun, hended, _, _, rfl, ?_, ⟨_, rfl⟩, hW, hsame.mono (by decide) (by decide)⟩
  · show Sq p e below m s₁ 0 #[rv a, .unset] [] _
    refine XS.aloadN X0.here hx rfl (hb hby d10_0) rfl rfl ?_
    show Sq p e below m s₁ 1 #[rv a, .unset] [.ref a] _
    refine st1 _ ?_
    show Sq p e below m T1 4 #[rv a, .unset] [.int 0] _
    refine XS.ifNo X1.here hx rfl (hb hby d10_4) rfl ((if0 _ _).trans (teq (rfl : (0 : Int32) = (0 : Int32))).2) ?_
    refine XS.aloadN X1.here hx rfl (hb hby d10_7) rfl rfl ?_
    show Sq p e below m T1 8 #[rv a, .unset] [.ref a] _
    refine st2 _ ?_
    show Sq p e below m T2 11 #[rv a, .unset] [.int 0] _
    refine XS.ifYes X2.here hx rfl (pc0 := 11) (pc' := 31) rfl (hb hby d10_11) rfl ((if0 _ _).trans (teq (rfl : (0 : Int32) = (0 : Int32))).1) (by decide) (by decide) ?_
    refine XS.aloadN X2.here hx rfl (hb hby d10_31) rfl rfl ?_
    show Sq p e below m T2 32 #[rv a, .unset] [.ref a] _
    refine st3.trans ?_
    show Sq p e below m T3 37 #[rv a, .unset] [.int 0] _
    refine XS.ifYes X3.here hx rfl (pc0 := 37) (pc' := 44) rfl (hb hby d10_37) rfl ((if0 _ _).trans (teq (rfl : (0 : Int32) = (0 : Int32))).1) (by decide) (by decide) ?_
    refine XS.aloadN X3.here hx rfl (hb hby d10_44) rfl rfl ?_
    show Sq p e below m T3 45 #[rv a, .unset] [.ref a] _
    refine st4.trans ?_
    show Sq p e below m T4 50 #[rv a, .unset] [.ref b4r] _
    refine st7 _ ?_
    show Sq p e below m T7 53 #[rv a, .unset] [.ref b7r] _
    jvm_step X7.here [X7.here.top, hx, (hb hby d10_53), X7.method', Bd.returns, Value.isRef, FieldType.isReference]
    first | (intro acts; rw [hr _ acts rfl rfl rfl]) | rw [hr _ _ rfl rfl rfl]
    exact Steps.refl _
  · show Q_lcopy3 Z a b kb x1 w_MIR h0 n0 _ T7.heap _
    rw [e7]
    exact ⟨b7r, b7g, b7kg, rfl, N7, K9, sz_b7r, sz_b7g, p7_3, p7_4, p7_5⟩
def Q_copyof3 (Z : State) (a : Addr) (b : Addr) (kb : ClassId) (x1 : Addr) (w_MIR : Addr) (h0 : Heap) (n0 : Nat) (v : Option Value) (h : Heap) (L : List Loc) : Prop := ∃ r : Addr, ∃ g : Addr, ∃ kg : ClassId, v = some (.ref r) ∧ Fr n0 L ∧ Keep h0 h [] ∧ h0.size ≤ r ∧ h0.size ≤ g ∧ Exa Z h r "java/util/ImmutableCollections$ListN" ∧ Fld Z h r "java/util/ImmutableCollections$ListN" "elements" "[Ljava/lang/Object;" (.ref g) ∧ Arv Z h g kg (.object "java/lang/Object") (3 : Int32) [(.ref x1), (.ref x1), (.ref x1)] .null
set_option maxRecDepth 65536 in
set_option maxHeartbeats 40000000 in
theorem copyof3 (l : Launch) (Z : State) (a0 : Array Value) (hw : ∀ d ∈ tables_1, d.before a0 Z = true) (ws : List Jvm.Cond) (a : Addr) (b : Addr) (kb : ClassId) (x1 : Addr) (w_MIR : Addr) (h0 : Heap) (n0 : Nat) (O : Old Z n0 h0) (Ea : Exa Z h0 a "java/util/ArrayList") (Vb : Arv Z h0 b kb (.object "java/lang/Object") (10 : Int32) [(.ref x1), (.ref x1), (.ref x1), .null, .null, .null, .null, .null, .null, .null] .null) (Ex : Exa Z Z.heap x1 "java/time/Duration") (Mo : Mirr Z "[Ljava/lang/Object;" w_MIR) (Eb : Exa Z h0 b "[Ljava/lang/Object;") (Fd : Fld Z h0 a "java/util/ArrayList" "elementData" "[Ljava/lang/Object;" (.ref b)) (Fs : Fld Z h0 a "java/util/ArrayList" "size" "I" (.int (3 : Int32))) :
    Ctr l Z y_25 jdk_40_method_48_code 1 (some (.object "java/util/List")) ws ({ frames := 8, cells := 3, slots := 12, locals := 103 } : Room) #[(.ref a)] h0 (Q_copyof3 Z a b kb x1 w_MIR h0 n0) := by
  refine MetFree.of_bodySF (plainFor_of_name pn_7) hisR ?_
  intro p e s m args below meth c s₁ Bd hml0 hP hK
  obtain ⟨rfl, hZ, hh⟩ := hP
  have W := fun (i : Nat) {d : Jvm.Cond} (h : tables_1[i]? = some d) => hw d (List.mem_of_getElem? h)
  have hx := Bd.exec
  have hby := Bd.bytes
  have hml : c.maxLocals = 1 := hml0
  have hown : s.vm.findClass "java/util/List" = some m.cls := findClass_of_methodNamed Bd.named
  have hnm := (name_of_methodNamed Bd.named Bd.method).1
  have X0 : Stand p l e ({ frames := 8, cells := 3, slots := 12, locals := 103 } : Room) s m #[(.ref a)] below meth c s₁ [] 0 0 := Stand.of_body Bd
  have e0 : s₁.heap = h0 := by rw [← hh, Bd.state]; rfl
  have N0 := Fr.nil n0
  have pre0 : ∀ t, Steps p.tables e below (s₁.setTop (mkF m 0 #[.val (.ref a)] [])) t → Steps p.tables e below (s₁.setTop (entryFrame m #[(.ref a)] 1)) t := fun t kk_ => castTop (ef_25 m a) kk_
  have K0 := Keep.refl h0 []
  obtain ⟨_, _, ⟨T1, L1, k1, n1⟩, -, X1, ⟨Lc1, hQ1, l1, y1, z1⟩, st1⟩ := Jvm.LawKit.callS X0 hx (y := y_24) hown (mvT hZ (W 65 rfl)) (mvT hZ (W 66 rfl)) (mvT hZ (W 67 rfl)) (mvT hZ (W 68 rfl)) (by decide) (backOf (W := 0) (lcopy3 l Z a0 hw [] a b kb x1 w_MIR h0 n0 O Ea Vb Ex Mo Eb Fd Fs) hZ (W 68 rfl) (W 67 rfl) (by decide) (by decide)) (g := (mkF m 1 #[rv a] [.ref a])) rfl (by rw [hml]; rfl) (argsL := [.ref a]) (rest := []) (lenOf pd_10 rfl) rfl (by show 2 * 0 + _ ≤ _; exact Nat.le_of_eq rfl) (hb hby d9_1) (fun _ _ => ⟨rfl, e0, (by decide : 0 + 3 ≤ _), (by decide : 0 + 12 ≤ _)⟩)
  dsimp only [Pt.U, Pt.locs, Pt.cells, Pt.slots] at X1 l1 y1 z1 st1 hQ1
  subst l1 y1 z1
  obtain ⟨h1, e1⟩ : ∃ z, T1.heap = z := ⟨_, rfl⟩
  rw [e1] at hQ1
  obtain ⟨b1r, b1g, b1kg, rfl, N1q, p1_0, p1_1, p1_2, p1_3, p1_4, p1_5⟩ := hQ1
  have N1 := Fr.app N0 N1q
  have sz_b1r : h0.size ≤ b1r := Nat.le_trans K0.1 p1_1
  have sz_b1g : h0.size ≤ b1g := Nat.le_trans K0.1 p1_2
  have K3 := K0.trans p1_0 all0
  obtain ⟨fs, hr, hrun, hended, hW, hsame⟩ := X1.leave (v := some (.ref b1r)) (fun h => by rw [Bd.returns] at h; cases h)
  refine ⟨_, _, pre0 _ ?_, hrun, hended, _, _, rfl, ?_, ⟨_, rfl⟩, hW, hsame.mono (by decide) (by decide)⟩
  · show Sq p e below m s₁ 0 #[rv a] [] _
    refine XS.aloadN X0.here hx rfl (hb hby d9_0) rfl rfl ?_
    show Sq p e below m s₁ 1 #[rv a] [.ref a] _
    refine st1 _ ?_
    show Sq p e below m T1 4 #[rv a] [.ref b1r] _
    jvm_step X1.here [X1.here.top, hx, (hb hby d9_4), X1.method', Bd.returns, Value.isRef, FieldType.isReference]
    first | (intro acts; rw [hr _ acts rfl rfl rfl]) | rw [hr _ _ rfl rfl rfl]
    exact Steps.refl _
  · show Q_copyof3 Z a b kb x1 w_MIR h0 n0 _ T1.heap _
    rw [e1]
    exact ⟨b1r, b1g, b1kg, rfl, N1, K3, sz_b1r, sz_b1g, p1_3, p1_4, p1_5⟩
def Q_lfa4 (Z : State) (r0 : Addr) (k0 : ClassId) (x1 : Addr) (h0 : Heap) (n0 : Nat) (v : Option Value) (h : Heap) (L : List Loc) : Prop := ∃ r : Addr, ∃ g : Addr, ∃ kg : ClassId, v = some (.ref r) ∧ Fr n0 L ∧ Keep h0 h [] ∧ h0.size ≤ r ∧ h0.size ≤ g ∧ Exa Z h r "java/util/ImmutableCollections$ListN" ∧ Fld Z h r "java/util/ImmutableCollections$ListN" "elements" "[Ljava/lang/Object;" (.ref g) ∧ Arv Z h g kg (.object "java/lang/Object") (4 : Int32) [(.ref x1), (.ref x1), (.ref x1), (.ref x1)] .null
set_option maxRecDepth 65536 in
set_option maxHeartbeats 40000000 in
theorem lfa4 (l : Launch) (Z : State) (a0 : Array Value) (hw : ∀ d ∈ tables_1, d.before a0 Z = true) (ws : List Jvm.Cond) (r0 : Addr) (k0 : ClassId) (x1 : Addr) (h0 : Heap) (n0 : Nat) (O : Old Z n0 h0) (Vr : Arv Z h0 r0 k0 (.object "java/lang/Object") (4 : Int32) [(.ref x1), (.ref x1), (.ref x1), (.ref x1)] .null) (Ex : Exa Z Z.heap x1 "java/time/Duration") :
    Ctr l Z y_28 jdk_56_method_4_code 3 (some (.object "java/util/List")) ws ({ frames := 5, cells := 2, slots := 6, locals := 63 } : Room) #[(.ref r0)] h0 (Q_lfa4 Z r0 k0 x1 h0 n0) := by
  refine MetFree.of_bodySF (plainFor_of_name pn_11) hisR ?_
  intro p e s m args below meth c s₁ Bd hml0 hP hK
  obtain ⟨rfl, hZ, hh⟩ := hP
  have W := fun (i : Nat) {d : Jvm.Cond} (h : tables_1[i]? = some d) => hw d (List.mem_of_getElem? h)
  have hx := Bd.exec
  have hby := Bd.bytes
  have hml : c.maxLocals = 3 := hml0
  have hown : s.vm.findClass "java/util/ImmutableCollections" = some m.cls := findClass_of_methodNamed Bd.named
  have hnm := (name_of_methodNamed Bd.named Bd.method).1
  have X0 : Stand p l e ({ frames := 5, cells := 2, slots := 6, locals := 63 } : Room) s m #[(.ref r0)] below meth c s₁ [] 0 0 := Stand.of_body Bd
  have e0 : s₁.heap = h0 := by rw [← hh, Bd.state]; rfl
  have N0 := Fr.nil n0
  have pre0 : ∀ t, Steps p.tables e below (s₁.setTop (mkF m 0 #[.val (.ref r0), .unset, .unset] [])) t → Steps p.tables e below (s₁.setTop (entryFrame m #[(.ref r0)] 3)) t := fun t kk_ => castTop (ef_27 m r0) kk_
  have K0 := Keep.refl h0 []
  obtain ⟨cl1, Ar1, -, S1, Ng1, -, -⟩ := id Vr
  have st1 := X0.arraylength hx (by rw [e0]; exact Ar1.1) (State.isArrayOf_alike hZ.alike Ar1.2.1) (g := (mkF m 1 #[rv r0, .unset, .unset] [.ref r0])) rfl rfl (hb hby d30_1)
  rw [len_of S1 Ng1] at st1
  obtain ⟨T2, h2, k2, X2, e2, E2, A2, A2x, Ov2, st2⟩ := newRE X0 hx hZ hown (W 213 rfl) (W 143 rfl) e0 (g := (mkF m 2 #[rv r0, .unset, .unset] [.int 4])) rfl (hb hby d30_2) rfl (by decide) (cap := 4) (by decide) (by decide) (by decide) (by decide) (ad := "[Ljava/lang/Object;") (by decide)
  obtain ⟨b2, g2⟩ : ∃ z, z = h0.size := ⟨_, rfl⟩
  rw [← g2] at A2 A2x st2
  have g_b2 : n0 ≤ b2 := Nat.le_trans (own_sz O) (Nat.le_of_eq g2.symm)
  have sz_b2 : h0.size ≤ b2 := Nat.le_trans K0.1 (Nat.le_of_eq g2.symm)
  have ne_r0_b2 : r0 ≠ b2 := Nat.ne_of_lt (Nat.lt_of_lt_of_le Vr.lt (Nat.le_of_eq g2.symm))
  have Vr := Vr.ext E2
  have O3 := O.ext E2
  have K4 := K0.ext E2
  have V2 : Arv Z h2 b2 k2 (.object "java/lang/Object") (4 : Int32) [.null, .null, .null, .null] .null := (Arv.new A2 (by decide)).pad (pad_rep [] .null 4)
  obtain ⟨cl5, Ar5, -, S5, Ng5, -, -⟩ := id Vr
  have st5 := X2.arraylength hx (by rw [e2]; exact Ar5.1) (State.isArrayOf_alike hZ.alike Ar5.2.1) (g := (mkF m 10 #[rv r0, rv b2, iv 0] [.ref r0, .int 0])) rfl rfl (hb hby d30_10)
  rw [len_of S5 Ng5] at st5
  obtain ⟨cl6, Ar6, q6, S6, Ng6, Hh6, Gg6⟩ := id Vr
  have st6 := X2.aaload hx (j := (0 : Int32)) (v := (.ref x1)) (by rw [e2]; exact Ar6.1) (State.isArrayOf_alike hZ.alike Ar6.2.1) rfl Ar6.2.2 (inb_of S6 (by decide)) (Hh6.at (inb_of S6 (by decide)) rfl) (g := (mkF m 18 #[rv r0, rv b2, iv 0] [.int 0, .ref r0, .int 0, .ref b2])) rfl rfl (hb hby d30_18)
  obtain ⟨_, _, ⟨T7, L7, k7, n7⟩, -, X7, ⟨Lc7, hQ7, l7, y7, z7⟩, st7⟩ := Jvm.LawKit.callS X2 hx (y := y_9) hown (mvT hZ (W 214 rfl)) (mvT hZ (W 200 rfl)) (mvT hZ (W 201 rfl)) (mvT hZ (W 202 rfl)) (by decide) (backOf (W := 2) (rnn l Z a0 hw [] x1 h2 n0 O3 ) hZ (W 202 rfl) (W 201 rfl) (by decide) (by decide)) (g := (mkF m 19 #[rv r0, rv b2, iv 0] [.ref x1, .int 0, .ref b2])) rfl (by rw [hml]; rfl) (argsL := [.ref x1]) (rest := [.int 0, .ref b2]) (lenOf pd_3 rfl) rfl (by show 2 * 0 + _ ≤ _; exact Nat.le_of_eq rfl) (hb hby d30_19) (fun _ _ => ⟨rfl, e2, (by decide : 1 + 0 ≤ _), (by decide : 4 + 0 ≤ _)⟩)
  dsimp only [Pt.U, Pt.locs, Pt.cells, Pt.slots] at X7 l7 y7 z7 st7 hQ7
  subst l7 y7 z7
  obtain ⟨h7, e7⟩ : ∃ z, T7.heap = z := ⟨_, rfl⟩
  rw [e7] at hQ7
  obtain ⟨rfl, N7q, p7_0⟩ := hQ7
  have N7 := Fr.app N0 N7q
  rw [p7_0] at e7
  obtain ⟨cl8, Ar8, q8, S8, Ng8, Hh8, Gg8⟩ := id V2
  obtain ⟨T8, h8, X8, e8, W8, st8⟩ := stR X7 hx hZ e7 Ar8 (j := (0 : Int32)) (inb_of S8 (by decide)) rfl (Sto.ofV Ar8 q8 Ov2 (Ins.of_exa (Ex.ext O3.2) (W 144 rfl))) (g := (mkF m 22 #[rv r0, rv b2, iv 0] [.ref x1, .int 0, .ref b2])) rfl rfl (hb hby d30_22)
  have V8 : Arv Z h8 b2 k2 (.object "java/lang/Object") (4 : Int32) [(.ref x1), .null, .null, .null] .null := Arv.set Ar8 q8 S8 Ng8 Hh8 Gg8 rfl W8 0 rfl (Nat.le_of_ble_eq_true rfl)
  have Vr := Vr.other W8 ne_r0_b2
  have A2x := A2x.wr W8
  have O9 := O3.wr W8 g_b2
  have K10 := K4.wr W8 (Or.inr sz_b2)
  have N11 := Fr.snoc X8 N7 g_b2
  obtain ⟨cl12, Ar12, -, S12, Ng12, -, -⟩ := id Vr
  have st12 := X8.arraylength hx (by rw [e8]; exact Ar12.1) (State.isArrayOf_alike hZ.alike Ar12.2.1) (g := (mkF m 10 #[rv r0, rv b2, iv 1] [.ref r0, .int 1])) rfl rfl (hb hby d30_10)
  rw [len_of S12 Ng12] at st12
  obtain ⟨cl13, Ar13, q13, S13, Ng13, Hh13, Gg13⟩ := id Vr
  have st13 := X8.aaload hx (j := (1 : Int32)) (v := (.ref x1)) (by rw [e8]; exact Ar13.1) (State.isArrayOf_alike hZ.alike Ar13.2.1) rfl Ar13.2.2 (inb_of S13 (by decide)) (Hh13.at (inb_of S13 (by decide)) rfl) (g := (mkF m 18 #[rv r0, rv b2, iv 1] [.int 1, .ref r0, .int 1, .ref b2])) rfl rfl (hb hby d30_18)
  obtain ⟨_, _, ⟨T14, L14, k14, n14⟩, -, X14, ⟨Lc14, hQ14, l14, y14, z14⟩, st14⟩ := Jvm.LawKit.callS X8 hx (y := y_9) hown (mvT hZ (W 214 rfl)) (mvT hZ (W 200 rfl)) (mvT hZ (W 201 rfl)) (mvT hZ (W 202 rfl)) (by decide) (backOf (W := 2) (rnn l Z a0 hw [] x1 h8 n0 O9 ) hZ (W 202 rfl) (W 201 rfl) (by decide) (by decide)) (g := (mkF m 19 #[rv r0, rv b2, iv 1] [.ref x1, .int 1, .ref b2])) rfl (by rw [hml]; rfl) (argsL := [.ref x1]) (rest := [.int 1, .ref b2]) (lenOf pd_3 rfl) rfl (by show 2 * 0 + _ ≤ _; exact Nat.le_of_eq rfl) (hb hby d30_19) (fun _ _ => ⟨rfl, e8, (by decide : 1 + 0 ≤ _), (by decide : 4 + 0 ≤ _)⟩)
  dsimp only [Pt.U, Pt.locs, Pt.cells, Pt.slots] at X14 l14 y14 z14 st14 hQ14
  subst l14 y14 z14
  obtain ⟨h14, e14⟩ : ∃ z, T14.heap = z := ⟨_, rfl⟩
  rw [e14] at hQ14
  obtain ⟨rfl, N14q, p14_0⟩ := hQ14
  have N14 := Fr.app N11 N14q
  rw [p14_0] at e14
  obtain ⟨cl15, Ar15, q15, S15, Ng15, Hh15, Gg15⟩ := id V8
  obtain ⟨T15, h15, X15, e15, W15, st15⟩ := stR X14 hx hZ e14 Ar15 (j := (1 : Int32)) (inb_of S15 (by decide)) rfl (Sto.ofV Ar15 q15 Ov2 (Ins.of_exa (Ex.ext O9.2) (W 144 rfl))) (g := (mkF m 22 #[rv r0, rv b2, iv 1] [.ref x1, .int 1, .ref b2])) rfl rfl (hb hby d30_22)
  have V15 : Arv Z h15 b2 k2 (.object "java/lang/Object") (4 : Int32) [(.ref x1), (.ref x1), .null, .null] .null := Arv.set Ar15 q15 S15 Ng15 Hh15 Gg15 rfl W15 1 rfl (Nat.le_of_ble_eq_true rfl)
  have Vr := Vr.other W15 ne_r0_b2
  have A2x := A2x.wr W15
  have O16 := O9.wr W15 g_b2
  have K17 := K10.wr W15 (Or.inr sz_b2)
  have N18 := Fr.snoc X15 N14 g_b2
  obtain ⟨cl19, Ar19, -, S19, Ng19, -, -⟩ := id Vr
  have st19 := X15.arraylength hx (by rw [e15]; exact Ar19.1) (State.isArrayOf_alike hZ.alike Ar19.2.1) (g := (mkF m 10 #[rv r0, rv b2, iv 2] [.ref r0, .int 2])) rfl rfl (hb hby d30_10)
  rw [len_of S19 Ng19] at st19
  obtain ⟨cl20, Ar20, q20, S20, Ng20, Hh20, Gg20⟩ := id Vr
  have st20 := X15.aaload hx (j := (2 : Int32)) (v := (.ref x1)) (by rw [e15]; exact Ar20.1) (State.isArrayOf_alike hZ.alike Ar20.2.1) rfl Ar20.2.2 (inb_of S20 (by decide)) (Hh20.at (inb_of S20 (by decide)) rfl) (g := (mkF m 18 #[rv r0, rv b2, iv 2] [.int 2, .ref r0, .int 2, .ref b2])) rfl rfl (hb hby d30_18)
  obtain ⟨_, _, ⟨T21, L21, k21, n21⟩, -, X21, ⟨Lc21, hQ21, l21, y21, z21⟩, st21⟩ := Jvm.LawKit.callS X15 hx (y := y_9) hown (mvT hZ (W 214 rfl)) (mvT hZ (W 200 rfl)) (mvT hZ (W 201 rfl)) (mvT hZ (W 202 rfl)) (by decide) (backOf (W := 2) (rnn l Z a0 hw [] x1 h15 n0 O16 ) hZ (W 202 rfl) (W 201 rfl) (by decide) (by decide)) (g := (mkF m 19 #[rv r0, rv b2, iv 2] [.ref x1, .int 2, .ref b2])) rfl (by rw [hml]; rfl) (argsL := [.ref x1]) (rest := [.int 2, .ref b2]) (lenOf pd_3 rfl) rfl (by show 2 * 0 + _ ≤ _; exact Nat.le_of_eq rfl) (hb hby d30_19) (fun _ _ => ⟨rfl, e15, (by decide : 1 + 0 ≤ _), (by decide : 4 + 0 ≤ _)⟩)
  dsimp only [Pt.U, Pt.locs, Pt.cells, Pt.slots] at X21 l21 y21 z21 st21 hQ21
  subst l21 y21 z21
  obtain ⟨h21, e21⟩ : ∃ z, T21.heap = z := ⟨_, rfl⟩
  rw [e21] at hQ21
  obtain ⟨rfl, N21q, p21_0⟩ := hQ21
  have N21 := Fr.app N18 N21q
  rw [p21_0] at e21
  obtain ⟨cl22, Ar22, q22, S22, Ng22, Hh22, Gg22⟩ := id V15
  obtain ⟨T22, h22, X22, e22, W22, st22⟩ := stR X21 hx hZ e21 Ar22 (j := (2 : Int32)) (inb_of S22 (by decide)) rfl (Sto.ofV Ar22 q22 Ov2 (Ins.of_exa (Ex.ext O16.2) (W 144 rfl))) (g := (mkF m 22 #[rv r0, rv b2, iv 2] [.ref x1, .int 2, .ref b2])) rfl rfl (hb hby d30_22)
  have V22 : Arv Z h22 b2 k2 (.object "java/lang/Object") (4 : Int32) [(.ref x1), (.ref x1), (.ref x1), .null] .null := Arv.set Ar22 q22 S22 Ng22 Hh22 Gg22 rfl W22 2 rfl (Nat.le_of_ble_eq_true rfl)
  have Vr := Vr.other W22 ne_r0_b2
  have A2x := A2x.wr W22
  have O23 := O16.wr W22 g_b2
  have K24 := K17.wr W22 (Or.inr sz_b2)
  have N25 := Fr.snoc X22 N21 g_b2
  obtain ⟨cl26, Ar26, -, S26, Ng26, -, -⟩ := id Vr
  have st26 := X22.arraylength hx (by rw [e22]; exact Ar26.1) (State.isArrayOf_alike hZ.alike Ar26.2.1) (g := (mkF m 10 #[rv r0, rv b2, iv 3] [.ref r0, .int 3])) rfl rfl (hb hby d30_10)
  rw [len_of S26 Ng26] at st26
  obtain ⟨cl27, Ar27, q27, S27, Ng27, Hh27, Gg27⟩ := id Vr
  have st27 := X22.aaload hx (j := (3 : Int32)) (v := (.ref x1)) (by rw [e22]; exact Ar27.1) (State.isArrayOf_alike hZ.alike Ar27.2.1) rfl Ar27.2.2 (inb_of S27 (by decide)) (Hh27.at (inb_of S27 (by decide)) rfl) (g := (mkF m 18 #[rv r0, rv b2, iv 3] [.int 3, .ref r0, .int 3, .ref b2])) rfl rfl (hb hby d30_18)
  obtain ⟨_, _, ⟨T28, L28, k28, n28⟩, -, X28, ⟨Lc28, hQ28, l28, y28, z28⟩, st28⟩ := Jvm.LawKit.callS X22 hx (y := y_9) hown (mvT hZ (W 214 rfl)) (mvT hZ (W 200 rfl)) (mvT hZ (W 201 rfl)) (mvT hZ (W 202 rfl)) (by decide) (backOf (W := 2) (rnn l Z a0 hw [] x1 h22 n0 O23 ) hZ (W 202 rfl) (W 201 rfl) (by decide) (by decide)) (g := (mkF m 19 #[rv r0, rv b2, iv 3] [.ref x1, .int 3, .ref b2])) rfl (by rw [hml]; rfl) (argsL := [.ref x1]) (rest := [.int 3, .ref b2]) (lenOf pd_3 rfl) rfl (by show 2 * 0 + _ ≤ _; exact Nat.le_of_eq rfl) (hb hby d30_19) (fun _ _ => ⟨rfl, e22, (by decide : 1 + 0 ≤ _), (by decide : 4 + 0 ≤ _)⟩)
  dsimp only [Pt.U, Pt.locs, Pt.cells, Pt.slots] at X28 l28 y28 z28 st28 hQ28
  subst l28 y28 z28
  obtain ⟨h28, e28⟩ : ∃ z, T28.heap = z := ⟨_, rfl⟩
  rw [e28] at hQ28
  obtain ⟨rfl, N28q, p28_0⟩ := hQ28
  have N28 := Fr.app N25 N28q
  rw [p28_0] at e28
  obtain ⟨cl29, Ar29, q29, S29, Ng29, Hh29, Gg29⟩ := id V22
  obtain ⟨T29, h29, X29, e29, W29, st29⟩ := stR X28 hx hZ e28 Ar29 (j := (3 : Int32)) (inb_of S29 (by decide)) rfl (Sto.ofV Ar29 q29 Ov2 (Ins.of_exa (Ex.ext O23.2) (W 144 rfl))) (g := (mkF m 22 #[rv r0, rv b2, iv 3] [.ref x1, .int 3, .ref b2])) rfl rfl (hb hby d30_22)
  have V29 : Arv Z h29 b2 k2 (.object "java/lang/Object") (4 : Int32) [(.ref x1), (.ref x1), (.ref x1), (.ref x1)] .null := Arv.set Ar29 q29 S29 Ng29 Hh29 Gg29 rfl W29 3 rfl (Nat.le_of_ble_eq_true rfl)
  have Vr := Vr.other W29 ne_r0_b2
  have A2x := A2x.wr W29
  have O30 := O23.wr W29 g_b2
  have K31 := K24.wr W29 (Or.inr sz_b2)
  have N32 := Fr.snoc X29 N28 g_b2
  obtain ⟨cl33, Ar33, -, S33, Ng33, -, -⟩ := id Vr
  have st33 := X29.arraylength hx (by rw [e29]; exact Ar33.1) (State.isArrayOf_alike hZ.alike Ar33.2.1) (g := (mkF m 10 #[rv r0, rv b2, iv 4] [.ref r0, .int 4])) rfl rfl (hb hby d30_10)
  rw [len_of S33 Ng33] at st33
  obtain ⟨T34, h34, X34, e34, E34, A34, D34, -, st34⟩ := newO X29 hx hZ hown (W 74 rfl) (W 215 rfl) (W 18 rfl) e29 (g := (mkF m 29 #[rv r0, rv b2, iv 4] [])) rfl (hb hby d30_29) (by decide) (by decide)
  obtain ⟨b34, g34⟩ : ∃ z, z = h29.size := ⟨_, rfl⟩
  rw [← g34] at A34 D34 st34
  have g_b34 : n0 ≤ b34 := Nat.le_trans (own_sz O30) (Nat.le_of_eq g34.symm)
  have sz_b34 : h0.size ≤ b34 := Nat.le_trans K31.1 (Nat.le_of_eq g34.symm)
  have ne_b2_b34 : b2 ≠ b34 := Nat.ne_of_lt (Nat.lt_of_lt_of_le A2x.lt (Nat.le_of_eq g34.symm))
  have V29 := V29.ext E34
  have O35 := O30.ext E34
  have K36 := K31.ext E34
  have Fz37 : Fld Z h34 b34 "java/util/ImmutableCollections$ListN" "elements" "[Ljava/lang/Object;" .null := D34 (Or.inr (W 21 rfl)) (ty := (.array (.object "java/lang/Object"))) (by decide)
  have Fz38 : Fld Z h34 b34 "java/util/ImmutableCollections$ListN" "allowNulls" "Z" (.int (0 : Int32)) := D34 (Or.inr (W 225 rfl)) (ty := .boolean) (by decide)
  obtain ⟨_, _, ⟨T39, L39, k39, n39⟩, -, X39, ⟨Lc39, hQ39, l39, y39, z39⟩, st39⟩ := X34.specialBackNest hx (y := y_13) rfl hown (own_mvNest hZ (W 216 rfl)) (mvT hZ (W 217 rfl)) (mvT hZ (W 219 rfl)) (by decide) (backOf (W := 1) (lninit l Z a0 hw [] b34 b2 h34 n0 O35 A34 Fz37 Fz38 g_b34) hZ (W 219 rfl) (W 18 rfl) (by decide) (by decide)) (g := (mkF m 35 #[rv r0, rv b2, iv 4] [.int 0, .ref b2, .ref b34, .ref b34])) rfl (by rw [hml]; rfl) (Steps.refl _) (a := b34) (argsL := [.ref b2, .int 0]) (rest := [.ref b34]) (lenOf pd_14 rfl) rfl (by show 2 * 0 + _ ≤ _; exact Nat.le_of_eq rfl) (hb hby d30_35) (fun _ _ => ⟨rfl, e34, (by decide : 2 + 0 ≤ _), (by decide : 6 + 0 ≤ _)⟩)
  dsimp only [Pt.U, Pt.locs, Pt.cells, Pt.slots] at X39 l39 y39 z39 st39 hQ39
  subst l39 y39 z39
  obtain ⟨h39, e39⟩ : ∃ z, T39.heap = z := ⟨_, rfl⟩
  rw [e39] at hQ39
  obtain ⟨rfl, N39q, p39_0, p39_1, p39_2⟩ := hQ39
  have N39 := Fr.app N32 N39q
  have V29 := V29.keep p39_0 (ninS ne_b2_b34 nin0)
  have A34 := A34.keep p39_0
  have K41 := K36.trans p39_0 (allS (Or.inr sz_b34) all0)
  obtain ⟨fs, hr, hrun, hended, hW, hsame⟩ := X39.leave (v := some (.ref b34)) (fun h => by rw [Bd.returns] at h; cases h)
  refine ⟨_, _, pre0 _ ?_, hrun, hended, _, _, rfl, ?_, ⟨_, rfl⟩, hW, hsame.mono (by decide) (by decide)⟩
  · show Sq p e below m s₁ 0 #[rv r0, .unset, .unset] [] _
    refine XS.aloadN X0.here hx rfl (hb hby d30_0) rfl rfl ?_
    show Sq p e below m s₁ 1 #[rv r0, .unset, .unset] [.ref r0] _
    refine st1 _ ?_
    show Sq p e below m s₁ 2 #[rv r0, .unset, .unset] [.int 4] _
    refine st2 _ ?_
    show Sq p e below m T2 5 #[rv r0, .unset, .unset] [.ref b2] _
    refine XS.astoreN X2.here hx rfl (hb hby d30_5) rfl rfl rfl ?_
    refine XS.iconst X2.here hx rfl (hb hby d30_6) ?_
    show Sq p e below m T2 7 #[rv r0, rv b2, .unset] [.int 0] _
    refine XS.istoreN X2.here hx rfl (hb hby d30_7) rfl rfl ?_
    refine XS.iloadN X2.here hx rfl (hb hby d30_8) rfl ?_
    show Sq p e below m T2 9 #[rv r0, rv b2, iv 0] [.int 0] _
    refine XS.aloadN X2.here hx rfl (hb hby d30_9) rfl rfl ?_
    show Sq p e below m T2 10 #[rv r0, rv b2, iv 0] [.ref r0, .int 0] _
    refine st5 _ ?_
    show Sq p e below m T2 11 #[rv r0, rv b2, iv 0] [.int 4, .int 0] _
    refine XS.icmpNo X2.here hx rfl (hb hby d30_11) rfl (tlt (by decide)).2.1 ?_
    refine XS.aloadN X2.here hx rfl (hb hby d30_14) rfl rfl ?_
    show Sq p e below m T2 15 #[rv r0, rv b2, iv 0] [.ref b2] _
    refine XS.iloadN X2.here hx rfl (hb hby d30_15) rfl ?_
    refine XS.aloadN X2.here hx rfl (hb hby d30_16) rfl rfl ?_
    show Sq p e below m T2 17 #[rv r0, rv b2, iv 0] [.ref r0, .int 0, .ref b2] _
    refine XS.iloadN X2.here hx rfl (hb hby d30_17) rfl ?_
    show Sq p e below m T2 18 #[rv r0, rv b2, iv 0] [.int 0, .ref r0, .int 0, .ref b2] _
    refine st6 _ ?_
    show Sq p e below m T2 19 #[rv r0, rv b2, iv 0] [.ref x1, .int 0, .ref b2] _
    refine st7 _ ?_
    show Sq p e below m T7 22 #[rv r0, rv b2, iv 0] [.ref x1, .int 0, .ref b2] _
    refine st8 _ ?_
    show Sq p e below m T8 23 #[rv r0, rv b2, iv 0] [] _
    refine XS.iinc X8.here hx rfl (hb hby d30_23) rfl rfl ?_
    show Sq p e below m T8 26 #[rv r0, rv b2, iv ((0 : Int32) + (1 : Int32))] [] _
    rw [show ((0 : Int32) + (1 : Int32)) = (1 : Int32) from by decide]
    show Sq p e below m T8 26 #[rv r0, rv b2, iv 1] [] _
    refine XS.goto X8.here hx rfl (pc0 := 26) (pc' := 8) rfl (hb hby d30_26) (by decide) (by decide) ?_
    refine XS.iloadN X8.here hx rfl (hb hby d30_8) rfl ?_
    show Sq p e below m T8 9 #[rv r0, rv b2, iv 1] [.int 1] _
    refine XS.aloadN X8.here hx rfl (hb hby d30_9) rfl rfl ?_
    show Sq p e below m T8 10 #[rv r0, rv b2, iv 1] [.ref r0, .int 1] _
    refine st12 _ ?_
    show Sq p e below m T8 11 #[rv r0, rv b2, iv 1] [.int 4, .int 1] _
    refine XS.icmpNo X8.here hx rfl (hb hby d30_11) rfl (tlt (by decide)).2.1 ?_
    refine XS.aloadN X8.here hx rfl (hb hby d30_14) rfl rfl ?_
    show Sq p e below m T8 15 #[rv r0, rv b2, iv 1] [.ref b2] _
    refine XS.iloadN X8.here hx rfl (hb hby d30_15) rfl ?_
    refine XS.aloadN X8.here hx rfl (hb hby d30_16) rfl rfl ?_
    show Sq p e below m T8 17 #[rv r0, rv b2, iv 1] [.ref r0, .int 1, .ref b2] _
    refine XS.iloadN X8.here hx rfl (hb hby d30_17) rfl ?_
    show Sq p e below m T8 18 #[rv r0, rv b2, iv 1] [.int 1, .ref r0, .int 1, .ref b2] _
    refine st13 _ ?_
    show Sq p e below m T8 19 #[rv r0, rv b2, iv 1] [.ref x1, .int 1, .ref b2] _
    refine st14 _ ?_
    show Sq p e below m T14 22 #[rv r0, rv b2, iv 1] [.ref x1, .int 1, .ref b2] _
    refine st15 _ ?_
    show Sq p e below m T15 23 #[rv r0, rv b2, iv 1] [] _
    refine XS.iinc X15.here hx rfl (hb hby d30_23) rfl rfl ?_
    show Sq p e below m T15 26 #[rv r0, rv b2, iv ((1 : Int32) + (1 : Int32))] [] _
    rw [show ((1 : Int32) + (1 : Int32)) = (2 : Int32) from by decide]
    show Sq p e below m T15 26 #[rv r0, rv b2, iv 2] [] _
    refine XS.goto X15.here hx rfl (pc0 := 26) (pc' := 8) rfl (hb hby d30_26) (by decide) (by decide) ?_
    refine XS.iloadN X15.here hx rfl (hb hby d30_8) rfl ?_
    show Sq p e below m T15 9 #[rv r0, rv b2, iv 2] [.int 2] _
    refine XS.aloadN X15.here hx rfl (hb hby d30_9) rfl rfl ?_
    show Sq p e below m T15 10 #[rv r0, rv b2, iv 2] [.ref r0, .int 2] _
    refine st19 _ ?_
    show Sq p e below m T15 11 #[rv r0, rv b2, iv 2] [.int 4, .int 2] _
    refine XS.icmpNo X15.here hx rfl (hb hby d30_11) rfl (tlt (by decide)).2.1 ?_
    refine XS.aloadN X15.here hx rfl (hb hby d30_14) rfl rfl ?_
    show Sq p e below m T15 15 #[rv r0, rv b2, iv 2] [.ref b2] _
    refine XS.iloadN X15.here hx rfl (hb hby d30_15) rfl ?_
    refine XS.aloadN X15.here hx rfl (hb hby d30_16) rfl rfl ?_
    show Sq p e below m T15 17 #[rv r0, rv b2, iv 2] [.ref r0, .int 2, .ref b2] _
    refine XS.iloadN X15.here hx rfl (hb hby d30_17) rfl ?_
    show Sq p e below m T15 18 #[rv r0, rv b2, iv 2] [.int 2, .ref r0, .int 2, .ref b2] _
    refine st20 _ ?_
    show Sq p e below m T15 19 #[rv r0, rv b2, iv 2] [.ref x1, .int 2, .ref b2] _
    refine st21 _ ?_
    show Sq p e below m T21 22 #[rv r0, rv b2, iv 2] [.ref x1, .int 2, .ref b2] _
    refine st22 _ ?_
    show Sq p e below m T22 23 #[rv r0, rv b2, iv 2] [] _
    refine XS.iinc X22.here hx rfl (hb hby d30_23) rfl rfl ?_
    show Sq p e below m T22 26 #[rv r0, rv b2, iv ((2 : Int32) + (1 : Int32))] [] _
    rw [show ((2 : Int32) + (1 : Int32)) = (3 : Int32) from by decide]
    show Sq p e below m T22 26 #[rv r0, rv b2, iv 3] [] _
    refine XS.goto X22.here hx rfl (pc0 := 26) (pc' := 8) rfl (hb hby d30_26) (by decide) (by decide) ?_
    refine XS.iloadN X22.here hx rfl (hb hby d30_8) rfl ?_
    show Sq p e below m T22 9 #[rv r0, rv b2, iv 3] [.int 3] _
    refine XS.aloadN X22.here hx rfl (hb hby d30_9) rfl rfl ?_
    show Sq p e below m T22 10 #[rv r0, rv b2, iv 3] [.ref r0, .int 3] _
    refine st26 _ ?_
    show Sq p e below m T22 11 #[rv r0, rv b2, iv 3] [.int 4, .int 3] _
    refine XS.icmpNo X22.here hx rfl (hb hby d30_11) rfl (tlt (by decide)).2.1 ?_
    refine XS.aloadN X22.here hx rfl (hb hby d30_14) rfl rfl ?_
    show Sq p e below m T22 15 #[rv r0, rv b2, iv 3] [.ref b2] _
    refine XS.iloadN X22.here hx rfl (hb hby d30_15) rfl ?_
    refine XS.aloadN X22.here hx rfl (hb hby d30_16) rfl rfl ?_
    show Sq p e below m T22 17 #[rv r0, rv b2, iv 3] [.ref r0, .int 3, .ref b2] _
    refine XS.iloadN X22.here hx rfl (hb hby d30_17) rfl ?_
    show Sq p e below m T22 18 #[rv r0, rv b2, iv 3] [.int 3, .ref r0, .int 3, .ref b2] _
    refine st27 _ ?_
    show Sq p e below m T22 19 #[rv r0, rv b2, iv 3] [.ref x1, .int 3, .ref b2] _
    refine st28 _ ?_
    show Sq p e below m T28 22 #[rv r0, rv b2, iv 3] [.ref x1, .int 3, .ref b2] _
    refine st29 _ ?_
    show Sq p e below m T29 23 #[rv r0, rv b2, iv 3] [] _
    refine XS.iinc X29.here hx rfl (hb hby d30_23) rfl rfl ?_
    show Sq p e below m T29 26 #[rv r0, rv b2, iv ((3 : Int32) + (1 : Int32))] [] _
    rw [show ((3 : Int32) + (1 : Int32)) = (4 : Int32) from by decide]
    show Sq p e below m T29 26 #[rv r0, rv b2, iv 4] [] _
    refine XS.goto X29.here hx rfl (pc0 := 26) (pc' := 8) rfl (hb hby d30_26) (by decide) (by decide) ?_
    refine XS.iloadN X29.here hx rfl (hb hby d30_8) rfl ?_
    show Sq p e below m T29 9 #[rv r0, rv b2, iv 4] [.int 4] _
    refine XS.aloadN X29.here hx rfl (hb hby d30_9) rfl rfl ?_
    show Sq p e below m T29 10 #[rv r0, rv b2, iv 4] [.ref r0, .int 4] _
    refine st33 _ ?_
    show Sq p e below m T29 11 #[rv r0, rv b2, iv 4] [.int 4, .int 4] _
    refine XS.icmpYes X29.here hx rfl (pc0 := 11) (pc' := 29) rfl (hb hby d30_11) rfl (flt (by decide)).2.1 (by decide) (by decide) ?_
    show Sq p e below m T29 29 #[rv r0, rv b2, iv 4] [] _
    refine st34 _ ?_
    show Sq p e below m T34 32 #[rv r0, rv b2, iv 4] [.ref b34] _
    refine XS.dup X34.here hx rfl (hb hby d30_32) rfl rfl ?_
    refine XS.aloadN X34.here hx rfl (hb hby d30_33) rfl rfl ?_
    show Sq p e below m T34 34 #[rv r0, rv b2, iv 4] [.ref b2, .ref b34, .ref b34] _
    refine XS.iconst X34.here hx rfl (hb hby d30_34) ?_
    show Sq p e below m T34 35 #[rv r0, rv b2, iv 4] [.int 0, .ref b2, .ref b34, .ref b34] _
    refine st39.trans ?_
    show Sq p e below m T39 38 #[rv r0, rv b2, iv 4] [.ref b34] _
    jvm_step X39.here [X39.here.top, hx, (hb hby d30_38), X39.method', Bd.returns, Value.isRef, FieldType.isReference]
    first | (intro acts; rw [hr _ acts rfl rfl rfl]) | rw [hr _ _ rfl rfl rfl]
    exact Steps.refl _
  · show Q_lfa4 Z r0 k0 x1 h0 n0 _ T39.heap _
    rw [e39]
    exact ⟨b34, b2, k2, rfl, N39, K41, sz_b34, sz_b2, A34, p39_1, V29⟩
def Q_ofarr4 (Z : State) (r0 : Addr) (k0 : ClassId) (x1 : Addr) (h0 : Heap) (n0 : Nat) (v : Option Value) (h : Heap) (L : List Loc) : Prop := ∃ r : Addr, ∃ g : Addr, ∃ kg : ClassId, v = some (.ref r) ∧ Fr n0 L ∧ Keep h0 h [] ∧ h0.size ≤ r ∧ h0.size ≤ g ∧ Exa Z h r "java/util/ImmutableCollections$ListN" ∧ Fld Z h r "java/util/ImmutableCollections$ListN" "elements" "[Ljava/lang/Object;" (.ref g) ∧ Arv Z h g kg (.object "java/lang/Object") (4 : Int32) [(.ref x1), (.ref x1), (.ref x1), (.ref x1)] .null
set_option maxRecDepth 65536 in
set_option maxHeartbeats 40000000 in
theorem ofarr4 (l : Launch) (Z : State) (a0 : Array Value) (hw : ∀ d ∈ tables_1, d.before a0 Z = true) (ws : List Jvm.Cond) (r0 : Addr) (k0 : ClassId) (x1 : Addr) (h0 : Heap) (n0 : Nat) (O : Old Z n0 h0) (Vr : Arv Z h0 r0 k0 (.object "java/lang/Object") (4 : Int32) [(.ref x1), (.ref x1), (.ref x1), (.ref x1)] .null) (Ex : Exa Z Z.heap x1 "java/time/Duration") :
    Ctr l Z y_26 jdk_40_method_47_code 2 (some (.object "java/util/List")) ws ({ frames := 6, cells := 2, slots := 6, locals := 77 } : Room) #[(.ref r0)] h0 (Q_ofarr4 Z r0 k0 x1 h0 n0) := by
  refine MetFree.of_bodySF (plainFor_of_name pn_7) hisR ?_
  intro p e s m args below meth c s₁ Bd hml0 hP hK
  obtain ⟨rfl, hZ, hh⟩ := hP
  have W := fun (i : Nat) {d : Jvm.Cond} (h : tables_1[i]? = some d) => hw d (List.mem_of_getElem? h)
  have hx := Bd.exec
  have hby := Bd.bytes
  have hml : c.maxLocals = 2 := hml0
  have hown : s.vm.findClass "java/util/List" = some m.cls := findClass_of_methodNamed Bd.named
  have hnm := (name_of_methodNamed Bd.named Bd.method).1
  have X0 : Stand p l e ({ frames := 6, cells := 2, slots := 6, locals := 77 } : Room) s m #[(.ref r0)] below meth c s₁ [] 0 0 := Stand.of_body Bd
  have e0 : s₁.heap = h0 := by rw [← hh, Bd.state]; rfl
  have N0 := Fr.nil n0
  have pre0 : ∀ t, Steps p.tables e below (s₁.setTop (mkF m 0 #[.val (.ref r0), .unset] [])) t → Steps p.tables e below (s₁.setTop (entryFrame m #[(.ref r0)] 2)) t := fun t kk_ => castTop (ef_26 m r0) kk_
  have K0 := Keep.refl h0 []
  obtain ⟨cl1, Ar1, -, S1, Ng1, -, -⟩ := id Vr
  have st1 := X0.arraylength hx (by rw [e0]; exact Ar1.1) (State.isArrayOf_alike hZ.alike Ar1.2.1) (g := (mkF m 1 #[rv r0, .unset] [.ref r0])) rfl rfl (hb hby d25_1)
  rw [len_of S1 Ng1] at st1
  obtain ⟨_, _, ⟨T2, L2, k2, n2⟩, -, X2, ⟨Lc2, hQ2, l2, y2, z2⟩, st2⟩ := Jvm.LawKit.callS X0 hx (y := y_28) hown (mvT hZ (W 210 rfl)) (mvT hZ (W 211 rfl)) (mvT hZ (W 67 rfl)) (mvT hZ (W 212 rfl)) (by decide) (backOf (W := 0) (lfa4 l Z a0 hw [] r0 k0 x1 h0 n0 O Vr Ex) hZ (W 212 rfl) (W 67 rfl) (by decide) (by decide)) (g := (mkF m 60 #[rv r0, .unset] [.ref r0])) rfl (by rw [hml]; rfl) (argsL := [.ref r0]) (rest := []) (lenOf pd_12 rfl) rfl (by show 2 * 0 + _ ≤ _; exact Nat.le_of_eq rfl) (hb hby d25_60) (fun _ _ => ⟨rfl, e0, (by decide : 0 + 2 ≤ _), (by decide : 0 + 6 ≤ _)⟩)
  dsimp only [Pt.U, Pt.locs, Pt.cells, Pt.slots] at X2 l2 y2 z2 st2 hQ2
  subst l2 y2 z2
  obtain ⟨h2, e2⟩ : ∃ z, T2.heap = z := ⟨_, rfl⟩
  rw [e2] at hQ2
  obtain ⟨b2r, b2g, b2kg, rfl, N2q, p2_0, p2_1, p2_2, p2_3, p2_4, p2_5⟩ := hQ2
  have N2 := Fr.app N0 N2q
  have sz_b2r : h0.size ≤ b2r := Nat.le_trans K0.1 p2_1
  have sz_b2g : h0.size ≤ b2g := Nat.le_trans K0.1 p2_2
  have K4 := K0.trans p2_0 all0
  obtain ⟨fs, hr, hrun, hended, hW, hsame⟩ := X2.leave (v := some (.ref b2r)) (fun h => by rw [Bd.returns] at h; cases h)
  refine ⟨_, _, pre0 _ ?_, hrun, hended, _, _, rfl, ?_, ⟨_, rfl⟩, hW, hsame.mono (by decide) (by decide)⟩
  · show Sq p e below m s₁ 0 #[rv r0, .unset] [] _
    refine XS.aloadN X0.here hx rfl (hb hby d25_0) rfl rfl ?_
    show Sq p e below m s₁ 1 #[rv r0, .unset] [.ref r0] _
    refine st1 _ ?_
    show Sq p e below m s₁ 2 #[rv r0, .unset] [.int 4] _
    refine XS.tswOut X0.here hx rfl (pc0 := 2) (pc' := 59) rfl (hb hby d25_2) rfl (by decide) (by decide) (by decide) ?_
    refine XS.aloadN X0.here hx rfl (hb hby d25_59) rfl rfl ?_
    show Sq p e below m s₁ 60 #[rv r0, .unset] [.ref r0] _
    refine st2 _ ?_
    show Sq p e below m T2 63 #[rv r0, .unset] [.ref b2r] _
    jvm_step X2.here [X2.here.top, hx, (hb hby d25_63), X2.method', Bd.returns, Value.isRef, FieldType.isReference]
    first | (intro acts; rw [hr _ acts rfl rfl rfl]) | rw [hr _ _ rfl rfl rfl]
    exact Steps.refl _
  · show Q_ofarr4 Z r0 k0 x1 h0 n0 _ T2.heap _
    rw [e2]
    exact ⟨b2r, b2g, b2kg, rfl, N2, K4, sz_b2r, sz_b2g, p2_3, p2_4, p2_5⟩
def Q_lcopy4 (Z : State) (a : Addr) (b : Addr) (kb : ClassId) (x1 : Addr) (w_MIR : Addr) (h0 : Heap) (n0 : Nat) (v : Option Value) (h : Heap) (L : List Loc) : Prop := ∃ r : Addr, ∃ g : Addr, ∃ kg : ClassId, v = some (.ref r) ∧ Fr n0 L ∧ Keep h0 h [] ∧ h0.size ≤ r ∧ h0.size ≤ g ∧ Exa Z h r "java/util/ImmutableCollections$ListN" ∧ Fld Z h r "java/util/ImmutableCollections$ListN" "elements" "[Ljava/lang/Object;" (.ref g) ∧ Arv Z h g kg (.object "java/lang/Object") (4 : Int32) [(.ref x1), (.ref x1), (.ref x1), (.ref x1)] .null
set_option maxRecDepth 65536 in
set_option maxHeartbeats 40000000 in
theorem lcopy4 (l : Launch) (Z : State) (a0 : Array Value) (hw : ∀ d ∈ tables_1, d.before a0 Z = true) (ws : List Jvm.Cond) (a : Addr) (b : Addr) (kb : ClassId) (x1 : Addr) (w_MIR : Addr) (h0 : Heap) (n0 : Nat) (O : Old Z n0 h0) (Ea : Exa Z h0 a "java/util/ArrayList") (Vb : Arv Z h0 b kb (.object "java/lang/Object") (10 : Int32) [(.ref x1), (.ref x1), (.ref x1), (.ref x1), .null, .null, .null, .null, .null, .null] .null) (Ex : Exa Z Z.heap x1 "java/time/Duration") (Mo : Mirr Z "[Ljava/lang/Object;" w_MIR) (Eb : Exa Z h0 b "[Ljava/lang/Object;") (Fd : Fld Z h0 a "java/util/ArrayList" "elementData" "[Ljava/lang/Object;" (.ref b)) (Fs : Fld Z h0 a "java/util/ArrayList" "size" "I" (.int (4 : Int32))) :
    Ctr l Z y_24 jdk_56_method_3_code 2 (some (.object "java/util/List")) ws ({ frames := 7, cells := 3, slots := 13, locals := 90 } : Room) #[(.ref a)] h0 (Q_lcopy4 Z a b kb x1 w_MIR h0 n0) := by
  refine MetFree.of_bodySF (plainFor_of_name pn_11) hisR ?_
  intro p e s m args below meth c s₁ Bd hml0 hP hK
  obtain ⟨rfl, hZ, hh⟩ := hP
  have W := fun (i : Nat) {d : Jvm.Cond} (h : tables_1[i]? = some d) => hw d (List.mem_of_getElem? h)
  have hx := Bd.exec
  have hby := Bd.bytes
  have hml : c.maxLocals = 2 := hml0
  have hown : s.vm.findClass "java/util/ImmutableCollections" = some m.cls := findClass_of_methodNamed Bd.named
  have hnm := (name_of_methodNamed Bd.named Bd.method).1
  have X0 : Stand p l e ({ frames := 7, cells := 3, slots := 13, locals := 90 } : Room) s m #[(.ref a)] below meth c s₁ [] 0 0 := Stand.of_body Bd
  have e0 : s₁.heap = h0 := by rw [← hh, Bd.state]; rfl
  have N0 := Fr.nil n0
  have pre0 : ∀ t, Steps p.tables e below (s₁.setTop (mkF m 0 #[.val (.ref a), .unset] [])) t → Steps p.tables e below (s₁.setTop (entryFrame m #[(.ref a)] 2)) t := fun t kk_ => castTop (ef_24 m a) kk_
  have K0 := Keep.refl h0 []
  obtain ⟨T1, X1, e1, st1⟩ := instNo X0 hx hZ hown (W 69 rfl) e0 Ea (own_nsno (W 70 rfl) (W 179 rfl) (NS.step (W 70 rfl) (NS.step (W 71 rfl) (NS.step (W 72 rfl) (own_nsroot (W 73 rfl) (W 179 rfl) (by decide)) (by decide)) (by decide)) (by decide)) (by decide)) (g := (mkF m 1 #[rv a, .unset] [.ref a])) rfl rfl (hb hby d10_1)
  obtain ⟨T2, X2, e2, st2⟩ := instNo X1 hx hZ hown (W 74 rfl) e1 Ea (own_nsno (W 70 rfl) (W 215 rfl) (NS.step (W 70 rfl) (NS.step (W 71 rfl) (NS.step (W 72 rfl) (own_nsroot (W 73 rfl) (W 215 rfl) (by decide)) (by decide)) (by decide)) (by decide)) (by decide)) (g := (mkF m 8 #[rv a, .unset] [.ref a])) rfl rfl (hb hby d10_8)
  obtain ⟨cq3, kq3, q3a, q3b, q3c⟩ := isOf hZ e2 Ea
  obtain ⟨_, _, ⟨T3, L3, k3, n3⟩, -, X3, ⟨Lc3, hQ3, l3, y3, z3⟩, st3⟩ := X2.interfaceBack hx (xi := y_23) (y := y_16) hown (mvT hZ (W 75 rfl)) (mvT hZ (W 76 rfl)) (mvT hZ (W 77 rfl)) (mvT hZ (W 78 rfl)) (mvT hZ (W 79 rfl)) (mvT hZ (W 80 rfl)) (mvT hZ (W 81 rfl)) (mvT hZ (W 82 rfl)) (by decide) (backOf (W := 0) (emp1 l Z a0 hw [] a (4 : Int32) h0 n0 O Fs (by decide)) hZ (W 83 rfl) (W 26 rfl) (by decide) (by decide)) q3a q3b q3c (g := (mkF m 32 #[rv a, .unset] [.ref a])) rfl (by rw [hml]; rfl) (Steps.refl _) (argsL := []) (rest := []) (lenOf pd_8 rfl) rfl (by show 2 * 0 + _ ≤ _; exact Nat.le_of_eq rfl) (hb hby d10_32) (fun _ _ => ⟨rfl, e2, (by decide : 0 + 0 ≤ _), (by decide : 0 + 0 ≤ _)⟩)
  dsimp only [Pt.U, Pt.locs, Pt.cells, Pt.slots] at X3 l3 y3 z3 st3 hQ3
  subst l3 y3 z3
  obtain ⟨h3, e3⟩ : ∃ z, T3.heap = z := ⟨_, rfl⟩
  rw [e3] at hQ3
  obtain ⟨rfl, N3q, p3_0⟩ := hQ3
  have N3 := Fr.app N0 N3q
  rw [p3_0] at e3
  obtain ⟨cq4, kq4, q4a, q4b, q4c⟩ := isOf hZ e3 Ea
  obtain ⟨_, _, ⟨T4, L4, k4, n4⟩, -, X4, ⟨Lc4, hQ4, l4, y4, z4⟩, st4⟩ := X3.interfaceBack hx (xi := y_27) (y := y_22) hown (mvT hZ (W 145 rfl)) (mvT hZ (W 146 rfl)) (mvT hZ (W 147 rfl)) (mvT hZ (W 148 rfl)) (mvT hZ (W 149 rfl)) (mvT hZ (W 150 rfl)) (mvT hZ (W 151 rfl)) (mvT hZ (W 82 rfl)) (by decide) (backOf (W := 0) (toarr l Z a0 hw [] a b kb w_MIR (4 : Int32) [(.ref x1), (.ref x1), (.ref x1), (.ref x1), .null, .null, .null, .null, .null, .null] [(.ref x1), (.ref x1), (.ref x1), (.ref x1)] h0 n0 O Vb Mo (by decide) (by decide) (Nat.le_of_ble_eq_true rfl) rfl (own_all (n := 4) ⟨x1, rfl, Ex⟩) Eb Fd Fs) hZ (W 152 rfl) (W 26 rfl) (by decide) (by decide)) q4a q4b q4c (g := (mkF m 45 #[rv a, .unset] [.ref a])) rfl (by rw [hml]; rfl) (Steps.refl _) (argsL := []) (rest := []) (lenOf pd_4 rfl) rfl (by show 2 * 0 + _ ≤ _; exact Nat.le_of_eq rfl) (hb hby d10_45) (fun _ _ => ⟨rfl, e3, (by decide : 0 + 1 ≤ _), (by decide : 0 + 7 ≤ _)⟩)
  dsimp only [Pt.U, Pt.locs, Pt.cells, Pt.slots] at X4 l4 y4 z4 st4 hQ4
  subst l4 y4 z4
  obtain ⟨h4, e4⟩ : ∃ z, T4.heap = z := ⟨_, rfl⟩
  rw [e4] at hQ4
  obtain ⟨b4r, b4kr, rfl, N4q, p4_0, p4_1, p4_2, p4_3⟩ := hQ4
  have N4 := Fr.app N3 N4q
  have O5 := O.keep p4_0 all0
  have K6 := K0.trans p4_0 all0
  obtain ⟨_, _, ⟨T7, L7, k7, n7⟩, -, X7, ⟨Lc7, hQ7, l7, y7, z7⟩, st7⟩ := Jvm.LawKit.callS X4 hx (y := y_26) hown (mvT hZ (W 175 rfl)) (mvT hZ (W 176 rfl)) (mvT hZ (W 63 rfl)) (mvT hZ (W 177 rfl)) (by decide) (backOf (W := 0) (ofarr4 l Z a0 hw [] b4r b4kr x1 h4 n0 O5 p4_2 Ex) hZ (W 177 rfl) (W 63 rfl) (by decide) (by decide)) (g := (mkF m 50 #[rv a, .unset] [.ref b4r])) rfl (by rw [hml]; rfl) (argsL := [.ref b4r]) (rest := []) (lenOf pd_12 rfl) rfl (by show 2 * 0 + _ ≤ _; exact Nat.le_of_eq rfl) (hb hby d10_50) (fun _ _ => ⟨rfl, e4, (by decide : 1 + 2 ≤ _), (by decide : 7 + 6 ≤ _)⟩)
  dsimp only [Pt.U, Pt.locs, Pt.cells, Pt.slots] at X7 l7 y7 z7 st7 hQ7
  subst l7 y7 z7
  obtain ⟨h7, e7⟩ : ∃ z, T7.heap = z := ⟨_, rfl⟩
  rw [e7] at hQ7
  obtain ⟨b7r, b7g, b7kg, rfl, N7q, p7_0, p7_1, p7_2, p7_3, p7_4, p7_5⟩ := hQ7
  have N7 := Fr.app N4 N7q
  have sz_b7r : h0.size ≤ b7r := Nat.le_trans K6.1 p7_1
  have sz_b7g : h0.size ≤ b7g := Nat.le_trans K6.1 p7_2
  have K9 := K6.trans p7_0 all0
  obtain ⟨fs, hr, hrun, hended, hW, hsame⟩ := X7.leave (v := some (.ref b7r)) (fun h => by rw [Bd.returns] at h; cases h)
  refine ⟨_, _, pre0 _ ?_, hrun, hended, _, _, rfl, ?_, ⟨_, rfl⟩, hW, hsame.mono (by decide) (by decide)⟩
  · show Sq p e below m s₁ 0 #[rv a, .unset] [] _
    refine XS.aloadN X0.here hx rfl (hb hby d10_0) rfl rfl ?_
    show Sq p e below m s₁ 1 #[rv a, .unset] [.ref a] _
    refine st1 _ ?_
    show Sq p e below m T1 4 #[rv a, .unset] [.int 0] _
    refine XS.ifNo X1.here hx rfl (hb hby d10_4) rfl ((if0 _ _).trans (teq (rfl : (0 : Int32) = (0 : Int32))).2) ?_
    refine XS.aloadN X1.here hx rfl (hb hby d10_7) rfl rfl ?_
    show Sq p e below m T1 8 #[rv a, .unset] [.ref a] _
    refine st2 _ ?_
    show Sq p e below m T2 11 #[rv a, .unset] [.int 0] _
    refine XS.ifYes X2.here hx rfl (pc0 := 11) (pc' := 31) rfl (hb hby d10_11) rfl ((if0 _ _).trans (teq (rfl : (0 : Int32) = (0 : Int32))).1) (by decide) (by decide) ?_
    refine XS.aloadN X2.here hx rfl (hb hby d10_31) rfl rfl ?_
    show Sq p e below m T2 32 #[rv a, .unset] [.ref a] _
    refine st3.trans ?_
    show Sq p e below m T3 37 #[rv a, .unset] [.int 0] _
    refine XS.ifYes X3.here hx rfl (pc0 := 37) (pc' := 44) rfl (hb hby d10_37) rfl ((if0 _ _).trans (teq (rfl : (0 : Int32) = (0 : Int32))).1) (by decide) (by decide) ?_
    refine XS.aloadN X3.here hx rfl (hb hby d10_44) rfl rfl ?_
    show Sq p e below m T3 45 #[rv a, .unset] [.ref a] _
    refine st4.trans ?_
    show Sq p e below m T4 50 #[rv a, .unset] [.ref b4r] _
    refine st7 _ ?_
    show Sq p e below m T7 53 #[rv a, .unset] [.ref b7r] _
    jvm_step X7.here [X7.here.top, hx, (hb hby d10_53), X7.method', Bd.returns, Value.isRef, FieldType.isReference]
    first | (intro acts; rw [hr _ acts rfl rfl rfl]) | rw [hr _ _ rfl rfl rfl]
    exact Steps.refl _
  · show Q_lcopy4 Z a b kb x1 w_MIR h0 n0 _ T7.heap _
    rw [e7]
    exact ⟨b7r, b7g, b7kg, rfl, N7, K9, sz_b7r, sz_b7g, p7_3, p7_4, p7_5⟩
def Q_copyof4 (Z : State) (a : Addr) (b : Addr) (kb : ClassId) (x1 : Addr) (w_MIR : Addr) (h0 : Heap) (n0 : Nat) (v : Option Value) (h : Heap) (L : List Loc) : Prop := ∃ r : Addr, ∃ g : Addr, ∃ kg : ClassId, v = some (.ref r) ∧ Fr n0 L ∧ Keep h0 h [] ∧ h0.size ≤ r ∧ h0.size ≤ g ∧ Exa Z h r "java/util/ImmutableCollections$ListN" ∧ Fld Z h r "java/util/ImmutableCollections$ListN" "elements" "[Ljava/lang/Object;" (.ref g) ∧ Arv Z h g kg (.object "java/lang/Object") (4 : Int32) [(.ref x1), (.ref x1), (.ref x1), (.ref x1)] .null
set_option maxRecDepth 65536 in
set_option maxHeartbeats 40000000 in
theorem copyof4 (l : Launch) (Z : State) (a0 : Array Value) (hw : ∀ d ∈ tables_1, d.before a0 Z = true) (ws : List Jvm.Cond) (a : Addr) (b : Addr) (kb : ClassId) (x1 : Addr) (w_MIR : Addr) (h0 : Heap) (n0 : Nat) (O : Old Z n0 h0) (Ea : Exa Z h0 a "java/util/ArrayList") (Vb : Arv Z h0 b kb (.object "java/lang/Object") (10 : Int32) [(.ref x1), (.ref x1), (.ref x1), (.ref x1), .null, .null, .null, .null, .null, .null] .null) (Ex : Exa Z Z.heap x1 "java/time/Duration") (Mo : Mirr Z "[Ljava/lang/Object;" w_MIR) (Eb : Exa Z h0 b "[Ljava/lang/Object;") (Fd : Fld Z h0 a "java/util/ArrayList" "elementData" "[Ljava/lang/Object;" (.ref b)) (Fs : Fld Z h0 a "java/util/ArrayList" "size" "I" (.int (4 : Int32))) :
    Ctr l Z y_25 jdk_40_method_48_code 1 (some (.object "java/util/List")) ws ({ frames := 8, cells := 3, slots := 13, locals := 103 } : Room) #[(.ref a)] h0 (Q_copyof4 Z a b kb x1 w_MIR h0 n0) := by
  refine MetFree.of_bodySF (plainFor_of_name pn_7) hisR ?_
  intro p e s m args below meth c s₁ Bd hml0 hP hK
  obtain ⟨rfl, hZ, hh⟩ := hP
  have W := fun (i : Nat) {d : Jvm.Cond} (h : tables_1[i]? = some d) => hw d (List.mem_of_getElem? h)
  have hx := Bd.exec
  have hby := Bd.bytes
  have hml : c.maxLocals = 1 := hml0
  have hown : s.vm.findClass "java/util/List" = some m.cls := findClass_of_methodNamed Bd.named
  have hnm := (name_of_methodNamed Bd.named Bd.method).1
  have X0 : Stand p l e ({ frames := 8, cells := 3, slots := 13, locals := 103 } : Room) s m #[(.ref a)] below meth c s₁ [] 0 0 := Stand.of_body Bd
  have e0 : s₁.heap = h0 := by rw [← hh, Bd.state]; rfl
  have N0 := Fr.nil n0
  have pre0 : ∀ t, Steps p.tables e below (s₁.setTop (mkF m 0 #[.val (.ref a)] [])) t → Steps p.tables e below (s₁.setTop (entryFrame m #[(.ref a)] 1)) t := fun t kk_ => castTop (ef_25 m a) kk_
  have K0 := Keep.refl h0 []
  obtain ⟨_, _, ⟨T1, L1, k1, n1⟩, -, X1, ⟨Lc1, hQ1, l1, y1, z1⟩, st1⟩ := Jvm.LawKit.callS X0 hx (y := y_24) hown (mvT hZ (W 65 rfl)) (mvT hZ (W 66 rfl)) (mvT hZ (W 67 rfl)) (mvT hZ (W 68 rfl)) (by decide) (backOf (W := 0) (lcopy4 l Z a0 hw [] a b kb x1 w_MIR h0 n0 O Ea Vb Ex Mo Eb Fd Fs) hZ (W 68 rfl) (W 67 rfl) (by decide) (by decide)) (g := (mkF m 1 #[rv a] [.ref a])) rfl (by rw [hml]; rfl) (argsL := [.ref a]) (rest := []) (lenOf pd_10 rfl) rfl (by show 2 * 0 + _ ≤ _; exact Nat.le_of_eq rfl) (hb hby d9_1) (fun _ _ => ⟨rfl, e0, (by decide : 0 + 3 ≤ _), (by decide : 0 + 13 ≤ _)⟩)
  dsimp only [Pt.U, Pt.locs, Pt.cells, Pt.slots] at X1 l1 y1 z1 st1 hQ1
  subst l1 y1 z1
  obtain ⟨h1, e1⟩ : ∃ z, T1.heap = z := ⟨_, rfl⟩
  rw [e1] at hQ1
  obtain ⟨b1r, b1g, b1kg, rfl, N1q, p1_0, p1_1, p1_2, p1_3, p1_4, p1_5⟩ := hQ1
  have N1 := Fr.app N0 N1q
  have sz_b1r : h0.size ≤ b1r := Nat.le_trans K0.1 p1_1
  have sz_b1g : h0.size ≤ b1g := Nat.le_trans K0.1 p1_2
  have K3 := K0.trans p1_0 all0
  obtain ⟨fs, hr, hrun, hended, hW, hsame⟩ := X1.leave (v := some (.ref b1r)) (fun h => by rw [Bd.returns] at h; cases h)
  refine ⟨_, _, pre0 _ ?_, hrun, hended, _, _, rfl, ?_, ⟨_, rfl⟩, hW, hsame.mono (by decide) (by decide)⟩
  · show Sq p e below m s₁ 0 #[rv a] [] _
    refine XS.aloadN X0.here hx rfl (hb hby d9_0) rfl rfl ?_
    show Sq p e below m s₁ 1 #[rv a] [.ref a] _
    refine st1 _ ?_
    show Sq p e below m T1 4 #[rv a] [.ref b1r] _
    jvm_step X1.here [X1.here.top, hx, (hb hby d9_4), X1.method', Bd.returns, Value.isRef, FieldType.isReference]
    first | (intro acts; rw [hr _ acts rfl rfl rfl]) | rw [hr _ _ rfl rfl rfl]
    exact Steps.refl _
  · show Q_copyof4 Z a b kb x1 w_MIR h0 n0 _ T1.heap _
    rw [e1]
    exact ⟨b1r, b1g, b1kg, rfl, N1, K3, sz_b1r, sz_b1g, p1_3, p1_4, p1_5⟩
def Q_lfa5 (Z : State) (r0 : Addr) (k0 : ClassId) (x1 : Addr) (h0 : Heap) (n0 : Nat) (v : Option Value) (h : Heap) (L : List Loc) : Prop := ∃ r : Addr, ∃ g : Addr, ∃ kg : ClassId, v = some (.ref r) ∧ Fr n0 L ∧ Keep h0 h [] ∧ h0.size ≤ r ∧ h0.size ≤ g ∧ Exa Z h r "java/util/ImmutableCollections$ListN" ∧ Fld Z h r "java/util/ImmutableCollections$ListN" "elements" "[Ljava/lang/Object;" (.ref g) ∧ Arv Z h g kg (.object "java/lang/Object") (5 : Int32) [(.ref x1), (.ref x1), (.ref x1), (.ref x1), (.ref x1)] .null
set_option maxRecDepth 65536 in
set_option maxHeartbeats 40000000 in
theorem lfa5 (l : Launch) (Z : State) (a0 : Array Value) (hw : ∀ d ∈ tables_1, d.before a0 Z = true) (ws : List Jvm.Cond) (r0 : Addr) (k0 : ClassId) (x1 : Addr) (h0 : Heap) (n0 : Nat) (O : Old Z n0 h0) (Vr : Arv Z h0 r0 k0 (.object "java/lang/Object") (5 : Int32) [(.ref x1), (.ref x1), (.ref x1), (.ref x1), (.ref x1)] .null) (Ex : Exa Z Z.heap x1 "java/time/Duration") :
    Ctr l Z y_28 jdk_56_method_4_code 3 (some (.object "java/util/List")) ws ({ frames := 5, cells := 2, slots := 7, locals := 63 } : Room) #[(.ref r0)] h0 (Q_lfa5 Z r0 k0 x1 h0 n0) := by
  refine MetFree.of_bodySF (plainFor_of_name pn_11) hisR ?_
  intro p e s m args below meth c s₁ Bd hml0 hP hK
  obtain ⟨rfl, hZ, hh⟩ := hP
  have W := fun (i : Nat) {d : Jvm.Cond} (h : tables_1[i]? = some d) => hw d (List.mem_of_getElem? h)
  have hx := Bd.exec
  have hby := Bd.bytes
  have hml : c.maxLocals = 3 := hml0
  have hown : s.vm.findClass "java/util/ImmutableCollections" = some m.cls := findClass_of_methodNamed Bd.named
  have hnm := (name_of_methodNamed Bd.named Bd.method).1
  have X0 : Stand p l e ({ frames := 5, cells := 2, slots := 7, locals := 63 } : Room) s m #[(.ref r0)] below meth c s₁ [] 0 0 := Stand.of_body Bd
  have e0 : s₁.heap = h0 := by rw [← hh, Bd.state]; rfl
  have N0 := Fr.nil n0
  have pre0 : ∀ t, Steps p.tables e below (s₁.setTop (mkF m 0 #[.val (.ref r0), .unset, .unset] [])) t → Steps p.tables e below (s₁.setTop (entryFrame m #[(.ref r0)] 3)) t := fun t kk_ => castTop (ef_27 m r0) kk_
  have K0 := Keep.refl h0 []
  obtain ⟨cl1, Ar1, -, S1, Ng1, -, -⟩ := id Vr
  have st1 := X0.arraylength hx (by rw [e0]; exact Ar1.1) (State.isArrayOf_alike hZ.alike Ar1.2.1) (g := (mkF m 1 #[rv r0, .unset, .unset] [.ref r0])) rfl rfl (hb hby d30_1)
  rw [len_of S1 Ng1] at st1
  obtain ⟨T2, h2, k2, X2, e2, E2, A2, A2x, Ov2, st2⟩ := newRE X0 hx hZ hown (W 213 rfl) (W 143 rfl) e0 (g := (mkF m 2 #[rv r0, .unset, .unset] [.int 5])) rfl (hb hby d30_2) rfl (by decide) (cap := 5) (by decide) (by decide) (by decide) (by decide) (ad := "[Ljava/lang/Object;") (by decide)
  obtain ⟨b2, g2⟩ : ∃ z, z = h0.size := ⟨_, rfl⟩
  rw [← g2] at A2 A2x st2
  have g_b2 : n0 ≤ b2 := Nat.le_trans (own_sz O) (Nat.le_of_eq g2.symm)
  have sz_b2 : h0.size ≤ b2 := Nat.le_trans K0.1 (Nat.le_of_eq g2.symm)
  have ne_r0_b2 : r0 ≠ b2 := Nat.ne_of_lt (Nat.lt_of_lt_of_le Vr.lt (Nat.le_of_eq g2.symm))
  have Vr := Vr.ext E2
  have O3 := O.ext E2
  have K4 := K0.ext E2
  have V2 : Arv Z h2 b2 k2 (.object "java/lang/Object") (5 : Int32) [.null, .null, .null, .null, .null] .null := (Arv.new A2 (by decide)).pad (pad_rep [] .null 5)
  obtain ⟨cl5, Ar5, -, S5, Ng5, -, -⟩ := id Vr
  have st5 := X2.arraylength hx (by rw [e2]; exact Ar5.1) (State.isArrayOf_alike hZ.alike Ar5.2.1) (g := (mkF m 10 #[rv r0, rv b2, iv 0] [.ref r0, .int 0])) rfl rfl (hb hby d30_10)
  rw [len_of S5 Ng5] at st5
  obtain ⟨cl6, Ar6, q6, S6, Ng6, Hh6, Gg6⟩ := id Vr
  have st6 := X2.aaload hx (j := (0 : Int32)) (v := (.ref x1)) (by rw [e2]; exact Ar6.1) (State.isArrayOf_alike hZ.alike Ar6.2.1) rfl Ar6.2.2 (inb_of S6 (by decide)) (Hh6.at (inb_of S6 (by decide)) rfl) (g := (mkF m 18 #[rv r0, rv b2, iv 0] [.int 0, .ref r0, .int 0, .ref b2])) rfl rfl (hb hby d30_18)
  obtain ⟨_, _, ⟨T7, L7, k7, n7⟩, -, X7, ⟨Lc7, hQ7, l7, y7, z7⟩, st7⟩ := Jvm.LawKit.callS X2 hx (y := y_9) hown (mvT hZ (W 214 rfl)) (mvT hZ (W 200 rfl)) (mvT hZ (W 201 rfl)) (mvT hZ (W 202 rfl)) (by decide) (backOf (W := 2) (rnn l Z a0 hw [] x1 h2 n0 O3 ) hZ (W 202 rfl) (W 201 rfl) (by decide) (by decide)) (g := (mkF m 19 #[rv r0, rv b2, iv 0] [.ref x1, .int 0, .ref b2])) rfl (by rw [hml]; rfl) (argsL := [.ref x1]) (rest := [.int 0, .ref b2]) (lenOf pd_3 rfl) rfl (by show 2 * 0 + _ ≤ _; exact Nat.le_of_eq rfl) (hb hby d30_19) (fun _ _ => ⟨rfl, e2, (by decide : 1 + 0 ≤ _), (by decide : 5 + 0 ≤ _)⟩)
  dsimp only [Pt.U, Pt.locs, Pt.cells, Pt.slots] at X7 l7 y7 z7 st7 hQ7
  subst l7 y7 z7
  obtain ⟨h7, e7⟩ : ∃ z, T7.heap = z := ⟨_, rfl⟩
  rw [e7] at hQ7
  obtain ⟨rfl, N7q, p7_0⟩ := hQ7
  have N7 := Fr.app N0 N7q
  rw [p7_0] at e7
  obtain ⟨cl8, Ar8, q8, S8, Ng8, Hh8, Gg8⟩ := id V2
  obtain ⟨T8, h8, X8, e8, W8, st8⟩ := stR X7 hx hZ e7 Ar8 (j := (0 : Int32)) (inb_of S8 (by decide)) rfl (Sto.ofV Ar8 q8 Ov2 (Ins.of_exa (Ex.ext O3.2) (W 144 rfl))) (g := (mkF m 22 #[rv r0, rv b2, iv 0] [.ref x1, .int 0, .ref b2])) rfl rfl (hb hby d30_22)
  have V8 : Arv Z h8 b2 k2 (.object "java/lang/Object") (5 : Int32) [(.ref x1), .null, .null, .null, .null] .null := Arv.set Ar8 q8 S8 Ng8 Hh8 Gg8 rfl W8 0 rfl (Nat.le_of_ble_eq_true rfl)
  have Vr := Vr.other W8 ne_r0_b2
  have A2x := A2x.wr W8
  have O9 := O3.wr W8 g_b2
  have K10 := K4.wr W8 (Or.inr sz_b2)
  have N11 := Fr.snoc X8 N7 g_b2
  obtain ⟨cl12, Ar12, -, S12, Ng12, -, -⟩ := id Vr
  have st12 := X8.arraylength hx (by rw [e8]; exact Ar12.1) (State.isArrayOf_alike hZ.alike Ar12.2.1) (g := (mkF m 10 #[rv r0, rv b2, iv 1] [.ref r0, .int 1])) rfl rfl (hb hby d30_10)
  rw [len_of S12 Ng12] at st12
  obtain ⟨cl13, Ar13, q13, S13, Ng13, Hh13, Gg13⟩ := id Vr
  have st13 := X8.aaload hx (j := (1 : Int32)) (v := (.ref x1)) (by rw [e8]; exact Ar13.1) (State.isArrayOf_alike hZ.alike Ar13.2.1) rfl Ar13.2.2 (inb_of S13 (by decide)) (Hh13.at (inb_of S13 (by decide)) rfl) (g := (mkF m 18 #[rv r0, rv b2, iv 1] [.int 1, .ref r0, .int 1, .ref b2])) rfl rfl (hb hby d30_18)
  obtain ⟨_, _, ⟨T14, L14, k14, n14⟩, -, X14, ⟨Lc14, hQ14, l14, y14, z14⟩, st14⟩ := Jvm.LawKit.callS X8 hx (y := y_9) hown (mvT hZ (W 214 rfl)) (mvT hZ (W 200 rfl)) (mvT hZ (W 201 rfl)) (mvT hZ (W 202 rfl)) (by decide) (backOf (W := 2) (rnn l Z a0 hw [] x1 h8 n0 O9 ) hZ (W 202 rfl) (W 201 rfl) (by decide) (by decide)) (g := (mkF m 19 #[rv r0, rv b2, iv 1] [.ref x1, .int 1, .ref b2])) rfl (by rw [hml]; rfl) (argsL := [.ref x1]) (rest := [.int 1, .ref b2]) (lenOf pd_3 rfl) rfl (by show 2 * 0 + _ ≤ _; exact Nat.le_of_eq rfl) (hb hby d30_19) (fun _ _ => ⟨rfl, e8, (by decide : 1 + 0 ≤ _), (by decide : 5 + 0 ≤ _)⟩)
  dsimp only [Pt.U, Pt.locs, Pt.cells, Pt.slots] at X14 l14 y14 z14 st14 hQ14
  subst l14 y14 z14
  obtain ⟨h14, e14⟩ : ∃ z, T14.heap = z := ⟨_, rfl⟩
  rw [e14] at hQ14
  obtain ⟨rfl, N14q, p14_0⟩ := hQ14
  have N14 := Fr.app N11 N14q
  rw [p14_0] at e14
  obtain ⟨cl15, Ar15, q15, S15, Ng15, Hh15, Gg15⟩ := id V8
  obtain ⟨T15, h15, X15, e15, W15, st15⟩ := stR X14 hx hZ e14 Ar15 (j := (1 : Int32)) (inb_of S15 (by decide)) rfl (Sto.ofV Ar15 q15 Ov2 (Ins.of_exa (Ex.ext O9.2) (W 144 rfl))) (g := (mkF m 22 #[rv r0, rv b2, iv 1] [.ref x1, .int 1, .ref b2])) rfl rfl (hb hby d30_22)
  have V15 : Arv Z h15 b2 k2 (.object "java/lang/Object") (5 : Int32) [(.ref x1), (.ref x1), .null, .null, .null] .null := Arv.set Ar15 q15 S15 Ng15 Hh15 Gg15 rfl W15 1 rfl (Nat.le_of_ble_eq_true rfl)
  have Vr := Vr.other W15 ne_r0_b2
  have A2x := A2x.wr W15
  have O16 := O9.wr W15 g_b2
  have K17 := K10.wr W15 (Or.inr sz_b2)
  have N18 := Fr.snoc X15 N14 g_b2
  obtain ⟨cl19, Ar19, -, S19, Ng19, -, -⟩ := id Vr
  have st19 := X15.arraylength hx (by rw [e15]; exact Ar19.1) (State.isArrayOf_alike hZ.alike Ar19.2.1) (g := (mkF m 10 #[rv r0, rv b2, iv 2] [.ref r0, .int 2])) rfl rfl (hb hby d30_10)
  rw [len_of S19 Ng19] at st19
  obtain ⟨cl20, Ar20, q20, S20, Ng20, Hh20, Gg20⟩ := id Vr
  have st20 := X15.aaload hx (j := (2 : Int32)) (v := (.ref x1)) (by rw [e15]; exact Ar20.1) (State.isArrayOf_alike hZ.alike Ar20.2.1) rfl Ar20.2.2 (inb_of S20 (by decide)) (Hh20.at (inb_of S20 (by decide)) rfl) (g := (mkF m 18 #[rv r0, rv b2, iv 2] [.int 2, .ref r0, .int 2, .ref b2])) rfl rfl (hb hby d30_18)
  obtain ⟨_, _, ⟨T21, L21, k21, n21⟩, -, X21, ⟨Lc21, hQ21, l21, y21, z21⟩, st21⟩ := Jvm.LawKit.callS X15 hx (y := y_9) hown (mvT hZ (W 214 rfl)) (mvT hZ (W 200 rfl)) (mvT hZ (W 201 rfl)) (mvT hZ (W 202 rfl)) (by decide) (backOf (W := 2) (rnn l Z a0 hw [] x1 h15 n0 O16 ) hZ (W 202 rfl) (W 201 rfl) (by decide) (by decide)) (g := (mkF m 19 #[rv r0, rv b2, iv 2] [.ref x1, .int 2, .ref b2])) rfl (by rw [hml]; rfl) (argsL := [.ref x1]) (rest := [.int 2, .ref b2]) (lenOf pd_3 rfl) rfl (by show 2 * 0 + _ ≤ _; exact Nat.le_of_eq rfl) (hb hby d30_19) (fun _ _ => ⟨rfl, e15, (by decide : 1 + 0 ≤ _), (by decide : 5 + 0 ≤ _)⟩)
  dsimp only [Pt.U, Pt.locs, Pt.cells, Pt.slots] at X21 l21 y21 z21 st21 hQ21
  subst l21 y21 z21
  obtain ⟨h21, e21⟩ : ∃ z, T21.heap = z := ⟨_, rfl⟩
  rw [e21] at hQ21
  obtain ⟨rfl, N21q, p21_0⟩ := hQ21
  have N21 := Fr.app N18 N21q
  rw [p21_0] at e21
  obtain ⟨cl22, Ar22, q22, S22, Ng22, Hh22, Gg22⟩ := id V15
  obtain ⟨T22, h22, X22, e22, W22, st22⟩ := stR X21 hx hZ e21 Ar22 (j := (2 : Int32)) (inb_of S22 (by decide)) rfl (Sto.ofV Ar22 q22 Ov2 (Ins.of_exa (Ex.ext O16.2) (W 144 rfl))) (g := (mkF m 22 #[rv r0, rv b2, iv 2] [.ref x1, .int 2, .ref b2])) rfl rfl (hb hby d30_22)
  have V22 : Arv Z h22 b2 k2 (.object "java/lang/Object") (5 : Int32) [(.ref x1), (.ref x1), (.ref x1), .null, .null] .null := Arv.set Ar22 q22 S22 Ng22 Hh22 Gg22 rfl W22 2 rfl (Nat.le_of_ble_eq_true rfl)
  have Vr := Vr.other W22 ne_r0_b2
  have A2x := A2x.wr W22
  have O23 := O16.wr W22 g_b2
  have K24 := K17.wr W22 (Or.inr sz_b2)
  have N25 := Fr.snoc X22 N21 g_b2
  obtain ⟨cl26, Ar26, -, S26, Ng26, -, -⟩ := id Vr
  have st26 := X22.arraylength hx (by rw [e22]; exact Ar26.1) (State.isArrayOf_alike hZ.alike Ar26.2.1) (g := (mkF m 10 #[rv r0, rv b2, iv 3] [.ref r0, .int 3])) rfl rfl (hb hby d30_10)
  rw [len_of S26 Ng26] at st26
  obtain ⟨cl27, Ar27, q27, S27, Ng27, Hh27, Gg27⟩ := id Vr
  have st27 := X22.aaload hx (j := (3 : Int32)) (v := (.ref x1)) (by rw [e22]; exact Ar27.1) (State.isArrayOf_alike hZ.alike Ar27.2.1) rfl Ar27.2.2 (inb_of S27 (by decide)) (Hh27.at (inb_of S27 (by decide)) rfl) (g := (mkF m 18 #[rv r0, rv b2, iv 3] [.int 3, .ref r0, .int 3, .ref b2])) rfl rfl (hb hby d30_18)
  obtain ⟨_, _, ⟨T28, L28, k28, n28⟩, -, X28, ⟨Lc28, hQ28, l28, y28, z28⟩, st28⟩ := Jvm.LawKit.callS X22 hx (y := y_9) hown (mvT hZ (W 214 rfl)) (mvT hZ (W 200 rfl)) (mvT hZ (W 201 rfl)) (mvT hZ (W 202 rfl)) (by decide) (backOf (W := 2) (rnn l Z a0 hw [] x1 h22 n0 O23 ) hZ (W 202 rfl) (W 201 rfl) (by decide) (by decide)) (g := (mkF m 19 #[rv r0, rv b2, iv 3] [.ref x1, .int 3, .ref b2])) rfl (by rw [hml]; rfl) (argsL := [.ref x1]) (rest := [.int 3, .ref b2]) (lenOf pd_3 rfl) rfl (by show 2 * 0 + _ ≤ _; exact Nat.le_of_eq rfl) (hb hby d30_19) (fun _ _ => ⟨rfl, e22, (by decide : 1 + 0 ≤ _), (by decide : 5 + 0 ≤ _)⟩)
  dsimp only [Pt.U, Pt.locs, Pt.cells, Pt.slots] at X28 l28 y28 z28 st28 hQ28
  subst l28 y28 z28
  obtain ⟨h28, e28⟩ : ∃ z, T28.heap = z := ⟨_, rfl⟩
  rw [e28] at hQ28
  obtain ⟨rfl, N28q, p28_0⟩ := hQ28
  have N28 := Fr.app N25 N28q
  rw [p28_0] at e28
  obtain ⟨cl29, Ar29, q29, S29, Ng29, Hh29, Gg29⟩ := id V22
  obtain ⟨T29, h29, X29, e29, W29, st29⟩ := stR X28 hx hZ e28 Ar29 (j := (3 : Int32)) (inb_of S29 (by decide)) rfl (Sto.ofV Ar29 q29 Ov2 (Ins.of_exa (Ex.ext O23.2) (W 144 rfl))) (g := (mkF m 22 #[rv r0, rv b2, iv 3] [.ref x1, .int 3, .ref b2])) rfl rfl (hb hby d30_22)
  have V29 : Arv Z h29 b2 k2 (.object "java/lang/Object") (5 : Int32) [(.ref x1), (.ref x1), (.ref x1), (.ref x1), .null] .null := Arv.set Ar29 q29 S29 Ng29 Hh29 Gg29 rfl W29 3 rfl (Nat.le_of_ble_eq_true rfl)
  have Vr := Vr.other W29 ne_r0_b2
  have A2x := A2x.wr W29
  have O30 := O23.wr W29 g_b2
  have K31 := K24.wr W29 (Or.inr sz_b2)
  have N32 := Fr.snoc X29 N28 g_b2
  obtain ⟨cl33, Ar33, -, S33, Ng33, -, -⟩ := id Vr
  have st33 := X29.arraylength hx (by rw [e29]; exact Ar33.1) (State.isArrayOf_alike hZ.alike Ar33.2.1) (g := (mkF m 10 #[rv r0, rv b2, iv 4] [.ref r0, .int 4])) rfl rfl (hb hby d30_10)
  rw [len_of S33 Ng33] at st33
  obtain ⟨cl34, Ar34, q34, S34, Ng34, Hh34, Gg34⟩ := id Vr
  have st34 := X29.aaload hx (j := (4 : Int32)) (v := (.ref x1)) (by rw [e29]; exact Ar34.1) (State.isArrayOf_alike hZ.alike Ar34.2.1) rfl Ar34.2.2 (inb_of S34 (by decide)) (Hh34.at (inb_of S34 (by decide)) rfl) (g := (mkF m 18 #[rv r0, rv b2, iv 4] [.int 4, .ref r0, .int 4, .ref b2])) rfl rfl (hb hby d30_18)
  obtain ⟨_, _, ⟨T35, L35, k35, n35⟩, -, X35, ⟨Lc35, hQ35, l35, y35, z35⟩, st35⟩ := Jvm.LawKit.callS X29 hx (y := y_9) hown (mvT hZ (W 214 rfl)) (mvT hZ (W 200 rfl)) (mvT hZ (W 201 rfl)) (mvT hZ (W 202 rfl)) (by decide) (backOf (W := 2) (rnn l Z a0 hw [] x1 h29 n0 O30 ) hZ (W 202 rfl) (W 201 rfl) (by decide) (by decide)) (g := (mkF m 19 #[rv r0, rv b2, iv 4] [.ref x1, .int 4, .ref b2])) rfl (by rw [hml]; rfl) (argsL := [.ref x1]) (rest := [.int 4, .ref b2]) (lenOf pd_3 rfl) rfl (by show 2 * 0 + _ ≤ _; exact Nat.le_of_eq rfl) (hb hby d30_19) (fun _ _ => ⟨rfl, e29, (by decide : 1 + 0 ≤ _), (by decide : 5 + 0 ≤ _)⟩)
  dsimp only [Pt.U, Pt.locs, Pt.cells, Pt.slots] at X35 l35 y35 z35 st35 hQ35
  subst l35 y35 z35
  obtain ⟨h35, e35⟩ : ∃ z, T35.heap = z := ⟨_, rfl⟩
  rw [e35] at hQ35
  obtain ⟨rfl, N35q, p35_0⟩ := hQ35
  have N35 := Fr.app N32 N35q
  rw [p35_0] at e35
  obtain ⟨cl36, Ar36, q36, S36, Ng36, Hh36, Gg36⟩ := id V29
  obtain ⟨T36, h36, X36, e36, W36, st36⟩ := stR X35 hx hZ e35 Ar36 (j := (4 : Int32)) (inb_of S36 (by decide)) rfl (Sto.ofV Ar36 q36 Ov2 (Ins.of_exa (Ex.ext O30.2) (W 144 rfl))) (g := (mkF m 22 #[rv r0, rv b2, iv 4] [.ref x1, .int 4, .ref b2])) rfl rfl (hb hby d30_22)
  have V36 : Arv Z h36 b2 k2 (.object "java/lang/Object") (5 : Int32) [(.ref x1), (.ref x1), (.ref x1), (.ref x1), (.ref x1)] .null := Arv.set Ar36 q36 S36 Ng36 Hh36 Gg36 rfl W36 4 rfl (Nat.le_of_ble_eq_true rfl)
  have Vr := Vr.other W36 ne_r0_b2
  have A2x := A2x.wr W36
  have O37 := O30.wr W36 g_b2
  have K38 := K31.wr W36 (Or.inr sz_b2)
  have N39 := Fr.snoc X36 N35 g_b2
  obtain ⟨cl40, Ar40, -, S40, Ng40, -, -⟩ := id Vr
  have st40 := X36.arraylength hx (by rw [e36]; exact Ar40.1) (State.isArrayOf_alike hZ.alike Ar40.2.1) (g := (mkF m 10 #[rv r0, rv b2, iv 5] [.ref r0, .int 5])) rfl rfl (hb hby d30_10)
  rw [len_of S40 Ng40] at st40
  obtain ⟨T41, h41, X41, e41, E41, A41, D41, -, st41⟩ := newO X36 hx hZ hown (W 74 rfl) (W 215 rfl) (W 18 rfl) e36 (g := (mkF m 29 #[rv r0, rv b2, iv 5] [])) rfl (hb hby d30_29) (by decide) (by decide)
  obtain ⟨b41, g41⟩ : ∃ z, z = h36.size := ⟨_, rfl⟩
  rw [← g41] at A41 D41 st41
  have g_b41 : n0 ≤ b41 := Nat.le_trans (own_sz O37) (Nat.le_of_eq g41.symm)
  have sz_b41 : h0.size ≤ b41 := Nat.le_trans K38.1 (Nat.le_of_eq g41.symm)
  have ne_b2_b41 : b2 ≠ b41 := Nat.ne_of_lt (Nat.lt_of_lt_of_le A2x.lt (Nat.le_of_eq g41.symm))
  have V36 := V36.ext E41
  have O42 := O37.ext E41
  have K43 := K38.ext E41
  have Fz44 : Fld Z h41 b41 "java/util/ImmutableCollections$ListN" "elements" "[Ljava/lang/Object;" .null := D41 (Or.inr (W 21 rfl)) (ty := (.array (.object "java/lang/Object"))) (by decide)
  have Fz45 : Fld Z h41 b41 "java/util/ImmutableCollections$ListN" "allowNulls" "Z" (.int (0 : Int32)) := D41 (Or.inr (W 225 rfl)) (ty := .boolean) (by decide)
  obtain ⟨_, _, ⟨T46, L46, k46, n46⟩, -, X46, ⟨Lc46, hQ46, l46, y46, z46⟩, st46⟩ := X41.specialBackNest hx (y := y_13) rfl hown (own_mvNest hZ (W 216 rfl)) (mvT hZ (W 217 rfl)) (mvT hZ (W 219 rfl)) (by decide) (backOf (W := 1) (lninit l Z a0 hw [] b41 b2 h41 n0 O42 A41 Fz44 Fz45 g_b41) hZ (W 219 rfl) (W 18 rfl) (by decide) (by decide)) (g := (mkF m 35 #[rv r0, rv b2, iv 5] [.int 0, .ref b2, .ref b41, .ref b41])) rfl (by rw [hml]; rfl) (Steps.refl _) (a := b41) (argsL := [.ref b2, .int 0]) (rest := [.ref b41]) (lenOf pd_14 rfl) rfl (by show 2 * 0 + _ ≤ _; exact Nat.le_of_eq rfl) (hb hby d30_35) (fun _ _ => ⟨rfl, e41, (by decide : 2 + 0 ≤ _), (by decide : 7 + 0 ≤ _)⟩)
  dsimp only [Pt.U, Pt.locs, Pt.cells, Pt.slots] at X46 l46 y46 z46 st46 hQ46
  subst l46 y46 z46
  obtain ⟨h46, e46⟩ : ∃ z, T46.heap = z := ⟨_, rfl⟩
  rw [e46] at hQ46
  obtain ⟨rfl, N46q, p46_0, p46_1, p46_2⟩ := hQ46
  have N46 := Fr.app N39 N46q
  have V36 := V36.keep p46_0 (ninS ne_b2_b41 nin0)
  have A41 := A41.keep p46_0
  have K48 := K43.trans p46_0 (allS (Or.inr sz_b41) all0)
  obtain ⟨fs, hr, hrun, hended, hW, hsame⟩ := X46.leave (v := some (.ref b41)) (fun h => by rw [Bd.returns] at h; cases h)
  refine ⟨_, _, pre0 _ ?_, hrun, hended, _, _, rfl, ?_, ⟨_, rfl⟩, hW, hsame.mono (by decide) (by decide)⟩
  · show Sq p e below m s₁ 0 #[rv r0, .unset, .unset] [] _
    refine XS.aloadN X0.here hx rfl (hb hby d30_0) rfl rfl ?_
    show Sq p e below m s₁ 1 #[rv r0, .unset, .unset] [.ref r0] _
    refine st1 _ ?_
    show Sq p e below m s₁ 2 #[rv r0, .unset, .unset] [.int 5] _
    refine st2 _ ?_
    show Sq p e below m T2 5 #[rv r0, .unset, .unset] [.ref b2] _
    refine XS.astoreN X2.here hx rfl (hb hby d30_5) rfl rfl rfl ?_
    refine XS.iconst X2.here hx rfl (hb hby d30_6) ?_
    show Sq p e below m T2 7 #[rv r0, rv b2, .unset] [.int 0] _
    refine XS.istoreN X2.here hx rfl (hb hby d30_7) rfl rfl ?_
    refine XS.iloadN X2.here hx rfl (hb hby d30_8) rfl ?_
    show Sq p e below m T2 9 #[rv r0, rv b2, iv 0] [.int 0] _
    refine XS.aloadN X2.here hx rfl (hb hby d30_9) rfl rfl ?_
    show Sq p e below m T2 10 #[rv r0, rv b2, iv 0] [.ref r0, .int 0] _
    refine st5 _ ?_
    show Sq p e below m T2 11 #[rv r0, rv b2, iv 0] [.int 5, .int 0] _
    refine XS.icmpNo X2.here hx rfl (hb hby d30_11) rfl (tlt (by decide)).2.1 ?_
    refine XS.aloadN X2.here hx rfl (hb hby d30_14) rfl rfl ?_
    show Sq p e below m T2 15 #[rv r0, rv b2, iv 0] [.ref b2] _
    refine XS.iloadN X2.here hx rfl (hb hby d30_15) rfl ?_
    refine XS.aloadN X2.here hx rfl (hb hby d30_16) rfl rfl ?_
    show Sq p e below m T2 17 #[rv r0, rv b2, iv 0] [.ref r0, .int 0, .ref b2] _
    refine XS.iloadN X2.here hx rfl (hb hby d30_17) rfl ?_
    show Sq p e below m T2 18 #[rv r0, rv b2, iv 0] [.int 0, .ref r0, .int 0, .ref b2] _
    refine st6 _ ?_
    show Sq p e below m T2 19 #[rv r0, rv b2, iv 0] [.ref x1, .int 0, .ref b2] _
    refine st7 _ ?_
    show Sq p e below m T7 22 #[rv r0, rv b2, iv 0] [.ref x1, .int 0, .ref b2] _
    refine st8 _ ?_
    show Sq p e below m T8 23 #[rv r0, rv b2, iv 0] [] _
    refine XS.iinc X8.here hx rfl (hb hby d30_23) rfl rfl ?_
    show Sq p e below m T8 26 #[rv r0, rv b2, iv ((0 : Int32) + (1 : Int32))] [] _
    rw [show ((0 : Int32) + (1 : Int32)) = (1 : Int32) from by decide]
    show Sq p e below m T8 26 #[rv r0, rv b2, iv 1] [] _
    refine XS.goto X8.here hx rfl (pc0 := 26) (pc' := 8) rfl (hb hby d30_26) (by decide) (by decide) ?_
    refine XS.iloadN X8.here hx rfl (hb hby d30_8) rfl ?_
    show Sq p e below m T8 9 #[rv r0, rv b2, iv 1] [.int 1] _
    refine XS.aloadN X8.here hx rfl (hb hby d30_9) rfl rfl ?_
    show Sq p e below m T8 10 #[rv r0, rv b2, iv 1] [.ref r0, .int 1] _
    refine st12 _ ?_
    show Sq p e below m T8 11 #[rv r0, rv b2, iv 1] [.int 5, .int 1] _
    refine XS.icmpNo X8.here hx rfl (hb hby d30_11) rfl (tlt (by decide)).2.1 ?_
    refine XS.aloadN X8.here hx rfl (hb hby d30_14) rfl rfl ?_
    show Sq p e below m T8 15 #[rv r0, rv b2, iv 1] [.ref b2] _
    refine XS.iloadN X8.here hx rfl (hb hby d30_15) rfl ?_
    refine XS.aloadN X8.here hx rfl (hb hby d30_16) rfl rfl ?_
    show Sq p e below m T8 17 #[rv r0, rv b2, iv 1] [.ref r0, .int 1, .ref b2] _
    refine XS.iloadN X8.here hx rfl (hb hby d30_17) rfl ?_
    show Sq p e below m T8 18 #[rv r0, rv b2, iv 1] [.int 1, .ref r0, .int 1, .ref b2] _
    refine st13 _ ?_
    show Sq p e below m T8 19 #[rv r0, rv b2, iv 1] [.ref x1, .int 1, .ref b2] _
    refine st14 _ ?_
    show Sq p e below m T14 22 #[rv r0, rv b2, iv 1] [.ref x1, .int 1, .ref b2] _
    refine st15 _ ?_
    show Sq p e below m T15 23 #[rv r0, rv b2, iv 1] [] _
    refine XS.iinc X15.here hx rfl (hb hby d30_23) rfl rfl ?_
    show Sq p e below m T15 26 #[rv r0, rv b2, iv ((1 : Int32) + (1 : Int32))] [] _
    rw [show ((1 : Int32) + (1 : Int32)) = (2 : Int32) from by decide]
    show Sq p e below m T15 26 #[rv r0, rv b2, iv 2] [] _
    refine XS.goto X15.here hx rfl (pc0 := 26) (pc' := 8) rfl (hb hby d30_26) (by decide) (by decide) ?_
    refine XS.iloadN X15.here hx rfl (hb hby d30_8) rfl ?_
    show Sq p e below m T15 9 #[rv r0, rv b2, iv 2] [.int 2] _
    refine XS.aloadN X15.here hx rfl (hb hby d30_9) rfl rfl ?_
    show Sq p e below m T15 10 #[rv r0, rv b2, iv 2] [.ref r0, .int 2] _
    refine st19 _ ?_
    show Sq p e below m T15 11 #[rv r0, rv b2, iv 2] [.int 5, .int 2] _
    refine XS.icmpNo X15.here hx rfl (hb hby d30_11) rfl (tlt (by decide)).2.1 ?_
    refine XS.aloadN X15.here hx rfl (hb hby d30_14) rfl rfl ?_
    show Sq p e below m T15 15 #[rv r0, rv b2, iv 2] [.ref b2] _
    refine XS.iloadN X15.here hx rfl (hb hby d30_15) rfl ?_
    refine XS.aloadN X15.here hx rfl (hb hby d30_16) rfl rfl ?_
    show Sq p e below m T15 17 #[rv r0, rv b2, iv 2] [.ref r0, .int 2, .ref b2] _
    refine XS.iloadN X15.here hx rfl (hb hby d30_17) rfl ?_
    show Sq p e below m T15 18 #[rv r0, rv b2, iv 2] [.int 2, .ref r0, .int 2, .ref b2] _
    refine st20 _ ?_
    show Sq p e below m T15 19 #[rv r0, rv b2, iv 2] [.ref x1, .int 2, .ref b2] _
    refine st21 _ ?_
    show Sq p e below m T21 22 #[rv r0, rv b2, iv 2] [.ref x1, .int 2, .ref b2] _
    refine st22 _ ?_
    show Sq p e below m T22 23 #[rv r0, rv b2, iv 2] [] _
    refine XS.iinc X22.here hx rfl (hb hby d30_23) rfl rfl ?_
    show Sq p e below m T22 26 #[rv r0, rv b2, iv ((2 : Int32) + (1 : Int32))] [] _
    rw [show ((2 : Int32) + (1 : Int32)) = (3 : Int32) from by decide]
    show Sq p e below m T22 26 #[rv r0, rv b2, iv 3] [] _
    refine XS.goto X22.here hx rfl (pc0 := 26) (pc' := 8) rfl (hb hby d30_26) (by decide) (by decide) ?_
    refine XS.iloadN X22.here hx rfl (hb hby d30_8) rfl ?_
    show Sq p e below m T22 9 #[rv r0, rv b2, iv 3] [.int 3] _
    refine XS.aloadN X22.here hx rfl (hb hby d30_9) rfl rfl ?_
    show Sq p e below m T22 10 #[rv r0, rv b2, iv 3] [.ref r0, .int 3] _
    refine st26 _ ?_
    show Sq p e below m T22 11 #[rv r0, rv b2, iv 3] [.int 5, .int 3] _
    refine XS.icmpNo X22.here hx rfl (hb hby d30_11) rfl (tlt (by decide)).2.1 ?_
    refine XS.aloadN X22.here hx rfl (hb hby d30_14) rfl rfl ?_
    show Sq p e below m T22 15 #[rv r0, rv b2, iv 3] [.ref b2] _
    refine XS.iloadN X22.here hx rfl (hb hby d30_15) rfl ?_
    refine XS.aloadN X22.here hx rfl (hb hby d30_16) rfl rfl ?_
    show Sq p e below m T22 17 #[rv r0, rv b2, iv 3] [.ref r0, .int 3, .ref b2] _
    refine XS.iloadN X22.here hx rfl (hb hby d30_17) rfl ?_
    show Sq p e below m T22 18 #[rv r0, rv b2, iv 3] [.int 3, .ref r0, .int 3, .ref b2] _
    refine st27 _ ?_
    show Sq p e below m T22 19 #[rv r0, rv b2, iv 3] [.ref x1, .int 3, .ref b2] _
    refine st28 _ ?_
    show Sq p e below m T28 22 #[rv r0, rv b2, iv 3] [.ref x1, .int 3, .ref b2] _
    refine st29 _ ?_
    show Sq p e below m T29 23 #[rv r0, rv b2, iv 3] [] _
    refine XS.iinc X29.here hx rfl (hb hby d30_23) rfl rfl ?_
    show Sq p e below m T29 26 #[rv r0, rv b2, iv ((3 : Int32) + (1 : Int32))] [] _
    rw [show ((3 : Int32) + (1 : Int32)) = (4 : Int32) from by decide]
    show Sq p e below m T29 26 #[rv r0, rv b2, iv 4] [] _
    refine XS.goto X29.here hx rfl (pc0 := 26) (pc' := 8) rfl (hb hby d30_26) (by decide) (by decide) ?_
    refine XS.iloadN X29.here hx rfl (hb hby d30_8) rfl ?_
    show Sq p e below m T29 9 #[rv r0, rv b2, iv 4] [.int 4] _
    refine XS.aloadN X29.here hx rfl (hb hby d30_9) rfl rfl ?_
    show Sq p e below m T29 10 #[rv r0, rv b2, iv 4] [.ref r0, .int 4] _
    refine st33 _ ?_
    show Sq p e below m T29 11 #[rv r0, rv b2, iv 4] [.int 5, .int 4] _
    refine XS.icmpNo X29.here hx rfl (hb hby d30_11) rfl (tlt (by decide)).2.1 ?_
    refine XS.aloadN X29.here hx rfl (hb hby d30_14) rfl rfl ?_
    show Sq p e below m T29 15 #[rv r0, rv b2, iv 4] [.ref b2] _
    refine XS.iloadN X29.here hx rfl (hb hby d30_15) rfl ?_
    refine XS.aloadN X29.here hx rfl (hb hby d30_16) rfl rfl ?_
    show Sq p e below m T29 17 #[rv r0, rv b2, iv 4] [.ref r0, .int 4, .ref b2] _
    refine XS.iloadN X29.here hx rfl (hb hby d30_17) rfl ?_
    show Sq p e below m T29 18 #[rv r0, rv b2, iv 4] [.int 4, .ref r0, .int 4, .ref b2] _
    refine st34 _ ?_
    show Sq p e below m T29 19 #[rv r0, rv b2, iv 4] [.ref x1, .int 4, .ref b2] _
    refine st35 _ ?_
    show Sq p e below m T35 22 #[rv r0, rv b2, iv 4] [.ref x1, .int 4, .ref b2] _
    refine st36 _ ?_
    show Sq p e below m T36 23 #[rv r0, rv b2, iv 4] [] _
    refine XS.iinc X36.here hx rfl (hb hby d30_23) rfl rfl ?_
    show Sq p e below m T36 26 #[rv r0, rv b2, iv ((4 : Int32) + (1 : Int32))] [] _
    rw [show ((4 : Int32) + (1 : Int32)) = (5 : Int32) from by decide]
    show Sq p e below m T36 26 #[rv r0, rv b2, iv 5] [] _
    refine XS.goto X36.here hx rfl (pc0 := 26) (pc' := 8) rfl (hb hby d30_26) (by decide) (by decide) ?_
    refine XS.iloadN X36.here hx rfl (hb hby d30_8) rfl ?_
    show Sq p e below m T36 9 #[rv r0, rv b2, iv 5] [.int 5] _
    refine XS.aloadN X36.here hx rfl (hb hby d30_9) rfl rfl ?_
    show Sq p e below m T36 10 #[rv r0, rv b2, iv 5] [.ref r0, .int 5] _
    refine st40 _ ?_
    show Sq p e below m T36 11 #[rv r0, rv b2, iv 5] [.int 5, .int 5] _
    refine XS.icmpYes X36.here hx rfl (pc0 := 11) (pc' := 29) rfl (hb hby d30_11) rfl (flt (by decide)).2.1 (by decide) (by decide) ?_
    show Sq p e below m T36 29 #[rv r0, rv b2, iv 5] [] _
    refine st41 _ ?_
    show Sq p e below m T41 32 #[rv r0, rv b2, iv 5] [.ref b41] _
    refine XS.dup X41.here hx rfl (hb hby d30_32) rfl rfl ?_
    refine XS.aloadN X41.here hx rfl (hb hby d30_33) rfl rfl ?_
    show Sq p e below m T41 34 #[rv r0, rv b2, iv 5] [.ref b2, .ref b41, .ref b41] _
    refine XS.iconst X41.here hx rfl (hb hby d30_34) ?_
    show Sq p e below m T41 35 #[rv r0, rv b2, iv 5] [.int 0, .ref b2, .ref b41, .ref b41] _
    refine st46.trans ?_
    show Sq p e below m T46 38 #[rv r0, rv b2, iv 5] [.ref b41] _
    jvm_step X46.here [X46.here.top, hx, (hb hby d30_38), X46.method', Bd.returns, Value.isRef, FieldType.isReference]
    first | (intro acts; rw [hr _ acts rfl rfl rfl]) | rw [hr _ _ rfl rfl rfl]
    exact Steps.refl _
  · show Q_lfa5 Z r0 k0 x1 h0 n0 _ T46.heap _
    rw [e46]
    exact ⟨b41, b2, k2, rfl, N46, K48, sz_b41, sz_b2, A41, p46_1, V36⟩
def Q_ofarr5 (Z : State) (r0 : Addr) (k0 : ClassId) (x1 : Addr) (h0 : Heap) (n0 : Nat) (v : Option Value) (h : Heap) (L : List Loc) : Prop := ∃ r : Addr, ∃ g : Addr, ∃ kg : ClassId, v = some (.ref r) ∧ Fr n0 L ∧ Keep h0 h [] ∧ h0.size ≤ r ∧ h0.size ≤ g ∧ Exa Z h r "java/util/ImmutableCollections$ListN" ∧ Fld Z h r "java/util/ImmutableCollections$ListN" "elements" "[Ljava/lang/Object;" (.ref g) ∧ Arv Z h g kg (.object "java/lang/Object") (5 : Int32) [(.ref x1), (.ref x1), (.ref x1), (.ref x1), (.ref x1)] .null
set_option maxRecDepth 65536 in
set_option maxHeartbeats 40000000 in
theorem ofarr5 (l : Launch) (Z : State) (a0 : Array Value) (hw : ∀ d ∈ tables_1, d.before a0 Z = true) (ws : List Jvm.Cond) (r0 : Addr) (k0 : ClassId) (x1 : Addr) (h0 : Heap) (n0 : Nat) (O : Old Z n0 h0) (Vr : Arv Z h0 r0 k0 (.object "java/lang/Object") (5 : Int32) [(.ref x1), (.ref x1), (.ref x1), (.ref x1), (.ref x1)] .null) (Ex : Exa Z Z.heap x1 "java/time/Duration") :
    Ctr l Z y_26 jdk_40_method_47_code 2 (some (.object "java/util/List")) ws ({ frames := 6, cells := 2, slots := 7, locals := 77 } : Room) #[(.ref r0)] h0 (Q_ofarr5 Z r0 k0 x1 h0 n0) := by
  refine MetFree.of_bodySF (plainFor_of_name pn_7) hisR ?_
  intro p e s m args below meth c s₁ Bd hml0 hP hK
  obtain ⟨rfl, hZ, hh⟩ := hP
  have W := fun (i : Nat) {d : Jvm.Cond} (h : tables_1[i]? = some d) => hw d (List.mem_of_getElem? h)
  have hx := Bd.exec
  have hby := Bd.bytes
  have hml : c.maxLocals = 2 := hml0
  have hown : s.vm.findClass "java/util/List" = some m.cls := findClass_of_methodNamed Bd.named
  have hnm := (name_of_methodNamed Bd.named Bd.method).1
  have X0 : Stand p l e ({ frames := 6, cells := 2, slots := 7, locals := 77 } : Room) s m #[(.ref r0)] below meth c s₁ [] 0 0 := Stand.of_body Bd
  have e0 : s₁.heap = h0 := by rw [← hh, Bd.state]; rfl
  have N0 := Fr.nil n0
  have pre0 : ∀ t, Steps p.tables e below (s₁.setTop (mkF m 0 #[.val (.ref r0), .unset] [])) t → Steps p.tables e below (s₁.setTop (entryFrame m #[(.ref r0)] 2)) t := fun t kk_ => castTop (ef_26 m r0) kk_
  have K0 := Keep.refl h0 []
  obtain ⟨cl1, Ar1, -, S1, Ng1, -, -⟩ := id Vr
  have st1 := X0.arraylength hx (by rw [e0]; exact Ar1.1) (State.isArrayOf_alike hZ.alike Ar1.2.1) (g := (mkF m 1 #[rv r0, .unset] [.ref r0])) rfl rfl (hb hby d25_1)
  rw [len_of S1 Ng1] at st1
  obtain ⟨_, _, ⟨T2, L2, k2, n2⟩, -, X2, ⟨Lc2, hQ2, l2, y2, z2⟩, st2⟩ := Jvm.LawKit.callS X0 hx (y := y_28) hown (mvT hZ (W 210 rfl)) (mvT hZ (W 211 rfl)) (mvT hZ (W 67 rfl)) (mvT hZ (W 212 rfl)) (by decide) (backOf (W := 0) (lfa5 l Z a0 hw [] r0 k0 x1 h0 n0 O Vr Ex) hZ (W 212 rfl) (W 67 rfl) (by decide) (by decide)) (g := (mkF m 60 #[rv r0, .unset] [.ref r0])) rfl (by rw [hml]; rfl) (argsL := [.ref r0]) (rest := []) (lenOf pd_12 rfl) rfl (by show 2 * 0 + _ ≤ _; exact Nat.le_of_eq rfl) (hb hby d25_60) (fun _ _ => ⟨rfl, e0, (by decide : 0 + 2 ≤ _), (by decide : 0 + 7 ≤ _)⟩)
  dsimp only [Pt.U, Pt.locs, Pt.cells, Pt.slots] at X2 l2 y2 z2 st2 hQ2
  subst l2 y2 z2
  obtain ⟨h2, e2⟩ : ∃ z, T2.heap = z := ⟨_, rfl⟩
  rw [e2] at hQ2
  obtain ⟨b2r, b2g, b2kg, rfl, N2q, p2_0, p2_1, p2_2, p2_3, p2_4, p2_5⟩ := hQ2
  have N2 := Fr.app N0 N2q
  have sz_b2r : h0.size ≤ b2r := Nat.le_trans K0.1 p2_1
  have sz_b2g : h0.size ≤ b2g := Nat.le_trans K0.1 p2_2
  have K4 := K0.trans p2_0 all0
  obtain ⟨fs, hr, hrun, hended, hW, hsame⟩ := X2.leave (v := some (.ref b2r)) (fun h => by rw [Bd.returns] at h; cases h)
  refine ⟨_, _, pre0 _ ?_, hrun, hended, _, _, rfl, ?_, ⟨_, rfl⟩, hW, hsame.mono (by decide) (by decide)⟩
  · show Sq p e below m s₁ 0 #[rv r0, .unset] [] _
    refine XS.aloadN X0.here hx rfl (hb hby d25_0) rfl rfl ?_
    show Sq p e below m s₁ 1 #[rv r0, .unset] [.ref r0] _
    refine st1 _ ?_
    show Sq p e below m s₁ 2 #[rv r0, .unset] [.int 5] _
    refine XS.tswOut X0.here hx rfl (pc0 := 2) (pc' := 59) rfl (hb hby d25_2) rfl (by decide) (by decide) (by decide) ?_
    refine XS.aloadN X0.here hx rfl (hb hby d25_59) rfl rfl ?_
    show Sq p e below m s₁ 60 #[rv r0, .unset] [.ref r0] _
    refine st2 _ ?_
    show Sq p e below m T2 63 #[rv r0, .unset] [.ref b2r] _
    jvm_step X2.here [X2.here.top, hx, (hb hby d25_63), X2.method', Bd.returns, Value.isRef, FieldType.isReference]
    first | (intro acts; rw [hr _ acts rfl rfl rfl]) | rw [hr _ _ rfl rfl rfl]
    exact Steps.refl _
  · show Q_ofarr5 Z r0 k0 x1 h0 n0 _ T2.heap _
    rw [e2]
    exact ⟨b2r, b2g, b2kg, rfl, N2, K4, sz_b2r, sz_b2g, p2_3, p2_4, p2_5⟩
def Q_lcopy5 (Z : State) (a : Addr) (b : Addr) (kb : ClassId) (x1 : Addr) (w_MIR : Addr) (h0 : Heap) (n0 : Nat) (v : Option Value) (h : Heap) (L : List Loc) : Prop := ∃ r : Addr, ∃ g : Addr, ∃ kg : ClassId, v = some (.ref r) ∧ Fr n0 L ∧ Keep h0 h [] ∧ h0.size ≤ r ∧ h0.size ≤ g ∧ Exa Z h r "java/util/ImmutableCollections$ListN" ∧ Fld Z h r "java/util/ImmutableCollections$ListN" "elements" "[Ljava/lang/Object;" (.ref g) ∧ Arv Z h g kg (.object "java/lang/Object") (5 : Int32) [(.ref x1), (.ref x1), (.ref x1), (.ref x1), (.ref x1)] .null
set_option maxRecDepth 65536 in
set_option maxHeartbeats 40000000 in
theorem lcopy5 (l : Launch) (Z : State) (a0 : Array Value) (hw : ∀ d ∈ tables_1, d.before a0 Z = true) (ws : List Jvm.Cond) (a : Addr) (b : Addr) (kb : ClassId) (x1 : Addr) (w_MIR : Addr) (h0 : Heap) (n0 : Nat) (O : Old Z n0 h0) (Ea : Exa Z h0 a "java/util/ArrayList") (Vb : Arv Z h0 b kb (.object "java/lang/Object") (10 : Int32) [(.ref x1), (.ref x1), (.ref x1), (.ref x1), (.ref x1), .null, .null, .null, .null, .null] .null) (Ex : Exa Z Z.heap x1 "java/time/Duration") (Mo : Mirr Z "[Ljava/lang/Object;" w_MIR) (Eb : Exa Z h0 b "[Ljava/lang/Object;") (Fd : Fld Z h0 a "java/util/ArrayList" "elementData" "[Ljava/lang/Object;" (.ref b)) (Fs : Fld Z h0 a "java/util/ArrayList" "size" "I" (.int (5 : Int32))) :
    Ctr l Z y_24 jdk_56_method_3_code 2 (some (.object "java/util/List")) ws ({ frames := 7, cells := 3, slots := 14, locals := 90 } : Room) #[(.ref a)] h0 (Q_lcopy5 Z a b kb x1 w_MIR h0 n0) := by
  refine MetFree.of_bodySF (plainFor_of_name pn_11) hisR ?_
  intro p e s m args below meth c s₁ Bd hml0 hP hK
  obtain ⟨rfl, hZ, hh⟩ := hP
  have W := fun (i : Nat) {d : Jvm.Cond} (h : tables_1[i]? = some d) => hw d (List.mem_of_getElem? h)
  have hx := Bd.exec
  have hby := Bd.bytes
  have hml : c.maxLocals = 2 := hml0
  have hown : s.vm.findClass "java/util/ImmutableCollections" = some m.cls := findClass_of_methodNamed Bd.named
  have hnm := (name_of_methodNamed Bd.named Bd.method).1
  have X0 : Stand p l e ({ frames := 7, cells := 3, slots := 14, locals := 90 } : Room) s m #[(.ref a)] below meth c s₁ [] 0 0 := Stand.of_body Bd
  have e0 : s₁.heap = h0 := by rw [← hh, Bd.state]; rfl
  have N0 := Fr.nil n0
  have pre0 : ∀ t, Steps p.tables e below (s₁.setTop (mkF m 0 #[.val (.ref a), .unset] [])) t → Steps p.tables e below (s₁.setTop (entryFrame m #[(.ref a)] 2)) t := fun t kk_ => castTop (ef_24 m a) kk_
  have K0 := Keep.refl h0 []
  obtain ⟨T1, X1, e1, st1⟩ := instNo X0 hx hZ hown (W 69 rfl) e0 Ea (own_nsno (W 70 rfl) (W 179 rfl) (NS.step (W 70 rfl) (NS.step (W 71 rfl) (NS.step (W 72 rfl) (own_nsroot (W 73 rfl) (W 179 rfl) (by decide)) (by decide)) (by decide)) (by decide)) (by decide)) (g := (mkF m 1 #[rv a, .unset] [.ref a])) rfl rfl (hb hby d10_1)
  obtain ⟨T2, X2, e2, st2⟩ := instNo X1 hx hZ hown (W 74 rfl) e1 Ea (own_nsno (W 70 rfl) (W 215 rfl) (NS.step (W 70 rfl) (NS.step (W 71 rfl) (NS.step (W 72 rfl) (own_nsroot (W 73 rfl) (W 215 rfl) (by decide)) (by decide)) (by decide)) (by decide)) (by decide)) (g := (mkF m 8 #[rv a, .unset] [.ref a])) rfl rfl (hb hby d10_8)
  obtain ⟨cq3, kq3, q3a, q3b, q3c⟩ := isOf hZ e2 Ea
  obtain ⟨_, _, ⟨T3, L3, k3, n3⟩, -, X3, ⟨Lc3, hQ3, l3, y3, z3⟩, st3⟩ := X2.interfaceBack hx (xi := y_23) (y := y_16) hown (mvT hZ (W 75 rfl)) (mvT hZ (W 76 rfl)) (mvT hZ (W 77 rfl)) (mvT hZ (W 78 rfl)) (mvT hZ (W 79 rfl)) (mvT hZ (W 80 rfl)) (mvT hZ (W 81 rfl)) (mvT hZ (W 82 rfl)) (by decide) (backOf (W := 0) (emp1 l Z a0 hw [] a (5 : Int32) h0 n0 O Fs (by decide)) hZ (W 83 rfl) (W 26 rfl) (by decide) (by decide)) q3a q3b q3c (g := (mkF m 32 #[rv a, .unset] [.ref a])) rfl (by rw [hml]; rfl) (Steps.refl _) (argsL := []) (rest := []) (lenOf pd_8 rfl) rfl (by show 2 * 0 + _ ≤ _; exact Nat.le_of_eq rfl) (hb hby d10_32) (fun _ _ => ⟨rfl, e2, (by decide : 0 + 0 ≤ _), (by decide : 0 + 0 ≤ _)⟩)
  dsimp only [Pt.U, Pt.locs, Pt.cells, Pt.slots] at X3 l3 y3 z3 st3 hQ3
  subst l3 y3 z3
  obtain ⟨h3, e3⟩ : ∃ z, T3.heap = z := ⟨_, rfl⟩
  rw [e3] at hQ3
  obtain ⟨rfl, N3q, p3_0⟩ := hQ3
  have N3 := Fr.app N0 N3q
  rw [p3_0] at e3
  obtain ⟨cq4, kq4, q4a, q4b, q4c⟩ := isOf hZ e3 Ea
  obtain ⟨_, _, ⟨T4, L4, k4, n4⟩, -, X4, ⟨Lc4, hQ4, l4, y4, z4⟩, st4⟩ := X3.interfaceBack hx (xi := y_27) (y := y_22) hown (mvT hZ (W 145 rfl)) (mvT hZ (W 146 rfl)) (mvT hZ (W 147 rfl)) (mvT hZ (W 148 rfl)) (mvT hZ (W 149 rfl)) (mvT hZ (W 150 rfl)) (mvT hZ (W 151 rfl)) (mvT hZ (W 82 rfl)) (by decide) (backOf (W := 0) (toarr l Z a0 hw [] a b kb w_MIR (5 : Int32) [(.ref x1), (.ref x1), (.ref x1), (.ref x1), (.ref x1), .null, .null, .null, .null, .null] [(.ref x1), (.ref x1), (.ref x1), (.ref x1), (.ref x1)] h0 n0 O Vb Mo (by decide) (by decide) (Nat.le_of_ble_eq_true rfl) rfl (own_all (n := 5) ⟨x1, rfl, Ex⟩) Eb Fd Fs) hZ (W 152 rfl) (W 26 rfl) (by decide) (by decide)) q4a q4b q4c (g := (mkF m 45 #[rv a, .unset] [.ref a])) rfl (by rw [hml]; rfl) (Steps.refl _) (argsL := []) (rest := []) (lenOf pd_4 rfl) rfl (by show 2 * 0 + _ ≤ _; exact Nat.le_of_eq rfl) (hb hby d10_45) (fun _ _ => ⟨rfl, e3, (by decide : 0 + 1 ≤ _), (by decide : 0 + 7 ≤ _)⟩)
  dsimp only [Pt.U, Pt.locs, Pt.cells, Pt.slots] at X4 l4 y4 z4 st4 hQ4
  subst l4 y4 z4
  obtain ⟨h4, e4⟩ : ∃ z, T4.heap = z := ⟨_, rfl⟩
  rw [e4] at hQ4
  obtain ⟨b4r, b4kr, rfl, N4q, p4_0, p4_1, p4_2, p4_3⟩ := hQ4
  have N4 := Fr.app N3 N4q
  have O5 := O.keep p4_0 all0
  have K6 := K0.trans p4_0 all0
  obtain ⟨_, _, ⟨T7, L7, k7, n7⟩, -, X7, ⟨Lc7, hQ7, l7, y7, z7⟩, st7⟩ := Jvm.LawKit.callS X4 hx (y := y_26) hown (mvT hZ (W 175 rfl)) (mvT hZ (W 176 rfl)) (mvT hZ (W 63 rfl)) (mvT hZ (W 177 rfl)) (by decide) (backOf (W := 0) (ofarr5 l Z a0 hw [] b4r b4kr x1 h4 n0 O5 p4_2 Ex) hZ (W 177 rfl) (W 63 rfl) (by decide) (by decide)) (g := (mkF m 50 #[rv a, .unset] [.ref b4r])) rfl (by rw [hml]; rfl) (argsL := [.ref b4r]) (rest := []) (lenOf pd_12 rfl) rfl (by show 2 * 0 + _ ≤ _; exact Nat.le_of_eq rfl) (hb hby d10_50) (fun _ _ => ⟨rfl, e4, (by decide : 1 + 2 ≤ _), (by decide : 7 + 7 ≤ _)⟩)
  dsimp only [Pt.U, Pt.locs, Pt.cells, Pt.slots] at X7 l7 y7 z7 st7 hQ7
  subst l7 y7 z7
  obtain ⟨h7, e7⟩ : ∃ z, T7.heap = z := ⟨_, rfl⟩
  rw [e7] at hQ7
  obtain ⟨b7r, b7g, b7kg, rfl, N7q, p7_0, p7_1, p7_2, p7_3, p7_4, p7_5⟩ := hQ7
  have N7 := Fr.app N4 N7q
  have sz_b7r : h0.size ≤ b7r := Nat.le_trans K6.1 p7_1
  have sz_b7g : h0.size ≤ b7g := Nat.le_trans K6.1 p7_2
  have K9 := K6.trans p7_0 all0
  obtain ⟨fs, hr, hrun, hended, hW, hsame⟩ := X7.leave (v := some (.ref b7r)) (fun h => by rw [Bd.returns] at h; cases h)
  refine ⟨_, _, pre0 _ ?_, hrun, hended, _, _, rfl, ?_, ⟨_, rfl⟩, hW, hsame.mono (by decide) (by decide)⟩
  · show Sq p e below m s₁ 0 #[rv a, .unset] [] _
    refine XS.aloadN X0.here hx rfl (hb hby d10_0) rfl rfl ?_
    show Sq p e below m s₁ 1 #[rv a, .unset] [.ref a] _
    refine st1 _ ?_
    show Sq p e below m T1 4 #[rv a, .unset] [.int 0] _
    refine XS.ifNo X1.here hx rfl (hb hby d10_4) rfl ((if0 _ _).trans (teq (rfl : (0 : Int32) = (0 : Int32))).2) ?_
    refine XS.aloadN X1.here hx rfl (hb hby d10_7) rfl rfl ?_
    show Sq p e below m T1 8 #[rv a, .unset] [.ref a] _
    refine st2 _ ?_
    show Sq p e below m T2 11 #[rv a, .unset] [.int 0] _
    refine XS.ifYes X2.here hx rfl (pc0 := 11) (pc' := 31) rfl (hb hby d10_11) rfl ((if0 _ _).trans (teq (rfl : (0 : Int32) = (0 : Int32))).1) (by decide) (by decide) ?_
    refine XS.aloadN X2.here hx rfl (hb hby d10_31) rfl rfl ?_
    show Sq p e below m T2 32 #[rv a, .unset] [.ref a] _
    refine st3.trans ?_
    show Sq p e below m T3 37 #[rv a, .unset] [.int 0] _
    refine XS.ifYes X3.here hx rfl (pc0 := 37) (pc' := 44) rfl (hb hby d10_37) rfl ((if0 _ _).trans (teq (rfl : (0 : Int32) = (0 : Int32))).1) (by decide) (by decide) ?_
    refine XS.aloadN X3.here hx rfl (hb hby d10_44) rfl rfl ?_
    show Sq p e below m T3 45 #[rv a, .unset] [.ref a] _
    refine st4.trans ?_
    show Sq p e below m T4 50 #[rv a, .unset] [.ref b4r] _
    refine st7 _ ?_
    show Sq p e below m T7 53 #[rv a, .unset] [.ref b7r] _
    jvm_step X7.here [X7.here.top, hx, (hb hby d10_53), X7.method', Bd.returns, Value.isRef, FieldType.isReference]
    first | (intro acts; rw [hr _ acts rfl rfl rfl]) | rw [hr _ _ rfl rfl rfl]
    exact Steps.refl _
  · show Q_lcopy5 Z a b kb x1 w_MIR h0 n0 _ T7.heap _
    rw [e7]
    exact ⟨b7r, b7g, b7kg, rfl, N7, K9, sz_b7r, sz_b7g, p7_3, p7_4, p7_5⟩
def Q_copyof5 (Z : State) (a : Addr) (b : Addr) (kb : ClassId) (x1 : Addr) (w_MIR : Addr) (h0 : Heap) (n0 : Nat) (v : Option Value) (h : Heap) (L : List Loc) : Prop := ∃ r : Addr, ∃ g : Addr, ∃ kg : ClassId, v = some (.ref r) ∧ Fr n0 L ∧ Keep h0 h [] ∧ h0.size ≤ r ∧ h0.size ≤ g ∧ Exa Z h r "java/util/ImmutableCollections$ListN" ∧ Fld Z h r "java/util/ImmutableCollections$ListN" "elements" "[Ljava/lang/Object;" (.ref g) ∧ Arv Z h g kg (.object "java/lang/Object") (5 : Int32) [(.ref x1), (.ref x1), (.ref x1), (.ref x1), (.ref x1)] .null
set_option maxRecDepth 65536 in
set_option maxHeartbeats 40000000 in
theorem copyof5 (l : Launch) (Z : State) (a0 : Array Value) (hw : ∀ d ∈ tables_1, d.before a0 Z = true) (ws : List Jvm.Cond) (a : Addr) (b : Addr) (kb : ClassId) (x1 : Addr) (w_MIR : Addr) (h0 : Heap) (n0 : Nat) (O : Old Z n0 h0) (Ea : Exa Z h0 a "java/util/ArrayList") (Vb : Arv Z h0 b kb (.object "java/lang/Object") (10 : Int32) [(.ref x1), (.ref x1), (.ref x1), (.ref x1), (.ref x1), .null, .null, .null, .null, .null] .null) (Ex : Exa Z Z.heap x1 "java/time/Duration") (Mo : Mirr Z "[Ljava/lang/Object;" w_MIR) (Eb : Exa Z h0 b "[Ljava/lang/Object;") (Fd : Fld Z h0 a "java/util/ArrayList" "elementData" "[Ljava/lang/Object;" (.ref b)) (Fs : Fld Z h0 a "java/util/ArrayList" "size" "I" (.int (5 : Int32))) :
    Ctr l Z y_25 jdk_40_method_48_code 1 (some (.object "java/util/List")) ws ({ frames := 8, cells := 3, slots := 14, locals := 103 } : Room) #[(.ref a)] h0 (Q_copyof5 Z a b kb x1 w_MIR h0 n0) := by
  refine MetFree.of_bodySF (plainFor_of_name pn_7) hisR ?_
  intro p e s m args below meth c s₁ Bd hml0 hP hK
  obtain ⟨rfl, hZ, hh⟩ := hP
  have W := fun (i : Nat) {d : Jvm.Cond} (h : tables_1[i]? = some d) => hw d (List.mem_of_getElem? h)
  have hx := Bd.exec
  have hby := Bd.bytes
  have hml : c.maxLocals = 1 := hml0
  have hown : s.vm.findClass "java/util/List" = some m.cls := findClass_of_methodNamed Bd.named
  have hnm := (name_of_methodNamed Bd.named Bd.method).1
  have X0 : Stand p l e ({ frames := 8, cells := 3, slots := 14, locals := 103 } : Room) s m #[(.ref a)] below meth c s₁ [] 0 0 := Stand.of_body Bd
  have e0 : s₁.heap = h0 := by rw [← hh, Bd.state]; rfl
  have N0 := Fr.nil n0
  have pre0 : ∀ t, Steps p.tables e below (s₁.setTop (mkF m 0 #[.val (.ref a)] [])) t → Steps p.tables e below (s₁.setTop (entryFrame m #[(.ref a)] 1)) t := fun t kk_ => castTop (ef_25 m a) kk_
  have K0 := Keep.refl h0 []
  obtain ⟨_, _, ⟨T1, L1, k1, n1⟩, -, X1, ⟨Lc1, hQ1, l1, y1, z1⟩, st1⟩ := Jvm.LawKit.callS X0 hx (y := y_24) hown (mvT hZ (W 65 rfl)) (mvT hZ (W 66 rfl)) (mvT hZ (W 67 rfl)) (mvT hZ (W 68 rfl)) (by decide) (backOf (W := 0) (lcopy5 l Z a0 hw [] a b kb x1 w_MIR h0 n0 O Ea Vb Ex Mo Eb Fd Fs) hZ (W 68 rfl) (W 67 rfl) (by decide) (by decide)) (g := (mkF m 1 #[rv a] [.ref a])) rfl (by rw [hml]; rfl) (argsL := [.ref a]) (rest := []) (lenOf pd_10 rfl) rfl (by show 2 * 0 + _ ≤ _; exact Nat.le_of_eq rfl) (hb hby d9_1) (fun _ _ => ⟨rfl, e0, (by decide : 0 + 3 ≤ _), (by decide : 0 + 14 ≤ _)⟩)
  dsimp only [Pt.U, Pt.locs, Pt.cells, Pt.slots] at X1 l1 y1 z1 st1 hQ1
  subst l1 y1 z1
  obtain ⟨h1, e1⟩ : ∃ z, T1.heap = z := ⟨_, rfl⟩
  rw [e1] at hQ1
  obtain ⟨b1r, b1g, b1kg, rfl, N1q, p1_0, p1_1, p1_2, p1_3, p1_4, p1_5⟩ := hQ1
  have N1 := Fr.app N0 N1q
  have sz_b1r : h0.size ≤ b1r := Nat.le_trans K0.1 p1_1
  have sz_b1g : h0.size ≤ b1g := Nat.le_trans K0.1 p1_2
  have K3 := K0.trans p1_0 all0
  obtain ⟨fs, hr, hrun, hended, hW, hsame⟩ := X1.leave (v := some (.ref b1r)) (fun h => by rw [Bd.returns] at h; cases h)
  refine ⟨_, _, pre0 _ ?_, hrun, hended, _, _, rfl, ?_, ⟨_, rfl⟩, hW, hsame.mono (by decide) (by decide)⟩
  · show Sq p e below m s₁ 0 #[rv a] [] _
    refine XS.aloadN X0.here hx rfl (hb hby d9_0) rfl rfl ?_
    show Sq p e below m s₁ 1 #[rv a] [.ref a] _
    refine st1 _ ?_
    show Sq p e below m T1 4 #[rv a] [.ref b1r] _
    jvm_step X1.here [X1.here.top, hx, (hb hby d9_4), X1.method', Bd.returns, Value.isRef, FieldType.isReference]
    first | (intro acts; rw [hr _ acts rfl rfl rfl]) | rw [hr _ _ rfl rfl rfl]
    exact Steps.refl _
  · show Q_copyof5 Z a b kb x1 w_MIR h0 n0 _ T1.heap _
    rw [e1]
    exact ⟨b1r, b1g, b1kg, rfl, N1, K3, sz_b1r, sz_b1g, p1_3, p1_4, p1_5⟩
def Q_lfa6 (Z : State) (r0 : Addr) (k0 : ClassId) (x1 : Addr) (h0 : Heap) (n0 : Nat) (v : Option Value) (h : Heap) (L : List Loc) : Prop := ∃ r : Addr, ∃ g : Addr, ∃ kg : ClassId, v = some (.ref r) ∧ Fr n0 L ∧ Keep h0 h [] ∧ h0.size ≤ r ∧ h0.size ≤ g ∧ Exa Z h r "java/util/ImmutableCollections$ListN" ∧ Fld Z h r "java/util/ImmutableCollections$ListN" "elements" "[Ljava/lang/Object;" (.ref g) ∧ Arv Z h g kg (.object "java/lang/Object") (6 : Int32) [(.ref x1), (.ref x1), (.ref x1), (.ref x1), (.ref x1), (.ref x1)] .null
set_option maxRecDepth 65536 in
set_option maxHeartbeats 40000000 in
theorem lfa6 (l : Launch) (Z : State) (a0 : Array Value) (hw : ∀ d ∈ tables_1, d.before a0 Z = true) (ws : List Jvm.Cond) (r0 : Addr) (k0 : ClassId) (x1 : Addr) (h0 : Heap) (n0 : Nat) (O : Old Z n0 h0) (Vr : Arv Z h0 r0 k0 (.object "java/lang/Object") (6 : Int32) [(.ref x1), (.ref x1), (.ref x1), (.ref x1), (.ref x1), (.ref x1)] .null) (Ex : Exa Z Z.heap x1 "java/time/Duration") :
    Ctr l Z y_28 jdk_56_method_4_code 3 (some (.object "java/util/List")) ws ({ frames := 5, cells := 2, slots := 8, locals := 63 } : Room) #[(.ref r0)] h0 (Q_lfa6 Z r0 k0 x1 h0 n0) := by
  refine MetFree.of_bodySF (plainFor_of_name pn_11) hisR ?_
  intro p e s m args below meth c s₁ Bd hml0 hP hK
  obtain ⟨rfl, hZ, hh⟩ := hP
  have W := fun (i : Nat) {d : Jvm.Cond} (h : tables_1[i]? = some d) => hw d (List.mem_of_getElem? h)
  have hx := Bd.exec
  have hby := Bd.bytes
  have hml : c.maxLocals = 3 := hml0
  have hown : s.vm.findClass "java/util/ImmutableCollections" = some m.cls := findClass_of_methodNamed Bd.named
  have hnm := (name_of_methodNamed Bd.named Bd.method).1
  have X0 : Stand p l e ({ frames := 5, cells := 2, slots := 8, locals := 63 } : Room) s m #[(.ref r0)] below meth c s₁ [] 0 0 := Stand.of_body Bd
  have e0 : s₁.heap = h0 := by rw [← hh, Bd.state]; rfl
  have N0 := Fr.nil n0
  have pre0 : ∀ t, Steps p.tables e below (s₁.setTop (mkF m 0 #[.val (.ref r0), .unset, .unset] [])) t → Steps p.tables e below (s₁.setTop (entryFrame m #[(.ref r0)] 3)) t := fun t kk_ => castTop (ef_27 m r0) kk_
  have K0 := Keep.refl h0 []
  obtain ⟨cl1, Ar1, -, S1, Ng1, -, -⟩ := id Vr
  have st1 := X0.arraylength hx (by rw [e0]; exact Ar1.1) (State.isArrayOf_alike hZ.alike Ar1.2.1) (g := (mkF m 1 #[rv r0, .unset, .unset] [.ref r0])) rfl rfl (hb hby d30_1)
  rw [len_of S1 Ng1] at st1
  obtain ⟨T2, h2, k2, X2, e2, E2, A2, A2x, Ov2, st2⟩ := newRE X0 hx hZ hown (W 213 rfl) (W 143 rfl) e0 (g := (mkF m 2 #[rv r0, .unset, .unset] [.int 6])) rfl (hb hby d30_2) rfl (by decide) (cap := 6) (by decide) (by decide) (by decide) (by decide) (ad := "[Ljava/lang/Object;") (by decide)
  obtain ⟨b2, g2⟩ : ∃ z, z = h0.size := ⟨_, rfl⟩
  rw [← g2] at A2 A2x st2
  have g_b2 : n0 ≤ b2 := Nat.le_trans (own_sz O) (Nat.le_of_eq g2.symm)
  have sz_b2 : h0.size ≤ b2 := Nat.le_trans K0.1 (Nat.le_of_eq g2.symm)
  have ne_r0_b2 : r0 ≠ b2 := Nat.ne_of_lt (Nat.lt_of_lt_of_le Vr.lt (Nat.le_of_eq g2.symm))
  have Vr := Vr.ext E2
  have O3 := O.ext E2
  have K4 := K0.ext E2
  have V2 : Arv Z h2 b2 k2 (.object "java/lang/Object") (6 : Int32) [.null, .null, .null, .null, .null, .null] .null := (Arv.new A2 (by decide)).pad (pad_rep [] .null 6)
  obtain ⟨cl5, Ar5, -, S5, Ng5, -, -⟩ := id Vr
  have st5 := X2.arraylength hx (by rw [e2]; exact Ar5.1) (State.isArrayOf_alike hZ.alike Ar5.2.1) (g := (mkF m 10 #[rv r0, rv b2, iv 0] [.ref r0, .int 0])) rfl rfl (hb hby d30_10)
  rw [len_of S5 Ng5] at st5
  obtain ⟨cl6, Ar6, q6, S6, Ng6, Hh6, Gg6⟩ := id Vr
  have st6 := X2.aaload hx (j := (0 : Int32)) (v := (.ref x1)) (by rw [e2]; exact Ar6.1) (State.isArrayOf_alike hZ.alike Ar6.2.1) rfl Ar6.2.2 (inb_of S6 (by decide)) (Hh6.at (inb_of S6 (by decide)) rfl) (g := (mkF m 18 #[rv r0, rv b2, iv 0] [.int 0, .ref r0, .int 0, .ref b2])) rfl rfl (hb hby d30_18)
  obtain ⟨_, _, ⟨T7, L7, k7, n7⟩, -, X7, ⟨Lc7, hQ7, l7, y7, z7⟩, st7⟩ := Jvm.LawKit.callS X2 hx (y := y_9) hown (mvT hZ (W 214 rfl)) (mvT hZ (W 200 rfl)) (mvT hZ (W 201 rfl)) (mvT hZ (W 202 rfl)) (by decide) (backOf (W := 2) (rnn l Z a0 hw [] x1 h2 n0 O3 ) hZ (W 202 rfl) (W 201 rfl) (by decide) (by decide)) (g := (mkF m 19 #[rv r0, rv b2, iv 0] [.ref x1, .int 0, .ref b2])) rfl (by rw [hml]; rfl) (argsL := [.ref x1]) (rest := [.int 0, .ref b2]) (lenOf pd_3 rfl) rfl (by show 2 * 0 + _ ≤ _; exact Nat.le_of_eq rfl) (hb hby d30_19) (fun _ _ => ⟨rfl, e2, (by decide : 1 + 0 ≤ _), (by decide : 6 + 0 ≤ _)⟩)
  dsimp only [Pt.U, Pt.locs, Pt.cells, Pt.slots] at X7 l7 y7 z7 st7 hQ7
  subst l7 y7 z7
  obtain ⟨h7, e7⟩ : ∃ z, T7.heap = z := ⟨_, rfl⟩
  rw [e7] at hQ7
  obtain ⟨rfl, N7q, p7_0⟩ := hQ7
  have N7 := Fr.app N0 N7q
  rw [p7_0] at e7
  obtain ⟨cl8, Ar8, q8, S8, Ng8, Hh8, Gg8⟩ := id V2
  obtain ⟨T8, h8, X8, e8, W8, st8⟩ := stR X7 hx hZ e7 Ar8 (j := (0 : Int32)) (inb_of S8 (by decide)) rfl (Sto.ofV Ar8 q8 Ov2 (Ins.of_exa (Ex.ext O3.2) (W 144 rfl))) (g := (mkF m 22 #[rv r0, rv b2, iv 0] [.ref x1, .int 0, .ref b2])) rfl rfl (hb hby d30_22)
  have V8 : Arv Z h8 b2 k2 (.object "java/lang/Object") (6 : Int32) [(.ref x1), .null, .null, .null, .null, .null] .null := Arv.set Ar8 q8 S8 Ng8 Hh8 Gg8 rfl W8 0 rfl (Nat.le_of_ble_eq_true rfl)
  have Vr := Vr.other W8 ne_r0_b2
  have A2x := A2x.wr W8
  have O9 := O3.wr W8 g_b2
  have K10 := K4.wr W8 (Or.inr sz_b2)
  have N11 := Fr.snoc X8 N7 g_b2
  obtain ⟨cl12, Ar12, -, S12, Ng12, -, -⟩ := id Vr
  have st12 := X8.arraylength hx (by rw [e8]; exact Ar12.1) (State.isArrayOf_alike hZ.alike Ar12.2.1) (g := (mkF m 10 #[rv r0, rv b2, iv 1] [.ref r0, .int 1])) rfl rfl (hb hby d30_10)
  rw [len_of S12 Ng12] at st12
  obtain ⟨cl13, Ar13, q13, S13, Ng13, Hh13, Gg13⟩ := id Vr
  have st13 := X8.aaload hx (j := (1 : Int32)) (v := (.ref x1)) (by rw [e8]; exact Ar13.1) (State.isArrayOf_alike hZ.alike Ar13.2.1) rfl Ar13.2.2 (inb_of S13 (by decide)) (Hh13.at (inb_of S13 (by decide)) rfl) (g := (mkF m 18 #[rv r0, rv b2, iv 1] [.int 1, .ref r0, .int 1, .ref b2])) rfl rfl (hb hby d30_18)
  obtain ⟨_, _, ⟨T14, L14, k14, n14⟩, -, X14, ⟨Lc14, hQ14, l14, y14, z14⟩, st14⟩ := Jvm.LawKit.callS X8 hx (y := y_9) hown (mvT hZ (W 214 rfl)) (mvT hZ (W 200 rfl)) (mvT hZ (W 201 rfl)) (mvT hZ (W 202 rfl)) (by decide) (backOf (W := 2) (rnn l Z a0 hw [] x1 h8 n0 O9 ) hZ (W 202 rfl) (W 201 rfl) (by decide) (by decide)) (g := (mkF m 19 #[rv r0, rv b2, iv 1] [.ref x1, .int 1, .ref b2])) rfl (by rw [hml]; rfl) (argsL := [.ref x1]) (rest := [.int 1, .ref b2]) (lenOf pd_3 rfl) rfl (by show 2 * 0 + _ ≤ _; exact Nat.le_of_eq rfl) (hb hby d30_19) (fun _ _ => ⟨rfl, e8, (by decide : 1 + 0 ≤ _), (by decide : 6 + 0 ≤ _)⟩)
  dsimp only [Pt.U, Pt.locs, Pt.cells, Pt.slots] at X14 l14 y14 z14 st14 hQ14
  subst l14 y14 z14
  obtain ⟨h14, e14⟩ : ∃ z, T14.heap = z := ⟨_, rfl⟩
  rw [e14] at hQ14
  obtain ⟨rfl, N14q, p14_0⟩ := hQ14
  have N14 := Fr.app N11 N14q
  rw [p14_0] at e14
  obtain ⟨cl15, Ar15, q15, S15, Ng15, Hh15, Gg15⟩ := id V8
  obtain ⟨T15, h15, X15, e15, W15, st15⟩ := stR X14 hx hZ e14 Ar15 (j := (1 : Int32)) (inb_of S15 (by decide)) rfl (Sto.ofV Ar15 q15 Ov2 (Ins.of_exa (Ex.ext O9.2) (W 144 rfl))) (g := (mkF m 22 #[rv r0, rv b2, iv 1] [.ref x1, .int 1, .ref b2])) rfl rfl (hb hby d30_22)
  have V15 : Arv Z h15 b2 k2 (.object "java/lang/Object") (6 : Int32) [(.ref x1), (.ref x1), .null, .null, .null, .null] .null := Arv.set Ar15 q15 S15 Ng15 Hh15 Gg15 rfl W15 1 rfl (Nat.le_of_ble_eq_true rfl)
  have Vr := Vr.other W15 ne_r0_b2
  have A2x := A2x.wr W15
  have O16 := O9.wr W15 g_b2
  have K17 := K10.wr W15 (Or.inr sz_b2)
  have N18 := Fr.snoc X15 N14 g_b2
  obtain ⟨cl19, Ar19, -, S19, Ng19, -, -⟩ := id Vr
  have st19 := X15.arraylength hx (by rw [e15]; exact Ar19.1) (State.isArrayOf_alike hZ.alike Ar19.2.1) (g := (mkF m 10 #[rv r0, rv b2, iv 2] [.ref r0, .int 2])) rfl rfl (hb hby d30_10)
  rw [len_of S19 Ng19] at st19
  obtain ⟨cl20, Ar20, q20, S20, Ng20, Hh20, Gg20⟩ := id Vr
  have st20 := X15.aaload hx (j := (2 : Int32)) (v := (.ref x1)) (by rw [e15]; exact Ar20.1) (State.isArrayOf_alike hZ.alike Ar20.2.1) rfl Ar20.2.2 (inb_of S20 (by decide)) (Hh20.at (inb_of S20 (by decide)) rfl) (g := (mkF m 18 #[rv r0, rv b2, iv 2] [.int 2, .ref r0, .int 2, .ref b2])) rfl rfl (hb hby d30_18)
  obtain ⟨_, _, ⟨T21, L21, k21, n21⟩, -, X21, ⟨Lc21, hQ21, l21, y21, z21⟩, st21⟩ := Jvm.LawKit.callS X15 hx (y := y_9) hown (mvT hZ (W 214 rfl)) (mvT hZ (W 200 rfl)) (mvT hZ (W 201 rfl)) (mvT hZ (W 202 rfl)) (by decide) (backOf (W := 2) (rnn l Z a0 hw [] x1 h15 n0 O16 ) hZ (W 202 rfl) (W 201 rfl) (by decide) (by decide)) (g := (mkF m 19 #[rv r0, rv b2, iv 2] [.ref x1, .int 2, .ref b2])) rfl (by rw [hml]; rfl) (argsL := [.ref x1]) (rest := [.int 2, .ref b2]) (lenOf pd_3 rfl) rfl (by show 2 * 0 + _ ≤ _; exact Nat.le_of_eq rfl) (hb hby d30_19) (fun _ _ => ⟨rfl, e15, (by decide : 1 + 0 ≤ _), (by decide : 6 + 0 ≤ _)⟩)
  dsimp only [Pt.U, Pt.locs, Pt.cells, Pt.slots] at X21 l21 y21 z21 st21 hQ21
  subst l21 y21 z21
  obtain ⟨h21, e21⟩ : ∃ z, T21.heap = z := ⟨_, rfl⟩
  rw [e21] at hQ21
  obtain ⟨rfl, N21q, p21_0⟩ := hQ21
  have N21 := Fr.app N18 N21q
  rw [p21_0] at e21
  obtain ⟨cl22, Ar22, q22, S22, Ng22, Hh22, Gg22⟩ := id V15
  obtain ⟨T22, h22, X22, e22, W22, st22⟩ := stR X21 hx hZ e21 Ar22 (j := (2 : Int32)) (inb_of S22 (by decide)) rfl (Sto.ofV Ar22 q22 Ov2 (Ins.of_exa (Ex.ext O16.2) (W 144 rfl))) (g := (mkF m 22 #[rv r0, rv b2, iv 2] [.ref x1, .int 2, .ref b2])) rfl rfl (hb hby d30_22)
  have V22 : Arv Z h22 b2 k2 (.object "java/lang/Object") (6 : Int32) [(.ref x1), (.ref x1), (.ref x1), .null, .null, .null] .null := Arv.set Ar22 q22 S22 Ng22 Hh22 Gg22 rfl W22 2 rfl (Nat.le_of_ble_eq_true rfl)
  have Vr := Vr.other W22 ne_r0_b2
  have A2x := A2x.wr W22
  have O23 := O16.wr W22 g_b2
  have K24 := K17.wr W22 (Or.inr sz_b2)
  have N25 := Fr.snoc X22 N21 g_b2
  obtain ⟨cl26, Ar26, -, S26, Ng26, -, -⟩ := id Vr
  have st26 := X22.arraylength hx (by rw [e22]; exact Ar26.1) (State.isArrayOf_alike hZ.alike Ar26.2.1) (g := (mkF m 10 #[rv r0, rv b2, iv 3] [.ref r0, .int 3])) rfl rfl (hb hby d30_10)
  rw [len_of S26 Ng26] at st26
  obtain ⟨cl27, Ar27, q27, S27, Ng27, Hh27, Gg27⟩ := id Vr
  have st27 := X22.aaload hx (j := (3 : Int32)) (v := (.ref x1)) (by rw [e22]; exact Ar27.1) (State.isArrayOf_alike hZ.alike Ar27.2.1) rfl Ar27.2.2 (inb_of S27 (by decide)) (Hh27.at (inb_of S27 (by decide)) rfl) (g := (mkF m 18 #[rv r0, rv b2, iv 3] [.int 3, .ref r0, .int 3, .ref b2])) rfl rfl (hb hby d30_18)
  obtain ⟨_, _, ⟨T28, L28, k28, n28⟩, -, X28, ⟨Lc28, hQ28, l28, y28, z28⟩, st28⟩ := Jvm.LawKit.callS X22 hx (y := y_9) hown (mvT hZ (W 214 rfl)) (mvT hZ (W 200 rfl)) (mvT hZ (W 201 rfl)) (mvT hZ (W 202 rfl)) (by decide) (backOf (W := 2) (rnn l Z a0 hw [] x1 h22 n0 O23 ) hZ (W 202 rfl) (W 201 rfl) (by decide) (by decide)) (g := (mkF m 19 #[rv r0, rv b2, iv 3] [.ref x1, .int 3, .ref b2])) rfl (by rw [hml]; rfl) (argsL := [.ref x1]) (rest := [.int 3, .ref b2]) (lenOf pd_3 rfl) rfl (by show 2 * 0 + _ ≤ _; exact Nat.le_of_eq rfl) (hb hby d30_19) (fun _ _ => ⟨rfl, e22, (by decide : 1 + 0 ≤ _), (by decide : 6 + 0 ≤ _)⟩)
  dsimp only [Pt.U, Pt.locs, Pt.cells, Pt.slots] at X28 l28 y28 z28 st28 hQ28
  subst l28 y28 z28
  obtain ⟨h28, e28⟩ : ∃ z, T28.heap = z := ⟨_, rfl⟩
  rw [e28] at hQ28
  obtain ⟨rfl, N28q, p28_0⟩ := hQ28
  have N28 := Fr.app N25 N28q
  rw [p28_0] at e28
  obtain ⟨cl29, Ar29, q29, S29, Ng29, Hh29, Gg29⟩ := id V22
  obtain ⟨T29, h29, X29, e29, W29, st29⟩ := stR X28 hx hZ e28 Ar29 (j := (3 : Int32)) (inb_of S29 (by decide)) rfl (Sto.ofV Ar29 q29 Ov2 (Ins.of_exa (Ex.ext O23.2) (W 144 rfl))) (g := (mkF m 22 #[rv r0, rv b2, iv 3] [.ref x1, .int 3, .ref b2])) rfl rfl (hb hby d30_22)
  have V29 : Arv Z h29 b2 k2 (.object "java/lang/Object") (6 : Int32) [(.ref x1), (.ref x1), (.ref x1), (.ref x1), .null, .null] .null := Arv.set Ar29 q29 S29 Ng29 Hh29 Gg29 rfl W29 3 rfl (Nat.le_of_ble_eq_true rfl)
  have Vr := Vr.other W29 ne_r0_b2
  have A2x := A2x.wr W29
  have O30 := O23.wr W29 g_b2
  have K31 := K24.wr W29 (Or.inr sz_b2)
  have N32 := Fr.snoc X29 N28 g_b2
  obtain ⟨cl33, Ar33, -, S33, Ng33, -, -⟩ := id Vr
  have st33 := X29.arraylength hx (by rw [e29]; exact Ar33.1) (State.isArrayOf_alike hZ.alike Ar33.2.1) (g := (mkF m 10 #[rv r0, rv b2, iv 4] [.ref r0, .int 4])) rfl rfl (hb hby d30_10)
  rw [len_of S33 Ng33] at st33
  obtain ⟨cl34, Ar34, q34, S34, Ng34, Hh34, Gg34⟩ := id Vr
  have st34 := X29.aaload hx (j := (4 : Int32)) (v := (.ref x1)) (by rw [e29]; exact Ar34.1) (State.isArrayOf_alike hZ.alike Ar34.2.1) rfl Ar34.2.2 (inb_of S34 (by decide)) (Hh34.at (inb_of S34 (by decide)) rfl) (g := (mkF m 18 #[rv r0, rv b2, iv 4] [.int 4, .ref r0, .int 4, .ref b2])) rfl rfl (hb hby d30_18)
  obtain ⟨_, _, ⟨T35, L35, k35, n35⟩, -, X35, ⟨Lc35, hQ35, l35, y35, z35⟩, st35⟩ := Jvm.LawKit.callS X29 hx (y := y_9) hown (mvT hZ (W 214 rfl)) (mvT hZ (W 200 rfl)) (mvT hZ (W 201 rfl)) (mvT hZ (W 202 rfl)) (by decide) (backOf (W := 2) (rnn l Z a0 hw [] x1 h29 n0 O30 ) hZ (W 202 rfl) (W 201 rfl) (by decide) (by decide)) (g := (mkF m 19 #[rv r0, rv b2, iv 4] [.ref x1, .int 4, .ref b2])) rfl (by rw [hml]; rfl) (argsL := [.ref x1]) (rest := [.int 4, .ref b2]) (lenOf pd_3 rfl) rfl (by show 2 * 0 + _ ≤ _; exact Nat.le_of_eq rfl) (hb hby d30_19) (fun _ _ => ⟨rfl, e29, (by decide : 1 + 0 ≤ _), (by decide : 6 + 0 ≤ _)⟩)
  dsimp only [Pt.U, Pt.locs, Pt.cells, Pt.slots] at X35 l35 y35 z35 st35 hQ35
  subst l35 y35 z35
  obtain ⟨h35, e35⟩ : ∃ z, T35.heap = z := ⟨_, rfl⟩
  rw [e35] at hQ35
  obtain ⟨rfl, N35q, p35_0⟩ := hQ35
  have N35 := Fr.app N32 N35q
  rw [p35_0] at e35
  obtain ⟨cl36, Ar36, q36, S36, Ng36, Hh36, Gg36⟩ := id V29
  obtain ⟨T36, h36, X36, e36, W36, st36⟩ := stR X35 hx hZ e35 Ar36 (j := (4 : Int32)) (inb_of S36 (by decide)) rfl (Sto.ofV Ar36 q36 Ov2 (Ins.of_exa (Ex.ext O30.2) (W 144 rfl))) (g := (mkF m 22 #[rv r0, rv b2, iv 4] [.ref x1, .int 4, .ref b2])) rfl rfl (hb hby d30_22)
  have V36 : Arv Z h36 b2 k2 (.object "java/lang/Object") (6 : Int32) [(.ref x1), (.ref x1), (.ref x1), (.ref x1), (.ref x1), .null] .null := Arv.set Ar36 q36 S36 Ng36 Hh36 Gg36 rfl W36 4 rfl (Nat.le_of_ble_eq_true rfl)
  have Vr := Vr.other W36 ne_r0_b2
  have A2x := A2x.wr W36
  have O37 := O30.wr W36 g_b2
  have K38 := K31.wr W36 (Or.inr sz_b2)
  have N39 := Fr.snoc X36 N35 g_b2
  obtain ⟨cl40, Ar40, -, S40, Ng40, -, -⟩ := id Vr
  have st40 := X36.arraylength hx (by rw [e36]; exact Ar40.1) (State.isArrayOf_alike hZ.alike Ar40.2.1) (g := (mkF m 10 #[rv r0, rv b2, iv 5] [.ref r0, .int 5])) rfl rfl (hb hby d30_10)
  rw [len_of S40 Ng40] at st40
  obtain ⟨cl41, Ar41, q41, S41, Ng41, Hh41, Gg41⟩ := id Vr
  have st41 := X36.aaload hx (j := (5 : Int32)) (v := (.ref x1)) (by rw [e36]; exact Ar41.1) (State.isArrayOf_alike hZ.alike Ar41.2.1) rfl Ar41.2.2 (inb_of S41 (by decide)) (Hh41.at (inb_of S41 (by decide)) rfl) (g := (mkF m 18 #[rv r0, rv b2, iv 5] [.int 5, .ref r0, .int 5, .ref b2])) rfl rfl (hb hby d30_18)
  obtain ⟨_, _, ⟨T42, L42, k42, n42⟩, -, X42, ⟨Lc42, hQ42, l42, y42, z42⟩, st42⟩ := Jvm.LawKit.callS X36 hx (y := y_9) hown (mvT hZ (W 214 rfl)) (mvT hZ (W 200 rfl)) (mvT hZ (W 201 rfl)) (mvT hZ (W 202 rfl)) (by decide) (backOf (W := 2) (rnn l Z a0 hw [] x1 h36 n0 O37 ) hZ (W 202 rfl) (W 201 rfl) (by decide) (by decide)) (g := (mkF m 19 #[rv r0, rv b2, iv 5] [.ref x1, .int 5, .ref b2])) rfl (by rw [hml]; rfl) (argsL := [.ref x1]) (rest := [.int 5, .ref b2]) (lenOf pd_3 rfl) rfl (by show 2 * 0 + _ ≤ _; exact Nat.le_of_eq rfl) (hb hby d30_19) (fun _ _ => ⟨rfl, e36, (by decide : 1 + 0 ≤ _), (by decide : 6 + 0 ≤ _)⟩)
  dsimp only [Pt.U, Pt.locs, Pt.cells, Pt.slots] at X42 l42 y42 z42 st42 hQ42
  subst l42 y42 z42
  obtain ⟨h42, e42⟩ : ∃ z, T42.heap = z := ⟨_, rfl⟩
  rw [e42] at hQ42
  obtain ⟨rfl, N42q, p42_0⟩ := hQ42
  have N42 := Fr.app N39 N42q
  rw [p42_0] at e42
  obtain ⟨cl43, Ar43, q43, S43, Ng43, Hh43, Gg43⟩ := id V36
  obtain ⟨T43, h43, X43, e43, W43, st43⟩ := stR X42 hx hZ e42 Ar43 (j := (5 : Int32)) (inb_of S43 (by decide)) rfl (Sto.ofV Ar43 q43 Ov2 (Ins.of_exa (Ex.ext O37.2) (W 144 rfl))) (g := (mkF m 22 #[rv r0, rv b2, iv 5] [.ref x1, .int 5, .ref b2])) rfl rfl (hb hby d30_22)
  have V43 : Arv Z h43 b2 k2 (.object "java/lang/Object") (6 : Int32) [(.ref x1), (.ref x1), (.ref x1), (.ref x1), (.ref x1), (.ref x1)] .null := Arv.set Ar43 q43 S43 Ng43 Hh43 Gg43 rfl W43 5 rfl (Nat.le_of_ble_eq_true rfl)
  have Vr := Vr.other W43 ne_r0_b2
  have A2x := A2x.wr W43
  have O44 := O37.wr W43 g_b2
  have K45 := K38.wr W43 (Or.inr sz_b2)
  have N46 := Fr.snoc X43 N42 g_b2
  obtain ⟨cl47, Ar47, -, S47, Ng47, -, -⟩ := id Vr
  have st47 := X43.arraylength hx (by rw [e43]; exact Ar47.1) (State.isArrayOf_alike hZ.alike Ar47.2.1) (g := (mkF m 10 #[rv r0, rv b2, iv 6] [.ref r0, .int 6])) rfl rfl (hb hby d30_10)
  rw [len_of S47 Ng47] at st47
  obtain ⟨T48, h48, X48, e48, E48, A48, D48, -, st48⟩ := newO X43 hx hZ hown (W 74 rfl) (W 215 rfl) (W 18 rfl) e43 (g := (mkF m 29 #[rv r0, rv b2, iv 6] [])) rfl (hb hby d30_29) (by decide) (by decide)
  obtain ⟨b48, g48⟩ : ∃ z, z = h43.size := ⟨_, rfl⟩
  rw [← g48] at A48 D48 st48
  have g_b48 : n0 ≤ b48 := Nat.le_trans (own_sz O44) (Nat.le_of_eq g48.symm)
  have sz_b48 : h0.size ≤ b48 := Nat.le_trans K45.1 (Nat.le_of_eq g48.symm)
  have ne_b2_b48 : b2 ≠ b48 := Nat.ne_of_lt (Nat.lt_of_lt_of_le A2x.lt (Nat.le_of_eq g48.symm))
  have V43 := V43.ext E48
  have O49 := O44.ext E48
  have K50 := K45.ext E48
  have Fz51 : Fld Z h48 b48 "java/util/ImmutableCollections$ListN" "elements" "[Ljava/lang/Object;" .null := D48 (Or.inr (W 21 rfl)) (ty := (.array (.object "java/lang/Object"))) (by decide)
  have Fz52 : Fld Z h48 b48 "java/util/ImmutableCollections$ListN" "allowNulls" "Z" (.int (0 : Int32)) := D48 (Or.inr (W 225 rfl)) (ty := .boolean) (by decide)
  obtain ⟨_, _, ⟨T53, L53, k53, n53⟩, -, X53, ⟨Lc53, hQ53, l53, y53, z53⟩, st53⟩ := X48.specialBackNest hx (y := y_13) rfl hown (own_mvNest hZ (W 216 rfl)) (mvT hZ (W 217 rfl)) (mvT hZ (W 219 rfl)) (by decide) (backOf (W := 1) (lninit l Z a0 hw [] b48 b2 h48 n0 O49 A48 Fz51 Fz52 g_b48) hZ (W 219 rfl) (W 18 rfl) (by decide) (by decide)) (g := (mkF m 35 #[rv r0, rv b2, iv 6] [.int 0, .ref b2, .ref b48, .ref b48])) rfl (by rw [hml]; rfl) (Steps.refl _) (a := b48) (argsL := [.ref b2, .int 0]) (rest := [.ref b48]) (lenOf pd_14 rfl) rfl (by show 2 * 0 + _ ≤ _; exact Nat.le_of_eq rfl) (hb hby d30_35) (fun _ _ => ⟨rfl, e48, (by decide : 2 + 0 ≤ _), (by decide : 8 + 0 ≤ _)⟩)
  dsimp only [Pt.U, Pt.locs, Pt.cells, Pt.slots] at X53 l53 y53 z53 st53 hQ53
  subst l53 y53 z53
  obtain ⟨h53, e53⟩ : ∃ z, T53.heap = z := ⟨_, rfl⟩
  rw [e53] at hQ53
  obtain ⟨rfl, N53q, p53_0, p53_1, p53_2⟩ := hQ53
  have N53 := Fr.app N46 N53q
  have V43 := V43.keep p53_0 (ninS ne_b2_b48 nin0)
  have A48 := A48.keep p53_0
  have K55 := K50.trans p53_0 (allS (Or.inr sz_b48) all0)
  obtain ⟨fs, hr, hrun, hended, hW, hsame⟩ := X53.leave (v := some (.ref b48)) (fun h => by rw [Bd.returns] at h; cases h)
  refine ⟨_, _, pre0 _ ?_, hrun, hended, _, _, rfl, ?_, ⟨_, rfl⟩, hW, hsame.mono (by decide) (by decide)⟩
  · show Sq p e below m s₁ 0 #[rv r0, .unset, .unset] [] _
    refine XS.aloadN X0.here hx rfl (hb hby d30_0) rfl rfl ?_
    show Sq p e below m s₁ 1 #[rv r0, .unset, .unset] [.ref r0] _
    refine st1 _ ?_
    show Sq p e below m s₁ 2 #[rv r0, .unset, .unset] [.int 6] _
    refine st2 _ ?_
    show Sq p e below m T2 5 #[rv r0, .unset, .unset] [.ref b2] _
    refine XS.astoreN X2.here hx rfl (hb hby d30_5) rfl rfl rfl ?_
    refine XS.iconst X2.here hx rfl (hb hby d30_6) ?_
    show Sq p e below m T2 7 #[rv r0, rv b2, .unset] [.int 0] _
    refine XS.istoreN X2.here hx rfl (hb hby d30_7) rfl rfl ?_
    refine XS.iloadN X2.here hx rfl (hb hby d30_8) rfl ?_
    show Sq p e below m T2 9 #[rv r0, rv b2, iv 0] [.int 0] _
    refine XS.aloadN X2.here hx rfl (hb hby d30_9) rfl rfl ?_
    show Sq p e below m T2 10 #[rv r0, rv b2, iv 0] [.ref r0, .int 0] _
    refine st5 _ ?_
    show Sq p e below m T2 11 #[rv r0, rv b2, iv 0] [.int 6, .int 0] _
    refine XS.icmpNo X2.here hx rfl (hb hby d30_11) rfl (tlt (by decide)).2.1 ?_
    refine XS.aloadN X2.here hx rfl (hb hby d30_14) rfl rfl ?_
    show Sq p e below m T2 15 #[rv r0, rv b2, iv 0] [.ref b2] _
    refine XS.iloadN X2.here hx rfl (hb hby d30_15) rfl ?_
    refine XS.aloadN X2.here hx rfl (hb hby d30_16) rfl rfl ?_
    show Sq p e below m T2 17 #[rv r0, rv b2, iv 0] [.ref r0, .int 0, .ref b2] _
    refine XS.iloadN X2.here hx rfl (hb hby d30_17) rfl ?_
    show Sq p e below m T2 18 #[rv r0, rv b2, iv 0] [.int 0, .ref r0, .int 0, .ref b2] _
    refine st6 _ ?_
    show Sq p e below m T2 19 #[rv r0, rv b2, iv 0] [.ref x1, .int 0, .ref b2] _
    refine st7 _ ?_
    show Sq p e below m T7 22 #[rv r0, rv b2, iv 0] [.ref x1, .int 0, .ref b2] _
    refine st8 _ ?_
    show Sq p e below m T8 23 #[rv r0, rv b2, iv 0] [] _
    refine XS.iinc X8.here hx rfl (hb hby d30_23) rfl rfl ?_
    show Sq p e below m T8 26 #[rv r0, rv b2, iv ((0 : Int32) + (1 : Int32))] [] _
    rw [show ((0 : Int32) + (1 : Int32)) = (1 : Int32) from by decide]
    show Sq p e below m T8 26 #[rv r0, rv b2, iv 1] [] _
    refine XS.goto X8.here hx rfl (pc0 := 26) (pc' := 8) rfl (hb hby d30_26) (by decide) (by decide) ?_
    refine XS.iloadN X8.here hx rfl (hb hby d30_8) rfl ?_
    show Sq p e below m T8 9 #[rv r0, rv b2, iv 1] [.int 1] _
    refine XS.aloadN X8.here hx rfl (hb hby d30_9) rfl rfl ?_
    show Sq p e below m T8 10 #[rv r0, rv b2, iv 1] [.ref r0, .int 1] _
    refine st12 _ ?_
    show Sq p e below m T8 11 #[rv r0, rv b2, iv 1] [.int 6, .int 1] _
    refine XS.icmpNo X8.here hx rfl (hb hby d30_11) rfl (tlt (by decide)).2.1 ?_
    refine XS.aloadN X8.here hx rfl (hb hby d30_14) rfl rfl ?_
    show Sq p e below m T8 15 #[rv r0, rv b2, iv 1] [.ref b2] _
    refine XS.iloadN X8.here hx rfl (hb hby d30_15) rfl ?_
    refine XS.aloadN X8.here hx rfl (hb hby d30_16) rfl rfl ?_
    show Sq p e below m T8 17 #[rv r0, rv b2, iv 1] [.ref r0, .int 1, .ref b2] _
    refine XS.iloadN X8.here hx rfl (hb hby d30_17) rfl ?_
    show Sq p e below m T8 18 #[rv r0, rv b2, iv 1] [.int 1, .ref r0, .int 1, .ref b2] _
    refine st13 _ ?_
    show Sq p e below m T8 19 #[rv r0, rv b2, iv 1] [.ref x1, .int 1, .ref b2] _
    refine st14 _ ?_
    show Sq p e below m T14 22 #[rv r0, rv b2, iv 1] [.ref x1, .int 1, .ref b2] _
    refine st15 _ ?_
    show Sq p e below m T15 23 #[rv r0, rv b2, iv 1] [] _
    refine XS.iinc X15.here hx rfl (hb hby d30_23) rfl rfl ?_
    show Sq p e below m T15 26 #[rv r0, rv b2, iv ((1 : Int32) + (1 : Int32))] [] _
    rw [show ((1 : Int32) + (1 : Int32)) = (2 : Int32) from by decide]
    show Sq p e below m T15 26 #[rv r0, rv b2, iv 2] [] _
    refine XS.goto X15.here hx rfl (pc0 := 26) (pc' := 8) rfl (hb hby d30_26) (by decide) (by decide) ?_
    refine XS.iloadN X15.here hx rfl (hb hby d30_8) rfl ?_
    show Sq p e below m T15 9 #[rv r0, rv b2, iv 2] [.int 2] _
    refine XS.aloadN X15.here hx rfl (hb hby d30_9) rfl rfl ?_
    show Sq p e below m T15 10 #[rv r0, rv b2, iv 2] [.ref r0, .int 2] _
    refine st19 _ ?_
    show Sq p e below m T15 11 #[rv r0, rv b2, iv 2] [.int 6, .int 2] _
    refine XS.icmpNo X15.here hx rfl (hb hby d30_11) rfl (tlt (by decide)).2.1 ?_
    refine XS.aloadN X15.here hx rfl (hb hby d30_14) rfl rfl ?_
    show Sq p e below m T15 15 #[rv r0, rv b2, iv 2] [.ref b2] _
    refine XS.iloadN X15.here hx rfl (hb hby d30_15) rfl ?_
    refine XS.aloadN X15.here hx rfl (hb hby d30_16) rfl rfl ?_
    show Sq p e below m T15 17 #[rv r0, rv b2, iv 2] [.ref r0, .int 2, .ref b2] _
    refine XS.iloadN X15.here hx rfl (hb hby d30_17) rfl ?_
    show Sq p e below m T15 18 #[rv r0, rv b2, iv 2] [.int 2, .ref r0, .int 2, .ref b2] _
    refine st20 _ ?_
    show Sq p e below m T15 19 #[rv r0, rv b2, iv 2] [.ref x1, .int 2, .ref b2] _
    refine st21 _ ?_
    show Sq p e below m T21 22 #[rv r0, rv b2, iv 2] [.ref x1, .int 2, .ref b2] _
    refine st22 _ ?_
    show Sq p e below m T22 23 #[rv r0, rv b2, iv 2] [] _
    refine XS.iinc X22.here hx rfl (hb hby d30_23) rfl rfl ?_
    show Sq p e below m T22 26 #[rv r0, rv b2, iv ((2 : Int32) + (1 : Int32))] [] _
    rw [show ((2 : Int32) + (1 : Int32)) = (3 : Int32) from by decide]
    show Sq p e below m T22 26 #[rv r0, rv b2, iv 3] [] _
    refine XS.goto X22.here hx rfl (pc0 := 26) (pc' := 8) rfl (hb hby d30_26) (by decide) (by decide) ?_
    refine XS.iloadN X22.here hx rfl (hb hby d30_8) rfl ?_
    show Sq p e below m T22 9 #[rv r0, rv b2, iv 3] [.int 3] _
    refine XS.aloadN X22.here hx rfl (hb hby d30_9) rfl rfl ?_
    show Sq p e below m T22 10 #[rv r0, rv b2, iv 3] [.ref r0, .int 3] _
    refine st26 _ ?_
    show Sq p e below m T22 11 #[rv r0, rv b2, iv 3] [.int 6, .int 3] _
    refine XS.icmpNo X22.here hx rfl (hb hby d30_11) rfl (tlt (by decide)).2.1 ?_
    refine XS.aloadN X22.here hx rfl (hb hby d30_14) rfl rfl ?_
    show Sq p e below m T22 15 #[rv r0, rv b2, iv 3] [.ref b2] _
    refine XS.iloadN X22.here hx rfl (hb hby d30_15) rfl ?_
    refine XS.aloadN X22.here hx rfl (hb hby d30_16) rfl rfl ?_
    show Sq p e below m T22 17 #[rv r0, rv b2, iv 3] [.ref r0, .int 3, .ref b2] _
    refine XS.iloadN X22.here hx rfl (hb hby d30_17) rfl ?_
    show Sq p e below m T22 18 #[rv r0, rv b2, iv 3] [.int 3, .ref r0, .int 3, .ref b2] _
    refine st27 _ ?_
    show Sq p e below m T22 19 #[rv r0, rv b2, iv 3] [.ref x1, .int 3, .ref b2] _
    refine st28 _ ?_
    show Sq p e below m T28 22 #[rv r0, rv b2, iv 3] [.ref x1, .int 3, .ref b2] _
    refine st29 _ ?_
    show Sq p e below m T29 23 #[rv r0, rv b2, iv 3] [] _
    refine XS.iinc X29.here hx rfl (hb hby d30_23) rfl rfl ?_
    show Sq p e below m T29 26 #[rv r0, rv b2, iv ((3 : Int32) + (1 : Int32))] [] _
    rw [show ((3 : Int32) + (1 : Int32)) = (4 : Int32) from by decide]
    show Sq p e below m T29 26 #[rv r0, rv b2, iv 4] [] _
    refine XS.goto X29.here hx rfl (pc0 := 26) (pc' := 8) rfl (hb hby d30_26) (by decide) (by decide) ?_
    refine XS.iloadN X29.here hx rfl (hb hby d30_8) rfl ?_
    show Sq p e below m T29 9 #[rv r0, rv b2, iv 4] [.int 4] _
    refine XS.aloadN X29.here hx rfl (hb hby d30_9) rfl rfl ?_
    show Sq p e below m T29 10 #[rv r0, rv b2, iv 4] [.ref r0, .int 4] _
    refine st33 _ ?_
    show Sq p e below m T29 11 #[rv r0, rv b2, iv 4] [.int 6, .int 4] _
    refine XS.icmpNo X29.here hx rfl (hb hby d30_11) rfl (tlt (by decide)).2.1 ?_
    refine XS.aloadN X29.here hx rfl (hb hby d30_14) rfl rfl ?_
    show Sq p e below m T29 15 #[rv r0, rv b2, iv 4] [.ref b2] _
    refine XS.iloadN X29.here hx rfl (hb hby d30_15) rfl ?_
    refine XS.aloadN X29.here hx rfl (hb hby d30_16) rfl rfl ?_
    show Sq p e below m T29 17 #[rv r0, rv b2, iv 4] [.ref r0, .int 4, .ref b2] _
    refine XS.iloadN X29.here hx rfl (hb hby d30_17) rfl ?_
    show Sq p e below m T29 18 #[rv r0, rv b2, iv 4] [.int 4, .ref r0, .int 4, .ref b2] _
    refine st34 _ ?_
    show Sq p e below m T29 19 #[rv r0, rv b2, iv 4] [.ref x1, .int 4, .ref b2] _
    refine st35 _ ?_
    show Sq p e below m T35 22 #[rv r0, rv b2, iv 4] [.ref x1, .int 4, .ref b2] _
    refine st36 _ ?_
    show Sq p e below m T36 23 #[rv r0, rv b2, iv 4] [] _
    refine XS.iinc X36.here hx rfl (hb hby d30_23) rfl rfl ?_
    show Sq p e below m T36 26 #[rv r0, rv b2, iv ((4 : Int32) + (1 : Int32))] [] _
    rw [show ((4 : Int32) + (1 : Int32)) = (5 : Int32) from by decide]
    show Sq p e below m T36 26 #[rv r0, rv b2, iv 5] [] _
    refine XS.goto X36.here hx rfl (pc0 := 26) (pc' := 8) rfl (hb hby d30_26) (by decide) (by decide) ?_
    refine XS.iloadN X36.here hx rfl (hb hby d30_8) rfl ?_
    show Sq p e below m T36 9 #[rv r0, rv b2, iv 5] [.int 5] _
    refine XS.aloadN X36.here hx rfl (hb hby d30_9) rfl rfl ?_
    show Sq p e below m T36 10 #[rv r0, rv b2, iv 5] [.ref r0, .int 5] _
    refine st40 _ ?_
    show Sq p e below m T36 11 #[rv r0, rv b2, iv 5] [.int 6, .int 5] _
    refine XS.icmpNo X36.here hx rfl (hb hby d30_11) rfl (tlt (by decide)).2.1 ?_
    refine XS.aloadN X36.here hx rfl (hb hby d30_14) rfl rfl ?_
    show Sq p e below m T36 15 #[rv r0, rv b2, iv 5] [.ref b2] _
    refine XS.iloadN X36.here hx rfl (hb hby d30_15) rfl ?_
    refine XS.aloadN X36.here hx rfl (hb hby d30_16) rfl rfl ?_
    show Sq p e below m T36 17 #[rv r0, rv b2, iv 5] [.ref r0, .int 5, .ref b2] _
    refine XS.iloadN X36.here hx rfl (hb hby d30_17) rfl ?_
    show Sq p e below m T36 18 #[rv r0, rv b2, iv 5] [.int 5, .ref r0, .int 5, .ref b2] _
    refine st41 _ ?_
    show Sq p e below m T36 19 #[rv r0, rv b2, iv 5] [.ref x1, .int 5, .ref b2] _
    refine st42 _ ?_
    show Sq p e below m T42 22 #[rv r0, rv b2, iv 5] [.ref x1, .int 5, .ref b2] _
    refine st43 _ ?_
    show Sq p e below m T43 23 #[rv r0, rv b2, iv 5] [] _
    refine XS.iinc X43.here hx rfl (hb hby d30_23) rfl rfl ?_
    show Sq p e below m T43 26 #[rv r0, rv b2, iv ((5 : Int32) + (1 : Int32))] [] _
    rw [show ((5 : Int32) + (1 : Int32)) = (6 : Int32) from by decide]
    show Sq p e below m T43 26 #[rv r0, rv b2, iv 6] [] _
    refine XS.goto X43.here hx rfl (pc0 := 26) (pc' := 8) rfl (hb hby d30_26) (by decide) (by decide) ?_
    refine XS.iloadN X43.here hx rfl (hb hby d30_8) rfl ?_
    show Sq p e below m T43 9 #[rv r0, rv b2, iv 6] [.int 6] _
    refine XS.aloadN X43.here hx rfl (hb hby d30_9) rfl rfl ?_
    show Sq p e below m T43 10 #[rv r0, rv b2, iv 6] [.ref r0, .int 6] _
    refine st47 _ ?_
    show Sq p e below m T43 11 #[rv r0, rv b2, iv 6] [.int 6, .int 6] _
    refine XS.icmpYes X43.here hx rfl (pc0 := 11) (pc' := 29) rfl (hb hby d30_11) rfl (flt (by decide)).2.1 (by decide) (by decide) ?_
    show Sq p e below m T43 29 #[rv r0, rv b2, iv 6] [] _
    refine st48 _ ?_
    show Sq p e below m T48 32 #[rv r0, rv b2, iv 6] [.ref b48] _
    refine XS.dup X48.here hx rfl (hb hby d30_32) rfl rfl ?_
    refine XS.aloadN X48.here hx rfl (hb hby d30_33) rfl rfl ?_
    show Sq p e below m T48 34 #[rv r0, rv b2, iv 6] [.ref b2, .ref b48, .ref b48] _
    refine XS.iconst X48.here hx rfl (hb hby d30_34) ?_
    show Sq p e below m T48 35 #[rv r0, rv b2, iv 6] [.int 0, .ref b2, .ref b48, .ref b48] _
    refine st53.trans ?_
    show Sq p e below m T53 38 #[rv r0, rv b2, iv 6] [.ref b48] _
    jvm_step X53.here [X53.here.top, hx, (hb hby d30_38), X53.method', Bd.returns, Value.isRef, FieldType.isReference]
    first | (intro acts; rw [hr _ acts rfl rfl rfl]) | rw [hr _ _ rfl rfl rfl]
    exact Steps.refl _
  · show Q_lfa6 Z r0 k0 x1 h0 n0 _ T53.heap _
    rw [e53]
    exact ⟨b48, b2, k2, rfl, N53, K55, sz_b48, sz_b2, A48, p53_1, V43⟩
def Q_ofarr6 (Z : State) (r0 : Addr) (k0 : ClassId) (x1 : Addr) (h0 : Heap) (n0 : Nat) (v : Option Value) (h : Heap) (L : List Loc) : Prop := ∃ r : Addr, ∃ g : Addr, ∃ kg : ClassId, v = some (.ref r) ∧ Fr n0 L ∧ Keep h0 h [] ∧ h0.size ≤ r ∧ h0.size ≤ g ∧ Exa Z h r "java/util/ImmutableCollections$ListN" ∧ Fld Z h r "java/util/ImmutableCollections$ListN" "elements" "[Ljava/lang/Object;" (.ref g) ∧ Arv Z h g kg (.object "java/lang/Object") (6 : Int32) [(.ref x1), (.ref x1), (.ref x1), (.ref x1), (.ref x1), (.ref x1)] .null
set_option maxRecDepth 65536 in
set_option maxHeartbeats 40000000 in
theorem ofarr6 (l : Launch) (Z : State) (a0 : Array Value) (hw : ∀ d ∈ tables_1, d.before a0 Z = true) (ws : List Jvm.Cond) (r0 : Addr) (k0 : ClassId) (x1 : Addr) (h0 : Heap) (n0 : Nat) (O : Old Z n0 h0) (Vr : Arv Z h0 r0 k0 (.object "java/lang/Object") (6 : Int32) [(.ref x1), (.ref x1), (.ref x1), (.ref x1), (.ref x1), (.ref x1)] .null) (Ex : Exa Z Z.heap x1 "java/time/Duration") :
    Ctr l Z y_26 jdk_40_method_47_code 2 (some (.object "java/util/List")) ws ({ frames := 6, cells := 2, slots := 8, locals := 77 } : Room) #[(.ref r0)] h0 (Q_ofarr6 Z r0 k0 x1 h0 n0) := by
  refine MetFree.of_bodySF (plainFor_of_name pn_7) hisR ?_
  intro p e s m args below meth c s₁ Bd hml0 hP hK
  obtain ⟨rfl, hZ, hh⟩ := hP
  have W := fun (i : Nat) {d : Jvm.Cond} (h : tables_1[i]? = some d) => hw d (List.mem_of_getElem? h)
  have hx := Bd.exec
  have hby := Bd.bytes
  have hml : c.maxLocals = 2 := hml0
  have hown : s.vm.findClass "java/util/List" = some m.cls := findClass_of_methodNamed Bd.named
  have hnm := (name_of_methodNamed Bd.named Bd.method).1
  have X0 : Stand p l e ({ frames := 6, cells := 2, slots := 8, locals := 77 } : Room) s m #[(.ref r0)] below meth c s₁ [] 0 0 := Stand.of_body Bd
  have e0 : s₁.heap = h0 := by rw [← hh, Bd.state]; rfl
  have N0 := Fr.nil n0
  have pre0 : ∀ t, Steps p.tables e below (s₁.setTop (mkF m 0 #[.val (.ref r0), .unset] [])) t → Steps p.tables e below (s₁.setTop (entryFrame m #[(.ref r0)] 2)) t := fun t kk_ => castTop (ef_26 m r0) kk_
  have K0 := Keep.refl h0 []
  obtain ⟨cl1, Ar1, -, S1, Ng1, -, -⟩ := id Vr
  have st1 := X0.arraylength hx (by rw [e0]; exact Ar1.1) (State.isArrayOf_alike hZ.alike Ar1.2.1) (g := (mkF m 1 #[rv r0, .unset] [.ref r0])) rfl rfl (hb hby d25_1)
  rw [len_of S1 Ng1] at st1
  obtain ⟨_, _, ⟨T2, L2, k2, n2⟩, -, X2, ⟨Lc2, hQ2, l2, y2, z2⟩, st2⟩ := Jvm.LawKit.callS X0 hx (y := y_28) hown (mvT hZ (W 210 rfl)) (mvT hZ (W 211 rfl)) (mvT hZ (W 67 rfl)) (mvT hZ (W 212 rfl)) (by decide) (backOf (W := 0) (lfa6 l Z a0 hw [] r0 k0 x1 h0 n0 O Vr Ex) hZ (W 212 rfl) (W 67 rfl) (by decide) (by decide)) (g := (mkF m 60 #[rv r0, .unset] [.ref r0])) rfl (by rw [hml]; rfl) (argsL := [.ref r0]) (rest := []) (lenOf pd_12 rfl) rfl (by show 2 * 0 + _ ≤ _; exact Nat.le_of_eq rfl) (hb hby d25_60) (fun _ _ => ⟨rfl, e0, (by decide : 0 + 2 ≤ _), (by decide : 0 + 8 ≤ _)⟩)
  dsimp only [Pt.U, Pt.locs, Pt.cells, Pt.slots] at X2 l2 y2 z2 st2 hQ2
  subst l2 y2 z2
  obtain ⟨h2, e2⟩ : ∃ z, T2.heap = z := ⟨_, rfl⟩
  rw [e2] at hQ2
  obtain ⟨b2r, b2g, b2kg, rfl, N2q, p2_0, p2_1, p2_2, p2_3, p2_4, p2_5⟩ := hQ2
  have N2 := Fr.app N0 N2q
  have sz_b2r : h0.size ≤ b2r := Nat.le_trans K0.1 p2_1
  have sz_b2g : h0.size ≤ b2g := Nat.le_trans K0.1 p2_2
  have K4 := K0.trans p2_0 all0
  obtain ⟨fs, hr, hrun, hended, hW, hsame⟩ := X2.leave (v := some (.ref b2r)) (fun h => by rw [Bd.returns] at h; cases h)
  refine ⟨_, _, pre0 _ ?_, hrun, hended, _, _, rfl, ?_, ⟨_, rfl⟩, hW, hsame.mono (by decide) (by decide)⟩
  · show Sq p e below m s₁ 0 #[rv r0, .unset] [] _
    refine XS.aloadN X0.here hx rfl (hb hby d25_0) rfl rfl ?_
    show Sq p e below m s₁ 1 #[rv r0, .unset] [.ref r0] _
    refine st1 _ ?_
    show Sq p e below m s₁ 2 #[rv r0, .unset] [.int 6] _
    refine XS.tswOut X0.here hx rfl (pc0 := 2) (pc' := 59) rfl (hb hby d25_2) rfl (by decide) (by decide) (by decide) ?_
    refine XS.aloadN X0.here hx rfl (hb hby d25_59) rfl rfl ?_
    show Sq p e below m s₁ 60 #[rv r0, .unset] [.ref r0] _
    refine st2 _ ?_
    show Sq p e below m T2 63 #[rv r0, .unset] [.ref b2r] _
    jvm_step X2.here [X2.here.top, hx, (hb hby d25_63), X2.method', Bd.returns, Value.isRef, FieldType.isReference]
    first | (intro acts; rw [hr _ acts rfl rfl rfl]) | rw [hr _ _ rfl rfl rfl]
    exact Steps.refl _
  · show Q_ofarr6 Z r0 k0 x1 h0 n0 _ T2.heap _
    rw [e2]
    exact ⟨b2r, b2g, b2kg, rfl, N2, K4, sz_b2r, sz_b2g, p2_3, p2_4, p2_5⟩
def Q_lcopy6 (Z : State) (a : Addr) (b : Addr) (kb : ClassId) (x1 : Addr) (w_MIR : Addr) (h0 : Heap) (n0 : Nat) (v : Option Value) (h : Heap) (L : List Loc) : Prop := ∃ r : Addr, ∃ g : Addr, ∃ kg : ClassId, v = some (.ref r) ∧ Fr n0 L ∧ Keep h0 h [] ∧ h0.size ≤ r ∧ h0.size ≤ g ∧ Exa Z h r "java/util/ImmutableCollections$ListN" ∧ Fld Z h r "java/util/ImmutableCollections$ListN" "elements" "[Ljava/lang/Object;" (.ref g) ∧ Arv Z h g kg (.object "java/lang/Object") (6 : Int32) [(.ref x1), (.ref x1), (.ref x1), (.ref x1), (.ref x1), (.ref x1)] .null
set_option maxRecDepth 65536 in
set_option maxHeartbeats 40000000 in
theorem lcopy6 (l : Launch) (Z : State) (a0 : Array Value) (hw : ∀ d ∈ tables_1, d.before a0 Z = true) (ws : List Jvm.Cond) (a : Addr) (b : Addr) (kb : ClassId) (x1 : Addr) (w_MIR : Addr) (h0 : Heap) (n0 : Nat) (O : Old Z n0 h0) (Ea : Exa Z h0 a "java/util/ArrayList") (Vb : Arv Z h0 b kb (.object "java/lang/Object") (10 : Int32) [(.ref x1), (.ref x1), (.ref x1), (.ref x1), (.ref x1), (.ref x1), .null, .null, .null, .null] .null) (Ex : Exa Z Z.heap x1 "java/time/Duration") (Mo : Mirr Z "[Ljava/lang/Object;" w_MIR) (Eb : Exa Z h0 b "[Ljava/lang/Object;") (Fd : Fld Z h0 a "java/util/ArrayList" "elementData" "[Ljava/lang/Object;" (.ref b)) (Fs : Fld Z h0 a "java/util/ArrayList" "size" "I" (.int (6 : Int32))) :
    Ctr l Z y_24 jdk_56_method_3_code 2 (some (.object "java/util/List")) ws ({ frames := 7, cells := 3, slots := 15, locals := 90 } : Room) #[(.ref a)] h0 (Q_lcopy6 Z a b kb x1 w_MIR h0 n0) := by
  refine MetFree.of_bodySF (plainFor_of_name pn_11) hisR ?_
  intro p e s m args below meth c s₁ Bd hml0 hP hK
  obtain ⟨rfl, hZ, hh⟩ := hP
  have W := fun (i : Nat) {d : Jvm.Cond} (h : tables_1[i]? = some d) => hw d (List.mem_of_getElem? h)
  have hx := Bd.exec
  have hby := Bd.bytes
  have hml : c.maxLocals = 2 := hml0
  have hown : s.vm.findClass "java/util/ImmutableCollections" = some m.cls := findClass_of_methodNamed Bd.named
  have hnm := (name_of_methodNamed Bd.named Bd.method).1
  have X0 : Stand p l e ({ frames := 7, cells := 3, slots := 15, locals := 90 } : Room) s m #[(.ref a)] below meth c s₁ [] 0 0 := Stand.of_body Bd
  have e0 : s₁.heap = h0 := by rw [← hh, Bd.state]; rfl
  have N0 := Fr.nil n0
  have pre0 : ∀ t, Steps p.tables e below (s₁.setTop (mkF m 0 #[.val (.ref a), .unset] [])) t → Steps p.tables e below (s₁.setTop (entryFrame m #[(.ref a)] 2)) t := fun t kk_ => castTop (ef_24 m a) kk_
  have K0 := Keep.refl h0 []
  obtain ⟨T1, X1, e1, st1⟩ := instNo X0 hx hZ hown (W 69 rfl) e0 Ea (own_nsno (W 70 rfl) (W 179 rfl) (NS.step (W 70 rfl) (NS.step (W 71 rfl) (NS.step (W 72 rfl) (own_nsroot (W 73 rfl) (W 179 rfl) (by decide)) (by decide)) (by decide)) (by decide)) (by decide)) (g := (mkF m 1 #[rv a, .unset] [.ref a])) rfl rfl (hb hby d10_1)
  obtain ⟨T2, X2, e2, st2⟩ := instNo X1 hx hZ hown (W 74 rfl) e1 Ea (own_nsno (W 70 rfl) (W 215 rfl) (NS.step (W 70 rfl) (NS.step (W 71 rfl) (NS.step (W 72 rfl) (own_nsroot (W 73 rfl) (W 215 rfl) (by decide)) (by decide)) (by decide)) (by decide)) (by decide)) (g := (mkF m 8 #[rv a, .unset] [.ref a])) rfl rfl (hb hby d10_8)
  obtain ⟨cq3, kq3, q3a, q3b, q3c⟩ := isOf hZ e2 Ea
  obtain ⟨_, _, ⟨T3, L3, k3, n3⟩, -, X3, ⟨Lc3, hQ3, l3, y3, z3⟩, st3⟩ := X2.interfaceBack hx (xi := y_23) (y := y_16) hown (mvT hZ (W 75 rfl)) (mvT hZ (W 76 rfl)) (mvT hZ (W 77 rfl)) (mvT hZ (W 78 rfl)) (mvT hZ (W 79 rfl)) (mvT hZ (W 80 rfl)) (mvT hZ (W 81 rfl)) (mvT hZ (W 82 rfl)) (by decide) (backOf (W := 0) (emp1 l Z a0 hw [] a (6 : Int32) h0 n0 O Fs (by decide)) hZ (W 83 rfl) (W 26 rfl) (by decide) (by decide)) q3a q3b q3c (g := (mkF m 32 #[rv a, .unset] [.ref a])) rfl (by rw [hml]; rfl) (Steps.refl _) (argsL := []) (rest := []) (lenOf pd_8 rfl) rfl (by show 2 * 0 + _ ≤ _; exact Nat.le_of_eq rfl) (hb hby d10_32) (fun _ _ => ⟨rfl, e2, (by decide : 0 + 0 ≤ _), (by decide : 0 + 0 ≤ _)⟩)
  dsimp only [Pt.U, Pt.locs, Pt.cells, Pt.slots] at X3 l3 y3 z3 st3 hQ3
  subst l3 y3 z3
  obtain ⟨h3, e3⟩ : ∃ z, T3.heap = z := ⟨_, rfl⟩
  rw [e3] at hQ3
  obtain ⟨rfl, N3q, p3_0⟩ := hQ3
  have N3 := Fr.app N0 N3q
  rw [p3_0] at e3
  obtain ⟨cq4, kq4, q4a, q4b, q4c⟩ := isOf hZ e3 Ea
  obtain ⟨_, _, ⟨T4, L4, k4, n4⟩, -, X4, ⟨Lc4, hQ4, l4, y4, z4⟩, st4⟩ := X3.interfaceBack hx (xi := y_27) (y := y_22) hown (mvT hZ (W 145 rfl)) (mvT hZ (W 146 rfl)) (mvT hZ (W 147 rfl)) (mvT hZ (W 148 rfl)) (mvT hZ (W 149 rfl)) (mvT hZ (W 150 rfl)) (mvT hZ (W 151 rfl)) (mvT hZ (W 82 rfl)) (by decide) (backOf (W := 0) (toarr l Z a0 hw [] a b kb w_MIR (6 : Int32) [(.ref x1), (.ref x1), (.ref x1), (.ref x1), (.ref x1), (.ref x1), .null, .null, .null, .null] [(.ref x1), (.ref x1), (.ref x1), (.ref x1), (.ref x1), (.ref x1)] h0 n0 O Vb Mo (by decide) (by decide) (Nat.le_of_ble_eq_true rfl) rfl (own_all (n := 6) ⟨x1, rfl, Ex⟩) Eb Fd Fs) hZ (W 152 rfl) (W 26 rfl) (by decide) (by decide)) q4a q4b q4c (g := (mkF m 45 #[rv a, .unset] [.ref a])) rfl (by rw [hml]; rfl) (Steps.refl _) (argsL := []) (rest := []) (lenOf pd_4 rfl) rfl (by show 2 * 0 + _ ≤ _; exact Nat.le_of_eq rfl) (hb hby d10_45) (fun _ _ => ⟨rfl, e3, (by decide : 0 + 1 ≤ _), (by decide : 0 + 7 ≤ _)⟩)
  dsimp only [Pt.U, Pt.locs, Pt.cells, Pt.slots] at X4 l4 y4 z4 st4 hQ4
  subst l4 y4 z4
  obtain ⟨h4, e4⟩ : ∃ z, T4.heap = z := ⟨_, rfl⟩
  rw [e4] at hQ4
  obtain ⟨b4r, b4kr, rfl, N4q, p4_0, p4_1, p4_2, p4_3⟩ := hQ4
  have N4 := Fr.app N3 N4q
  have O5 := O.keep p4_0 all0
  have K6 := K0.trans p4_0 all0
  obtain ⟨_, _, ⟨T7, L7, k7, n7⟩, -, X7, ⟨Lc7, hQ7, l7, y7, z7⟩, st7⟩ := Jvm.LawKit.callS X4 hx (y := y_26) hown (mvT hZ (W 175 rfl)) (mvT hZ (W 176 rfl)) (mvT hZ (W 63 rfl)) (mvT hZ (W 177 rfl)) (by decide) (backOf (W := 0) (ofarr6 l Z a0 hw [] b4r b4kr x1 h4 n0 O5 p4_2 Ex) hZ (W 177 rfl) (W 63 rfl) (by decide) (by decide)) (g := (mkF m 50 #[rv a, .unset] [.ref b4r])) rfl (by rw [hml]; rfl) (argsL := [.ref b4r]) (rest := []) (lenOf pd_12 rfl) rfl (by show 2 * 0 + _ ≤ _; exact Nat.le_of_eq rfl) (hb hby d10_50) (fun _ _ => ⟨rfl, e4, (by decide : 1 + 2 ≤ _), (by decide : 7 + 8 ≤ _)⟩)
  dsimp only [Pt.U, Pt.locs, Pt.cells, Pt.slots] at X7 l7 y7 z7 st7 hQ7
  subst l7 y7 z7
  obtain ⟨h7, e7⟩ : ∃ z, T7.heap = z := ⟨_, rfl⟩
  rw [e7] at hQ7
  obtain ⟨b7r, b7g, b7kg, rfl, N7q, p7_0, p7_1, p7_2, p7_3, p7_4, p7_5⟩ := hQ7
  have N7 := Fr.app N4 N7q
  have sz_b7r : h0.size ≤ b7r := Nat.le_trans K6.1 p7_1
  have sz_b7g : h0.size ≤ b7g := Nat.le_trans K6.1 p7_2
  have K9 := K6.trans p7_0 all0
  obtain ⟨fs, hr, hrun, hended, hW, hsame⟩ := X7.leave (v := some (.ref b7r)) (fun h => by rw [Bd.returns] at h; cases h)
  refine ⟨_, _, pre0 _ ?_, hrun, hended, _, _, rfl, ?_, ⟨_, rfl⟩, hW, hsame.mono (by decide) (by decide)⟩
  · show Sq p e below m s₁ 0 #[rv a, .unset] [] _
    refine XS.aloadN X0.here hx rfl (hb hby d10_0) rfl rfl ?_
    show Sq p e below m s₁ 1 #[rv a, .unset] [.ref a] _
    refine st1 _ ?_
    show Sq p e below m T1 4 #[rv a, .unset] [.int 0] _
    refine XS.ifNo X1.here hx rfl (hb hby d10_4) rfl ((if0 _ _).trans (teq (rfl : (0 : Int32) = (0 : Int32))).2) ?_
    refine XS.aloadN X1.here hx rfl (hb hby d10_7) rfl rfl ?_
    show Sq p e below m T1 8 #[rv a, .unset] [.ref a] _
    refine st2 _ ?_
    show Sq p e below m T2 11 #[rv a, .unset] [.int 0] _
    refine XS.ifYes X2.here hx rfl (pc0 := 11) (pc' := 31) rfl (hb hby d10_11) rfl ((if0 _ _).trans (teq (rfl : (0 : Int32) = (0 : Int32))).1) (by decide) (by decide) ?_
    refine XS.aloadN X2.here hx rfl (hb hby d10_31) rfl rfl ?_
    show Sq p e below m T2 32 #[rv a, .unset] [.ref a] _
    refine st3.trans ?_
    show Sq p e below m T3 37 #[rv a, .unset] [.int 0] _
    refine XS.ifYes X3.here hx rfl (pc0 := 37) (pc' := 44) rfl (hb hby d10_37) rfl ((if0 _ _).trans (teq (rfl : (0 : Int32) = (0 : Int32))).1) (by decide) (by decide) ?_
    refine XS.aloadN X3.here hx rfl (hb hby d10_44) rfl rfl ?_
    show Sq p e below m T3 45 #[rv a, .unset] [.ref a] _
    refine st4.trans ?_
    show Sq p e below m T4 50 #[rv a, .unset] [.ref b4r] _
    refine st7 _ ?_
    show Sq p e below m T7 53 #[rv a, .unset] [.ref b7r] _
    jvm_step X7.here [X7.here.top, hx, (hb hby d10_53), X7.method', Bd.returns, Value.isRef, FieldType.isReference]
    first | (intro acts; rw [hr _ acts rfl rfl rfl]) | rw [hr _ _ rfl rfl rfl]
    exact Steps.refl _
  · show Q_lcopy6 Z a b kb x1 w_MIR h0 n0 _ T7.heap _
    rw [e7]
    exact ⟨b7r, b7g, b7kg, rfl, N7, K9, sz_b7r, sz_b7g, p7_3, p7_4, p7_5⟩
def Q_copyof6 (Z : State) (a : Addr) (b : Addr) (kb : ClassId) (x1 : Addr) (w_MIR : Addr) (h0 : Heap) (n0 : Nat) (v : Option Value) (h : Heap) (L : List Loc) : Prop := ∃ r : Addr, ∃ g : Addr, ∃ kg : ClassId, v = some (.ref r) ∧ Fr n0 L ∧ Keep h0 h [] ∧ h0.size ≤ r ∧ h0.size ≤ g ∧ Exa Z h r "java/util/ImmutableCollections$ListN" ∧ Fld Z h r "java/util/ImmutableCollections$ListN" "elements" "[Ljava/lang/Object;" (.ref g) ∧ Arv Z h g kg (.object "java/lang/Object") (6 : Int32) [(.ref x1), (.ref x1), (.ref x1), (.ref x1), (.ref x1), (.ref x1)] .null
set_option maxRecDepth 65536 in
set_option maxHeartbeats 40000000 in
theorem copyof6 (l : Launch) (Z : State) (a0 : Array Value) (hw : ∀ d ∈ tables_1, d.before a0 Z = true) (ws : List Jvm.Cond) (a : Addr) (b : Addr) (kb : ClassId) (x1 : Addr) (w_MIR : Addr) (h0 : Heap) (n0 : Nat) (O : Old Z n0 h0) (Ea : Exa Z h0 a "java/util/ArrayList") (Vb : Arv Z h0 b kb (.object "java/lang/Object") (10 : Int32) [(.ref x1), (.ref x1), (.ref x1), (.ref x1), (.ref x1), (.ref x1), .null, .null, .null, .null] .null) (Ex : Exa Z Z.heap x1 "java/time/Duration") (Mo : Mirr Z "[Ljava/lang/Object;" w_MIR) (Eb : Exa Z h0 b "[Ljava/lang/Object;") (Fd : Fld Z h0 a "java/util/ArrayList" "elementData" "[Ljava/lang/Object;" (.ref b)) (Fs : Fld Z h0 a "java/util/ArrayList" "size" "I" (.int (6 : Int32))) :
    Ctr l Z y_25 jdk_40_method_48_code 1 (some (.object "java/util/List")) ws ({ frames := 8, cells := 3, slots := 15, locals := 103 } : Room) #[(.ref a)] h0 (Q_copyof6 Z a b kb x1 w_MIR h0 n0) := by
  refine MetFree.of_bodySF (plainFor_of_name pn_7) hisR ?_
  intro p e s m args below meth c s₁ Bd hml0 hP hK
  obtain ⟨rfl, hZ, hh⟩ := hP
  have W := fun (i : Nat) {d : Jvm.Cond} (h : tables_1[i]? = some d) => hw d (List.mem_of_getElem? h)
  have hx := Bd.exec
  have hby := Bd.bytes
  have hml : c.maxLocals = 1 := hml0
  have hown : s.vm.findClass "java/util/List" = some m.cls := findClass_of_methodNamed Bd.named
  have hnm := (name_of_methodNamed Bd.named Bd.method).1
  have X0 : Stand p l e ({ frames := 8, cells := 3, slots := 15, locals := 103 } : Room) s m #[(.ref a)] below meth c s₁ [] 0 0 := Stand.of_body Bd
  have e0 : s₁.heap = h0 := by rw [← hh, Bd.state]; rfl
  have N0 := Fr.nil n0
  have pre0 : ∀ t, Steps p.tables e below (s₁.setTop (mkF m 0 #[.val (.ref a)] [])) t → Steps p.tables e below (s₁.setTop (entryFrame m #[(.ref a)] 1)) t := fun t kk_ => castTop (ef_25 m a) kk_
  have K0 := Keep.refl h0 []
  obtain ⟨_, _, ⟨T1, L1, k1, n1⟩, -, X1, ⟨Lc1, hQ1, l1, y1, z1⟩, st1⟩ := Jvm.LawKit.callS X0 hx (y := y_24) hown (mvT hZ (W 65 rfl)) (mvT hZ (W 66 rfl)) (mvT hZ (W 67 rfl)) (mvT hZ (W 68 rfl)) (by decide) (backOf (W := 0) (lcopy6 l Z a0 hw [] a b kb x1 w_MIR h0 n0 O Ea Vb Ex Mo Eb Fd Fs) hZ (W 68 rfl) (W 67 rfl) (by decide) (by decide)) (g := (mkF m 1 #[rv a] [.ref a])) rfl (by rw [hml]; rfl) (argsL := [.ref a]) (rest := []) (lenOf pd_10 rfl) rfl (by show 2 * 0 + _ ≤ _; exact Nat.le_of_eq rfl) (hb hby d9_1) (fun _ _ => ⟨rfl, e0, (by decide : 0 + 3 ≤ _), (by decide : 0 + 15 ≤ _)⟩)
  dsimp only [Pt.U, Pt.locs, Pt.cells, Pt.slots] at X1 l1 y1 z1 st1 hQ1
  subst l1 y1 z1
  obtain ⟨h1, e1⟩ : ∃ z, T1.heap = z := ⟨_, rfl⟩
  rw [e1] at hQ1
  obtain ⟨b1r, b1g, b1kg, rfl, N1q, p1_0, p1_1, p1_2, p1_3, p1_4, p1_5⟩ := hQ1
  have N1 := Fr.app N0 N1q
  have sz_b1r : h0.size ≤ b1r := Nat.le_trans K0.1 p1_1
  have sz_b1g : h0.size ≤ b1g := Nat.le_trans K0.1 p1_2
  have K3 := K0.trans p1_0 all0
  obtain ⟨fs, hr, hrun, hended, hW, hsame⟩ := X1.leave (v := some (.ref b1r)) (fun h => by rw [Bd.returns] at h; cases h)
  refine ⟨_, _, pre0 _ ?_, hrun, hended, _, _, rfl, ?_, ⟨_, rfl⟩, hW, hsame.mono (by decide) (by decide)⟩
  · show Sq p e below m s₁ 0 #[rv a] [] _
    refine XS.aloadN X0.here hx rfl (hb hby d9_0) rfl rfl ?_
    show Sq p e below m s₁ 1 #[rv a] [.ref a] _
    refine st1 _ ?_
    show Sq p e below m T1 4 #[rv a] [.ref b1r] _
    jvm_step X1.here [X1.here.top, hx, (hb hby d9_4), X1.method', Bd.returns, Value.isRef, FieldType.isReference]
    first | (intro acts; rw [hr _ acts rfl rfl rfl]) | rw [hr _ _ rfl rfl rfl]
    exact Steps.refl _
  · show Q_copyof6 Z a b kb x1 w_MIR h0 n0 _ T1.heap _
    rw [e1]
    exact ⟨b1r, b1g, b1kg, rfl, N1, K3, sz_b1r, sz_b1g, p1_3, p1_4, p1_5⟩
def Q_lfa7 (Z : State) (r0 : Addr) (k0 : ClassId) (x1 : Addr) (h0 : Heap) (n0 : Nat) (v : Option Value) (h : Heap) (L : List Loc) : Prop := ∃ r : Addr, ∃ g : Addr, ∃ kg : ClassId, v = some (.ref r) ∧ Fr n0 L ∧ Keep h0 h [] ∧ h0.size ≤ r ∧ h0.size ≤ g ∧ Exa Z h r "java/util/ImmutableCollections$ListN" ∧ Fld Z h r "java/util/ImmutableCollections$ListN" "elements" "[Ljava/lang/Object;" (.ref g) ∧ Arv Z h g kg (.object "java/lang/Object") (7 : Int32) [(.ref x1), (.ref x1), (.ref x1), (.ref x1), (.ref x1), (.ref x1), (.ref x1)] .null
set_option maxRecDepth 65536 in
set_option maxHeartbeats 40000000 in
theorem lfa7 (l : Launch) (Z : State) (a0 : Array Value) (hw : ∀ d ∈ tables_1, d.before a0 Z = true) (ws : List Jvm.Cond) (r0 : Addr) (k0 : ClassId) (x1 : Addr) (h0 : Heap) (n0 : Nat) (O : Old Z n0 h0) (Vr : Arv Z h0 r0 k0 (.object "java/lang/Object") (7 : Int32) [(.ref x1), (.ref x1), (.ref x1), (.ref x1), (.ref x1), (.ref x1), (.ref x1)] .null) (Ex : Exa Z Z.heap x1 "java/time/Duration") :
    Ctr l Z y_28 jdk_56_method_4_code 3 (some (.object "java/util/List")) ws ({ frames := 5, cells := 2, slots := 9, locals := 63 } : Room) #[(.ref r0)] h0 (Q_lfa7 Z r0 k0 x1 h0 n0) := by
  refine MetFree.of_bodySF (plainFor_of_name pn_11) hisR ?_
  intro p e s m args below meth c s₁ Bd hml0 hP hK
  obtain ⟨rfl, hZ, hh⟩ := hP
  have W := fun (i : Nat) {d : Jvm.Cond} (h : tables_1[i]? = some d) => hw d (List.mem_of_getElem? h)
  have hx := Bd.exec
  have hby := Bd.bytes
  have hml : c.maxLocals = 3 := hml0
  have hown : s.vm.findClass "java/util/ImmutableCollections" = some m.cls := findClass_of_methodNamed Bd.named
  have hnm := (name_of_methodNamed Bd.named Bd.method).1
  have X0 : Stand p l e ({ frames := 5, cells := 2, slots := 9, locals := 63 } : Room) s m #[(.ref r0)] below meth c s₁ [] 0 0 := Stand.of_body Bd
  have e0 : s₁.heap = h0 := by rw [← hh, Bd.state]; rfl
  have N0 := Fr.nil n0
  have pre0 : ∀ t, Steps p.tables e below (s₁.setTop (mkF m 0 #[.val (.ref r0), .unset, .unset] [])) t → Steps p.tables e below (s₁.setTop (entryFrame m #[(.ref r0)] 3)) t := fun t kk_ => castTop (ef_27 m r0) kk_
  have K0 := Keep.refl h0 []
  obtain ⟨cl1, Ar1, -, S1, Ng1, -, -⟩ := id Vr
  have st1 := X0.arraylength hx (by rw [e0]; exact Ar1.1) (State.isArrayOf_alike hZ.alike Ar1.2.1) (g := (mkF m 1 #[rv r0, .unset, .unset] [.ref r0])) rfl rfl (hb hby d30_1)
  rw [len_of S1 Ng1] at st1
  obtain ⟨T2, h2, k2, X2, e2, E2, A2, A2x, Ov2, st2⟩ := newRE X0 hx hZ hown (W 213 rfl) (W 143 rfl) e0 (g := (mkF m 2 #[rv r0, .unset, .unset] [.int 7])) rfl (hb hby d30_2) rfl (by decide) (cap := 7) (by decide) (by decide) (by decide) (by decide) (ad := "[Ljava/lang/Object;") (by decide)
  obtain ⟨b2, g2⟩ : ∃ z, z = h0.size := ⟨_, rfl⟩
  rw [← g2] at A2 A2x st2
  have g_b2 : n0 ≤ b2 := Nat.le_trans (own_sz O) (Nat.le_of_eq g2.symm)
  have sz_b2 : h0.size ≤ b2 := Nat.le_trans K0.1 (Nat.le_of_eq g2.symm)
  have ne_r0_b2 : r0 ≠ b2 := Nat.ne_of_lt (Nat.lt_of_lt_of_le Vr.lt (Nat.le_of_eq g2.symm))
  have Vr := Vr.ext E2
  have O3 := O.ext E2
  have K4 := K0.ext E2
  have V2 : Arv Z h2 b2 k2 (.object "java/lang/Object") (7 : Int32) [.null, .null, .null, .null, .null, .null, .null] .null := (Arv.new A2 (by decide)).pad (pad_rep [] .null 7)
  obtain ⟨cl5, Ar5, -, S5, Ng5, -, -⟩ := id Vr
  have st5 := X2.arraylength hx (by rw [e2]; exact Ar5.1) (State.isArrayOf_alike hZ.alike Ar5.2.1) (g := (mkF m 10 #[rv r0, rv b2, iv 0] [.ref r0, .int 0])) rfl rfl (hb hby d30_10)
  rw [len_of S5 Ng5] at st5
  obtain ⟨cl6, Ar6, q6, S6, Ng6, Hh6, Gg6⟩ := id Vr
  have st6 := X2.aaload hx (j := (0 : Int32)) (v := (.ref x1)) (by rw [e2]; exact Ar6.1) (State.isArrayOf_alike hZ.alike Ar6.2.1) rfl Ar6.2.2 (inb_of S6 (by decide)) (Hh6.at (inb_of S6 (by decide)) rfl) (g := (mkF m 18 #[rv r0, rv b2, iv 0] [.int 0, .ref r0, .int 0, .ref b2])) rfl rfl (hb hby d30_18)
  obtain ⟨_, _, ⟨T7, L7, k7, n7⟩, -, X7, ⟨Lc7, hQ7, l7, y7, z7⟩, st7⟩ := Jvm.LawKit.callS X2 hx (y := y_9) hown (mvT hZ (W 214 rfl)) (mvT hZ (W 200 rfl)) (mvT hZ (W 201 rfl)) (mvT hZ (W 202 rfl)) (by decide) (backOf (W := 2) (rnn l Z a0 hw [] x1 h2 n0 O3 ) hZ (W 202 rfl) (W 201 rfl) (by decide) (by decide)) (g := (mkF m 19 #[rv r0, rv b2, iv 0] [.ref x1, .int 0, .ref b2])) rfl (by rw [hml]; rfl) (argsL := [.ref x1]) (rest := [.int 0, .ref b2]) (lenOf pd_3 rfl) rfl (by show 2 * 0 + _ ≤ _; exact Nat.le_of_eq rfl) (hb hby d30_19) (fun _ _ => ⟨rfl, e2, (by decide : 1 + 0 ≤ _), (by decide : 7 + 0 ≤ _)⟩)
  dsimp only [Pt.U, Pt.locs, Pt.cells, Pt.slots] at X7 l7 y7 z7 st7 hQ7
  subst l7 y7 z7
  obtain ⟨h7, e7⟩ : ∃ z, T7.heap = z := ⟨_, rfl⟩
  rw [e7] at hQ7
  obtain ⟨rfl, N7q, p7_0⟩ := hQ7
  have N7 := Fr.app N0 N7q
  rw [p7_0] at e7
  obtain ⟨cl8, Ar8, q8, S8, Ng8, Hh8, Gg8⟩ := id V2
  obtain ⟨T8, h8, X8, e8, W8, st8⟩ := stR X7 hx hZ e7 Ar8 (j := (0 : Int32)) (inb_of S8 (by decide)) rfl (Sto.ofV Ar8 q8 Ov2 (Ins.of_exa (Ex.ext O3.2) (W 144 rfl))) (g := (mkF m 22 #[rv r0, rv b2, iv 0] [.ref x1, .int 0, .ref b2])) rfl rfl (hb hby d30_22)
  have V8 : Arv Z h8 b2 k2 (.object "java/lang/Object") (7 : Int32) [(.ref x1), .null, .null, .null, .null, .null, .null] .null := Arv.set Ar8 q8 S8 Ng8 Hh8 Gg8 rfl W8 0 rfl (Nat.le_of_ble_eq_true rfl)
  have Vr := Vr.other W8 ne_r0_b2
  have A2x := A2x.wr W8
  have O9 := O3.wr W8 g_b2
  have K10 := K4.wr W8 (Or.inr sz_b2)
  have N11 := Fr.snoc X8 N7 g_b2
  obtain ⟨cl12, Ar12, -, S12, Ng12, -, -⟩ := id Vr
  have st12 := X8.arraylength hx (by rw [e8]; exact Ar12.1) (State.isArrayOf_alike hZ.alike Ar12.2.1) (g := (mkF m 10 #[rv r0, rv b2, iv 1] [.ref r0, .int 1])) rfl rfl (hb hby d30_10)
  rw [len_of S12 Ng12] at st12
  obtain ⟨cl13, Ar13, q13, S13, Ng13, Hh13, Gg13⟩ := id Vr
  have st13 := X8.aaload hx (j := (1 : Int32)) (v := (.ref x1)) (by rw [e8]; exact Ar13.1) (State.isArrayOf_alike hZ.alike Ar13.2.1) rfl Ar13.2.2 (inb_of S13 (by decide)) (Hh13.at (inb_of S13 (by decide)) rfl) (g := (mkF m 18 #[rv r0, rv b2, iv 1] [.int 1, .ref r0, .int 1, .ref b2])) rfl rfl (hb hby d30_18)
  obtain ⟨_, _, ⟨T14, L14, k14, n14⟩, -, X14, ⟨Lc14, hQ14, l14, y14, z14⟩, st14⟩ := Jvm.LawKit.callS X8 hx (y := y_9) hown (mvT hZ (W 214 rfl)) (mvT hZ (W 200 rfl)) (mvT hZ (W 201 rfl)) (mvT hZ (W 202 rfl)) (by decide) (backOf (W := 2) (rnn l Z a0 hw [] x1 h8 n0 O9 ) hZ (W 202 rfl) (W 201 rfl) (by decide) (by decide)) (g := (mkF m 19 #[rv r0, rv b2, iv 1] [.ref x1, .int 1, .ref b2])) rfl (by rw [hml]; rfl) (argsL := [.ref x1]) (rest := [.int 1, .ref b2]) (lenOf pd_3 rfl) rfl (by show 2 * 0 + _ ≤ _; exact Nat.le_of_eq rfl) (hb hby d30_19) (fun _ _ => ⟨rfl, e8, (by decide : 1 + 0 ≤ _), (by decide : 7 + 0 ≤ _)⟩)
  dsimp only [Pt.U, Pt.locs, Pt.cells, Pt.slots] at X14 l14 y14 z14 st14 hQ14
  subst l14 y14 z14
  obtain ⟨h14, e14⟩ : ∃ z, T14.heap = z := ⟨_, rfl⟩
  rw [e14] at hQ14
  obtain ⟨rfl, N14q, p14_0⟩ := hQ14
  have N14 := Fr.app N11 N14q
  rw [p14_0] at e14
  obtain ⟨cl15, Ar15, q15, S15, Ng15, Hh15, Gg15⟩ := id V8
  obtain ⟨T15, h15, X15, e15, W15, st15⟩ := stR X14 hx hZ e14 Ar15 (j := (1 : Int32)) (inb_of S15 (by decide)) rfl (Sto.ofV Ar15 q15 Ov2 (Ins.of_exa (Ex.ext O9.2) (W 144 rfl))) (g := (mkF m 22 #[rv r0, rv b2, iv 1] [.ref x1, .int 1, .ref b2])) rfl rfl (hb hby d30_22)
  have V15 : Arv Z h15 b2 k2 (.object "java/lang/Object") (7 : Int32) [(.ref x1), (.ref x1), .null, .null, .null, .null, .null] .null := Arv.set Ar15 q15 S15 Ng15 Hh15 Gg15 rfl W15 1 rfl (Nat.le_of_ble_eq_true rfl)
  have Vr := Vr.other W15 ne_r0_b2
  have A2x := A2x.wr W15
  have O16 := O9.wr W15 g_b2
  have K17 := K10.wr W15 (Or.inr sz_b2)
  have N18 := Fr.snoc X15 N14 g_b2
  obtain ⟨cl19, Ar19, -, S19, Ng19, -, -⟩ := id Vr
  have st19 := X15.arraylength hx (by rw [e15]; exact Ar19.1) (State.isArrayOf_alike hZ.alike Ar19.2.1) (g := (mkF m 10 #[rv r0, rv b2, iv 2] [.ref r0, .int 2])) rfl rfl (hb hby d30_10)
  rw [len_of S19 Ng19] at st19
  obtain ⟨cl20, Ar20, q20, S20, Ng20, Hh20, Gg20⟩ := id Vr
  have st20 := X15.aaload hx (j := (2 : Int32)) (v := (.ref x1)) (by rw [e15]; exact Ar20.1) (State.isArrayOf_alike hZ.alike Ar20.2.1) rfl Ar20.2.2 (inb_of S20 (by decide)) (Hh20.at (inb_of S20 (by decide)) rfl) (g := (mkF m 18 #[rv r0, rv b2, iv 2] [.int 2, .ref r0, .int 2, .ref b2])) rfl rfl (hb hby d30_18)
  obtain ⟨_, _, ⟨T21, L21, k21, n21⟩, -, X21, ⟨Lc21, hQ21, l21, y21, z21⟩, st21⟩ := Jvm.LawKit.callS X15 hx (y := y_9) hown (mvT hZ (W 214 rfl)) (mvT hZ (W 200 rfl)) (mvT hZ (W 201 rfl)) (mvT hZ (W 202 rfl)) (by decide) (backOf (W := 2) (rnn l Z a0 hw [] x1 h15 n0 O16 ) hZ (W 202 rfl) (W 201 rfl) (by decide) (by decide)) (g := (mkF m 19 #[rv r0, rv b2, iv 2] [.ref x1, .int 2, .ref b2])) rfl (by rw [hml]; rfl) (argsL := [.ref x1]) (rest := [.int 2, .ref b2]) (lenOf pd_3 rfl) rfl (by show 2 * 0 + _ ≤ _; exact Nat.le_of_eq rfl) (hb hby d30_19) (fun _ _ => ⟨rfl, e15, (by decide : 1 + 0 ≤ _), (by decide : 7 + 0 ≤ _)⟩)
  dsimp only [Pt.U, Pt.locs, Pt.cells, Pt.slots] at X21 l21 y21 z21 st21 hQ21
  subst l21 y21 z21
  obtain ⟨h21, e21⟩ : ∃ z, T21.heap = z := ⟨_, rfl⟩
  rw [e21] at hQ21
  obtain ⟨rfl, N21q, p21_0⟩ := hQ21
  have N21 := Fr.app N18 N21q
  rw [p21_0] at e21
  obtain ⟨cl22, Ar22, q22, S22, Ng22, Hh22, Gg22⟩ := id V15
  obtain ⟨T22, h22, X22, e22, W22, st22⟩ := stR X21 hx hZ e21 Ar22 (j := (2 : Int32)) (inb_of S22 (by decide)) rfl (Sto.ofV Ar22 q22 Ov2 (Ins.of_exa (Ex.ext O16.2) (W 144 rfl))) (g := (mkF m 22 #[rv r0, rv b2, iv 2] [.ref x1, .int 2, .ref b2])) rfl rfl (hb hby d30_22)
  have V22 : Arv Z h22 b2 k2 (.object "java/lang/Object") (7 : Int32) [(.ref x1), (.ref x1), (.ref x1), .null, .null, .null, .null] .null := Arv.set Ar22 q22 S22 Ng22 Hh22 Gg22 rfl W22 2 rfl (Nat.le_of_ble_eq_true rfl)
  have Vr := Vr.other W22 ne_r0_b2
  have A2x := A2x.wr W22
  have O23 := O16.wr W22 g_b2
  have K24 := K17.wr W22 (Or.inr sz_b2)
  have N25 := Fr.snoc X22 N21 g_b2
  obtain ⟨cl26, Ar26, -, S26, Ng26, -, -⟩ := id Vr
  have st26 := X22.arraylength hx (by rw [e22]; exact Ar26.1) (State.isArrayOf_alike hZ.alike Ar26.2.1) (g := (mkF m 10 #[rv r0, rv b2, iv 3] [.ref r0, .int 3])) rfl rfl (hb hby d30_10)
  rw [len_of S26 Ng26] at st26
  obtain ⟨cl27, Ar27, q27, S27, Ng27, Hh27, Gg27⟩ := id Vr
  have st27 := X22.aaload hx (j := (3 : Int32)) (v := (.ref x1)) (by rw [e22]; exact Ar27.1) (State.isArrayOf_alike hZ.alike Ar27.2.1) rfl Ar27.2.2 (inb_of S27 (by decide)) (Hh27.at (inb_of S27 (by decide)) rfl) (g := (mkF m 18 #[rv r0, rv b2, iv 3] [.int 3, .ref r0, .int 3, .ref b2])) rfl rfl (hb hby d30_18)
  obtain ⟨_, _, ⟨T28, L28, k28, n28⟩, -, X28, ⟨Lc28, hQ28, l28, y28, z28⟩, st28⟩ := Jvm.LawKit.callS X22 hx (y := y_9) hown (mvT hZ (W 214 rfl)) (mvT hZ (W 200 rfl)) (mvT hZ (W 201 rfl)) (mvT hZ (W 202 rfl)) (by decide) (backOf (W := 2) (rnn l Z a0 hw [] x1 h22 n0 O23 ) hZ (W 202 rfl) (W 201 rfl) (by decide) (by decide)) (g := (mkF m 19 #[rv r0, rv b2, iv 3] [.ref x1, .int 3, .ref b2])) rfl (by rw [hml]; rfl) (argsL := [.ref x1]) (rest := [.int 3, .ref b2]) (lenOf pd_3 rfl) rfl (by show 2 * 0 + _ ≤ _; exact Nat.le_of_eq rfl) (hb hby d30_19) (fun _ _ => ⟨rfl, e22, (by decide : 1 + 0 ≤ _), (by decide : 7 + 0 ≤ _)⟩)
  dsimp only [Pt.U, Pt.locs, Pt.cells, Pt.slots] at X28 l28 y28 z28 st28 hQ28
  subst l28 y28 z28
  obtain ⟨h28, e28⟩ : ∃ z, T28.heap = z := ⟨_, rfl⟩
  rw [e28] at hQ28
  obtain ⟨rfl, N28q, p28_0⟩ := hQ28
  have N28 := Fr.app N25 N28q
  rw [p28_0] at e28
  obtain ⟨cl29, Ar29, q29, S29, Ng29, Hh29, Gg29⟩ := id V22
  obtain ⟨T29, h29, X29, e29, W29, st29⟩ := stR X28 hx hZ e28 Ar29 (j := (3 : Int32)) (inb_of S29 (by decide)) rfl (Sto.ofV Ar29 q29 Ov2 (Ins.of_exa (Ex.ext O23.2) (W 144 rfl))) (g := (mkF m 22 #[rv r0, rv b2, iv 3] [.ref x1, .int 3, .ref b2])) rfl rfl (hb hby d30_22)
  have V29 : Arv Z h29 b2 k2 (.object "java/lang/Object") (7 : Int32) [(.ref x1), (.ref x1), (.ref x1), (.ref x1), .null, .null, .null] .null := Arv.set Ar29 q29 S29 Ng29 Hh29 Gg29 rfl W29 3 rfl (Nat.le_of_ble_eq_true rfl)
  have Vr := Vr.other W29 ne_r0_b2
  have A2x := A2x.wr W29
  have O30 := O23.wr W29 g_b2
  have K31 := K24.wr W29 (Or.inr sz_b2)
  have N32 := Fr.snoc X29 N28 g_b2
  obtain ⟨cl33, Ar33, -, S33, Ng33, -, -⟩ := id Vr
  have st33 := X29.arraylength hx (by rw [e29]; exact Ar33.1) (State.isArrayOf_alike hZ.alike Ar33.2.1) (g := (mkF m 10 #[rv r0, rv b2, iv 4] [.ref r0, .int 4])) rfl rfl (hb hby d30_10)
  rw [len_of S33 Ng33] at st33
  obtain ⟨cl34, Ar34, q34, S34, Ng34, Hh34, Gg34⟩ := id Vr
  have st34 := X29.aaload hx (j := (4 : Int32)) (v := (.ref x1)) (by rw [e29]; exact Ar34.1) (State.isArrayOf_alike hZ.alike Ar34.2.1) rfl Ar34.2.2 (inb_of S34 (by decide)) (Hh34.at (inb_of S34 (by decide)) rfl) (g := (mkF m 18 #[rv r0, rv b2, iv 4] [.int 4, .ref r0, .int 4, .ref b2])) rfl rfl (hb hby d30_18)
  obtain ⟨_, _, ⟨T35, L35, k35, n35⟩, -, X35, ⟨Lc35, hQ35, l35, y35, z35⟩, st35⟩ := Jvm.LawKit.callS X29 hx (y := y_9) hown (mvT hZ (W 214 rfl)) (mvT hZ (W 200 rfl)) (mvT hZ (W 201 rfl)) (mvT hZ (W 202 rfl)) (by decide) (backOf (W := 2) (rnn l Z a0 hw [] x1 h29 n0 O30 ) hZ (W 202 rfl) (W 201 rfl) (by decide) (by decide)) (g := (mkF m 19 #[rv r0, rv b2, iv 4] [.ref x1, .int 4, .ref b2])) rfl (by rw [hml]; rfl) (argsL := [.ref x1]) (rest := [.int 4, .ref b2]) (lenOf pd_3 rfl) rfl (by show 2 * 0 + _ ≤ _; exact Nat.le_of_eq rfl) (hb hby d30_19) (fun _ _ => ⟨rfl, e29, (by decide : 1 + 0 ≤ _), (by decide : 7 + 0 ≤ _)⟩)
  dsimp only [Pt.U, Pt.locs, Pt.cells, Pt.slots] at X35 l35 y35 z35 st35 hQ35
  subst l35 y35 z35
  obtain ⟨h35, e35⟩ : ∃ z, T35.heap = z := ⟨_, rfl⟩
  rw [e35] at hQ35
  obtain ⟨rfl, N35q, p35_0⟩ := hQ35
  have N35 := Fr.app N32 N35q
  rw [p35_0] at e35
  obtain ⟨cl36, Ar36, q36, S36, Ng36, Hh36, Gg36⟩ := id V29
  obtain ⟨T36, h36, X36, e36, W36, st36⟩ := stR X35 hx hZ e35 Ar36 (j := (4 : Int32)) (inb_of S36 (by decide)) rfl (Sto.ofV Ar36 q36 Ov2 (Ins.of_exa (Ex.ext O30.2) (W 144 rfl))) (g := (mkF m 22 #[rv r0, rv b2, iv 4] [.ref x1, .int 4, .ref b2])) rfl rfl (hb hby d30_22)
  have V36 : Arv Z h36 b2 k2 (.object "java/lang/Object") (7 : Int32) [(.ref x1), (.ref x1), (.ref x1), (.ref x1), (.ref x1), .null, .null] .null := Arv.set Ar36 q36 S36 Ng36 Hh36 Gg36 rfl W36 4 rfl (Nat.le_of_ble_eq_true rfl)
  have Vr := Vr.other W36 ne_r0_b2
  have A2x := A2x.wr W36
  have O37 := O30.wr W36 g_b2
  have K38 := K31.wr W36 (Or.inr sz_b2)
  have N39 := Fr.snoc X36 N35 g_b2
  obtain ⟨cl40, Ar40, -, S40, Ng40, -, -⟩ := id Vr
  have st40 := X36.arraylength hx (by rw [e36]; exact Ar40.1) (State.isArrayOf_alike hZ.alike Ar40.2.1) (g := (mkF m 10 #[rv r0, rv b2, iv 5] [.ref r0, .int 5])) rfl rfl (hb hby d30_10)
  rw [len_of S40 Ng40] at st40
  obtain ⟨cl41, Ar41, q41, S41, Ng41, Hh41, Gg41⟩ := id Vr
  have st41 := X36.aaload hx (j := (5 : Int32)) (v := (.ref x1)) (by rw [e36]; exact Ar41.1) (State.isArrayOf_alike hZ.alike Ar41.2.1) rfl Ar41.2.2 (inb_of S41 (by decide)) (Hh41.at (inb_of S41 (by decide)) rfl) (g := (mkF m 18 #[rv r0, rv b2, iv 5] [.int 5, .ref r0, .int 5, .ref b2])) rfl rfl (hb hby d30_18)
  obtain ⟨_, _, ⟨T42, L42, k42, n42⟩, -, X42, ⟨Lc42, hQ42, l42, y42, z42⟩, st42⟩ := Jvm.LawKit.callS X36 hx (y := y_9) hown (mvT hZ (W 214 rfl)) (mvT hZ (W 200 rfl)) (mvT hZ (W 201 rfl)) (mvT hZ (W 202 rfl)) (by decide) (backOf (W := 2) (rnn l Z a0 hw [] x1 h36 n0 O37 ) hZ (W 202 rfl) (W 201 rfl) (by decide) (by decide)) (g := (mkF m 19 #[rv r0, rv b2, iv 5] [.ref x1, .int 5, .ref b2])) rfl (by rw [hml]; rfl) (argsL := [.ref x1]) (rest := [.int 5, .ref b2]) (lenOf pd_3 rfl) rfl (by show 2 * 0 + _ ≤ _; exact Nat.le_of_eq rfl) (hb hby d30_19) (fun _ _ => ⟨rfl, e36, (by decide : 1 + 0 ≤ _), (by decide : 7 + 0 ≤ _)⟩)
  dsimp only [Pt.U, Pt.locs, Pt.cells, Pt.slots] at X42 l42 y42 z42 st42 hQ42
  subst l42 y42 z42
  obtain ⟨h42, e42⟩ : ∃ z, T42.heap = z := ⟨_, rfl⟩
  rw [e42] at hQ42
  obtain ⟨rfl, N42q, p42_0⟩ := hQ42
  have N42 := Fr.app N39 N42q
  rw [p42_0] at e42
  obtain ⟨cl43, Ar43, q43, S43, Ng43, Hh43, Gg43⟩ := id V36
  obtain ⟨T43, h43, X43, e43, W43, st43⟩ := stR X42 hx hZ e42 Ar43 (j := (5 : Int32)) (inb_of S43 (by decide)) rfl (Sto.ofV Ar43 q43 Ov2 (Ins.of_exa (Ex.ext O37.2) (W 144 rfl))) (g := (mkF m 22 #[rv r0, rv b2, iv 5] [.ref x1, .int 5, .ref b2])) rfl rfl (hb hby d30_22)
  have V43 : Arv Z h43 b2 k2 (.object "java/lang/Object") (7 : Int32) [(.ref x1), (.ref x1), (.ref x1), (.ref x1), (.ref x1), (.ref x1), .null] .null := Arv.set Ar43 q43 S43 Ng43 Hh43 Gg43 rfl W43 5 rfl (Nat.le_of_ble_eq_true rfl)
  have Vr := Vr.other W43 ne_r0_b2
  have A2x := A2x.wr W43
  have O44 := O37.wr W43 g_b2
  have K45 := K38.wr W43 (Or.inr sz_b2)
  have N46 := Fr.snoc X43 N42 g_b2
  obtain ⟨cl47, Ar47, -, S47, Ng47, -, -⟩ := id Vr
  have st47 := X43.arraylength hx (by rw [e43]; exact Ar47.1) (State.isArrayOf_alike hZ.alike Ar47.2.1) (g := (mkF m 10 #[rv r0, rv b2, iv 6] [.ref r0, .int 6])) rfl rfl (hb hby d30_10)
  rw [len_of S47 Ng47] at st47
  obtain ⟨cl48, Ar48, q48, S48, Ng48, Hh48, Gg48⟩ := id Vr
  have st48 := X43.aaload hx (j := (6 : Int32)) (v := (.ref x1)) (by rw [e43]; exact Ar48.1) (State.isArrayOf_alike hZ.alike Ar48.2.1) rfl Ar48.2.2 (inb_of S48 (by decide)) (Hh48.at (inb_of S48 (by decide)) rfl) (g := (mkF m 18 #[rv r0, rv b2, iv 6] [.int 6, .ref r0, .int 6, .ref b2])) rfl rfl (hb hby d30_18)
  obtain ⟨_, _, ⟨T49, L49, k49, n49⟩, -, X49, ⟨Lc49, hQ49, l49, y49, z49⟩, st49⟩ := Jvm.LawKit.callS X43 hx (y := y_9) hown (mvT hZ (W 214 rfl)) (mvT hZ (W 200 rfl)) (mvT hZ (W 201 rfl)) (mvT hZ (W 202 rfl)) (by decide) (backOf (W := 2) (rnn l Z a0 hw [] x1 h43 n0 O44 ) hZ (W 202 rfl) (W 201 rfl) (by decide) (by decide)) (g := (mkF m 19 #[rv r0, rv b2, iv 6] [.ref x1, .int 6, .ref b2])) rfl (by rw [hml]; rfl) (argsL := [.ref x1]) (rest := [.int 6, .ref b2]) (lenOf pd_3 rfl) rfl (by show 2 * 0 + _ ≤ _; exact Nat.le_of_eq rfl) (hb hby d30_19) (fun _ _ => ⟨rfl, e43, (by decide : 1 + 0 ≤ _), (by decide : 7 + 0 ≤ _)⟩)
  dsimp only [Pt.U, Pt.locs, Pt.cells, Pt.slots] at X49 l49 y49 z49 st49 hQ49
  subst l49 y49 z49
  obtain ⟨h49, e49⟩ : ∃ z, T49.heap = z := ⟨_, rfl⟩
  rw [e49] at hQ49
  obtain ⟨rfl, N49q, p49_0⟩ := hQ49
  have N49 := Fr.app N46 N49q
  rw [p49_0] at e49
  obtain ⟨cl50, Ar50, q50, S50, Ng50, Hh50, Gg50⟩ := id V43
  obtain ⟨T50, h50, X50, e50, W50, st50⟩ := stR X49 hx hZ e49 Ar50 (j := (6 : Int32)) (inb_of S50 (by decide)) rfl (Sto.ofV Ar50 q50 Ov2 (Ins.of_exa (Ex.ext O44.2) (W 144 rfl))) (g := (mkF m 22 #[rv r0, rv b2, iv 6] [.ref x1, .int 6, .ref b2])) rfl rfl (hb hby d30_22)
  have V50 : Arv Z h50 b2 k2 (.object "java/lang/Object") (7 : Int32) [(.ref x1), (.ref x1), (.ref x1), (.ref x1), (.ref x1), (.ref x1), (.ref x1)] .null := Arv.set Ar50 q50 S50 Ng50 Hh50 Gg50 rfl W50 6 rfl (Nat.le_of_ble_eq_true rfl)
  have Vr := Vr.other W50 ne_r0_b2
  have A2x := A2x.wr W50
  have O51 := O44.wr W50 g_b2
  have K52 := K45.wr W50 (Or.inr sz_b2)
  have N53 := Fr.snoc X50 N49 g_b2
  obtain ⟨cl54, Ar54, -, S54, Ng54, -, -⟩ := id Vr
  have st54 := X50.arraylength hx (by rw [e50]; exact Ar54.1) (State.isArrayOf_alike hZ.alike Ar54.2.1) (g := (mkF m 10 #[rv r0, rv b2, iv 7] [.ref r0, .int 7])) rfl rfl (hb hby d30_10)
  rw [len_of S54 Ng54] at st54
  obtain ⟨T55, h55, X55, e55, E55, A55, D55, -, st55⟩ := newO X50 hx hZ hown (W 74 rfl) (W 215 rfl) (W 18 rfl) e50 (g := (mkF m 29 #[rv r0, rv b2, iv 7] [])) rfl (hb hby d30_29) (by decide) (by decide)
  obtain ⟨b55, g55⟩ : ∃ z, z = h50.size := ⟨_, rfl⟩
  rw [← g55] at A55 D55 st55
  have g_b55 : n0 ≤ b55 := Nat.le_trans (own_sz O51) (Nat.le_of_eq g55.symm)
  have sz_b55 : h0.size ≤ b55 := Nat.le_trans K52.1 (Nat.le_of_eq g55.symm)
  have ne_b2_b55 : b2 ≠ b55 := Nat.ne_of_lt (Nat.lt_of_lt_of_le A2x.lt (Nat.le_of_eq g55.symm))
  have V50 := V50.ext E55
  have O56 := O51.ext E55
  have K57 := K52.ext E55
  have Fz58 : Fld Z h55 b55 "java/util/ImmutableCollections$ListN" "elements" "[Ljava/lang/Object;" .null := D55 (Or.inr (W 21 rfl)) (ty := (.array (.object "java/lang/Object"))) (by decide)
  have Fz59 : Fld Z h55 b55 "java/util/ImmutableCollections$ListN" "allowNulls" "Z" (.int (0 : Int32)) := D55 (Or.inr (W 225 rfl)) (ty := .boolean) (by decide)
  obtain ⟨_, _, ⟨T60, L60, k60, n60⟩, -, X60, ⟨Lc60, hQ60, l60, y60, z60⟩, st60⟩ := X55.specialBackNest hx (y := y_13) rfl hown (own_mvNest hZ (W 216 rfl)) (mvT hZ (W 217 rfl)) (mvT hZ (W 219 rfl)) (by decide) (backOf (W := 1) (lninit l Z a0 hw [] b55 b2 h55 n0 O56 A55 Fz58 Fz59 g_b55) hZ (W 219 rfl) (W 18 rfl) (by decide) (by decide)) (g := (mkF m 35 #[rv r0, rv b2, iv 7] [.int 0, .ref b2, .ref b55, .ref b55])) rfl (by rw [hml]; rfl) (Steps.refl _) (a := b55) (argsL := [.ref b2, .int 0]) (rest := [.ref b55]) (lenOf pd_14 rfl) rfl (by show 2 * 0 + _ ≤ _; exact Nat.le_of_eq rfl) (hb hby d30_35) (fun _ _ => ⟨rfl, e55, (by decide : 2 + 0 ≤ _), (by decide : 9 + 0 ≤ _)⟩)
  dsimp only [Pt.U, Pt.locs, Pt.cells, Pt.slots] at X60 l60 y60 z60 st60 hQ60
  subst l60 y60 z60
  obtain ⟨h60, e60⟩ : ∃ z, T60.heap = z := ⟨_, rfl⟩
  rw [e60] at hQ60
  obtain ⟨rfl, N60q, p60_0, p60_1, p60_2⟩ := hQ60
  have N60 := Fr.app N53 N60q
  have V50 := V50.keep p60_0 (ninS ne_b2_b55 nin0)
  have A55 := A55.keep p60_0
  have K62 := K57.trans p60_0 (allS (Or.inr sz_b55) all0)
  obtain ⟨fs, hr, hrun, hended, hW, hsame⟩ := X60.leave (v := some (.ref b55)) (fun h => by rw [Bd.returns] at h; cases h)
  refine ⟨_, _, pre0 _ ?_, hrun, hended, _, _, rfl, ?_, ⟨_, rfl⟩, hW, hsame.mono (by decide) (by decide)⟩
  · show Sq p e below m s₁ 0 #[rv r0, .unset, .unset] [] _
    refine XS.aloadN X0.here hx rfl (hb hby d30_0) rfl rfl ?_
    show Sq p e below m s₁ 1 #[rv r0, .unset, .unset] [.ref r0] _
    refine st1 _ ?_
    show Sq p e below m s₁ 2 #[rv r0, .unset, .unset] [.int 7] _
    refine st2 _ ?_
    show Sq p e below m T2 5 #[rv r0, .unset, .unset] [.ref b2] _
    refine XS.astoreN X2.here hx rfl (hb hby d30_5) rfl rfl rfl ?_
    refine XS.iconst X2.here hx rfl (hb hby d30_6) ?_
    show Sq p e below m T2 7 #[rv r0, rv b2, .unset] [.int 0] _
    refine XS.istoreN X2.here hx rfl (hb hby d30_7) rfl rfl ?_
    refine XS.iloadN X2.here hx rfl (hb hby d30_8) rfl ?_
    show Sq p e below m T2 9 #[rv r0, rv b2, iv 0] [.int 0] _
    refine XS.aloadN X2.here hx rfl (hb hby d30_9) rfl rfl ?_
    show Sq p e below m T2 10 #[rv r0, rv b2, iv 0] [.ref r0, .int 0] _
    refine st5 _ ?_
    show Sq p e below m T2 11 #[rv r0, rv b2, iv 0] [.int 7, .int 0] _
    refine XS.icmpNo X2.here hx rfl (hb hby d30_11) rfl (tlt (by decide)).2.1 ?_
    refine XS.aloadN X2.here hx rfl (hb hby d30_14) rfl rfl ?_
    show Sq p e below m T2 15 #[rv r0, rv b2, iv 0] [.ref b2] _
    refine XS.iloadN X2.here hx rfl (hb hby d30_15) rfl ?_
    refine XS.aloadN X2.here hx rfl (hb hby d30_16) rfl rfl ?_
    show Sq p e below m T2 17 #[rv r0, rv b2, iv 0] [.ref r0, .int 0, .ref b2] _
    refine XS.iloadN X2.here hx rfl (hb hby d30_17) rfl ?_
    show Sq p e below m T2 18 #[rv r0, rv b2, iv 0] [.int 0, .ref r0, .int 0, .ref b2] _
    refine st6 _ ?_
    show Sq p e below m T2 19 #[rv r0, rv b2, iv 0] [.ref x1, .int 0, .ref b2] _
    refine st7 _ ?_
    show Sq p e below m T7 22 #[rv r0, rv b2, iv 0] [.ref x1, .int 0, .ref b2] _
    refine st8 _ ?_
    show Sq p e below m T8 23 #[rv r0, rv b2, iv 0] [] _
    refine XS.iinc X8.here hx rfl (hb hby d30_23) rfl rfl ?_
    show Sq p e below m T8 26 #[rv r0, rv b2, iv ((0 : Int32) + (1 : Int32))] [] _
    rw [show ((0 : Int32) + (1 : Int32)) = (1 : Int32) from by decide]
    show Sq p e below m T8 26 #[rv r0, rv b2, iv 1] [] _
    refine XS.goto X8.here hx rfl (pc0 := 26) (pc' := 8) rfl (hb hby d30_26) (by decide) (by decide) ?_
    refine XS.iloadN X8.here hx rfl (hb hby d30_8) rfl ?_
    show Sq p e below m T8 9 #[rv r0, rv b2, iv 1] [.int 1] _
    refine XS.aloadN X8.here hx rfl (hb hby d30_9) rfl rfl ?_
    show Sq p e below m T8 10 #[rv r0, rv b2, iv 1] [.ref r0, .int 1] _
    refine st12 _ ?_
    show Sq p e below m T8 11 #[rv r0, rv b2, iv 1] [.int 7, .int 1] _
    refine XS.icmpNo X8.here hx rfl (hb hby d30_11) rfl (tlt (by decide)).2.1 ?_
    refine XS.aloadN X8.here hx rfl (hb hby d30_14) rfl rfl ?_
    show Sq p e below m T8 15 #[rv r0, rv b2, iv 1] [.ref b2] _
    refine XS.iloadN X8.here hx rfl (hb hby d30_15) rfl ?_
    refine XS.aloadN X8.here hx rfl (hb hby d30_16) rfl rfl ?_
    show Sq p e below m T8 17 #[rv r0, rv b2, iv 1] [.ref r0, .int 1, .ref b2] _
    refine XS.iloadN X8.here hx rfl (hb hby d30_17) rfl ?_
    show Sq p e below m T8 18 #[rv r0, rv b2, iv 1] [.int 1, .ref r0, .int 1, .ref b2] _
    refine st13 _ ?_
    show Sq p e below m T8 19 #[rv r0, rv b2, iv 1] [.ref x1, .int 1, .ref b2] _
    refine st14 _ ?_
    show Sq p e below m T14 22 #[rv r0, rv b2, iv 1] [.ref x1, .int 1, .ref b2] _
    refine st15 _ ?_
    show Sq p e below m T15 23 #[rv r0, rv b2, iv 1] [] _
    refine XS.iinc X15.here hx rfl (hb hby d30_23) rfl rfl ?_
    show Sq p e below m T15 26 #[rv r0, rv b2, iv ((1 : Int32) + (1 : Int32))] [] _
    rw [show ((1 : Int32) + (1 : Int32)) = (2 : Int32) from by decide]
    show Sq p e below m T15 26 #[rv r0, rv b2, iv 2] [] _
    refine XS.goto X15.here hx rfl (pc0 := 26) (pc' := 8) rfl (hb hby d30_26) (by decide) (by decide) ?_
    refine XS.iloadN X15.here hx rfl (hb hby d30_8) rfl ?_
    show Sq p e below m T15 9 #[rv r0, rv b2, iv 2] [.int 2] _
    refine XS.aloadN X15.here hx rfl (hb hby d30_9) rfl rfl ?_
    show Sq p e below m T15 10 #[rv r0, rv b2, iv 2] [.ref r0, .int 2] _
    refine st19 _ ?_
    show Sq p e below m T15 11 #[rv r0, rv b2, iv 2] [.int 7, .int 2] _
    refine XS.icmpNo X15.here hx rfl (hb hby d30_11) rfl (tlt (by decide)).2.1 ?_
    refine XS.aloadN X15.here hx rfl (hb hby d30_14) rfl rfl ?_
    show Sq p e below m T15 15 #[rv r0, rv b2, iv 2] [.ref b2] _
    refine XS.iloadN X15.here hx rfl (hb hby d30_15) rfl ?_
    refine XS.aloadN X15.here hx rfl (hb hby d30_16) rfl rfl ?_
    show Sq p e below m T15 17 #[rv r0, rv b2, iv 2] [.ref r0, .int 2, .ref b2] _
    refine XS.iloadN X15.here hx rfl (hb hby d30_17) rfl ?_
    show Sq p e below m T15 18 #[rv r0, rv b2, iv 2] [.int 2, .ref r0, .int 2, .ref b2] _
    refine st20 _ ?_
    show Sq p e below m T15 19 #[rv r0, rv b2, iv 2] [.ref x1, .int 2, .ref b2] _
    refine st21 _ ?_
    show Sq p e below m T21 22 #[rv r0, rv b2, iv 2] [.ref x1, .int 2, .ref b2] _
    refine st22 _ ?_
    show Sq p e below m T22 23 #[rv r0, rv b2, iv 2] [] _
    refine XS.iinc X22.here hx rfl (hb hby d30_23) rfl rfl ?_
    show Sq p e below m T22 26 #[rv r0, rv b2, iv ((2 : Int32) + (1 : Int32))] [] _
    rw [show ((2 : Int32) + (1 : Int32)) = (3 : Int32) from by decide]
    show Sq p e below m T22 26 #[rv r0, rv b2, iv 3] [] _
    refine XS.goto X22.here hx rfl (pc0 := 26) (pc' := 8) rfl (hb hby d30_26) (by decide) (by decide) ?_
    refine XS.iloadN X22.here hx rfl (hb hby d30_8) rfl ?_
    show Sq p e below m T22 9 #[rv r0, rv b2, iv 3] [.int 3] _
    refine XS.aloadN X22.here hx rfl (hb hby d30_9) rfl rfl ?_
    show Sq p e below m T22 10 #[rv r0, rv b2, iv 3] [.ref r0, .int 3] _
    refine st26 _ ?_
    show Sq p e below m T22 11 #[rv r0, rv b2, iv 3] [.int 7, .int 3] _
    refine XS.icmpNo X22.here hx rfl (hb hby d30_11) rfl (tlt (by decide)).2.1 ?_
    refine XS.aloadN X22.here hx rfl (hb hby d30_14) rfl rfl ?_
    show Sq p e below m T22 15 #[rv r0, rv b2, iv 3] [.ref b2] _
    refine XS.iloadN X22.here hx rfl (hb hby d30_15) rfl ?_
    refine XS.aloadN X22.here hx rfl (hb hby d30_16) rfl rfl ?_
    show Sq p e below m T22 17 #[rv r0, rv b2, iv 3] [.ref r0, .int 3, .ref b2] _
    refine XS.iloadN X22.here hx rfl (hb hby d30_17) rfl ?_
    show Sq p e below m T22 18 #[rv r0, rv b2, iv 3] [.int 3, .ref r0, .int 3, .ref b2] _
    refine st27 _ ?_
    show Sq p e below m T22 19 #[rv r0, rv b2, iv 3] [.ref x1, .int 3, .ref b2] _
    refine st28 _ ?_
    show Sq p e below m T28 22 #[rv r0, rv b2, iv 3] [.ref x1, .int 3, .ref b2] _
    refine st29 _ ?_
    show Sq p e below m T29 23 #[rv r0, rv b2, iv 3] [] _
    refine XS.iinc X29.here hx rfl (hb hby d30_23) rfl rfl ?_
    show Sq p e below m T29 26 #[rv r0, rv b2, iv ((3 : Int32) + (1 : Int32))] [] _
    rw [show ((3 : Int32) + (1 : Int32)) = (4 : Int32) from by decide]
    show Sq p e below m T29 26 #[rv r0, rv b2, iv 4] [] _
    refine XS.goto X29.here hx rfl (pc0 := 26) (pc' := 8) rfl (hb hby d30_26) (by decide) (by decide) ?_
    refine XS.iloadN X29.here hx rfl (hb hby d30_8) rfl ?_
    show Sq p e below m T29 9 #[rv r0, rv b2, iv 4] [.int 4] _
    refine XS.aloadN X29.here hx rfl (hb hby d30_9) rfl rfl ?_
    show Sq p e below m T29 10 #[rv r0, rv b2, iv 4] [.ref r0, .int 4] _
    refine st33 _ ?_
    show Sq p e below m T29 11 #[rv r0, rv b2, iv 4] [.int 7, .int 4] _
    refine XS.icmpNo X29.here hx rfl (hb hby d30_11) rfl (tlt (by decide)).2.1 ?_
    refine XS.aloadN X29.here hx rfl (hb hby d30_14) rfl rfl ?_
    show Sq p e below m T29 15 #[rv r0, rv b2, iv 4] [.ref b2] _
    refine XS.iloadN X29.here hx rfl (hb hby d30_15) rfl ?_
    refine XS.aloadN X29.here hx rfl (hb hby d30_16) rfl rfl ?_
    show Sq p e below m T29 17 #[rv r0, rv b2, iv 4] [.ref r0, .int 4, .ref b2] _
    refine XS.iloadN X29.here hx rfl (hb hby d30_17) rfl ?_
    show Sq p e below m T29 18 #[rv r0, rv b2, iv 4] [.int 4, .ref r0, .int 4, .ref b2] _
    refine st34 _ ?_
    show Sq p e below m T29 19 #[rv r0, rv b2, iv 4] [.ref x1, .int 4, .ref b2] _
    refine st35 _ ?_
    show Sq p e below m T35 22 #[rv r0, rv b2, iv 4] [.ref x1, .int 4, .ref b2] _
    refine st36 _ ?_
    show Sq p e below m T36 23 #[rv r0, rv b2, iv 4] [] _
    refine XS.iinc X36.here hx rfl (hb hby d30_23) rfl rfl ?_
    show Sq p e below m T36 26 #[rv r0, rv b2, iv ((4 : Int32) + (1 : Int32))] [] _
    rw [show ((4 : Int32) + (1 : Int32)) = (5 : Int32) from by decide]
    show Sq p e below m T36 26 #[rv r0, rv b2, iv 5] [] _
    refine XS.goto X36.here hx rfl (pc0 := 26) (pc' := 8) rfl (hb hby d30_26) (by decide) (by decide) ?_
    refine XS.iloadN X36.here hx rfl (hb hby d30_8) rfl ?_
    show Sq p e below m T36 9 #[rv r0, rv b2, iv 5] [.int 5] _
    refine XS.aloadN X36.here hx rfl (hb hby d30_9) rfl rfl ?_
    show Sq p e below m T36 10 #[rv r0, rv b2, iv 5] [.ref r0, .int 5] _
    refine st40 _ ?_
    show Sq p e below m T36 11 #[rv r0, rv b2, iv 5] [.int 7, .int 5] _
    refine XS.icmpNo X36.here hx rfl (hb hby d30_11) rfl (tlt (by decide)).2.1 ?_
    refine XS.aloadN X36.here hx rfl (hb hby d30_14) rfl rfl ?_
    show Sq p e below m T36 15 #[rv r0, rv b2, iv 5] [.ref b2] _
    refine XS.iloadN X36.here hx rfl (hb hby d30_15) rfl ?_
    refine XS.aloadN X36.here hx rfl (hb hby d30_16) rfl rfl ?_
    show Sq p e below m T36 17 #[rv r0, rv b2, iv 5] [.ref r0, .int 5, .ref b2] _
    refine XS.iloadN X36.here hx rfl (hb hby d30_17) rfl ?_
    show Sq p e below m T36 18 #[rv r0, rv b2, iv 5] [.int 5, .ref r0, .int 5, .ref b2] _
    refine st41 _ ?_
    show Sq p e below m T36 19 #[rv r0, rv b2, iv 5] [.ref x1, .int 5, .ref b2] _
    refine st42 _ ?_
    show Sq p e below m T42 22 #[rv r0, rv b2, iv 5] [.ref x1, .int 5, .ref b2] _
    refine st43 _ ?_
    show Sq p e below m T43 23 #[rv r0, rv b2, iv 5] [] _
    refine XS.iinc X43.here hx rfl (hb hby d30_23) rfl rfl ?_
    show Sq p e below m T43 26 #[rv r0, rv b2, iv ((5 : Int32) + (1 : Int32))] [] _
    rw [show ((5 : Int32) + (1 : Int32)) = (6 : Int32) from by decide]
    show Sq p e below m T43 26 #[rv r0, rv b2, iv 6] [] _
    refine XS.goto X43.here hx rfl (pc0 := 26) (pc' := 8) rfl (hb hby d30_26) (by decide) (by decide) ?_
    refine XS.iloadN X43.here hx rfl (hb hby d30_8) rfl ?_
    show Sq p e below m T43 9 #[rv r0, rv b2, iv 6] [.int 6] _
    refine XS.aloadN X43.here hx rfl (hb hby d30_9) rfl rfl ?_
    show Sq p e below m T43 10 #[rv r0, rv b2, iv 6] [.ref r0, .int 6] _
    refine st47 _ ?_
    show Sq p e below m T43 11 #[rv r0, rv b2, iv 6] [.int 7, .int 6] _
    refine XS.icmpNo X43.here hx rfl (hb hby d30_11) rfl (tlt (by decide)).2.1 ?_
    refine XS.aloadN X43.here hx rfl (hb hby d30_14) rfl rfl ?_
    show Sq p e below m T43 15 #[rv r0, rv b2, iv 6] [.ref b2] _
    refine XS.iloadN X43.here hx rfl (hb hby d30_15) rfl ?_
    refine XS.aloadN X43.here hx rfl (hb hby d30_16) rfl rfl ?_
    show Sq p e below m T43 17 #[rv r0, rv b2, iv 6] [.ref r0, .int 6, .ref b2] _
    refine XS.iloadN X43.here hx rfl (hb hby d30_17) rfl ?_
    show Sq p e below m T43 18 #[rv r0, rv b2, iv 6] [.int 6, .ref r0, .int 6, .ref b2] _
    refine st48 _ ?_
    show Sq p e below m T43 19 #[rv r0, rv b2, iv 6] [.ref x1, .int 6, .ref b2] _
    refine st49 _ ?_
    show Sq p e below m T49 22 #[rv r0, rv b2, iv 6] [.ref x1, .int 6, .ref b2] _
    refine st50 _ ?_
    show Sq p e below m T50 23 #[rv r0, rv b2, iv 6] [] _
    refine XS.iinc X50.here hx rfl (hb hby d30_23) rfl rfl ?_
    show Sq p e below m T50 26 #[rv r0, rv b2, iv ((6 : Int32) + (1 : Int32))] [] _
    rw [show ((6 : Int32) + (1 : Int32)) = (7 : Int32) from by decide]
    show Sq p e below m T50 26 #[rv r0, rv b2, iv 7] [] _
    refine XS.goto X50.here hx rfl (pc0 := 26) (pc' := 8) rfl (hb hby d30_26) (by decide) (by decide) ?_
    refine XS.iloadN X50.here hx rfl (hb hby d30_8) rfl ?_
    show Sq p e below m T50 9 #[rv r0, rv b2, iv 7] [.int 7] _
    refine XS.aloadN X50.here hx rfl (hb hby d30_9) rfl rfl ?_
    show Sq p e below m T50 10 #[rv r0, rv b2, iv 7] [.ref r0, .int 7] _
    refine st54 _ ?_
    show Sq p e below m T50 11 #[rv r0, rv b2, iv 7] [.int 7, .int 7] _
    refine XS.icmpYes X50.here hx rfl (pc0 := 11) (pc' := 29) rfl (hb hby d30_11) rfl (flt (by decide)).2.1 (by decide) (by decide) ?_
    show Sq p e below m T50 29 #[rv r0, rv b2, iv 7] [] _
    refine st55 _ ?_
    show Sq p e below m T55 32 #[rv r0, rv b2, iv 7] [.ref b55] _
    refine XS.dup X55.here hx rfl (hb hby d30_32) rfl rfl ?_
    refine XS.aloadN X55.here hx rfl (hb hby d30_33) rfl rfl ?_
    show Sq p e below m T55 34 #[rv r0, rv b2, iv 7] [.ref b2, .ref b55, .ref b55] _
    refine XS.iconst X55.here hx rfl (hb hby d30_34) ?_
    show Sq p e below m T55 35 #[rv r0, rv b2, iv 7] [.int 0, .ref b2, .ref b55, .ref b55] _
    refine st60.trans ?_
    show Sq p e below m T60 38 #[rv r0, rv b2, iv 7] [.ref b55] _
    jvm_step X60.here [X60.here.top, hx, (hb hby d30_38), X60.method', Bd.returns, Value.isRef, FieldType.isReference]
    first | (intro acts; rw [hr _ acts rfl rfl rfl]) | rw [hr _ _ rfl rfl rfl]
    exact Steps.refl _
  · show Q_lfa7 Z r0 k0 x1 h0 n0 _ T60.heap _
    rw [e60]
    exact ⟨b55, b2, k2, rfl, N60, K62, sz_b55, sz_b2, A55, p60_1, V50⟩
def Q_ofarr7 (Z : State) (r0 : Addr) (k0 : ClassId) (x1 : Addr) (h0 : Heap) (n0 : Nat) (v : Option Value) (h : Heap) (L : List Loc) : Prop := ∃ r : Addr, ∃ g : Addr, ∃ kg : ClassId, v = some (.ref r) ∧ Fr n0 L ∧ Keep h0 h [] ∧ h0.size ≤ r ∧ h0.size ≤ g ∧ Exa Z h r "java/util/ImmutableCollections$ListN" ∧ Fld Z h r "java/util/ImmutableCollections$ListN" "elements" "[Ljava/lang/Object;" (.ref g) ∧ Arv Z h g kg (.object "java/lang/Object") (7 : Int32) [(.ref x1), (.ref x1), (.ref x1), (.ref x1), (.ref x1), (.ref x1), (.ref x1)] .null
set_option maxRecDepth 65536 in
set_option maxHeartbeats 40000000 in
theorem ofarr7 (l : Launch) (Z : State) (a0 : Array Value) (hw : ∀ d ∈ tables_1, d.before a0 Z = true) (ws : List Jvm.Cond) (r0 : Addr) (k0 : ClassId) (x1 : Addr) (h0 : Heap) (n0 : Nat) (O : Old Z n0 h0) (Vr : Arv Z h0 r0 k0 (.object "java/lang/Object") (7 : Int32) [(.ref x1), (.ref x1), (.ref x1), (.ref x1), (.ref x1), (.ref x1), (.ref x1)] .null) (Ex : Exa Z Z.heap x1 "java/time/Duration") :
    Ctr l Z y_26 jdk_40_method_47_code 2 (some (.object "java/util/List")) ws ({ frames := 6, cells := 2, slots := 9, locals := 77 } : Room) #[(.ref r0)] h0 (Q_ofarr7 Z r0 k0 x1 h0 n0) := by
  refine MetFree.of_bodySF (plainFor_of_name pn_7) hisR ?_
  intro p e s m args below meth c s₁ Bd hml0 hP hK
  obtain ⟨rfl, hZ, hh⟩ := hP
  have W := fun (i : Nat) {d : Jvm.Cond} (h : tables_1[i]? = some d) => hw d (List.mem_of_getElem? h)
  have hx := Bd.exec
  have hby := Bd.bytes
  have hml : c.maxLocals = 2 := hml0
  have hown : s.vm.findClass "java/util/List" = some m.cls := findClass_of_methodNamed Bd.named
  have hnm := (name_of_methodNamed Bd.named Bd.method).1
  have X0 : Stand p l e ({ frames := 6, cells := 2, slots := 9, locals := 77 } : Room) s m #[(.ref r0)] below meth c s₁ [] 0 0 := Stand.of_body Bd
  have e0 : s₁.heap = h0 := by rw [← hh, Bd.state]; rfl
  have N0 := Fr.nil n0
  have pre0 : ∀ t, Steps p.tables e below (s₁.setTop (mkF m 0 #[.val (.ref r0), .unset] [])) t → Steps p.tables e below (s₁.setTop (entryFrame m #[(.ref r0)] 2)) t := fun t kk_ => castTop (ef_26 m r0) kk_
  have K0 := Keep.refl h0 []
  obtain ⟨cl1, Ar1, -, S1, Ng1, -, -⟩ := id Vr
  have st1 := X0.arraylength hx (by rw [e0]; exact Ar1.1) (State.isArrayOf_alike hZ.alike Ar1.2.1) (g := (mkF m 1 #[rv r0, .unset] [.ref r0])) rfl rfl (hb hby d25_1)
  rw [len_of S1 Ng1] at st1
  obtain ⟨_, _, ⟨T2, L2, k2, n2⟩, -, X2, ⟨Lc2, hQ2, l2, y2, z2⟩, st2⟩ := Jvm.LawKit.callS X0 hx (y := y_28) hown (mvT hZ (W 210 rfl)) (mvT hZ (W 211 rfl)) (mvT hZ (W 67 rfl)) (mvT hZ (W 212 rfl)) (by decide) (backOf (W := 0) (lfa7 l Z a0 hw [] r0 k0 x1 h0 n0 O Vr Ex) hZ (W 212 rfl) (W 67 rfl) (by decide) (by decide)) (g := (mkF m 60 #[rv r0, .unset] [.ref r0])) rfl (by rw [hml]; rfl) (argsL := [.ref r0]) (rest := []) (lenOf pd_12 rfl) rfl (by show 2 * 0 + _ ≤ _; exact Nat.le_of_eq rfl) (hb hby d25_60) (fun _ _ => ⟨rfl, e0, (by decide : 0 + 2 ≤ _), (by decide : 0 + 9 ≤ _)⟩)
  dsimp only [Pt.U, Pt.locs, Pt.cells, Pt.slots] at X2 l2 y2 z2 st2 hQ2
  subst l2 y2 z2
  obtain ⟨h2, e2⟩ : ∃ z, T2.heap = z := ⟨_, rfl⟩
  rw [e2] at hQ2
  obtain ⟨b2r, b2g, b2kg, rfl, N2q, p2_0, p2_1, p2_2, p2_3, p2_4, p2_5⟩ := hQ2
  have N2 := Fr.app N0 N2q
  have sz_b2r : h0.size ≤ b2r := Nat.le_trans K0.1 p2_1
  have sz_b2g : h0.size ≤ b2g := Nat.le_trans K0.1 p2_2
  have K4 := K0.trans p2_0 all0
  obtain ⟨fs, hr, hrun, hended, hW, hsame⟩ := X2.leave (v := some (.ref b2r)) (fun h => by rw [Bd.returns] at h; cases h)
  refine ⟨_, _, pre0 _ ?_, hrun, hended, _, _, rfl, ?_, ⟨_, rfl⟩, hW, hsame.mono (by decide) (by decide)⟩
  · show Sq p e below m s₁ 0 #[rv r0, .unset] [] _
    refine XS.aloadN X0.here hx rfl (hb hby d25_0) rfl rfl ?_
    show Sq p e below m s₁ 1 #[rv r0, .unset] [.ref r0] _
    refine st1 _ ?_
    show Sq p e below m s₁ 2 #[rv r0, .unset] [.int 7] _
    refine XS.tswOut X0.here hx rfl (pc0 := 2) (pc' := 59) rfl (hb hby d25_2) rfl (by decide) (by decide) (by decide) ?_
    refine XS.aloadN X0.here hx rfl (hb hby d25_59) rfl rfl ?_
    show Sq p e below m s₁ 60 #[rv r0, .unset] [.ref r0] _
    refine st2 _ ?_
    show Sq p e below m T2 63 #[rv r0, .unset] [.ref b2r] _
    jvm_step X2.here [X2.here.top, hx, (hb hby d25_63), X2.method', Bd.returns, Value.isRef, FieldType.isReference]
    first | (intro acts; rw [hr _ acts rfl rfl rfl]) | rw [hr _ _ rfl rfl rfl]
    exact Steps.refl _
  · show Q_ofarr7 Z r0 k0 x1 h0 n0 _ T2.heap _
    rw [e2]
    exact ⟨b2r, b2g, b2kg, rfl, N2, K4, sz_b2r, sz_b2g, p2_3, p2_4, p2_5⟩
def Q_lcopy7 (Z : State) (a : Addr) (b : Addr) (kb : ClassId) (x1 : Addr) (w_MIR : Addr) (h0 : Heap) (n0 : Nat) (v : Option Value) (h : Heap) (L : List Loc) : Prop := ∃ r : Addr, ∃ g : Addr, ∃ kg : ClassId, v = some (.ref r) ∧ Fr n0 L ∧ Keep h0 h [] ∧ h0.size ≤ r ∧ h0.size ≤ g ∧ Exa Z h r "java/util/ImmutableCollections$ListN" ∧ Fld Z h r "java/util/ImmutableCollections$ListN" "elements" "[Ljava/lang/Object;" (.ref g) ∧ Arv Z h g kg (.object "java/lang/Object") (7 : Int32) [(.ref x1), (.ref x1), (.ref x1), (.ref x1), (.ref x1), (.ref x1), (.ref x1)] .null
set_option maxRecDepth 65536 in
set_option maxHeartbeats 40000000 in
theorem lcopy7 (l : Launch) (Z : State) (a0 : Array Value) (hw : ∀ d ∈ tables_1, d.before a0 Z = true) (ws : List Jvm.Cond) (a : Addr) (b : Addr) (kb : ClassId) (x1 : Addr) (w_MIR : Addr) (h0 : Heap) (n0 : Nat) (O : Old Z n0 h0) (Ea : Exa Z h0 a "java/util/ArrayList") (Vb : Arv Z h0 b kb (.object "java/lang/Object") (10 : Int32) [(.ref x1), (.ref x1), (.ref x1), (.ref x1), (.ref x1), (.ref x1), (.ref x1), .null, .null, .null] .null) (Ex : Exa Z Z.heap x1 "java/time/Duration") (Mo : Mirr Z "[Ljava/lang/Object;" w_MIR) (Eb : Exa Z h0 b "[Ljava/lang/Object;") (Fd : Fld Z h0 a "java/util/ArrayList" "elementData" "[Ljava/lang/Object;" (.ref b)) (Fs : Fld Z h0 a "java/util/ArrayList" "size" "I" (.int (7 : Int32))) :
    Ctr l Z y_24 jdk_56_method_3_code 2 (some (.object "java/util/List")) ws ({ frames := 7, cells := 3, slots := 16, locals := 90 } : Room) #[(.ref a)] h0 (Q_lcopy7 Z a b kb x1 w_MIR h0 n0) := by
  refine MetFree.of_bodySF (plainFor_of_name pn_11) hisR ?_
  intro p e s m args below meth c s₁ Bd hml0 hP hK
  obtain ⟨rfl, hZ, hh⟩ := hP
  have W := fun (i : Nat) {d : Jvm.Cond} (h : tables_1[i]? = some d) => hw d (List.mem_of_getElem? h)
  have hx := Bd.exec
  have hby := Bd.bytes
  have hml : c.maxLocals = 2 := hml0
  have hown : s.vm.findClass "java/util/ImmutableCollections" = some m.cls := findClass_of_methodNamed Bd.named
  have hnm := (name_of_methodNamed Bd.named Bd.method).1
  have X0 : Stand p l e ({ frames := 7, cells := 3, slots := 16, locals := 90 } : Room) s m #[(.ref a)] below meth c s₁ [] 0 0 := Stand.of_body Bd
  have e0 : s₁.heap = h0 := by rw [← hh, Bd.state]; rfl
  have N0 := Fr.nil n0
  have pre0 : ∀ t, Steps p.tables e below (s₁.setTop (mkF m 0 #[.val (.ref a), .unset] [])) t → Steps p.tables e below (s₁.setTop (entryFrame m #[(.ref a)] 2)) t := fun t kk_ => castTop (ef_24 m a) kk_
  have K0 := Keep.refl h0 []
  obtain ⟨T1, X1, e1, st1⟩ := instNo X0 hx hZ hown (W 69 rfl) e0 Ea (own_nsno (W 70 rfl) (W 179 rfl) (NS.step (W 70 rfl) (NS.step (W 71 rfl) (NS.step (W 72 rfl) (own_nsroot (W 73 rfl) (W 179 rfl) (by decide)) (by decide)) (by decide)) (by decide)) (by decide)) (g := (mkF m 1 #[rv a, .unset] [.ref a])) rfl rfl (hb hby d10_1)
  obtain ⟨T2, X2, e2, st2⟩ := instNo X1 hx hZ hown (W 74 rfl) e1 Ea (own_nsno (W 70 rfl) (W 215 rfl) (NS.step (W 70 rfl) (NS.step (W 71 rfl) (NS.step (W 72 rfl) (own_nsroot (W 73 rfl) (W 215 rfl) (by decide)) (by decide)) (by decide)) (by decide)) (by decide)) (g := (mkF m 8 #[rv a, .unset] [.ref a])) rfl rfl (hb hby d10_8)
  obtain ⟨cq3, kq3, q3a, q3b, q3c⟩ := isOf hZ e2 Ea
  obtain ⟨_, _, ⟨T3, L3, k3, n3⟩, -, X3, ⟨Lc3, hQ3, l3, y3, z3⟩, st3⟩ := X2.interfaceBack hx (xi := y_23) (y := y_16) hown (mvT hZ (W 75 rfl)) (mvT hZ (W 76 rfl)) (mvT hZ (W 77 rfl)) (mvT hZ (W 78 rfl)) (mvT hZ (W 79 rfl)) (mvT hZ (W 80 rfl)) (mvT hZ (W 81 rfl)) (mvT hZ (W 82 rfl)) (by decide) (backOf (W := 0) (emp1 l Z a0 hw [] a (7 : Int32) h0 n0 O Fs (by decide)) hZ (W 83 rfl) (W 26 rfl) (by decide) (by decide)) q3a q3b q3c (g := (mkF m 32 #[rv a, .unset] [.ref a])) rfl (by rw [hml]; rfl) (Steps.refl _) (argsL := []) (rest := []) (lenOf pd_8 rfl) rfl (by show 2 * 0 + _ ≤ _; exact Nat.le_of_eq rfl) (hb hby d10_32) (fun _ _ => ⟨rfl, e2, (by decide : 0 + 0 ≤ _), (by decide : 0 + 0 ≤ _)⟩)
  dsimp only [Pt.U, Pt.locs, Pt.cells, Pt.slots] at X3 l3 y3 z3 st3 hQ3
  subst l3 y3 z3
  obtain ⟨h3, e3⟩ : ∃ z, T3.heap = z := ⟨_, rfl⟩
  rw [e3] at hQ3
  obtain ⟨rfl, N3q, p3_0⟩ := hQ3
  have N3 := Fr.app N0 N3q
  rw [p3_0] at e3
  obtain ⟨cq4, kq4, q4a, q4b, q4c⟩ := isOf hZ e3 Ea
  obtain ⟨_, _, ⟨T4, L4, k4, n4⟩, -, X4, ⟨Lc4, hQ4, l4, y4, z4⟩, st4⟩ := X3.interfaceBack hx (xi := y_27) (y := y_22) hown (mvT hZ (W 145 rfl)) (mvT hZ (W 146 rfl)) (mvT hZ (W 147 rfl)) (mvT hZ (W 148 rfl)) (mvT hZ (W 149 rfl)) (mvT hZ (W 150 rfl)) (mvT hZ (W 151 rfl)) (mvT hZ (W 82 rfl)) (by decide) (backOf (W := 0) (toarr l Z a0 hw [] a b kb w_MIR (7 : Int32) [(.ref x1), (.ref x1), (.ref x1), (.ref x1), (.ref x1), (.ref x1), (.ref x1), .null, .null, .null] [(.ref x1), (.ref x1), (.ref x1), (.ref x1), (.ref x1), (.ref x1), (.ref x1)] h0 n0 O Vb Mo (by decide) (by decide) (Nat.le_of_ble_eq_true rfl) rfl (own_all (n := 7) ⟨x1, rfl, Ex⟩) Eb Fd Fs) hZ (W 152 rfl) (W 26 rfl) (by decide) (by decide)) q4a q4b q4c (g := (mkF m 45 #[rv a, .unset] [.ref a])) rfl (by rw [hml]; rfl) (Steps.refl _) (argsL := []) (rest := []) (lenOf pd_4 rfl) rfl (by show 2 * 0 + _ ≤ _; exact Nat.le_of_eq rfl) (hb hby d10_45) (fun _ _ => ⟨rfl, e3, (by decide : 0 + 1 ≤ _), (by decide : 0 + 7 ≤ _)⟩)
  dsimp only [Pt.U, Pt.locs, Pt.cells, Pt.slots] at X4 l4 y4 z4 st4 hQ4
  subst l4 y4 z4
  obtain ⟨h4, e4⟩ : ∃ z, T4.heap = z := ⟨_, rfl⟩
  rw [e4] at hQ4
  obtain ⟨b4r, b4kr, rfl, N4q, p4_0, p4_1, p4_2, p4_3⟩ := hQ4
  have N4 := Fr.app N3 N4q
  have O5 := O.keep p4_0 all0
  have K6 := K0.trans p4_0 all0
  obtain ⟨_, _, ⟨T7, L7, k7, n7⟩, -, X7, ⟨Lc7, hQ7, l7, y7, z7⟩, st7⟩ := Jvm.LawKit.callS X4 hx (y := y_26) hown (mvT hZ (W 175 rfl)) (mvT hZ (W 176 rfl)) (mvT hZ (W 63 rfl)) (mvT hZ (W 177 rfl)) (by decide) (backOf (W := 0) (ofarr7 l Z a0 hw [] b4r b4kr x1 h4 n0 O5 p4_2 Ex) hZ (W 177 rfl) (W 63 rfl) (by decide) (by decide)) (g := (mkF m 50 #[rv a, .unset] [.ref b4r])) rfl (by rw [hml]; rfl) (argsL := [.ref b4r]) (rest := []) (lenOf pd_12 rfl) rfl (by show 2 * 0 + _ ≤ _; exact Nat.le_of_eq rfl) (hb hby d10_50) (fun _ _ => ⟨rfl, e4, (by decide : 1 + 2 ≤ _), (by decide : 7 + 9 ≤ _)⟩)
  dsimp only [Pt.U, Pt.locs, Pt.cells, Pt.slots] at X7 l7 y7 z7 st7 hQ7
  subst l7 y7 z7
  obtain ⟨h7, e7⟩ : ∃ z, T7.heap = z := ⟨_, rfl⟩
  rw [e7] at hQ7
  obtain ⟨b7r, b7g, b7kg, rfl, N7q, p7_0, p7_1, p7_2, p7_3, p7_4, p7_5⟩ := hQ7
  have N7 := Fr.app N4 N7q
  have sz_b7r : h0.size ≤ b7r := Nat.le_trans K6.1 p7_1
  have sz_b7g : h0.size ≤ b7g := Nat.le_trans K6.1 p7_2
  have K9 := K6.trans p7_0 all0
  obtain ⟨fs, hr, hrun, hended, hW, hsame⟩ := X7.leave (v := some (.ref b7r)) (fun h => by rw [Bd.returns] at h; cases h)
  refine ⟨_, _, pre0 _ ?_, hrun, hended, _, _, rfl, ?_, ⟨_, rfl⟩, hW, hsame.mono (by decide) (by decide)⟩
  · show Sq p e below m s₁ 0 #[rv a, .unset] [] _
    refine XS.aloadN X0.here hx rfl (hb hby d10_0) rfl rfl ?_
    show Sq p e below m s₁ 1 #[rv a, .unset] [.ref a] _
    refine st1 _ ?_
    show Sq p e below m T1 4 #[rv a, .unset] [.int 0] _
    refine XS.ifNo X1.here hx rfl (hb hby d10_4) rfl ((if0 _ _).trans (teq (rfl : (0 : Int32) = (0 : Int32))).2) ?_
    refine XS.aloadN X1.here hx rfl (hb hby d10_7) rfl rfl ?_
    show Sq p e below m T1 8 #[rv a, .unset] [.ref a] _
    refine st2 _ ?_
    show Sq p e below m T2 11 #[rv a, .unset] [.int 0] _
    refine XS.ifYes X2.here hx rfl (pc0 := 11) (pc' := 31) rfl (hb hby d10_11) rfl ((if0 _ _).trans (teq (rfl : (0 : Int32) = (0 : Int32))).1) (by decide) (by decide) ?_
    refine XS.aloadN X2.here hx rfl (hb hby d10_31) rfl rfl ?_
    show Sq p e below m T2 32 #[rv a, .unset] [.ref a] _
    refine st3.trans ?_
    show Sq p e below m T3 37 #[rv a, .unset] [.int 0] _
    refine XS.ifYes X3.here hx rfl (pc0 := 37) (pc' := 44) rfl (hb hby d10_37) rfl ((if0 _ _).trans (teq (rfl : (0 : Int32) = (0 : Int32))).1) (by decide) (by decide) ?_
    refine XS.aloadN X3.here hx rfl (hb hby d10_44) rfl rfl ?_
    show Sq p e below m T3 45 #[rv a, .unset] [.ref a] _
    refine st4.trans ?_
    show Sq p e below m T4 50 #[rv a, .unset] [.ref b4r] _
    refine st7 _ ?_
    show Sq p e below m T7 53 #[rv a, .unset] [.ref b7r] _
    jvm_step X7.here [X7.here.top, hx, (hb hby d10_53), X7.method', Bd.returns, Value.isRef, FieldType.isReference]
    first | (intro acts; rw [hr _ acts rfl rfl rfl]) | rw [hr _ _ rfl rfl rfl]
    exact Steps.refl _
  · show Q_lcopy7 Z a b kb x1 w_MIR h0 n0 _ T7.heap _
    rw [e7]
    exact ⟨b7r, b7g, b7kg, rfl, N7, K9, sz_b7r, sz_b7g, p7_3, p7_4, p7_5⟩
def Q_copyof7 (Z : State) (a : Addr) (b : Addr) (kb : ClassId) (x1 : Addr) (w_MIR : Addr) (h0 : Heap) (n0 : Nat) (v : Option Value) (h : Heap) (L : List Loc) : Prop := ∃ r : Addr, ∃ g : Addr, ∃ kg : ClassId, v = some (.ref r) ∧ Fr n0 L ∧ Keep h0 h [] ∧ h0.size ≤ r ∧ h0.size ≤ g ∧ Exa Z h r "java/util/ImmutableCollections$ListN" ∧ Fld Z h r "java/util/ImmutableCollections$ListN" "elements" "[Ljava/lang/Object;" (.ref g) ∧ Arv Z h g kg (.object "java/lang/Object") (7 : Int32) [(.ref x1), (.ref x1), (.ref x1), (.ref x1), (.ref x1), (.ref x1), (.ref x1)] .null
set_option maxRecDepth 65536 in
set_option maxHeartbeats 40000000 in
theorem copyof7 (l : Launch) (Z : State) (a0 : Array Value) (hw : ∀ d ∈ tables_1, d.before a0 Z = true) (ws : List Jvm.Cond) (a : Addr) (b : Addr) (kb : ClassId) (x1 : Addr) (w_MIR : Addr) (h0 : Heap) (n0 : Nat) (O : Old Z n0 h0) (Ea : Exa Z h0 a "java/util/ArrayList") (Vb : Arv Z h0 b kb (.object "java/lang/Object") (10 : Int32) [(.ref x1), (.ref x1), (.ref x1), (.ref x1), (.ref x1), (.ref x1), (.ref x1), .null, .null, .null] .null) (Ex : Exa Z Z.heap x1 "java/time/Duration") (Mo : Mirr Z "[Ljava/lang/Object;" w_MIR) (Eb : Exa Z h0 b "[Ljava/lang/Object;") (Fd : Fld Z h0 a "java/util/ArrayList" "elementData" "[Ljava/lang/Object;" (.ref b)) (Fs : Fld Z h0 a "java/util/ArrayList" "size" "I" (.int (7 : Int32))) :
    Ctr l Z y_25 jdk_40_method_48_code 1 (some (.object "java/util/List")) ws ({ frames := 8, cells := 3, slots := 16, locals := 103 } : Room) #[(.ref a)] h0 (Q_copyof7 Z a b kb x1 w_MIR h0 n0) := by
  refine MetFree.of_bodySF (plainFor_of_name pn_7) hisR ?_
  intro p e s m args below meth c s₁ Bd hml0 hP hK
  obtain ⟨rfl, hZ, hh⟩ := hP
  have W := fun (i : Nat) {d : Jvm.Cond} (h : tables_1[i]? = some d) => hw d (List.mem_of_getElem? h)
  have hx := Bd.exec
  have hby := Bd.bytes
  have hml : c.maxLocals = 1 := hml0
  have hown : s.vm.findClass "java/util/List" = some m.cls := findClass_of_methodNamed Bd.named
  have hnm := (name_of_methodNamed Bd.named Bd.method).1
  have X0 : Stand p l e ({ frames := 8, cells := 3, slots := 16, locals := 103 } : Room) s m #[(.ref a)] below meth c s₁ [] 0 0 := Stand.of_body Bd
  have e0 : s₁.heap = h0 := by rw [← hh, Bd.state]; rfl
  have N0 := Fr.nil n0
  have pre0 : ∀ t, Steps p.tables e below (s₁.setTop (mkF m 0 #[.val (.ref a)] [])) t → Steps p.tables e below (s₁.setTop (entryFrame m #[(.ref a)] 1)) t := fun t kk_ => castTop (ef_25 m a) kk_
  have K0 := Keep.refl h0 []
  obtain ⟨_, _, ⟨T1, L1, k1, n1⟩, -, X1, ⟨Lc1, hQ1, l1, y1, z1⟩, st1⟩ := Jvm.LawKit.callS X0 hx (y := y_24) hown (mvT hZ (W 65 rfl)) (mvT hZ (W 66 rfl)) (mvT hZ (W 67 rfl)) (mvT hZ (W 68 rfl)) (by decide) (backOf (W := 0) (lcopy7 l Z a0 hw [] a b kb x1 w_MIR h0 n0 O Ea Vb Ex Mo Eb Fd Fs) hZ (W 68 rfl) (W 67 rfl) (by decide) (by decide)) (g := (mkF m 1 #[rv a] [.ref a])) rfl (by rw [hml]; rfl) (argsL := [.ref a]) (rest := []) (lenOf pd_10 rfl) rfl (by show 2 * 0 + _ ≤ _; exact Nat.le_of_eq rfl) (hb hby d9_1) (fun _ _ => ⟨rfl, e0, (by decide : 0 + 3 ≤ _), (by decide : 0 + 16 ≤ _)⟩)
  dsimp only [Pt.U, Pt.locs, Pt.cells, Pt.slots] at X1 l1 y1 z1 st1 hQ1
  subst l1 y1 z1
  obtain ⟨h1, e1⟩ : ∃ z, T1.heap = z := ⟨_, rfl⟩
  rw [e1] at hQ1
  obtain ⟨b1r, b1g, b1kg, rfl, N1q, p1_0, p1_1, p1_2, p1_3, p1_4, p1_5⟩ := hQ1
  have N1 := Fr.app N0 N1q
  have sz_b1r : h0.size ≤ b1r := Nat.le_trans K0.1 p1_1
  have sz_b1g : h0.size ≤ b1g := Nat.le_trans K0.1 p1_2
  have K3 := K0.trans p1_0 all0
  obtain ⟨fs, hr, hrun, hended, hW, hsame⟩ := X1.leave (v := some (.ref b1r)) (fun h => by rw [Bd.returns] at h; cases h)
  refine ⟨_, _, pre0 _ ?_, hrun, hended, _, _, rfl, ?_, ⟨_, rfl⟩, hW, hsame.mono (by decide) (by decide)⟩
  · show Sq p e below m s₁ 0 #[rv a] [] _
    refine XS.aloadN X0.here hx rfl (hb hby d9_0) rfl rfl ?_
    show Sq p e below m s₁ 1 #[rv a] [.ref a] _
    refine st1 _ ?_
    show Sq p e below m T1 4 #[rv a] [.ref b1r] _
    jvm_step X1.here [X1.here.top, hx, (hb hby d9_4), X1.method', Bd.returns, Value.isRef, FieldType.isReference]
    first | (intro acts; rw [hr _ acts rfl rfl rfl]) | rw [hr _ _ rfl rfl rfl]
    exact Steps.refl _
  · show Q_copyof7 Z a b kb x1 w_MIR h0 n0 _ T1.heap _
    rw [e1]
    exact ⟨b1r, b1g, b1kg, rfl, N1, K3, sz_b1r, sz_b1g, p1_3, p1_4, p1_5⟩
theorem d7_0 : decode prog_17_method_1_code 0 = .ok (.aload_n 0, 1) := by decide +kernel
theorem d7_1 : decode prog_17_method_1_code 1 = .ok (.invokespecial 1, 3) := by decide +kernel
theorem d7_4 : decode prog_17_method_1_code 4 = .ok (.aload_n 1, 1) := by decide +kernel
theorem d7_5 : decode prog_17_method_1_code 5 = .ok (.invokestatic 7, 3) := by decide +kernel
theorem d7_8 : decode prog_17_method_1_code 8 = .ok (.astore_n 1, 1) := by decide +kernel
theorem d7_9 : decode prog_17_method_1_code 9 = .ok (.aload_n 0, 1) := by decide +kernel
theorem d7_10 : decode prog_17_method_1_code 10 = .ok (.aload_n 1, 1) := by decide +kernel
theorem d7_11 : decode prog_17_method_1_code 11 = .ok (.putfield 13, 3) := by decide +kernel
theorem d7_14 : decode prog_17_method_1_code 14 = .ok (.return_, 1) := by decide +kernel
def Q_recin0 (Z : State) (a : Addr) (li : Addr) (w_ELIST : Addr) (h0 : Heap) (n0 : Nat) (v : Option Value) (h : Heap) (L : List Loc) : Prop := v = none ∧ Fr n0 L ∧ Keep h0 h [a] ∧ Fld Z h a "com/example/savitri/savitri/store/RedriveSchedule" "delays" "Ljava/util/List;" (.ref w_ELIST)
theorem ef_28 (m : MethodId) (x0 : Addr) (x1 : Addr) : entryFrame m #[(.ref x0), (.ref x1)] 2 = mkF m 0 #[.val (.ref x0), .val (.ref x1)] [] := by first | (simp [entryFrame, mkF, argsToLocals, Value.category]; done) | rfl
theorem pn_12 : plainName "com/example/savitri/savitri/store/RedriveSchedule" = true := by first | (simp [plainName, overriddenIn]; done) | decide +kernel
abbrev y_29 : MethodName := ⟨"com/example/savitri/savitri/store/RedriveSchedule", "<init>", "(Ljava/util/List;)V"⟩
set_option maxRecDepth 65536 in
set_option maxHeartbeats 40000000 in
theorem recin0 (l : Launch) (Z : State) (a0 : Array Value) (hw : ∀ d ∈ tables_1, d.before a0 Z = true) (ws : List Jvm.Cond) (a : Addr) (li : Addr) (w_ELIST : Addr) (h0 : Heap) (n0 : Nat) (O : Old Z n0 h0) (Ea : Exa Z h0 a "com/example/savitri/savitri/store/RedriveSchedule") (Fdl : Fld Z h0 a "com/example/savitri/savitri/store/RedriveSchedule" "delays" "Ljava/util/List;" .null) (ga : n0 ≤ a) (Eli : Exa Z h0 li "java/util/ArrayList") (Fs : Fld Z h0 li "java/util/ArrayList" "size" "I" (.int (0 : Int32))) (S_w_ELIST : Sta Z Z.heap "java/util/ImmutableCollections" "EMPTY_LIST" "Ljava/util/ImmutableCollections$ListN;" (.ref w_ELIST)) :
    Ctr l Z y_29 prog_17_method_1_code 2 none ws ({ frames := 3, cells := 0, slots := 0, locals := 37 } : Room) #[(.ref a), (.ref li)] h0 (Q_recin0 Z a li w_ELIST h0 n0) := by
  refine MetFree.of_bodySF (plainFor_of_name pn_12) hisR ?_
  intro p e s m args below meth c s₁ Bd hml0 hP hK
  obtain ⟨rfl, hZ, hh⟩ := hP
  have W := fun (i : Nat) {d : Jvm.Cond} (h : tables_1[i]? = some d) => hw d (List.mem_of_getElem? h)
  have hx := Bd.exec
  have hby := Bd.bytes
  have hml : c.maxLocals = 2 := hml0
  have hown : s.vm.findClass "com/example/savitri/savitri/store/RedriveSchedule" = some m.cls := findClass_of_methodNamed Bd.named
  have hnm := (name_of_methodNamed Bd.named Bd.method).1
  have X0 : Stand p l e ({ frames := 3, cells := 0, slots := 0, locals := 37 } : Room) s m #[(.ref a), (.ref li)] below meth c s₁ [] 0 0 := Stand.of_body Bd
  have e0 : s₁.heap = h0 := by rw [← hh, Bd.state]; rfl
  have N0 := Fr.nil n0
  have pre0 : ∀ t, Steps p.tables e below (s₁.setTop (mkF m 0 #[.val (.ref a), .val (.ref li)] [])) t → Steps p.tables e below (s₁.setTop (entryFrame m #[(.ref a), (.ref li)] 2)) t := fun t kk_ => castTop (ef_28 m a li) kk_
  have K0 := Keep.refl h0 [a]
  obtain ⟨_, _, ⟨T1, L1, k1, n1⟩, -, X1, ⟨Lc1, hQ1, l1, y1, z1⟩, st1⟩ := X0.specialBack hx (y := y_8) rfl hown (mvT hZ (W 55 rfl)) (mvT hZ (W 56 rfl)) (mvT hZ (W 59 rfl)) (by decide) (backOf (W := 0) (recinit l Z a0 hw [] a h0 n0 O ) hZ (W 59 rfl) (W 58 rfl) (by decide) (by decide)) (g := (mkF m 1 #[rv a, rv li] [.ref a])) rfl (by rw [hml]; rfl) (Steps.refl _) (a := a) (argsL := []) (rest := []) (lenOf pd_0 rfl) rfl (by show 2 * 0 + _ ≤ _; exact Nat.le_of_eq rfl) (hb hby d7_1) (fun _ _ => ⟨rfl, e0, (by decide : 0 + 0 ≤ _), (by decide : 0 + 0 ≤ _)⟩)
  dsimp only [Pt.U, Pt.locs, Pt.cells, Pt.slots] at X1 l1 y1 z1 st1 hQ1
  subst l1 y1 z1
  obtain ⟨h1, e1⟩ : ∃ z, T1.heap = z := ⟨_, rfl⟩
  rw [e1] at hQ1
  obtain ⟨rfl, N1q, p1_0⟩ := hQ1
  have N1 := Fr.app N0 N1q
  rw [p1_0] at e1
  obtain ⟨_, _, ⟨T2, L2, k2, n2⟩, -, X2, ⟨Lc2, hQ2, l2, y2, z2⟩, st2⟩ := Jvm.LawKit.callS X1 hx (y := y_25) hown (mvT hZ (W 61 rfl)) (mvT hZ (W 62 rfl)) (mvT hZ (W 63 rfl)) (mvT hZ (W 64 rfl)) (by decide) (backOf (W := 0) (copyof0 l Z a0 hw [] li w_ELIST h0 n0 O Eli Fs S_w_ELIST) hZ (W 64 rfl) (W 63 rfl) (by decide) (by decide)) (g := (mkF m 5 #[rv a, rv li] [.ref li])) rfl (by rw [hml]; rfl) (argsL := [.ref li]) (rest := []) (lenOf pd_10 rfl) rfl (by show 2 * 0 + _ ≤ _; exact Nat.le_of_eq rfl) (hb hby d7_5) (fun _ _ => ⟨rfl, e1, (by decide : 0 + 0 ≤ _), (by decide : 0 + 0 ≤ _)⟩)
  dsimp only [Pt.U, Pt.locs, Pt.cells, Pt.slots] at X2 l2 y2 z2 st2 hQ2
  subst l2 y2 z2
  obtain ⟨h2, e2⟩ : ∃ z, T2.heap = z := ⟨_, rfl⟩
  rw [e2] at hQ2
  obtain ⟨rfl, N2q, p2_0⟩ := hQ2
  have N2 := Fr.app N1 N2q
  rw [p2_0] at e2
  obtain ⟨T3, h3, X3, e3, W3, st3⟩ := putF X2 hx hZ hown (host := "") (Or.inl (W 8 rfl)) Via.refl e2 Fdl Ea (Or.inr ⟨(W 9 rfl), rfl, hnm⟩) (W 51 rfl) (ty := (.object "java/util/List")) (by decide) rfl rfl (g := (mkF m 11 #[rv a, rv w_ELIST] [.ref w_ELIST, .ref a])) rfl rfl (hb hby d7_11)
  have Fz3 := Fdl.same W3
  have K5 := K0.wr W3 (Or.inl (List.mem_of_getElem? (i := 0) rfl))
  have N6 := Fr.snoc X3 N2 ga
  obtain ⟨fs, hr, hrun, hended, hW, hsame⟩ := X3.leave (v := none) (fun _ => rfl)
  refine ⟨_, _, pre0 _ ?_, hrun, hended, _, _, rfl, ?_, ⟨_, rfl⟩, hW, hsame.mono (by decide) (by decide)⟩
  · show Sq p e below m s₁ 0 #[rv a, rv li] [] _
    refine XS.aloadN X0.here hx rfl (hb hby d7_0) rfl rfl ?_
    show Sq p e below m s₁ 1 #[rv a, rv li] [.ref a] _
    refine st1.trans ?_
    show Sq p e below m T1 4 #[rv a, rv li] [] _
    refine XS.aloadN X1.here hx rfl (hb hby d7_4) rfl rfl ?_
    show Sq p e below m T1 5 #[rv a, rv li] [.ref li] _
    refine st2 _ ?_
    show Sq p e below m T2 8 #[rv a, rv li] [.ref w_ELIST] _
    refine XS.astoreN X2.here hx rfl (hb hby d7_8) rfl rfl rfl ?_
    refine XS.aloadN X2.here hx rfl (hb hby d7_9) rfl rfl ?_
    show Sq p e below m T2 10 #[rv a, rv w_ELIST] [.ref a] _
    refine XS.aloadN X2.here hx rfl (hb hby d7_10) rfl rfl ?_
    show Sq p e below m T2 11 #[rv a, rv w_ELIST] [.ref w_ELIST, .ref a] _
    refine st3 _ ?_
    show Sq p e below m T3 14 #[rv a, rv w_ELIST] [] _
    exact X3.returnOut hx Bd.returns (hb hby d7_14) hr
  · show Q_recin0 Z a li w_ELIST h0 n0 _ T3.heap _
    rw [e3]
    exact ⟨rfl, N6, K5, Fz3⟩
def Q_recin1 (Z : State) (a : Addr) (li : Addr) (b : Addr) (kb : ClassId) (x1 : Addr) (w_MIR : Addr) (w_EMPTY : Addr) (h0 : Heap) (n0 : Nat) (v : Option Value) (h : Heap) (L : List Loc) : Prop := ∃ r : Addr, v = none ∧ Fr n0 L ∧ Keep h0 h [a] ∧ h0.size ≤ r ∧ Fld Z h a "com/example/savitri/savitri/store/RedriveSchedule" "delays" "Ljava/util/List;" (.ref r) ∧ Exa Z h r "java/util/ImmutableCollections$List12" ∧ Fld Z h r "java/util/ImmutableCollections$List12" "e1" "Ljava/lang/Object;" (.ref w_EMPTY)
set_option maxRecDepth 65536 in
set_option maxHeartbeats 40000000 in
theorem recin1 (l : Launch) (Z : State) (a0 : Array Value) (hw : ∀ d ∈ tables_1, d.before a0 Z = true) (ws : List Jvm.Cond) (a : Addr) (li : Addr) (b : Addr) (kb : ClassId) (x1 : Addr) (w_MIR : Addr) (w_EMPTY : Addr) (h0 : Heap) (n0 : Nat) (O : Old Z n0 h0) (Ea : Exa Z h0 a "com/example/savitri/savitri/store/RedriveSchedule") (Fdl : Fld Z h0 a "com/example/savitri/savitri/store/RedriveSchedule" "delays" "Ljava/util/List;" .null) (ga : n0 ≤ a) (Eli : Exa Z h0 li "java/util/ArrayList") (Vb : Arv Z h0 b kb (.object "java/lang/Object") (10 : Int32) [(.ref x1), .null, .null, .null, .null, .null, .null, .null, .null, .null] .null) (Ex : Exa Z Z.heap x1 "java/time/Duration") (Mo : Mirr Z "[Ljava/lang/Object;" w_MIR) (Eb : Exa Z h0 b "[Ljava/lang/Object;") (Fd : Fld Z h0 li "java/util/ArrayList" "elementData" "[Ljava/lang/Object;" (.ref b)) (Fs : Fld Z h0 li "java/util/ArrayList" "size" "I" (.int (1 : Int32))) (S_w_EMPTY : Sta Z Z.heap "java/util/ImmutableCollections" "EMPTY" "Ljava/lang/Object;" (.ref w_EMPTY)) :
    Ctr l Z y_29 prog_17_method_1_code 2 none ws ({ frames := 8, cells := 2, slots := 9, locals := 100 } : Room) #[(.ref a), (.ref li)] h0 (Q_recin1 Z a li b kb x1 w_MIR w_EMPTY h0 n0) := by
  refine MetFree.of_bodySF (plainFor_of_name pn_12) hisR ?_
  intro p e s m args below meth c s₁ Bd hml0 hP hK
  obtain ⟨rfl, hZ, hh⟩ := hP
  have W := fun (i : Nat) {d : Jvm.Cond} (h : tables_1[i]? = some d) => hw d (List.mem_of_getElem? h)
  have hx := Bd.exec
  have hby := Bd.bytes
  have hml : c.maxLocals = 2 := hml0
  have hown : s.vm.findClass "com/example/savitri/savitri/store/RedriveSchedule" = some m.cls := findClass_of_methodNamed Bd.named
  have hnm := (name_of_methodNamed Bd.named Bd.method).1
  have X0 : Stand p l e ({ frames := 8, cells := 2, slots := 9, locals := 100 } : Room) s m #[(.ref a), (.ref li)] below meth c s₁ [] 0 0 := Stand.of_body Bd
  have e0 : s₁.heap = h0 := by rw [← hh, Bd.state]; rfl
  have N0 := Fr.nil n0
  have pre0 : ∀ t, Steps p.tables e below (s₁.setTop (mkF m 0 #[.val (.ref a), .val (.ref li)] [])) t → Steps p.tables e below (s₁.setTop (entryFrame m #[(.ref a), (.ref li)] 2)) t := fun t kk_ => castTop (ef_28 m a li) kk_
  have K0 := Keep.refl h0 [a]
  obtain ⟨_, _, ⟨T1, L1, k1, n1⟩, -, X1, ⟨Lc1, hQ1, l1, y1, z1⟩, st1⟩ := X0.specialBack hx (y := y_8) rfl hown (mvT hZ (W 55 rfl)) (mvT hZ (W 56 rfl)) (mvT hZ (W 59 rfl)) (by decide) (backOf (W := 0) (recinit l Z a0 hw [] a h0 n0 O ) hZ (W 59 rfl) (W 58 rfl) (by decide) (by decide)) (g := (mkF m 1 #[rv a, rv li] [.ref a])) rfl (by rw [hml]; rfl) (Steps.refl _) (a := a) (argsL := []) (rest := []) (lenOf pd_0 rfl) rfl (by show 2 * 0 + _ ≤ _; exact Nat.le_of_eq rfl) (hb hby d7_1) (fun _ _ => ⟨rfl, e0, (by decide : 0 + 0 ≤ _), (by decide : 0 + 0 ≤ _)⟩)
  dsimp only [Pt.U, Pt.locs, Pt.cells, Pt.slots] at X1 l1 y1 z1 st1 hQ1
  subst l1 y1 z1
  obtain ⟨h1, e1⟩ : ∃ z, T1.heap = z := ⟨_, rfl⟩
  rw [e1] at hQ1
  obtain ⟨rfl, N1q, p1_0⟩ := hQ1
  have N1 := Fr.app N0 N1q
  rw [p1_0] at e1
  obtain ⟨_, _, ⟨T2, L2, k2, n2⟩, -, X2, ⟨Lc2, hQ2, l2, y2, z2⟩, st2⟩ := Jvm.LawKit.callS X1 hx (y := y_25) hown (mvT hZ (W 61 rfl)) (mvT hZ (W 62 rfl)) (mvT hZ (W 63 rfl)) (mvT hZ (W 64 rfl)) (by decide) (backOf (W := 0) (copyof1 l Z a0 hw [] li b kb x1 w_MIR w_EMPTY h0 n0 O Eli Vb Ex Mo Eb Fd Fs S_w_EMPTY) hZ (W 64 rfl) (W 63 rfl) (by decide) (by decide)) (g := (mkF m 5 #[rv a, rv li] [.ref li])) rfl (by rw [hml]; rfl) (argsL := [.ref li]) (rest := []) (lenOf pd_10 rfl) rfl (by show 2 * 0 + _ ≤ _; exact Nat.le_of_eq rfl) (hb hby d7_5) (fun _ _ => ⟨rfl, e1, (by decide : 0 + 2 ≤ _), (by decide : 0 + 9 ≤ _)⟩)
  dsimp only [Pt.U, Pt.locs, Pt.cells, Pt.slots] at X2 l2 y2 z2 st2 hQ2
  subst l2 y2 z2
  obtain ⟨h2, e2⟩ : ∃ z, T2.heap = z := ⟨_, rfl⟩
  rw [e2] at hQ2
  obtain ⟨b2r, rfl, N2q, p2_0, p2_1, p2_2, p2_3⟩ := hQ2
  have N2 := Fr.app N1 N2q
  have sz_b2r : h0.size ≤ b2r := Nat.le_trans K0.1 p2_1
  have ne_a_b2r : a ≠ b2r := Nat.ne_of_lt (Nat.lt_of_lt_of_le Ea.lt p2_1)
  have Ea := Ea.keep p2_0
  have Fdl := Fdl.keep p2_0 nin0
  have K4 := K0.trans p2_0 all0
  obtain ⟨T5, h5, X5, e5, W5, st5⟩ := putF X2 hx hZ hown (host := "") (Or.inl (W 8 rfl)) Via.refl e2 Fdl Ea (Or.inr ⟨(W 9 rfl), rfl, hnm⟩) (W 51 rfl) (ty := (.object "java/util/List")) (by decide) rfl rfl (g := (mkF m 11 #[rv a, rv b2r] [.ref b2r, .ref a])) rfl rfl (hb hby d7_11)
  have Fz5 := Fdl.same W5
  have p2_2 := p2_2.wr W5
  have p2_3 := p2_3.other W5 (Or.inl (Ne.symm ne_a_b2r))
  have K7 := K4.wr W5 (Or.inl (List.mem_of_getElem? (i := 0) rfl))
  have N8 := Fr.snoc X5 N2 ga
  obtain ⟨fs, hr, hrun, hended, hW, hsame⟩ := X5.leave (v := none) (fun _ => rfl)
  refine ⟨_, _, pre0 _ ?_, hrun, hended, _, _, rfl, ?_, ⟨_, rfl⟩, hW, hsame.mono (by decide) (by decide)⟩
  · show Sq p e below m s₁ 0 #[rv a, rv li] [] _
    refine XS.aloadN X0.here hx rfl (hb hby d7_0) rfl rfl ?_
    show Sq p e below m s₁ 1 #[rv a, rv li] [.ref a] _
    refine st1.trans ?_
    show Sq p e below m T1 4 #[rv a, rv li] [] _
    refine XS.aloadN X1.here hx rfl (hb hby d7_4) rfl rfl ?_
    show Sq p e below m T1 5 #[rv a, rv li] [.ref li] _
    refine st2 _ ?_
    show Sq p e below m T2 8 #[rv a, rv li] [.ref b2r] _
    refine XS.astoreN X2.here hx rfl (hb hby d7_8) rfl rfl rfl ?_
    refine XS.aloadN X2.here hx rfl (hb hby d7_9) rfl rfl ?_
    show Sq p e below m T2 10 #[rv a, rv b2r] [.ref a] _
    refine XS.aloadN X2.here hx rfl (hb hby d7_10) rfl rfl ?_
    show Sq p e below m T2 11 #[rv a, rv b2r] [.ref b2r, .ref a] _
    refine st5 _ ?_
    show Sq p e below m T5 14 #[rv a, rv b2r] [] _
    exact X5.returnOut hx Bd.returns (hb hby d7_14) hr
  · show Q_recin1 Z a li b kb x1 w_MIR w_EMPTY h0 n0 _ T5.heap _
    rw [e5]
    exact ⟨b2r, rfl, N8, K7, sz_b2r, Fz5, p2_2, p2_3⟩
def Q_recin2 (Z : State) (a : Addr) (li : Addr) (b : Addr) (kb : ClassId) (x1 : Addr) (w_MIR : Addr) (h0 : Heap) (n0 : Nat) (v : Option Value) (h : Heap) (L : List Loc) : Prop := ∃ r : Addr, v = none ∧ Fr n0 L ∧ Keep h0 h [a] ∧ h0.size ≤ r ∧ Fld Z h a "com/example/savitri/savitri/store/RedriveSchedule" "delays" "Ljava/util/List;" (.ref r) ∧ Exa Z h r "java/util/ImmutableCollections$List12" ∧ Fld Z h r "java/util/ImmutableCollections$List12" "e1" "Ljava/lang/Object;" (.ref x1)
set_option maxRecDepth 65536 in
set_option maxHeartbeats 40000000 in
theorem recin2 (l : Launch) (Z : State) (a0 : Array Value) (hw : ∀ d ∈ tables_1, d.before a0 Z = true) (ws : List Jvm.Cond) (a : Addr) (li : Addr) (b : Addr) (kb : ClassId) (x1 : Addr) (w_MIR : Addr) (h0 : Heap) (n0 : Nat) (O : Old Z n0 h0) (Ea : Exa Z h0 a "com/example/savitri/savitri/store/RedriveSchedule") (Fdl : Fld Z h0 a "com/example/savitri/savitri/store/RedriveSchedule" "delays" "Ljava/util/List;" .null) (ga : n0 ≤ a) (Eli : Exa Z h0 li "java/util/ArrayList") (Vb : Arv Z h0 b kb (.object "java/lang/Object") (10 : Int32) [(.ref x1), (.ref x1), .null, .null, .null, .null, .null, .null, .null, .null] .null) (Ex : Exa Z Z.heap x1 "java/time/Duration") (Mo : Mirr Z "[Ljava/lang/Object;" w_MIR) (Eb : Exa Z h0 b "[Ljava/lang/Object;") (Fd : Fld Z h0 li "java/util/ArrayList" "elementData" "[Ljava/lang/Object;" (.ref b)) (Fs : Fld Z h0 li "java/util/ArrayList" "size" "I" (.int (2 : Int32))) :
    Ctr l Z y_29 prog_17_method_1_code 2 none ws ({ frames := 8, cells := 2, slots := 9, locals := 101 } : Room) #[(.ref a), (.ref li)] h0 (Q_recin2 Z a li b kb x1 w_MIR h0 n0) := by
  refine MetFree.of_bodySF (plainFor_of_name pn_12) hisR ?_
  intro p e s m args below meth c s₁ Bd hml0 hP hK
  obtain ⟨rfl, hZ, hh⟩ := hP
  have W := fun (i : Nat) {d : Jvm.Cond} (h : tables_1[i]? = some d) => hw d (List.mem_of_getElem? h)
  have hx := Bd.exec
  have hby := Bd.bytes
  have hml : c.maxLocals = 2 := hml0
  have hown : s.vm.findClass "com/example/savitri/savitri/store/RedriveSchedule" = some m.cls := findClass_of_methodNamed Bd.named
  have hnm := (name_of_methodNamed Bd.named Bd.method).1
  have X0 : Stand p l e ({ frames := 8, cells := 2, slots := 9, locals := 101 } : Room) s m #[(.ref a), (.ref li)] below meth c s₁ [] 0 0 := Stand.of_body Bd
  have e0 : s₁.heap = h0 := by rw [← hh, Bd.state]; rfl
  have N0 := Fr.nil n0
  have pre0 : ∀ t, Steps p.tables e below (s₁.setTop (mkF m 0 #[.val (.ref a), .val (.ref li)] [])) t → Steps p.tables e below (s₁.setTop (entryFrame m #[(.ref a), (.ref li)] 2)) t := fun t kk_ => castTop (ef_28 m a li) kk_
  have K0 := Keep.refl h0 [a]
  obtain ⟨_, _, ⟨T1, L1, k1, n1⟩, -, X1, ⟨Lc1, hQ1, l1, y1, z1⟩, st1⟩ := X0.specialBack hx (y := y_8) rfl hown (mvT hZ (W 55 rfl)) (mvT hZ (W 56 rfl)) (mvT hZ (W 59 rfl)) (by decide) (backOf (W := 0) (recinit l Z a0 hw [] a h0 n0 O ) hZ (W 59 rfl) (W 58 rfl) (by decide) (by decide)) (g := (mkF m 1 #[rv a, rv li] [.ref a])) rfl (by rw [hml]; rfl) (Steps.refl _) (a := a) (argsL := []) (rest := []) (lenOf pd_0 rfl) rfl (by show 2 * 0 + _ ≤ _; exact Nat.le_of_eq rfl) (hb hby d7_1) (fun _ _ => ⟨rfl, e0, (by decide : 0 + 0 ≤ _), (by decide : 0 + 0 ≤ _)⟩)
  dsimp only [Pt.U, Pt.locs, Pt.cells, Pt.slots] at X1 l1 y1 z1 st1 hQ1
  subst l1 y1 z1
  obtain ⟨h1, e1⟩ : ∃ z, T1.heap = z := ⟨_, rfl⟩
  rw [e1] at hQ1
  obtain ⟨rfl, N1q, p1_0⟩ := hQ1
  have N1 := Fr.app N0 N1q
  rw [p1_0] at e1
  obtain ⟨_, _, ⟨T2, L2, k2, n2⟩, -, X2, ⟨Lc2, hQ2, l2, y2, z2⟩, st2⟩ := Jvm.LawKit.callS X1 hx (y := y_25) hown (mvT hZ (W 61 rfl)) (mvT hZ (W 62 rfl)) (mvT hZ (W 63 rfl)) (mvT hZ (W 64 rfl)) (by decide) (backOf (W := 0) (copyof2 l Z a0 hw [] li b kb x1 w_MIR h0 n0 O Eli Vb Ex Mo Eb Fd Fs) hZ (W 64 rfl) (W 63 rfl) (by decide) (by decide)) (g := (mkF m 5 #[rv a, rv li] [.ref li])) rfl (by rw [hml]; rfl) (argsL := [.ref li]) (rest := []) (lenOf pd_10 rfl) rfl (by show 2 * 0 + _ ≤ _; exact Nat.le_of_eq rfl) (hb hby d7_5) (fun _ _ => ⟨rfl, e1, (by decide : 0 + 2 ≤ _), (by decide : 0 + 9 ≤ _)⟩)
  dsimp only [Pt.U, Pt.locs, Pt.cells, Pt.slots] at X2 l2 y2 z2 st2 hQ2
  subst l2 y2 z2
  obtain ⟨h2, e2⟩ : ∃ z, T2.heap = z := ⟨_, rfl⟩
  rw [e2] at hQ2
  obtain ⟨b2r, rfl, N2q, p2_0, p2_1, p2_2, p2_3⟩ := hQ2
  have N2 := Fr.app N1 N2q
  have sz_b2r : h0.size ≤ b2r := Nat.le_trans K0.1 p2_1
  have ne_a_b2r : a ≠ b2r := Nat.ne_of_lt (Nat.lt_of_lt_of_le Ea.lt p2_1)
  have Ea := Ea.keep p2_0
  have Fdl := Fdl.keep p2_0 nin0
  have K4 := K0.trans p2_0 all0
  obtain ⟨T5, h5, X5, e5, W5, st5⟩ := putF X2 hx hZ hown (host := "") (Or.inl (W 8 rfl)) Via.refl e2 Fdl Ea (Or.inr ⟨(W 9 rfl), rfl, hnm⟩) (W 51 rfl) (ty := (.object "java/util/List")) (by decide) rfl rfl (g := (mkF m 11 #[rv a, rv b2r] [.ref b2r, .ref a])) rfl rfl (hb hby d7_11)
  have Fz5 := Fdl.same W5
  have p2_2 := p2_2.wr W5
  have p2_3 := p2_3.other W5 (Or.inl (Ne.symm ne_a_b2r))
  have K7 := K4.wr W5 (Or.inl (List.mem_of_getElem? (i := 0) rfl))
  have N8 := Fr.snoc X5 N2 ga
  obtain ⟨fs, hr, hrun, hended, hW, hsame⟩ := X5.leave (v := none) (fun _ => rfl)
  refine ⟨_, _, pre0 _ ?_, hrun, hended, _, _, rfl, ?_, ⟨_, rfl⟩, hW, hsame.mono (by decide) (by decide)⟩
  · show Sq p e below m s₁ 0 #[rv a, rv li] [] _
    refine XS.aloadN X0.here hx rfl (hb hby d7_0) rfl rfl ?_
    show Sq p e below m s₁ 1 #[rv a, rv li] [.ref a] _
    refine st1.trans ?_
    show Sq p e below m T1 4 #[rv a, rv li] [] _
    refine XS.aloadN X1.here hx rfl (hb hby d7_4) rfl rfl ?_
    show Sq p e below m T1 5 #[rv a, rv li] [.ref li] _
    refine st2 _ ?_
    show Sq p e below m T2 8 #[rv a, rv li] [.ref b2r] _
    refine XS.astoreN X2.here hx rfl (hb hby d7_8) rfl rfl rfl ?_
    refine XS.aloadN X2.here hx rfl (hb hby d7_9) rfl rfl ?_
    show Sq p e below m T2 10 #[rv a, rv b2r] [.ref a] _
    refine XS.aloadN X2.here hx rfl (hb hby d7_10) rfl rfl ?_
    show Sq p e below m T2 11 #[rv a, rv b2r] [.ref b2r, .ref a] _
    refine st5 _ ?_
    show Sq p e below m T5 14 #[rv a, rv b2r] [] _
    exact X5.returnOut hx Bd.returns (hb hby d7_14) hr
  · show Q_recin2 Z a li b kb x1 w_MIR h0 n0 _ T5.heap _
    rw [e5]
    exact ⟨b2r, rfl, N8, K7, sz_b2r, Fz5, p2_2, p2_3⟩
def Q_recin3 (Z : State) (a : Addr) (li : Addr) (b : Addr) (kb : ClassId) (x1 : Addr) (w_MIR : Addr) (h0 : Heap) (n0 : Nat) (v : Option Value) (h : Heap) (L : List Loc) : Prop := ∃ r : Addr, ∃ g : Addr, ∃ kg : ClassId, v = none ∧ Fr n0 L ∧ Keep h0 h [a] ∧ h0.size ≤ r ∧ h0.size ≤ g ∧ Fld Z h a "com/example/savitri/savitri/store/RedriveSchedule" "delays" "Ljava/util/List;" (.ref r) ∧ Exa Z h r "java/util/ImmutableCollections$ListN" ∧ Fld Z h r "java/util/ImmutableCollections$ListN" "elements" "[Ljava/lang/Object;" (.ref g) ∧ Arv Z h g kg (.object "java/lang/Object") (3 : Int32) [(.ref x1), (.ref x1), (.ref x1)] .null
set_option maxRecDepth 65536 in
set_option maxHeartbeats 40000000 in
theorem recin3 (l : Launch) (Z : State) (a0 : Array Value) (hw : ∀ d ∈ tables_1, d.before a0 Z = true) (ws : List Jvm.Cond) (a : Addr) (li : Addr) (b : Addr) (kb : ClassId) (x1 : Addr) (w_MIR : Addr) (h0 : Heap) (n0 : Nat) (O : Old Z n0 h0) (Ea : Exa Z h0 a "com/example/savitri/savitri/store/RedriveSchedule") (Fdl : Fld Z h0 a "com/example/savitri/savitri/store/RedriveSchedule" "delays" "Ljava/util/List;" .null) (ga : n0 ≤ a) (Eli : Exa Z h0 li "java/util/ArrayList") (Vb : Arv Z h0 b kb (.object "java/lang/Object") (10 : Int32) [(.ref x1), (.ref x1), (.ref x1), .null, .null, .null, .null, .null, .null, .null] .null) (Ex : Exa Z Z.heap x1 "java/time/Duration") (Mo : Mirr Z "[Ljava/lang/Object;" w_MIR) (Eb : Exa Z h0 b "[Ljava/lang/Object;") (Fd : Fld Z h0 li "java/util/ArrayList" "elementData" "[Ljava/lang/Object;" (.ref b)) (Fs : Fld Z h0 li "java/util/ArrayList" "size" "I" (.int (3 : Int32))) :
    Ctr l Z y_29 prog_17_method_1_code 2 none ws ({ frames := 9, cells := 3, slots := 12, locals := 115 } : Room) #[(.ref a), (.ref li)] h0 (Q_recin3 Z a li b kb x1 w_MIR h0 n0) := by
  refine MetFree.of_bodySF (plainFor_of_name pn_12) hisR ?_
  intro p e s m args below meth c s₁ Bd hml0 hP hK
  obtain ⟨rfl, hZ, hh⟩ := hP
  have W := fun (i : Nat) {d : Jvm.Cond} (h : tables_1[i]? = some d) => hw d (List.mem_of_getElem? h)
  have hx := Bd.exec
  have hby := Bd.bytes
  have hml : c.maxLocals = 2 := hml0
  have hown : s.vm.findClass "com/example/savitri/savitri/store/RedriveSchedule" = some m.cls := findClass_of_methodNamed Bd.named
  have hnm := (name_of_methodNamed Bd.named Bd.method).1
  have X0 : Stand p l e ({ frames := 9, cells := 3, slots := 12, locals := 115 } : Room) s m #[(.ref a), (.ref li)] below meth c s₁ [] 0 0 := Stand.of_body Bd
  have e0 : s₁.heap = h0 := by rw [← hh, Bd.state]; rfl
  have N0 := Fr.nil n0
  have pre0 : ∀ t, Steps p.tables e below (s₁.setTop (mkF m 0 #[.val (.ref a), .val (.ref li)] [])) t → Steps p.tables e below (s₁.setTop (entryFrame m #[(.ref a), (.ref li)] 2)) t := fun t kk_ => castTop (ef_28 m a li) kk_
  have K0 := Keep.refl h0 [a]
  obtain ⟨_, _, ⟨T1, L1, k1, n1⟩, -, X1, ⟨Lc1, hQ1, l1, y1, z1⟩, st1⟩ := X0.specialBack hx (y := y_8) rfl hown (mvT hZ (W 55 rfl)) (mvT hZ (W 56 rfl)) (mvT hZ (W 59 rfl)) (by decide) (backOf (W := 0) (recinit l Z a0 hw [] a h0 n0 O ) hZ (W 59 rfl) (W 58 rfl) (by decide) (by decide)) (g := (mkF m 1 #[rv a, rv li] [.ref a])) rfl (by rw [hml]; rfl) (Steps.refl _) (a := a) (argsL := []) (rest := []) (lenOf pd_0 rfl) rfl (by show 2 * 0 + _ ≤ _; exact Nat.le_of_eq rfl) (hb hby d7_1) (fun _ _ => ⟨rfl, e0, (by decide : 0 + 0 ≤ _), (by decide : 0 + 0 ≤ _)⟩)
  dsimp only [Pt.U, Pt.locs, Pt.cells, Pt.slots] at X1 l1 y1 z1 st1 hQ1
  subst l1 y1 z1
  obtain ⟨h1, e1⟩ : ∃ z, T1.heap = z := ⟨_, rfl⟩
  rw [e1] at hQ1
  obtain ⟨rfl, N1q, p1_0⟩ := hQ1
  have N1 := Fr.app N0 N1q
  rw [p1_0] at e1
  obtain ⟨_, _, ⟨T2, L2, k2, n2⟩, -, X2, ⟨Lc2, hQ2, l2, y2, z2⟩, st2⟩ := Jvm.LawKit.callS X1 hx (y := y_25) hown (mvT hZ (W 61 rfl)) (mvT hZ (W 62 rfl)) (mvT hZ (W 63 rfl)) (mvT hZ (W 64 rfl)) (by decide) (backOf (W := 0) (copyof3 l Z a0 hw [] li b kb x1 w_MIR h0 n0 O Eli Vb Ex Mo Eb Fd Fs) hZ (W 64 rfl) (W 63 rfl) (by decide) (by decide)) (g := (mkF m 5 #[rv a, rv li] [.ref li])) rfl (by rw [hml]; rfl) (argsL := [.ref li]) (rest := []) (lenOf pd_10 rfl) rfl (by show 2 * 0 + _ ≤ _; exact Nat.le_of_eq rfl) (hb hby d7_5) (fun _ _ => ⟨rfl, e1, (by decide : 0 + 3 ≤ _), (by decide : 0 + 12 ≤ _)⟩)
  dsimp only [Pt.U, Pt.locs, Pt.cells, Pt.slots] at X2 l2 y2 z2 st2 hQ2
  subst l2 y2 z2
  obtain ⟨h2, e2⟩ : ∃ z, T2.heap = z := ⟨_, rfl⟩
  rw [e2] at hQ2
  obtain ⟨b2r, b2g, b2kg, rfl, N2q, p2_0, p2_1, p2_2, p2_3, p2_4, p2_5⟩ := hQ2
  have N2 := Fr.app N1 N2q
  have sz_b2r : h0.size ≤ b2r := Nat.le_trans K0.1 p2_1
  have ne_a_b2r : a ≠ b2r := Nat.ne_of_lt (Nat.lt_of_lt_of_le Ea.lt p2_1)
  have sz_b2g : h0.size ≤ b2g := Nat.le_trans K0.1 p2_2
  have ne_a_b2g : a ≠ b2g := Nat.ne_of_lt (Nat.lt_of_lt_of_le Ea.lt p2_2)
  have Ea := Ea.keep p2_0
  have Fdl := Fdl.keep p2_0 nin0
  have K4 := K0.trans p2_0 all0
  obtain ⟨T5, h5, X5, e5, W5, st5⟩ := putF X2 hx hZ hown (host := "") (Or.inl (W 8 rfl)) Via.refl e2 Fdl Ea (Or.inr ⟨(W 9 rfl), rfl, hnm⟩) (W 51 rfl) (ty := (.object "java/util/List")) (by decide) rfl rfl (g := (mkF m 11 #[rv a, rv b2r] [.ref b2r, .ref a])) rfl rfl (hb hby d7_11)
  have Fz5 := Fdl.same W5
  have p2_3 := p2_3.wr W5
  have p2_4 := p2_4.other W5 (Or.inl (Ne.symm ne_a_b2r))
  have p2_5 := p2_5.other W5 (Ne.symm ne_a_b2g)
  have K7 := K4.wr W5 (Or.inl (List.mem_of_getElem? (i := 0) rfl))
  have N8 := Fr.snoc X5 N2 ga
  obtain ⟨fs, hr, hrun, hended, hW, hsame⟩ := X5.leave (v := none) (fun _ => rfl)
  refine ⟨_, _, pre0 _ ?_, hrun, hended, _, _, rfl, ?_, ⟨_, rfl⟩, hW, hsame.mono (by decide) (by decide)⟩
  · show Sq p e below m s₁ 0 #[rv a, rv li] [] _
    refine XS.aloadN X0.here hx rfl (hb hby d7_0) rfl rfl ?_
    show Sq p e below m s₁ 1 #[rv a, rv li] [.ref a] _
    refine st1.trans ?_
    show Sq p e below m T1 4 #[rv a, rv li] [] _
    refine XS.aloadN X1.here hx rfl (hb hby d7_4) rfl rfl ?_
    show Sq p e below m T1 5 #[rv a, rv li] [.ref li] _
    refine st2 _ ?_
    show Sq p e below m T2 8 #[rv a, rv li] [.ref b2r] _
    refine XS.astoreN X2.here hx rfl (hb hby d7_8) rfl rfl rfl ?_
    refine XS.aloadN X2.here hx rfl (hb hby d7_9) rfl rfl ?_
    show Sq p e below m T2 10 #[rv a, rv b2r] [.ref a] _
    refine XS.aloadN X2.here hx rfl (hb hby d7_10) rfl rfl ?_
    show Sq p e below m T2 11 #[rv a, rv b2r] [.ref b2r, .ref a] _
    refine st5 _ ?_
    show Sq p e below m T5 14 #[rv a, rv b2r] [] _
    exact X5.returnOut hx Bd.returns (hb hby d7_14) hr
  · show Q_recin3 Z a li b kb x1 w_MIR h0 n0 _ T5.heap _
    rw [e5]
    exact ⟨b2r, b2g, b2kg, rfl, N8, K7, sz_b2r, sz_b2g, Fz5, p2_3, p2_4, p2_5⟩
def Q_recin4 (Z : State) (a : Addr) (li : Addr) (b : Addr) (kb : ClassId) (x1 : Addr) (w_MIR : Addr) (h0 : Heap) (n0 : Nat) (v : Option Value) (h : Heap) (L : List Loc) : Prop := ∃ r : Addr, ∃ g : Addr, ∃ kg : ClassId, v = none ∧ Fr n0 L ∧ Keep h0 h [a] ∧ h0.size ≤ r ∧ h0.size ≤ g ∧ Fld Z h a "com/example/savitri/savitri/store/RedriveSchedule" "delays" "Ljava/util/List;" (.ref r) ∧ Exa Z h r "java/util/ImmutableCollections$ListN" ∧ Fld Z h r "java/util/ImmutableCollections$ListN" "elements" "[Ljava/lang/Object;" (.ref g) ∧ Arv Z h g kg (.object "java/lang/Object") (4 : Int32) [(.ref x1), (.ref x1), (.ref x1), (.ref x1)] .null
set_option maxRecDepth 65536 in
set_option maxHeartbeats 40000000 in
theorem recin4 (l : Launch) (Z : State) (a0 : Array Value) (hw : ∀ d ∈ tables_1, d.before a0 Z = true) (ws : List Jvm.Cond) (a : Addr) (li : Addr) (b : Addr) (kb : ClassId) (x1 : Addr) (w_MIR : Addr) (h0 : Heap) (n0 : Nat) (O : Old Z n0 h0) (Ea : Exa Z h0 a "com/example/savitri/savitri/store/RedriveSchedule") (Fdl : Fld Z h0 a "com/example/savitri/savitri/store/RedriveSchedule" "delays" "Ljava/util/List;" .null) (ga : n0 ≤ a) (Eli : Exa Z h0 li "java/util/ArrayList") (Vb : Arv Z h0 b kb (.object "java/lang/Object") (10 : Int32) [(.ref x1), (.ref x1), (.ref x1), (.ref x1), .null, .null, .null, .null, .null, .null] .null) (Ex : Exa Z Z.heap x1 "java/time/Duration") (Mo : Mirr Z "[Ljava/lang/Object;" w_MIR) (Eb : Exa Z h0 b "[Ljava/lang/Object;") (Fd : Fld Z h0 li "java/util/ArrayList" "elementData" "[Ljava/lang/Object;" (.ref b)) (Fs : Fld Z h0 li "java/util/ArrayList" "size" "I" (.int (4 : Int32))) :
    Ctr l Z y_29 prog_17_method_1_code 2 none ws ({ frames := 9, cells := 3, slots := 13, locals := 115 } : Room) #[(.ref a), (.ref li)] h0 (Q_recin4 Z a li b kb x1 w_MIR h0 n0) := by
  refine MetFree.of_bodySF (plainFor_of_name pn_12) hisR ?_
  intro p e s m args below meth c s₁ Bd hml0 hP hK
  obtain ⟨rfl, hZ, hh⟩ := hP
  have W := fun (i : Nat) {d : Jvm.Cond} (h : tables_1[i]? = some d) => hw d (List.mem_of_getElem? h)
  have hx := Bd.exec
  have hby := Bd.bytes
  have hml : c.maxLocals = 2 := hml0
  have hown : s.vm.findClass "com/example/savitri/savitri/store/RedriveSchedule" = some m.cls := findClass_of_methodNamed Bd.named
  have hnm := (name_of_methodNamed Bd.named Bd.method).1
  have X0 : Stand p l e ({ frames := 9, cells := 3, slots := 13, locals := 115 } : Room) s m #[(.ref a), (.ref li)] below meth c s₁ [] 0 0 := Stand.of_body Bd
  have e0 : s₁.heap = h0 := by rw [← hh, Bd.state]; rfl
  have N0 := Fr.nil n0
  have pre0 : ∀ t, Steps p.tables e below (s₁.setTop (mkF m 0 #[.val (.ref a), .val (.ref li)] [])) t → Steps p.tables e below (s₁.setTop (entryFrame m #[(.ref a), (.ref li)] 2)) t := fun t kk_ => castTop (ef_28 m a li) kk_
  have K0 := Keep.refl h0 [a]
  obtain ⟨_, _, ⟨T1, L1, k1, n1⟩, -, X1, ⟨Lc1, hQ1, l1, y1, z1⟩, st1⟩ := X0.specialBack hx (y := y_8) rfl hown (mvT hZ (W 55 rfl)) (mvT hZ (W 56 rfl)) (mvT hZ (W 59 rfl)) (by decide) (backOf (W := 0) (recinit l Z a0 hw [] a h0 n0 O ) hZ (W 59 rfl) (W 58 rfl) (by decide) (by decide)) (g := (mkF m 1 #[rv a, rv li] [.ref a])) rfl (by rw [hml]; rfl) (Steps.refl _) (a := a) (argsL := []) (rest := []) (lenOf pd_0 rfl) rfl (by show 2 * 0 + _ ≤ _; exact Nat.le_of_eq rfl) (hb hby d7_1) (fun _ _ => ⟨rfl, e0, (by decide : 0 + 0 ≤ _), (by decide : 0 + 0 ≤ _)⟩)
  dsimp only [Pt.U, Pt.locs, Pt.cells, Pt.slots] at X1 l1 y1 z1 st1 hQ1
  subst l1 y1 z1
  obtain ⟨h1, e1⟩ : ∃ z, T1.heap = z := ⟨_, rfl⟩
  rw [e1] at hQ1
  obtain ⟨rfl, N1q, p1_0⟩ := hQ1
  have N1 := Fr.app N0 N1q
  rw [p1_0] at e1
  obtain ⟨_, _, ⟨T2, L2, k2, n2⟩, -, X2, ⟨Lc2, hQ2, l2, y2, z2⟩, st2⟩ := Jvm.LawKit.callS X1 hx (y := y_25) hown (mvT hZ (W 61 rfl)) (mvT hZ (W 62 rfl)) (mvT hZ (W 63 rfl)) (mvT hZ (W 64 rfl)) (by decide) (backOf (W := 0) (copyof4 l Z a0 hw [] li b kb x1 w_MIR h0 n0 O Eli Vb Ex Mo Eb Fd Fs) hZ (W 64 rfl) (W 63 rfl) (by decide) (by decide)) (g := (mkF m 5 #[rv a, rv li] [.ref li])) rfl (by rw [hml]; rfl) (argsL := [.ref li]) (rest := []) (lenOf pd_10 rfl) rfl (by show 2 * 0 + _ ≤ _; exact Nat.le_of_eq rfl) (hb hby d7_5) (fun _ _ => ⟨rfl, e1, (by decide : 0 + 3 ≤ _), (by decide : 0 + 13 ≤ _)⟩)
  dsimp only [Pt.U, Pt.locs, Pt.cells, Pt.slots] at X2 l2 y2 z2 st2 hQ2
  subst l2 y2 z2
  obtain ⟨h2, e2⟩ : ∃ z, T2.heap = z := ⟨_, rfl⟩
  rw [e2] at hQ2
  obtain ⟨b2r, b2g, b2kg, rfl, N2q, p2_0, p2_1, p2_2, p2_3, p2_4, p2_5⟩ := hQ2
  have N2 := Fr.app N1 N2q
  have sz_b2r : h0.size ≤ b2r := Nat.le_trans K0.1 p2_1
  have ne_a_b2r : a ≠ b2r := Nat.ne_of_lt (Nat.lt_of_lt_of_le Ea.lt p2_1)
  have sz_b2g : h0.size ≤ b2g := Nat.le_trans K0.1 p2_2
  have ne_a_b2g : a ≠ b2g := Nat.ne_of_lt (Nat.lt_of_lt_of_le Ea.lt p2_2)
  have Ea := Ea.keep p2_0
  have Fdl := Fdl.keep p2_0 nin0
  have K4 := K0.trans p2_0 all0
  obtain ⟨T5, h5, X5, e5, W5, st5⟩ := putF X2 hx hZ hown (host := "") (Or.inl (W 8 rfl)) Via.refl e2 Fdl Ea (Or.inr ⟨(W 9 rfl), rfl, hnm⟩) (W 51 rfl) (ty := (.object "java/util/List")) (by decide) rfl rfl (g := (mkF m 11 #[rv a, rv b2r] [.ref b2r, .ref a])) rfl rfl (hb hby d7_11)
  have Fz5 := Fdl.same W5
  have p2_3 := p2_3.wr W5
  have p2_4 := p2_4.other W5 (Or.inl (Ne.symm ne_a_b2r))
  have p2_5 := p2_5.other W5 (Ne.symm ne_a_b2g)
  have K7 := K4.wr W5 (Or.inl (List.mem_of_getElem? (i := 0) rfl))
  have N8 := Fr.snoc X5 N2 ga
  obtain ⟨fs, hr, hrun, hended, hW, hsame⟩ := X5.leave (v := none) (fun _ => rfl)
  refine ⟨_, _, pre0 _ ?_, hrun, hended, _, _, rfl, ?_, ⟨_, rfl⟩, hW, hsame.mono (by decide) (by decide)⟩
  · show Sq p e below m s₁ 0 #[rv a, rv li] [] _
    refine XS.aloadN X0.here hx rfl (hb hby d7_0) rfl rfl ?_
    show Sq p e below m s₁ 1 #[rv a, rv li] [.ref a] _
    refine st1.trans ?_
    show Sq p e below m T1 4 #[rv a, rv li] [] _
    refine XS.aloadN X1.here hx rfl (hb hby d7_4) rfl rfl ?_
    show Sq p e below m T1 5 #[rv a, rv li] [.ref li] _
    refine st2 _ ?_
    show Sq p e below m T2 8 #[rv a, rv li] [.ref b2r] _
    refine XS.astoreN X2.here hx rfl (hb hby d7_8) rfl rfl rfl ?_
    refine XS.aloadN X2.here hx rfl (hb hby d7_9) rfl rfl ?_
    show Sq p e below m T2 10 #[rv a, rv b2r] [.ref a] _
    refine XS.aloadN X2.here hx rfl (hb hby d7_10) rfl rfl ?_
    show Sq p e below m T2 11 #[rv a, rv b2r] [.ref b2r, .ref a] _
    refine st5 _ ?_
    show Sq p e below m T5 14 #[rv a, rv b2r] [] _
    exact X5.returnOut hx Bd.returns (hb hby d7_14) hr
  · show Q_recin4 Z a li b kb x1 w_MIR h0 n0 _ T5.heap _
    rw [e5]
    exact ⟨b2r, b2g, b2kg, rfl, N8, K7, sz_b2r, sz_b2g, Fz5, p2_3, p2_4, p2_5⟩
def Q_recin5 (Z : State) (a : Addr) (li : Addr) (b : Addr) (kb : ClassId) (x1 : Addr) (w_MIR : Addr) (h0 : Heap) (n0 : Nat) (v : Option Value) (h : Heap) (L : List Loc) : Prop := ∃ r : Addr, ∃ g : Addr, ∃ kg : ClassId, v = none ∧ Fr n0 L ∧ Keep h0 h [a] ∧ h0.size ≤ r ∧ h0.size ≤ g ∧ Fld Z h a "com/example/savitri/savitri/store/RedriveSchedule" "delays" "Ljava/util/List;" (.ref r) ∧ Exa Z h r "java/util/ImmutableCollections$ListN" ∧ Fld Z h r "java/util/ImmutableCollections$ListN" "elements" "[Ljava/lang/Object;" (.ref g) ∧ Arv Z h g kg (.object "java/lang/Object") (5 : Int32) [(.ref x1), (.ref x1), (.ref x1), (.ref x1), (.ref x1)] .null
set_option maxRecDepth 65536 in
set_option maxHeartbeats 40000000 in
theorem recin5 (l : Launch) (Z : State) (a0 : Array Value) (hw : ∀ d ∈ tables_1, d.before a0 Z = true) (ws : List Jvm.Cond) (a : Addr) (li : Addr) (b : Addr) (kb : ClassId) (x1 : Addr) (w_MIR : Addr) (h0 : Heap) (n0 : Nat) (O : Old Z n0 h0) (Ea : Exa Z h0 a "com/example/savitri/savitri/store/RedriveSchedule") (Fdl : Fld Z h0 a "com/example/savitri/savitri/store/RedriveSchedule" "delays" "Ljava/util/List;" .null) (ga : n0 ≤ a) (Eli : Exa Z h0 li "java/util/ArrayList") (Vb : Arv Z h0 b kb (.object "java/lang/Object") (10 : Int32) [(.ref x1), (.ref x1), (.ref x1), (.ref x1), (.ref x1), .null, .null, .null, .null, .null] .null) (Ex : Exa Z Z.heap x1 "java/time/Duration") (Mo : Mirr Z "[Ljava/lang/Object;" w_MIR) (Eb : Exa Z h0 b "[Ljava/lang/Object;") (Fd : Fld Z h0 li "java/util/ArrayList" "elementData" "[Ljava/lang/Object;" (.ref b)) (Fs : Fld Z h0 li "java/util/ArrayList" "size" "I" (.int (5 : Int32))) :
    Ctr l Z y_29 prog_17_method_1_code 2 none ws ({ frames := 9, cells := 3, slots := 14, locals := 115 } : Room) #[(.ref a), (.ref li)] h0 (Q_recin5 Z a li b kb x1 w_MIR h0 n0) := by
  refine MetFree.of_bodySF (plainFor_of_name pn_12) hisR ?_
  intro p e s m args below meth c s₁ Bd hml0 hP hK
  obtain ⟨rfl, hZ, hh⟩ := hP
  have W := fun (i : Nat) {d : Jvm.Cond} (h : tables_1[i]? = some d) => hw d (List.mem_of_getElem? h)
  have hx := Bd.exec
  have hby := Bd.bytes
  have hml : c.maxLocals = 2 := hml0
  have hown : s.vm.findClass "com/example/savitri/savitri/store/RedriveSchedule" = some m.cls := findClass_of_methodNamed Bd.named
  have hnm := (name_of_methodNamed Bd.named Bd.method).1
  have X0 : Stand p l e ({ frames := 9, cells := 3, slots := 14, locals := 115 } : Room) s m #[(.ref a), (.ref li)] below meth c s₁ [] 0 0 := Stand.of_body Bd
  have e0 : s₁.heap = h0 := by rw [← hh, Bd.state]; rfl
  have N0 := Fr.nil n0
  have pre0 : ∀ t, Steps p.tables e below (s₁.setTop (mkF m 0 #[.val (.ref a), .val (.ref li)] [])) t → Steps p.tables e below (s₁.setTop (entryFrame m #[(.ref a), (.ref li)] 2)) t := fun t kk_ => castTop (ef_28 m a li) kk_
  have K0 := Keep.refl h0 [a]
  obtain ⟨_, _, ⟨T1, L1, k1, n1⟩, -, X1, ⟨Lc1, hQ1, l1, y1, z1⟩, st1⟩ := X0.specialBack hx (y := y_8) rfl hown (mvT hZ (W 55 rfl)) (mvT hZ (W 56 rfl)) (mvT hZ (W 59 rfl)) (by decide) (backOf (W := 0) (recinit l Z a0 hw [] a h0 n0 O ) hZ (W 59 rfl) (W 58 rfl) (by decide) (by decide)) (g := (mkF m 1 #[rv a, rv li] [.ref a])) rfl (by rw [hml]; rfl) (Steps.refl _) (a := a) (argsL := []) (rest := []) (lenOf pd_0 rfl) rfl (by show 2 * 0 + _ ≤ _; exact Nat.le_of_eq rfl) (hb hby d7_1) (fun _ _ => ⟨rfl, e0, (by decide : 0 + 0 ≤ _), (by decide : 0 + 0 ≤ _)⟩)
  dsimp only [Pt.U, Pt.locs, Pt.cells, Pt.slots] at X1 l1 y1 z1 st1 hQ1
  subst l1 y1 z1
  obtain ⟨h1, e1⟩ : ∃ z, T1.heap = z := ⟨_, rfl⟩
  rw [e1] at hQ1
  obtain ⟨rfl, N1q, p1_0⟩ := hQ1
  have N1 := Fr.app N0 N1q
  rw [p1_0] at e1
  obtain ⟨_, _, ⟨T2, L2, k2, n2⟩, -, X2, ⟨Lc2, hQ2, l2, y2, z2⟩, st2⟩ := Jvm.LawKit.callS X1 hx (y := y_25) hown (mvT hZ (W 61 rfl)) (mvT hZ (W 62 rfl)) (mvT hZ (W 63 rfl)) (mvT hZ (W 64 rfl)) (by decide) (backOf (W := 0) (copyof5 l Z a0 hw [] li b kb x1 w_MIR h0 n0 O Eli Vb Ex Mo Eb Fd Fs) hZ (W 64 rfl) (W 63 rfl) (by decide) (by decide)) (g := (mkF m 5 #[rv a, rv li] [.ref li])) rfl (by rw [hml]; rfl) (argsL := [.ref li]) (rest := []) (lenOf pd_10 rfl) rfl (by show 2 * 0 + _ ≤ _; exact Nat.le_of_eq rfl) (hb hby d7_5) (fun _ _ => ⟨rfl, e1, (by decide : 0 + 3 ≤ _), (by decide : 0 + 14 ≤ _)⟩)
  dsimp only [Pt.U, Pt.locs, Pt.cells, Pt.slots] at X2 l2 y2 z2 st2 hQ2
  subst l2 y2 z2
  obtain ⟨h2, e2⟩ : ∃ z, T2.heap = z := ⟨_, rfl⟩
  rw [e2] at hQ2
  obtain ⟨b2r, b2g, b2kg, rfl, N2q, p2_0, p2_1, p2_2, p2_3, p2_4, p2_5⟩ := hQ2
  have N2 := Fr.app N1 N2q
  have sz_b2r : h0.size ≤ b2r := Nat.le_trans K0.1 p2_1
  have ne_a_b2r : a ≠ b2r := Nat.ne_of_lt (Nat.lt_of_lt_of_le Ea.lt p2_1)
  have sz_b2g : h0.size ≤ b2g := Nat.le_trans K0.1 p2_2
  have ne_a_b2g : a ≠ b2g := Nat.ne_of_lt (Nat.lt_of_lt_of_le Ea.lt p2_2)
  have Ea := Ea.keep p2_0
  have Fdl := Fdl.keep p2_0 nin0
  have K4 := K0.trans p2_0 all0
  obtain ⟨T5, h5, X5, e5, W5, st5⟩ := putF X2 hx hZ hown (host := "") (Or.inl (W 8 rfl)) Via.refl e2 Fdl Ea (Or.inr ⟨(W 9 rfl), rfl, hnm⟩) (W 51 rfl) (ty := (.object "java/util/List")) (by decide) rfl rfl (g := (mkF m 11 #[rv a, rv b2r] [.ref b2r, .ref a])) rfl rfl (hb hby d7_11)
  have Fz5 := Fdl.same W5
  have p2_3 := p2_3.wr W5
  have p2_4 := p2_4.other W5 (Or.inl (Ne.symm ne_a_b2r))
  have p2_5 := p2_5.other W5 (Ne.symm ne_a_b2g)
  have K7 := K4.wr W5 (Or.inl (List.mem_of_getElem? (i := 0) rfl))
  have N8 := Fr.snoc X5 N2 ga
  obtain ⟨fs, hr, hrun, hended, hW, hsame⟩ := X5.leave (v := none) (fun _ => rfl)
  refine ⟨_, _, pre0 _ ?_, hrun, hended, _, _, rfl, ?_, ⟨_, rfl⟩, hW, hsame.mono (by decide) (by decide)⟩
  · show Sq p e below m s₁ 0 #[rv a, rv li] [] _
    refine XS.aloadN X0.here hx rfl (hb hby d7_0) rfl rfl ?_
    show Sq p e below m s₁ 1 #[rv a, rv li] [.ref a] _
    refine st1.trans ?_
    show Sq p e below m T1 4 #[rv a, rv li] [] _
    refine XS.aloadN X1.here hx rfl (hb hby d7_4) rfl rfl ?_
    show Sq p e below m T1 5 #[rv a, rv li] [.ref li] _
    refine st2 _ ?_
    show Sq p e below m T2 8 #[rv a, rv li] [.ref b2r] _
    refine XS.astoreN X2.here hx rfl (hb hby d7_8) rfl rfl rfl ?_
    refine XS.aloadN X2.here hx rfl (hb hby d7_9) rfl rfl ?_
    show Sq p e below m T2 10 #[rv a, rv b2r] [.ref a] _
    refine XS.aloadN X2.here hx rfl (hb hby d7_10) rfl rfl ?_
    show Sq p e below m T2 11 #[rv a, rv b2r] [.ref b2r, .ref a] _
    refine st5 _ ?_
    show Sq p e below m T5 14 #[rv a, rv b2r] [] _
    exact X5.returnOut hx Bd.returns (hb hby d7_14) hr
  · show Q_recin5 Z a li b kb x1 w_MIR h0 n0 _ T5.heap _
    rw [e5]
    exact ⟨b2r, b2g, b2kg, rfl, N8, K7, sz_b2r, sz_b2g, Fz5, p2_3, p2_4, p2_5⟩
def Q_recin6 (Z : State) (a : Addr) (li : Addr) (b : Addr) (kb : ClassId) (x1 : Addr) (w_MIR : Addr) (h0 : Heap) (n0 : Nat) (v : Option Value) (h : Heap) (L : List Loc) : Prop := ∃ r : Addr, ∃ g : Addr, ∃ kg : ClassId, v = none ∧ Fr n0 L ∧ Keep h0 h [a] ∧ h0.size ≤ r ∧ h0.size ≤ g ∧ Fld Z h a "com/example/savitri/savitri/store/RedriveSchedule" "delays" "Ljava/util/List;" (.ref r) ∧ Exa Z h r "java/util/ImmutableCollections$ListN" ∧ Fld Z h r "java/util/ImmutableCollections$ListN" "elements" "[Ljava/lang/Object;" (.ref g) ∧ Arv Z h g kg (.object "java/lang/Object") (6 : Int32) [(.ref x1), (.ref x1), (.ref x1), (.ref x1), (.ref x1), (.ref x1)] .null
set_option maxRecDepth 65536 in
set_option maxHeartbeats 40000000 in
theorem recin6 (l : Launch) (Z : State) (a0 : Array Value) (hw : ∀ d ∈ tables_1, d.before a0 Z = true) (ws : List Jvm.Cond) (a : Addr) (li : Addr) (b : Addr) (kb : ClassId) (x1 : Addr) (w_MIR : Addr) (h0 : Heap) (n0 : Nat) (O : Old Z n0 h0) (Ea : Exa Z h0 a "com/example/savitri/savitri/store/RedriveSchedule") (Fdl : Fld Z h0 a "com/example/savitri/savitri/store/RedriveSchedule" "delays" "Ljava/util/List;" .null) (ga : n0 ≤ a) (Eli : Exa Z h0 li "java/util/ArrayList") (Vb : Arv Z h0 b kb (.object "java/lang/Object") (10 : Int32) [(.ref x1), (.ref x1), (.ref x1), (.ref x1), (.ref x1), (.ref x1), .null, .null, .null, .null] .null) (Ex : Exa Z Z.heap x1 "java/time/Duration") (Mo : Mirr Z "[Ljava/lang/Object;" w_MIR) (Eb : Exa Z h0 b "[Ljava/lang/Object;") (Fd : Fld Z h0 li "java/util/ArrayList" "elementData" "[Ljava/lang/Object;" (.ref b)) (Fs : Fld Z h0 li "java/util/ArrayList" "size" "I" (.int (6 : Int32))) :
    Ctr l Z y_29 prog_17_method_1_code 2 none ws ({ frames := 9, cells := 3, slots := 15, locals := 115 } : Room) #[(.ref a), (.ref li)] h0 (Q_recin6 Z a li b kb x1 w_MIR h0 n0) := by
  refine MetFree.of_bodySF (plainFor_of_name pn_12) hisR ?_
  intro p e s m args below meth c s₁ Bd hml0 hP hK
  obtain ⟨rfl, hZ, hh⟩ := hP
  have W := fun (i : Nat) {d : Jvm.Cond} (h : tables_1[i]? = some d) => hw d (List.mem_of_getElem? h)
  have hx := Bd.exec
  have hby := Bd.bytes
  have hml : c.maxLocals = 2 := hml0
  have hown : s.vm.findClass "com/example/savitri/savitri/store/RedriveSchedule" = some m.cls := findClass_of_methodNamed Bd.named
  have hnm := (name_of_methodNamed Bd.named Bd.method).1
  have X0 : Stand p l e ({ frames := 9, cells := 3, slots := 15, locals := 115 } : Room) s m #[(.ref a), (.ref li)] below meth c s₁ [] 0 0 := Stand.of_body Bd
  have e0 : s₁.heap = h0 := by rw [← hh, Bd.state]; rfl
  have N0 := Fr.nil n0
  have pre0 : ∀ t, Steps p.tables e below (s₁.setTop (mkF m 0 #[.val (.ref a), .val (.ref li)] [])) t → Steps p.tables e below (s₁.setTop (entryFrame m #[(.ref a), (.ref li)] 2)) t := fun t kk_ => castTop (ef_28 m a li) kk_
  have K0 := Keep.refl h0 [a]
  obtain ⟨_, _, ⟨T1, L1, k1, n1⟩, -, X1, ⟨Lc1, hQ1, l1, y1, z1⟩, st1⟩ := X0.specialBack hx (y := y_8) rfl hown (mvT hZ (W 55 rfl)) (mvT hZ (W 56 rfl)) (mvT hZ (W 59 rfl)) (by decide) (backOf (W := 0) (recinit l Z a0 hw [] a h0 n0 O ) hZ (W 59 rfl) (W 58 rfl) (by decide) (by decide)) (g := (mkF m 1 #[rv a, rv li] [.ref a])) rfl (by rw [hml]; rfl) (Steps.refl _) (a := a) (argsL := []) (rest := []) (lenOf pd_0 rfl) rfl (by show 2 * 0 + _ ≤ _; exact Nat.le_of_eq rfl) (hb hby d7_1) (fun _ _ => ⟨rfl, e0, (by decide : 0 + 0 ≤ _), (by decide : 0 + 0 ≤ _)⟩)
  dsimp only [Pt.U, Pt.locs, Pt.cells, Pt.slots] at X1 l1 y1 z1 st1 hQ1
  subst l1 y1 z1
  obtain ⟨h1, e1⟩ : ∃ z, T1.heap = z := ⟨_, rfl⟩
  rw [e1] at hQ1
  obtain ⟨rfl, N1q, p1_0⟩ := hQ1
  have N1 := Fr.app N0 N1q
  rw [p1_0] at e1
  obtain ⟨_, _, ⟨T2, L2, k2, n2⟩, -, X2, ⟨Lc2, hQ2, l2, y2, z2⟩, st2⟩ := Jvm.LawKit.callS X1 hx (y := y_25) hown (mvT hZ (W 61 rfl)) (mvT hZ (W 62 rfl)) (mvT hZ (W 63 rfl)) (mvT hZ (W 64 rfl)) (by decide) (backOf (W := 0) (copyof6 l Z a0 hw [] li b kb x1 w_MIR h0 n0 O Eli Vb Ex Mo Eb Fd Fs) hZ (W 64 rfl) (W 63 rfl) (by decide) (by decide)) (g := (mkF m 5 #[rv a, rv li] [.ref li])) rfl (by rw [hml]; rfl) (argsL := [.ref li]) (rest := []) (lenOf pd_10 rfl) rfl (by show 2 * 0 + _ ≤ _; exact Nat.le_of_eq rfl) (hb hby d7_5) (fun _ _ => ⟨rfl, e1, (by decide : 0 + 3 ≤ _), (by decide : 0 + 15 ≤ _)⟩)
  dsimp only [Pt.U, Pt.locs, Pt.cells, Pt.slots] at X2 l2 y2 z2 st2 hQ2
  subst l2 y2 z2
  obtain ⟨h2, e2⟩ : ∃ z, T2.heap = z := ⟨_, rfl⟩
  rw [e2] at hQ2
  obtain ⟨b2r, b2g, b2kg, rfl, N2q, p2_0, p2_1, p2_2, p2_3, p2_4, p2_5⟩ := hQ2
  have N2 := Fr.app N1 N2q
  have sz_b2r : h0.size ≤ b2r := Nat.le_trans K0.1 p2_1
  have ne_a_b2r : a ≠ b2r := Nat.ne_of_lt (Nat.lt_of_lt_of_le Ea.lt p2_1)
  have sz_b2g : h0.size ≤ b2g := Nat.le_trans K0.1 p2_2
  have ne_a_b2g : a ≠ b2g := Nat.ne_of_lt (Nat.lt_of_lt_of_le Ea.lt p2_2)
  have Ea := Ea.keep p2_0
  have Fdl := Fdl.keep p2_0 nin0
  have K4 := K0.trans p2_0 all0
  obtain ⟨T5, h5, X5, e5, W5, st5⟩ := putF X2 hx hZ hown (host := "") (Or.inl (W 8 rfl)) Via.refl e2 Fdl Ea (Or.inr ⟨(W 9 rfl), rfl, hnm⟩) (W 51 rfl) (ty := (.object "java/util/List")) (by decide) rfl rfl (g := (mkF m 11 #[rv a, rv b2r] [.ref b2r, .ref a])) rfl rfl (hb hby d7_11)
  have Fz5 := Fdl.same W5
  have p2_3 := p2_3.wr W5
  have p2_4 := p2_4.other W5 (Or.inl (Ne.symm ne_a_b2r))
  have p2_5 := p2_5.other W5 (Ne.symm ne_a_b2g)
  have K7 := K4.wr W5 (Or.inl (List.mem_of_getElem? (i := 0) rfl))
  have N8 := Fr.snoc X5 N2 ga
  obtain ⟨fs, hr, hrun, hended, hW, hsame⟩ := X5.leave (v := none) (fun _ => rfl)
  refine ⟨_, _, pre0 _ ?_, hrun, hended, _, _, rfl, ?_, ⟨_, rfl⟩, hW, hsame.mono (by decide) (by decide)⟩
  · show Sq p e below m s₁ 0 #[rv a, rv li] [] _
    refine XS.aloadN X0.here hx rfl (hb hby d7_0) rfl rfl ?_
    show Sq p e below m s₁ 1 #[rv a, rv li] [.ref a] _
    refine st1.trans ?_
    show Sq p e below m T1 4 #[rv a, rv li] [] _
    refine XS.aloadN X1.here hx rfl (hb hby d7_4) rfl rfl ?_
    show Sq p e below m T1 5 #[rv a, rv li] [.ref li] _
    refine st2 _ ?_
    show Sq p e below m T2 8 #[rv a, rv li] [.ref b2r] _
    refine XS.astoreN X2.here hx rfl (hb hby d7_8) rfl rfl rfl ?_
    refine XS.aloadN X2.here hx rfl (hb hby d7_9) rfl rfl ?_
    show Sq p e below m T2 10 #[rv a, rv b2r] [.ref a] _
    refine XS.aloadN X2.here hx rfl (hb hby d7_10) rfl rfl ?_
    show Sq p e below m T2 11 #[rv a, rv b2r] [.ref b2r, .ref a] _
    refine st5 _ ?_
    show Sq p e below m T5 14 #[rv a, rv b2r] [] _
    exact X5.returnOut hx Bd.returns (hb hby d7_14) hr
  · show Q_recin6 Z a li b kb x1 w_MIR h0 n0 _ T5.heap _
    rw [e5]
    exact ⟨b2r, b2g, b2kg, rfl, N8, K7, sz_b2r, sz_b2g, Fz5, p2_3, p2_4, p2_5⟩
def Q_recin7 (Z : State) (a : Addr) (li : Addr) (b : Addr) (kb : ClassId) (x1 : Addr) (w_MIR : Addr) (h0 : Heap) (n0 : Nat) (v : Option Value) (h : Heap) (L : List Loc) : Prop := ∃ r : Addr, ∃ g : Addr, ∃ kg : ClassId, v = none ∧ Fr n0 L ∧ Keep h0 h [a] ∧ h0.size ≤ r ∧ h0.size ≤ g ∧ Fld Z h a "com/example/savitri/savitri/store/RedriveSchedule" "delays" "Ljava/util/List;" (.ref r) ∧ Exa Z h r "java/util/ImmutableCollections$ListN" ∧ Fld Z h r "java/util/ImmutableCollections$ListN" "elements" "[Ljava/lang/Object;" (.ref g) ∧ Arv Z h g kg (.object "java/lang/Object") (7 : Int32) [(.ref x1), (.ref x1), (.ref x1), (.ref x1), (.ref x1), (.ref x1), (.ref x1)] .null
set_option maxRecDepth 65536 in
set_option maxHeartbeats 40000000 in
theorem recin7 (l : Launch) (Z : State) (a0 : Array Value) (hw : ∀ d ∈ tables_1, d.before a0 Z = true) (ws : List Jvm.Cond) (a : Addr) (li : Addr) (b : Addr) (kb : ClassId) (x1 : Addr) (w_MIR : Addr) (h0 : Heap) (n0 : Nat) (O : Old Z n0 h0) (Ea : Exa Z h0 a "com/example/savitri/savitri/store/RedriveSchedule") (Fdl : Fld Z h0 a "com/example/savitri/savitri/store/RedriveSchedule" "delays" "Ljava/util/List;" .null) (ga : n0 ≤ a) (Eli : Exa Z h0 li "java/util/ArrayList") (Vb : Arv Z h0 b kb (.object "java/lang/Object") (10 : Int32) [(.ref x1), (.ref x1), (.ref x1), (.ref x1), (.ref x1), (.ref x1), (.ref x1), .null, .null, .null] .null) (Ex : Exa Z Z.heap x1 "java/time/Duration") (Mo : Mirr Z "[Ljava/lang/Object;" w_MIR) (Eb : Exa Z h0 b "[Ljava/lang/Object;") (Fd : Fld Z h0 li "java/util/ArrayList" "elementData" "[Ljava/lang/Object;" (.ref b)) (Fs : Fld Z h0 li "java/util/ArrayList" "size" "I" (.int (7 : Int32))) :
    Ctr l Z y_29 prog_17_method_1_code 2 none ws ({ frames := 9, cells := 3, slots := 16, locals := 115 } : Room) #[(.ref a), (.ref li)] h0 (Q_recin7 Z a li b kb x1 w_MIR h0 n0) := by
  refine MetFree.of_bodySF (plainFor_of_name pn_12) hisR ?_
  intro p e s m args below meth c s₁ Bd hml0 hP hK
  obtain ⟨rfl, hZ, hh⟩ := hP
  have W := fun (i : Nat) {d : Jvm.Cond} (h : tables_1[i]? = some d) => hw d (List.mem_of_getElem? h)
  have hx := Bd.exec
  have hby := Bd.bytes
  have hml : c.maxLocals = 2 := hml0
  have hown : s.vm.findClass "com/example/savitri/savitri/store/RedriveSchedule" = some m.cls := findClass_of_methodNamed Bd.named
  have hnm := (name_of_methodNamed Bd.named Bd.method).1
  have X0 : Stand p l e ({ frames := 9, cells := 3, slots := 16, locals := 115 } : Room) s m #[(.ref a), (.ref li)] below meth c s₁ [] 0 0 := Stand.of_body Bd
  have e0 : s₁.heap = h0 := by rw [← hh, Bd.state]; rfl
  have N0 := Fr.nil n0
  have pre0 : ∀ t, Steps p.tables e below (s₁.setTop (mkF m 0 #[.val (.ref a), .val (.ref li)] [])) t → Steps p.tables e below (s₁.setTop (entryFrame m #[(.ref a), (.ref li)] 2)) t := fun t kk_ => castTop (ef_28 m a li) kk_
  have K0 := Keep.refl h0 [a]
  obtain ⟨_, _, ⟨T1, L1, k1, n1⟩, -, X1, ⟨Lc1, hQ1, l1, y1, z1⟩, st1⟩ := X0.specialBack hx (y := y_8) rfl hown (mvT hZ (W 55 rfl)) (mvT hZ (W 56 rfl)) (mvT hZ (W 59 rfl)) (by decide) (backOf (W := 0) (recinit l Z a0 hw [] a h0 n0 O ) hZ (W 59 rfl) (W 58 rfl) (by decide) (by decide)) (g := (mkF m 1 #[rv a, rv li] [.ref a])) rfl (by rw [hml]; rfl) (Steps.refl _) (a := a) (argsL := []) (rest := []) (lenOf pd_0 rfl) rfl (by show 2 * 0 + _ ≤ _; exact Nat.le_of_eq rfl) (hb hby d7_1) (fun _ _ => ⟨rfl, e0, (by decide : 0 + 0 ≤ _), (by decide : 0 + 0 ≤ _)⟩)
  dsimp only [Pt.U, Pt.locs, Pt.cells, Pt.slots] at X1 l1 y1 z1 st1 hQ1
  subst l1 y1 z1
  obtain ⟨h1, e1⟩ : ∃ z, T1.heap = z := ⟨_, rfl⟩
  rw [e1] at hQ1
  obtain ⟨rfl, N1q, p1_0⟩ := hQ1
  have N1 := Fr.app N0 N1q
  rw [p1_0] at e1
  obtain ⟨_, _, ⟨T2, L2, k2, n2⟩, -, X2, ⟨Lc2, hQ2, l2, y2, z2⟩, st2⟩ := Jvm.LawKit.callS X1 hx (y := y_25) hown (mvT hZ (W 61 rfl)) (mvT hZ (W 62 rfl)) (mvT hZ (W 63 rfl)) (mvT hZ (W 64 rfl)) (by decide) (backOf (W := 0) (copyof7 l Z a0 hw [] li b kb x1 w_MIR h0 n0 O Eli Vb Ex Mo Eb Fd Fs) hZ (W 64 rfl) (W 63 rfl) (by decide) (by decide)) (g := (mkF m 5 #[rv a, rv li] [.ref li])) rfl (by rw [hml]; rfl) (argsL := [.ref li]) (rest := []) (lenOf pd_10 rfl) rfl (by show 2 * 0 + _ ≤ _; exact Nat.le_of_eq rfl) (hb hby d7_5) (fun _ _ => ⟨rfl, e1, (by decide : 0 + 3 ≤ _), (by decide : 0 + 16 ≤ _)⟩)
  dsimp only [Pt.U, Pt.locs, Pt.cells, Pt.slots] at X2 l2 y2 z2 st2 hQ2
  subst l2 y2 z2
  obtain ⟨h2, e2⟩ : ∃ z, T2.heap = z := ⟨_, rfl⟩
  rw [e2] at hQ2
  obtain ⟨b2r, b2g, b2kg, rfl, N2q, p2_0, p2_1, p2_2, p2_3, p2_4, p2_5⟩ := hQ2
  have N2 := Fr.app N1 N2q
  have sz_b2r : h0.size ≤ b2r := Nat.le_trans K0.1 p2_1
  have ne_a_b2r : a ≠ b2r := Nat.ne_of_lt (Nat.lt_of_lt_of_le Ea.lt p2_1)
  have sz_b2g : h0.size ≤ b2g := Nat.le_trans K0.1 p2_2
  have ne_a_b2g : a ≠ b2g := Nat.ne_of_lt (Nat.lt_of_lt_of_le Ea.lt p2_2)
  have Ea := Ea.keep p2_0
  have Fdl := Fdl.keep p2_0 nin0
  have K4 := K0.trans p2_0 all0
  obtain ⟨T5, h5, X5, e5, W5, st5⟩ := putF X2 hx hZ hown (host := "") (Or.inl (W 8 rfl)) Via.refl e2 Fdl Ea (Or.inr ⟨(W 9 rfl), rfl, hnm⟩) (W 51 rfl) (ty := (.object "java/util/List")) (by decide) rfl rfl (g := (mkF m 11 #[rv a, rv b2r] [.ref b2r, .ref a])) rfl rfl (hb hby d7_11)
  have Fz5 := Fdl.same W5
  have p2_3 := p2_3.wr W5
  have p2_4 := p2_4.other W5 (Or.inl (Ne.symm ne_a_b2r))
  have p2_5 := p2_5.other W5 (Ne.symm ne_a_b2g)
  have K7 := K4.wr W5 (Or.inl (List.mem_of_getElem? (i := 0) rfl))
  have N8 := Fr.snoc X5 N2 ga
  obtain ⟨fs, hr, hrun, hended, hW, hsame⟩ := X5.leave (v := none) (fun _ => rfl)
  refine ⟨_, _, pre0 _ ?_, hrun, hended, _, _, rfl, ?_, ⟨_, rfl⟩, hW, hsame.mono (by decide) (by decide)⟩
  · show Sq p e below m s₁ 0 #[rv a, rv li] [] _
    refine XS.aloadN X0.here hx rfl (hb hby d7_0) rfl rfl ?_
    show Sq p e below m s₁ 1 #[rv a, rv li] [.ref a] _
    refine st1.trans ?_
    show Sq p e below m T1 4 #[rv a, rv li] [] _
    refine XS.aloadN X1.here hx rfl (hb hby d7_4) rfl rfl ?_
    show Sq p e below m T1 5 #[rv a, rv li] [.ref li] _
    refine st2 _ ?_
    show Sq p e below m T2 8 #[rv a, rv li] [.ref b2r] _
    refine XS.astoreN X2.here hx rfl (hb hby d7_8) rfl rfl rfl ?_
    refine XS.aloadN X2.here hx rfl (hb hby d7_9) rfl rfl ?_
    show Sq p e below m T2 10 #[rv a, rv b2r] [.ref a] _
    refine XS.aloadN X2.here hx rfl (hb hby d7_10) rfl rfl ?_
    show Sq p e below m T2 11 #[rv a, rv b2r] [.ref b2r, .ref a] _
    refine st5 _ ?_
    show Sq p e below m T5 14 #[rv a, rv b2r] [] _
    exact X5.returnOut hx Bd.returns (hb hby d7_14) hr
  · show Q_recin7 Z a li b kb x1 w_MIR h0 n0 _ T5.heap _
    rw [e5]
    exact ⟨b2r, b2g, b2kg, rfl, N8, K7, sz_b2r, sz_b2g, Fz5, p2_3, p2_4, p2_5⟩
theorem d14_0 : decode prog_17_method_2_code 0 = .ok (.aload_n 0, 1) := by decide +kernel
theorem d14_1 : decode prog_17_method_2_code 1 = .ok (.getfield 13, 3) := by decide +kernel
theorem d14_4 : decode prog_17_method_2_code 4 = .ok (.invokeinterface 19 1, 5) := by decide +kernel
theorem pd_15 : parseMethodDescriptor "()I" = some ⟨[], some .int⟩ := by decide +kernel
abbrev y_30 : MethodName := ⟨"java/util/List", "size", "()I"⟩
theorem d14_9 : decode prog_17_method_2_code 9 = .ok (.ireturn, 1) := by decide +kernel
def Q_redrivesN (Z : State) (a : Addr) (r : Addr) (g : Addr) (kg : ClassId) (k : Int32) (vs : List Value) (h0 : Heap) (n0 : Nat) (v : Option Value) (h : Heap) (L : List Loc) : Prop := v = some (.int k) ∧ Fr n0 L ∧ h = h0
theorem ef_29 (m : MethodId) (x0 : Addr) : entryFrame m #[(.ref x0)] 1 = mkF m 0 #[.val (.ref x0)] [] := by first | (simp [entryFrame, mkF, argsToLocals, Value.category]; done) | rfl
abbrev y_31 : MethodName := ⟨"com/example/savitri/savitri/store/RedriveSchedule", "redrives", "()I"⟩
set_option maxRecDepth 65536 in
set_option maxHeartbeats 40000000 in
theorem redrivesN (l : Launch) (Z : State) (a0 : Array Value) (hw : ∀ d ∈ tables_1, d.before a0 Z = true) (ws : List Jvm.Cond) (a : Addr) (r : Addr) (g : Addr) (kg : ClassId) (k : Int32) (vs : List Value) (h0 : Heap) (n0 : Nat) (O : Old Z n0 h0) (Fd : Fld Z h0 a "com/example/savitri/savitri/store/RedriveSchedule" "delays" "Ljava/util/List;" (.ref r)) (Er : Exa Z h0 r "java/util/ImmutableCollections$ListN") (Fe : Fld Z h0 r "java/util/ImmutableCollections$ListN" "elements" "[Ljava/lang/Object;" (.ref g)) (Vg : Arv Z h0 g kg (.object "java/lang/Object") k vs .null) :
    Ctr l Z y_31 prog_17_method_2_code 1 (some .int) ws ({ frames := 1, cells := 0, slots := 0, locals := 12 } : Room) #[(.ref a)] h0 (Q_redrivesN Z a r g kg k vs h0 n0) := by
  refine MetFree.of_bodySF (plainFor_of_name pn_12) hisR ?_
  intro p e s m args below meth c s₁ Bd hml0 hP hK
  obtain ⟨rfl, hZ, hh⟩ := hP
  have W := fun (i : Nat) {d : Jvm.Cond} (h : tables_1[i]? = some d) => hw d (List.mem_of_getElem? h)
  have hx := Bd.exec
  have hby := Bd.bytes
  have hml : c.maxLocals = 1 := hml0
  have hown : s.vm.findClass "com/example/savitri/savitri/store/RedriveSchedule" = some m.cls := findClass_of_methodNamed Bd.named
  have hnm := (name_of_methodNamed Bd.named Bd.method).1
  have X0 : Stand p l e ({ frames := 1, cells := 0, slots := 0, locals := 12 } : Room) s m #[(.ref a)] below meth c s₁ [] 0 0 := Stand.of_body Bd
  have e0 : s₁.heap = h0 := by rw [← hh, Bd.state]; rfl
  have N0 := Fr.nil n0
  have pre0 : ∀ t, Steps p.tables e below (s₁.setTop (mkF m 0 #[.val (.ref a)] [])) t → Steps p.tables e below (s₁.setTop (entryFrame m #[(.ref a)] 1)) t := fun t kk_ => castTop (ef_29 m a) kk_
  obtain ⟨T1, X1, e1, st1⟩ := getF X0 hx hZ hown (host := "") (Or.inl (W 8 rfl)) Via.refl e0 Fd (g := (mkF m 1 #[rv a] [.ref a])) rfl rfl (hb hby d14_1)
  obtain ⟨cq2, kq2, q2a, q2b, q2c⟩ := isOf hZ e1 Er
  obtain ⟨_, _, ⟨T2, L2, k2, n2⟩, -, X2, ⟨Lc2, hQ2, l2, y2, z2⟩, st2⟩ := X1.interfaceBack hx (xi := y_30) (y := y_14) hown (mvT hZ (W 104 rfl)) (mvT hZ (W 105 rfl)) (mvT hZ (W 106 rfl)) (mvT hZ (W 107 rfl)) (mvT hZ (W 108 rfl)) (mvT hZ (W 109 rfl)) (mvT hZ (W 110 rfl)) (mvT hZ (W 17 rfl)) (by decide) (backOf (W := 0) (lnsz l Z a0 hw [] r g kg k vs h0 n0 O Fe Vg) hZ (W 111 rfl) (W 18 rfl) (by decide) (by decide)) q2a q2b q2c (g := (mkF m 4 #[rv a] [.ref r])) rfl (by rw [hml]; rfl) (Steps.refl _) (argsL := []) (rest := []) (lenOf pd_15 rfl) rfl (by show 2 * 0 + _ ≤ _; exact Nat.le_of_eq rfl) (hb hby d14_4) (fun _ _ => ⟨rfl, e1, (by decide : 0 + 0 ≤ _), (by decide : 0 + 0 ≤ _)⟩)
  dsimp only [Pt.U, Pt.locs, Pt.cells, Pt.slots] at X2 l2 y2 z2 st2 hQ2
  subst l2 y2 z2
  obtain ⟨h2, e2⟩ : ∃ z, T2.heap = z := ⟨_, rfl⟩
  rw [e2] at hQ2
  obtain ⟨rfl, N2q, p2_0⟩ := hQ2
  have N2 := Fr.app N0 N2q
  rw [p2_0] at e2
  obtain ⟨fs, hr, hrun, hended, hW, hsame⟩ := X2.leave (v := some (.int k)) (fun h => by rw [Bd.returns] at h; cases h)
  refine ⟨_, _, pre0 _ ?_, hrun, hended, _, _, rfl, ?_, ⟨_, rfl⟩, hW, hsame.mono (by decide) (by decide)⟩
  · show Sq p e below m s₁ 0 #[rv a] [] _
    refine XS.aloadN X0.here hx rfl (hb hby d14_0) rfl rfl ?_
    show Sq p e below m s₁ 1 #[rv a] [.ref a] _
    refine st1 _ ?_
    show Sq p e below m T1 4 #[rv a] [.ref r] _
    refine st2.trans ?_
    show Sq p e below m T2 9 #[rv a] [.int k] _
    exact retI X2 hx Bd.returns (hb hby d14_9) hr
  · show Q_redrivesN Z a r g kg k vs h0 n0 _ T2.heap _
    rw [e2]
    exact ⟨rfl, N2, rfl⟩
def Q_redrives1 (Z : State) (a : Addr) (r : Addr) (w_EMPTY : Addr) (h0 : Heap) (n0 : Nat) (v : Option Value) (h : Heap) (L : List Loc) : Prop := v = some (.int (1 : Int32)) ∧ Fr n0 L ∧ h = h0
set_option maxRecDepth 65536 in
set_option maxHeartbeats 40000000 in
theorem redrives1 (l : Launch) (Z : State) (a0 : Array Value) (hw : ∀ d ∈ tables_1, d.before a0 Z = true) (ws : List Jvm.Cond) (a : Addr) (r : Addr) (w_EMPTY : Addr) (h0 : Heap) (n0 : Nat) (O : Old Z n0 h0) (Fd : Fld Z h0 a "com/example/savitri/savitri/store/RedriveSchedule" "delays" "Ljava/util/List;" (.ref r)) (Er : Exa Z h0 r "java/util/ImmutableCollections$List12") (Fe : Fld Z h0 r "java/util/ImmutableCollections$List12" "e1" "Ljava/lang/Object;" (.ref w_EMPTY)) (S_w_EMPTY : Sta Z Z.heap "java/util/ImmutableCollections" "EMPTY" "Ljava/lang/Object;" (.ref w_EMPTY)) :
    Ctr l Z y_31 prog_17_method_2_code 1 (some .int) ws ({ frames := 1, cells := 0, slots := 0, locals := 12 } : Room) #[(.ref a)] h0 (Q_redrives1 Z a r w_EMPTY h0 n0) := by
  refine MetFree.of_bodySF (plainFor_of_name pn_12) hisR ?_
  intro p e s m args below meth c s₁ Bd hml0 hP hK
  obtain ⟨rfl, hZ, hh⟩ := hP
  have W := fun (i : Nat) {d : Jvm.Cond} (h : tables_1[i]? = some d) => hw d (List.mem_of_getElem? h)
  have hx := Bd.exec
  have hby := Bd.bytes
  have hml : c.maxLocals = 1 := hml0
  have hown : s.vm.findClass "com/example/savitri/savitri/store/RedriveSchedule" = some m.cls := findClass_of_methodNamed Bd.named
  have hnm := (name_of_methodNamed Bd.named Bd.method).1
  have X0 : Stand p l e ({ frames := 1, cells := 0, slots := 0, locals := 12 } : Room) s m #[(.ref a)] below meth c s₁ [] 0 0 := Stand.of_body Bd
  have e0 : s₁.heap = h0 := by rw [← hh, Bd.state]; rfl
  have N0 := Fr.nil n0
  have pre0 : ∀ t, Steps p.tables e below (s₁.setTop (mkF m 0 #[.val (.ref a)] [])) t → Steps p.tables e below (s₁.setTop (entryFrame m #[(.ref a)] 1)) t := fun t kk_ => castTop (ef_29 m a) kk_
  obtain ⟨T1, X1, e1, st1⟩ := getF X0 hx hZ hown (host := "") (Or.inl (W 8 rfl)) Via.refl e0 Fd (g := (mkF m 1 #[rv a] [.ref a])) rfl rfl (hb hby d14_1)
  obtain ⟨cq2, kq2, q2a, q2b, q2c⟩ := isOf hZ e1 Er
  obtain ⟨_, _, ⟨T2, L2, k2, n2⟩, -, X2, ⟨Lc2, hQ2, l2, y2, z2⟩, st2⟩ := X1.interfaceBack hx (xi := y_30) (y := y_15) hown (mvT hZ (W 104 rfl)) (mvT hZ (W 105 rfl)) (mvT hZ (W 106 rfl)) (mvT hZ (W 229 rfl)) (mvT hZ (W 230 rfl)) (mvT hZ (W 231 rfl)) (mvT hZ (W 232 rfl)) (mvT hZ (W 233 rfl)) (by decide) (backOf (W := 0) (l1sz l Z a0 hw [] r w_EMPTY h0 n0 O Fe S_w_EMPTY) hZ (W 234 rfl) (W 180 rfl) (by decide) (by decide)) q2a q2b q2c (g := (mkF m 4 #[rv a] [.ref r])) rfl (by rw [hml]; rfl) (Steps.refl _) (argsL := []) (rest := []) (lenOf pd_15 rfl) rfl (by show 2 * 0 + _ ≤ _; exact Nat.le_of_eq rfl) (hb hby d14_4) (fun _ _ => ⟨rfl, e1, (by decide : 0 + 0 ≤ _), (by decide : 0 + 0 ≤ _)⟩)
  dsimp only [Pt.U, Pt.locs, Pt.cells, Pt.slots] at X2 l2 y2 z2 st2 hQ2
  subst l2 y2 z2
  obtain ⟨h2, e2⟩ : ∃ z, T2.heap = z := ⟨_, rfl⟩
  rw [e2] at hQ2
  obtain ⟨rfl, N2q, p2_0⟩ := hQ2
  have N2 := Fr.app N0 N2q
  rw [p2_0] at e2
  obtain ⟨fs, hr, hrun, hended, hW, hsame⟩ := X2.leave (v := some (.int (1 : Int32))) (fun h => by rw [Bd.returns] at h; cases h)
  refine ⟨_, _, pre0 _ ?_, hrun, hended, _, _, rfl, ?_, ⟨_, rfl⟩, hW, hsame.mono (by decide) (by decide)⟩
  · show Sq p e below m s₁ 0 #[rv a] [] _
    refine XS.aloadN X0.here hx rfl (hb hby d14_0) rfl rfl ?_
    show Sq p e below m s₁ 1 #[rv a] [.ref a] _
    refine st1 _ ?_
    show Sq p e below m T1 4 #[rv a] [.ref r] _
    refine st2.trans ?_
    show Sq p e below m T2 9 #[rv a] [.int 1] _
    exact retI X2 hx Bd.returns (hb hby d14_9) hr
  · show Q_redrives1 Z a r w_EMPTY h0 n0 _ T2.heap _
    rw [e2]
    exact ⟨rfl, N2, rfl⟩
def Q_redrives2 (Z : State) (a : Addr) (r : Addr) (y2 : Addr) (w_EMPTY : Addr) (h0 : Heap) (n0 : Nat) (v : Option Value) (h : Heap) (L : List Loc) : Prop := v = some (.int (2 : Int32)) ∧ Fr n0 L ∧ h = h0
set_option maxRecDepth 65536 in
set_option maxHeartbeats 40000000 in
theorem redrives2 (l : Launch) (Z : State) (a0 : Array Value) (hw : ∀ d ∈ tables_1, d.before a0 Z = true) (ws : List Jvm.Cond) (a : Addr) (r : Addr) (y2 : Addr) (w_EMPTY : Addr) (h0 : Heap) (n0 : Nat) (O : Old Z n0 h0) (Fd : Fld Z h0 a "com/example/savitri/savitri/store/RedriveSchedule" "delays" "Ljava/util/List;" (.ref r)) (Er : Exa Z h0 r "java/util/ImmutableCollections$List12") (Fe : Fld Z h0 r "java/util/ImmutableCollections$List12" "e1" "Ljava/lang/Object;" (.ref y2)) (S_w_EMPTY : Sta Z Z.heap "java/util/ImmutableCollections" "EMPTY" "Ljava/lang/Object;" (.ref w_EMPTY)) (ne2 : y2 ≠ w_EMPTY) :
    Ctr l Z y_31 prog_17_method_2_code 1 (some .int) ws ({ frames := 1, cells := 0, slots := 0, locals := 12 } : Room) #[(.ref a)] h0 (Q_redrives2 Z a r y2 w_EMPTY h0 n0) := by
  refine MetFree.of_bodySF (plainFor_of_name pn_12) hisR ?_
  intro p e s m args below meth c s₁ Bd hml0 hP hK
  obtain ⟨rfl, hZ, hh⟩ := hP
  have W := fun (i : Nat) {d : Jvm.Cond} (h : tables_1[i]? = some d) => hw d (List.mem_of_getElem? h)
  have hx := Bd.exec
  have hby := Bd.bytes
  have hml : c.maxLocals = 1 := hml0
  have hown : s.vm.findClass "com/example/savitri/savitri/store/RedriveSchedule" = some m.cls := findClass_of_methodNamed Bd.named
  have hnm := (name_of_methodNamed Bd.named Bd.method).1
  have X0 : Stand p l e ({ frames := 1, cells := 0, slots := 0, locals := 12 } : Room) s m #[(.ref a)] below meth c s₁ [] 0 0 := Stand.of_body Bd
  have e0 : s₁.heap = h0 := by rw [← hh, Bd.state]; rfl
  have N0 := Fr.nil n0
  have pre0 : ∀ t, Steps p.tables e below (s₁.setTop (mkF m 0 #[.val (.ref a)] [])) t → Steps p.tables e below (s₁.setTop (entryFrame m #[(.ref a)] 1)) t := fun t kk_ => castTop (ef_29 m a) kk_
  obtain ⟨T1, X1, e1, st1⟩ := getF X0 hx hZ hown (host := "") (Or.inl (W 8 rfl)) Via.refl e0 Fd (g := (mkF m 1 #[rv a] [.ref a])) rfl rfl (hb hby d14_1)
  obtain ⟨cq2, kq2, q2a, q2b, q2c⟩ := isOf hZ e1 Er
  obtain ⟨_, _, ⟨T2, L2, k2, n2⟩, -, X2, ⟨Lc2, hQ2, l2, y2, z2⟩, st2⟩ := X1.interfaceBack hx (xi := y_30) (y := y_15) hown (mvT hZ (W 104 rfl)) (mvT hZ (W 105 rfl)) (mvT hZ (W 106 rfl)) (mvT hZ (W 229 rfl)) (mvT hZ (W 230 rfl)) (mvT hZ (W 231 rfl)) (mvT hZ (W 232 rfl)) (mvT hZ (W 233 rfl)) (by decide) (backOf (W := 0) (l2sz l Z a0 hw [] r y2 w_EMPTY h0 n0 O Fe S_w_EMPTY ne2) hZ (W 234 rfl) (W 180 rfl) (by decide) (by decide)) q2a q2b q2c (g := (mkF m 4 #[rv a] [.ref r])) rfl (by rw [hml]; rfl) (Steps.refl _) (argsL := []) (rest := []) (lenOf pd_15 rfl) rfl (by show 2 * 0 + _ ≤ _; exact Nat.le_of_eq rfl) (hb hby d14_4) (fun _ _ => ⟨rfl, e1, (by decide : 0 + 0 ≤ _), (by decide : 0 + 0 ≤ _)⟩)
  dsimp only [Pt.U, Pt.locs, Pt.cells, Pt.slots] at X2 l2 y2 z2 st2 hQ2
  subst l2 y2 z2
  obtain ⟨h2, e2⟩ : ∃ z, T2.heap = z := ⟨_, rfl⟩
  rw [e2] at hQ2
  obtain ⟨rfl, N2q, p2_0⟩ := hQ2
  have N2 := Fr.app N0 N2q
  rw [p2_0] at e2
  obtain ⟨fs, hr, hrun, hended, hW, hsame⟩ := X2.leave (v := some (.int (2 : Int32))) (fun h => by rw [Bd.returns] at h; cases h)
  refine ⟨_, _, pre0 _ ?_, hrun, hended, _, _, rfl, ?_, ⟨_, rfl⟩, hW, hsame.mono (by decide) (by decide)⟩
  · show Sq p e below m s₁ 0 #[rv a] [] _
    refine XS.aloadN X0.here hx rfl (hb hby d14_0) rfl rfl ?_
    show Sq p e below m s₁ 1 #[rv a] [.ref a] _
    refine st1 _ ?_
    show Sq p e below m T1 4 #[rv a] [.ref r] _
    refine st2.trans ?_
    show Sq p e below m T2 9 #[rv a] [.int 2] _
    exact retI X2 hx Bd.returns (hb hby d14_9) hr
  · show Q_redrives2 Z a r y2 w_EMPTY h0 n0 _ T2.heap _
    rw [e2]
    exact ⟨rfl, N2, rfl⟩
theorem d2_0 : decode jdk_45_method_4_code 0 = .ok (.aload_n 0, 1) := by decide +kernel
theorem d2_1 : decode jdk_45_method_4_code 1 = .ok (.getfield 7, 3) := by decide +kernel
theorem d2_4 : decode jdk_45_method_4_code 4 = .ok (.iload_n 1, 1) := by decide +kernel
theorem d2_5 : decode jdk_45_method_4_code 5 = .ok (.aaload, 1) := by decide +kernel
theorem d2_6 : decode jdk_45_method_4_code 6 = .ok (.areturn, 1) := by decide +kernel
def Q_lnget (Z : State) (a : Addr) (b : Addr) (kb : ClassId) (d0_ : Addr) (v1 : Value) (v2 : Value) (v3 : Value) (v4 : Value) (h0 : Heap) (n0 : Nat) (v : Option Value) (h : Heap) (L : List Loc) : Prop := v = some (.ref d0_) ∧ Fr n0 L ∧ h = h0
theorem ef_30 (m : MethodId) (x0 : Addr) (x1 : Int32) : entryFrame m #[(.ref x0), (.int x1)] 2 = mkF m 0 #[.val (.ref x0), .val (.int x1)] [] := by first | (simp [entryFrame, mkF, argsToLocals, Value.category]; done) | rfl
abbrev y_32 : MethodName := ⟨"java/util/ImmutableCollections$ListN", "get", "(I)Ljava/lang/Object;"⟩
set_option maxRecDepth 65536 in
set_option maxHeartbeats 40000000 in
theorem lnget (l : Launch) (Z : State) (a0 : Array Value) (hw : ∀ d ∈ tables_1, d.before a0 Z = true) (ws : List Jvm.Cond) (a : Addr) (b : Addr) (kb : ClassId) (d0_ : Addr) (v1 : Value) (v2 : Value) (v3 : Value) (v4 : Value) (h0 : Heap) (n0 : Nat) (O : Old Z n0 h0) (Fe : Fld Z h0 a "java/util/ImmutableCollections$ListN" "elements" "[Ljava/lang/Object;" (.ref b)) (Vb : Arv Z h0 b kb (.object "java/lang/Object") (5 : Int32) [(.ref d0_), v1, v2, v3, v4] .null) :
    Ctr l Z y_32 jdk_45_method_4_code 2 (some (.object "java/lang/Object")) ws ({ frames := 0, cells := 0, slots := 0, locals := 0 } : Room) #[(.ref a), (.int (0 : Int32))] h0 (Q_lnget Z a b kb d0_ v1 v2 v3 v4 h0 n0) := by
  refine MetFree.of_bodySF (plainFor_of_name pn_9) hisR ?_
  intro p e s m args below meth c s₁ Bd hml0 hP hK
  obtain ⟨rfl, hZ, hh⟩ := hP
  have W := fun (i : Nat) {d : Jvm.Cond} (h : tables_1[i]? = some d) => hw d (List.mem_of_getElem? h)
  have hx := Bd.exec
  have hby := Bd.bytes
  have hml : c.maxLocals = 2 := hml0
  have hown : s.vm.findClass "java/util/ImmutableCollections$ListN" = some m.cls := findClass_of_methodNamed Bd.named
  have hnm := (name_of_methodNamed Bd.named Bd.method).1
  have X0 : Stand p l e ({ frames := 0, cells := 0, slots := 0, locals := 0 } : Room) s m #[(.ref a), (.int (0 : Int32))] below meth c s₁ [] 0 0 := Stand.of_body Bd
  have e0 : s₁.heap = h0 := by rw [← hh, Bd.state]; rfl
  have N0 := Fr.nil n0
  have pre0 : ∀ t, Steps p.tables e below (s₁.setTop (mkF m 0 #[.val (.ref a), .val (.int (0 : Int32))] [])) t → Steps p.tables e below (s₁.setTop (entryFrame m #[(.ref a), (.int (0 : Int32))] 2)) t := fun t kk_ => castTop (ef_30 m a (0 : Int32)) kk_
  obtain ⟨T1, X1, e1, st1⟩ := getF X0 hx hZ hown (host := "") (Or.inl (W 20 rfl)) Via.refl e0 Fe (g := (mkF m 1 #[rv a, iv 0] [.ref a])) rfl rfl (hb hby d2_1)
  obtain ⟨cl2, Ar2, q2, S2, Ng2, Hh2, Gg2⟩ := id Vb
  have st2 := X1.aaload hx (j := (0 : Int32)) (v := (.ref d0_)) (by rw [e1]; exact Ar2.1) (State.isArrayOf_alike hZ.alike Ar2.2.1) rfl Ar2.2.2 (inb_of S2 (by decide)) (Hh2.at (inb_of S2 (by decide)) rfl) (g := (mkF m 5 #[rv a, iv 0] [.int 0, .ref b])) rfl rfl (hb hby d2_5)
  obtain ⟨fs, hr, hrun, hended, hW, hsame⟩ := X1.leave (v := some (.ref d0_)) (fun h => by rw [Bd.returns] at h; cases h)
  refine ⟨_, _, pre0 _ ?_, hrun, hended, _, _, rfl, ?_, ⟨_, rfl⟩, hW, hsame.mono (by decide) (by decide)⟩
  · show Sq p e below m s₁ 0 #[rv a, iv 0] [] _
    refine XS.aloadN X0.here hx rfl (hb hby d2_0) rfl rfl ?_
    show Sq p e below m s₁ 1 #[rv a, iv 0] [.ref a] _
    refine st1 _ ?_
    show Sq p e below m T1 4 #[rv a, iv 0] [.ref b] _
    refine XS.iloadN X1.here hx rfl (hb hby d2_4) rfl ?_
    show Sq p e below m T1 5 #[rv a, iv 0] [.int 0, .ref b] _
    refine st2 _ ?_
    show Sq p e below m T1 6 #[rv a, iv 0] [.ref d0_] _
    jvm_step X1.here [X1.here.top, hx, (hb hby d2_6), X1.method', Bd.returns, Value.isRef, FieldType.isReference]
    first | (intro acts; rw [hr _ acts rfl rfl rfl]) | rw [hr _ _ rfl rfl rfl]
    exact Steps.refl _
  · show Q_lnget Z a b kb d0_ v1 v2 v3 v4 h0 n0 _ T1.heap _
    rw [e1]
    exact ⟨rfl, N0, rfl⟩
theorem d1_0 : decode prog_17_method_4_code 0 = .ok (.aload_n 0, 1) := by decide +kernel
theorem d1_1 : decode prog_17_method_4_code 1 = .ok (.getfield 13, 3) := by decide +kernel
theorem d1_4 : decode prog_17_method_4_code 4 = .ok (.iload_n 1, 1) := by decide +kernel
theorem d1_5 : decode prog_17_method_4_code 5 = .ok (.invokeinterface 41 2, 5) := by decide +kernel
theorem pd_16 : parseMethodDescriptor "(I)Ljava/lang/Object;" = some ⟨[.int], some (.object "java/lang/Object")⟩ := by decide +kernel
abbrev y_33 : MethodName := ⟨"java/util/List", "get", "(I)Ljava/lang/Object;"⟩
theorem d1_10 : decode prog_17_method_4_code 10 = .ok (.checkcast 45, 3) := by decide +kernel
theorem d1_13 : decode prog_17_method_4_code 13 = .ok (.areturn, 1) := by decide +kernel
def Q_delaft (Z : State) (a : Addr) (r : Addr) (b : Addr) (kb : ClassId) (d0_ : Addr) (v1 : Value) (v2 : Value) (v3 : Value) (v4 : Value) (h0 : Heap) (n0 : Nat) (v : Option Value) (h : Heap) (L : List Loc) : Prop := v = some (.ref d0_) ∧ Fr n0 L ∧ h = h0
theorem ef_31 (m : MethodId) (x0 : Addr) (x1 : Int32) : entryFrame m #[(.ref x0), (.int x1)] 2 = mkF m 0 #[.val (.ref x0), .val (.int x1)] [] := by first | (simp [entryFrame, mkF, argsToLocals, Value.category]; done) | rfl
abbrev y_34 : MethodName := ⟨"com/example/savitri/savitri/store/RedriveSchedule", "delayAfter", "(I)Ljava/time/Duration;"⟩
set_option maxRecDepth 65536 in
set_option maxHeartbeats 40000000 in
theorem delaft (l : Launch) (Z : State) (a0 : Array Value) (hw : ∀ d ∈ tables_1, d.before a0 Z = true) (ws : List Jvm.Cond) (a : Addr) (r : Addr) (b : Addr) (kb : ClassId) (d0_ : Addr) (v1 : Value) (v2 : Value) (v3 : Value) (v4 : Value) (h0 : Heap) (n0 : Nat) (O : Old Z n0 h0) (Fd : Fld Z h0 a "com/example/savitri/savitri/store/RedriveSchedule" "delays" "Ljava/util/List;" (.ref r)) (Er : Exa Z h0 r "java/util/ImmutableCollections$ListN") (Fe : Fld Z h0 r "java/util/ImmutableCollections$ListN" "elements" "[Ljava/lang/Object;" (.ref b)) (Vb : Arv Z h0 b kb (.object "java/lang/Object") (5 : Int32) [(.ref d0_), v1, v2, v3, v4] .null) (Ed : Exa Z Z.heap d0_ "java/time/Duration") :
    Ctr l Z y_34 prog_17_method_4_code 2 (some (.object "java/time/Duration")) ws ({ frames := 1, cells := 0, slots := 0, locals := 13 } : Room) #[(.ref a), (.int (0 : Int32))] h0 (Q_delaft Z a r b kb d0_ v1 v2 v3 v4 h0 n0) := by
  refine MetFree.of_bodySF (plainFor_of_name pn_12) hisR ?_
  intro p e s m args below meth c s₁ Bd hml0 hP hK
  obtain ⟨rfl, hZ, hh⟩ := hP
  have W := fun (i : Nat) {d : Jvm.Cond} (h : tables_1[i]? = some d) => hw d (List.mem_of_getElem? h)
  have hx := Bd.exec
  have hby := Bd.bytes
  have hml : c.maxLocals = 2 := hml0
  have hown : s.vm.findClass "com/example/savitri/savitri/store/RedriveSchedule" = some m.cls := findClass_of_methodNamed Bd.named
  have hnm := (name_of_methodNamed Bd.named Bd.method).1
  have X0 : Stand p l e ({ frames := 1, cells := 0, slots := 0, locals := 13 } : Room) s m #[(.ref a), (.int (0 : Int32))] below meth c s₁ [] 0 0 := Stand.of_body Bd
  have e0 : s₁.heap = h0 := by rw [← hh, Bd.state]; rfl
  have N0 := Fr.nil n0
  have pre0 : ∀ t, Steps p.tables e below (s₁.setTop (mkF m 0 #[.val (.ref a), .val (.int (0 : Int32))] [])) t → Steps p.tables e below (s₁.setTop (entryFrame m #[(.ref a), (.int (0 : Int32))] 2)) t := fun t kk_ => castTop (ef_31 m a (0 : Int32)) kk_
  obtain ⟨T1, X1, e1, st1⟩ := getF X0 hx hZ hown (host := "") (Or.inl (W 8 rfl)) Via.refl e0 Fd (g := (mkF m 1 #[rv a, iv 0] [.ref a])) rfl rfl (hb hby d1_1)
  obtain ⟨cq2, kq2, q2a, q2b, q2c⟩ := isOf hZ e1 Er
  obtain ⟨_, _, ⟨T2, L2, k2, n2⟩, -, X2, ⟨Lc2, hQ2, l2, y2, z2⟩, st2⟩ := X1.interfaceBack hx (xi := y_33) (y := y_32) hown (mvT hZ (W 10 rfl)) (mvT hZ (W 11 rfl)) (mvT hZ (W 12 rfl)) (mvT hZ (W 13 rfl)) (mvT hZ (W 14 rfl)) (mvT hZ (W 15 rfl)) (mvT hZ (W 16 rfl)) (mvT hZ (W 17 rfl)) (by decide) (backOf (W := 0) (lnget l Z a0 hw [] r b kb d0_ v1 v2 v3 v4 h0 n0 O Fe Vb) hZ (W 19 rfl) (W 18 rfl) (by decide) (by decide)) q2a q2b q2c (g := (mkF m 5 #[rv a, iv 0] [.int 0, .ref r])) rfl (by rw [hml]; rfl) (Steps.refl _) (argsL := [.int 0]) (rest := []) (lenOf pd_16 rfl) rfl (by show 2 * 0 + _ ≤ _; exact Nat.le_of_eq rfl) (hb hby d1_5) (fun _ _ => ⟨rfl, e1, (by decide : 0 + 0 ≤ _), (by decide : 0 + 0 ≤ _)⟩)
  dsimp only [Pt.U, Pt.locs, Pt.cells, Pt.slots] at X2 l2 y2 z2 st2 hQ2
  subst l2 y2 z2
  obtain ⟨h2, e2⟩ : ∃ z, T2.heap = z := ⟨_, rfl⟩
  rw [e2] at hQ2
  obtain ⟨rfl, N2q, p2_0⟩ := hQ2
  have N2 := Fr.app N0 N2q
  rw [p2_0] at e2
  obtain ⟨T3, X3, e3, st3⟩ := castY X2 hx hZ hown (W 22 rfl) e2 (Ins.self (Ed.ext O.2)) (g := (mkF m 10 #[rv a, iv 0] [.ref d0_])) rfl rfl (hb hby d1_10)
  obtain ⟨fs, hr, hrun, hended, hW, hsame⟩ := X3.leave (v := some (.ref d0_)) (fun h => by rw [Bd.returns] at h; cases h)
  refine ⟨_, _, pre0 _ ?_, hrun, hended, _, _, rfl, ?_, ⟨_, rfl⟩, hW, hsame.mono (by decide) (by decide)⟩
  · show Sq p e below m s₁ 0 #[rv a, iv 0] [] _
    refine XS.aloadN X0.here hx rfl (hb hby d1_0) rfl rfl ?_
    show Sq p e below m s₁ 1 #[rv a, iv 0] [.ref a] _
    refine st1 _ ?_
    show Sq p e below m T1 4 #[rv a, iv 0] [.ref r] _
    refine XS.iloadN X1.here hx rfl (hb hby d1_4) rfl ?_
    show Sq p e below m T1 5 #[rv a, iv 0] [.int 0, .ref r] _
    refine st2.trans ?_
    show Sq p e below m T2 10 #[rv a, iv 0] [.ref d0_] _
    refine st3 _ ?_
    show Sq p e below m T3 13 #[rv a, iv 0] [.ref d0_] _
    jvm_step X3.here [X3.here.top, hx, (hb hby d1_13), X3.method', Bd.returns, Value.isRef, FieldType.isReference]
    first | (intro acts; rw [hr _ acts rfl rfl rfl]) | rw [hr _ _ rfl rfl rfl]
    exact Steps.refl _
  · show Q_delaft Z a r b kb d0_ v1 v2 v3 v4 h0 n0 _ T3.heap _
    rw [e3]
    exact ⟨rfl, N2, rfl⟩
theorem d13_0 : decode prog_17_method_3_code 0 = .ok (.aload_n 1, 1) := by decide +kernel
theorem d13_1 : decode prog_17_method_3_code 1 = .ok (.getstatic 23, 3) := by decide +kernel
theorem d13_4 : decode prog_17_method_3_code 4 = .ok (.if_acmp .ne 18, 3) := by decide +kernel
theorem d13_22 : decode prog_17_method_3_code 22 = .ok (.getstatic 38, 3) := by decide +kernel
theorem d13_25 : decode prog_17_method_3_code 25 = .ok (.astore_n 3, 1) := by decide +kernel
theorem d13_26 : decode prog_17_method_3_code 26 = .ok (.aload_n 3, 1) := by decide +kernel
theorem d13_27 : decode prog_17_method_3_code 27 = .ok (.areturn, 1) := by decide +kernel
def Q_stD (Z : State) (a : Addr) (r3 : Int32) (w_DATA : Addr) (w_TRANSIENT : Addr) (w_FAILED : Addr) (h0 : Heap) (n0 : Nat) (v : Option Value) (h : Heap) (L : List Loc) : Prop := v = some (.ref w_FAILED) ∧ Fr n0 L ∧ h = h0
theorem ef_32 (m : MethodId) (x0 : Addr) (x1 : Addr) (x2 : Int32) : entryFrame m #[(.ref x0), (.ref x1), (.int x2)] 4 = mkF m 0 #[.val (.ref x0), .val (.ref x1), .val (.int x2), .unset] [] := by first | (simp [entryFrame, mkF, argsToLocals, Value.category]; done) | rfl
abbrev y_35 : MethodName := ⟨"com/example/savitri/savitri/store/RedriveSchedule", "statusAfter", "(Lcom/example/savitri/savitri/client/FailureKind;I)Lcom/example/savitri/savitri/store/DeadLetterStatus;"⟩
set_option maxRecDepth 65536 in
set_option maxHeartbeats 40000000 in
theorem stD (l : Launch) (Z : State) (a0 : Array Value) (hw : ∀ d ∈ tables_1, d.before a0 Z = true) (ws : List Jvm.Cond) (a : Addr) (r3 : Int32) (w_DATA : Addr) (w_TRANSIENT : Addr) (w_FAILED : Addr) (h0 : Heap) (n0 : Nat) (O : Old Z n0 h0) (S_w_TRANSIENT : Sta Z Z.heap "com/example/savitri/savitri/client/FailureKind" "TRANSIENT" "Lcom/example/savitri/savitri/client/FailureKind;" (.ref w_TRANSIENT)) (S_w_FAILED : Sta Z Z.heap "com/example/savitri/savitri/store/DeadLetterStatus" "FAILED" "Lcom/example/savitri/savitri/store/DeadLetterStatus;" (.ref w_FAILED)) (nek : w_DATA ≠ w_TRANSIENT) :
    Ctr l Z y_35 prog_17_method_3_code 4 (some (.object "com/example/savitri/savitri/store/DeadLetterStatus")) ws ({ frames := 0, cells := 0, slots := 0, locals := 0 } : Room) #[(.ref a), (.ref w_DATA), (.int r3)] h0 (Q_stD Z a r3 w_DATA w_TRANSIENT w_FAILED h0 n0) := by
  refine MetFree.of_bodySF (plainFor_of_name pn_12) hisR ?_
  intro p e s m args below meth c s₁ Bd hml0 hP hK
  obtain ⟨rfl, hZ, hh⟩ := hP
  have W := fun (i : Nat) {d : Jvm.Cond} (h : tables_1[i]? = some d) => hw d (List.mem_of_getElem? h)
  have hx := Bd.exec
  have hby := Bd.bytes
  have hml : c.maxLocals = 4 := hml0
  have hown : s.vm.findClass "com/example/savitri/savitri/store/RedriveSchedule" = some m.cls := findClass_of_methodNamed Bd.named
  have hnm := (name_of_methodNamed Bd.named Bd.method).1
  have X0 : Stand p l e ({ frames := 0, cells := 0, slots := 0, locals := 0 } : Room) s m #[(.ref a), (.ref w_DATA), (.int r3)] below meth c s₁ [] 0 0 := Stand.of_body Bd
  have e0 : s₁.heap = h0 := by rw [← hh, Bd.state]; rfl
  have N0 := Fr.nil n0
  have pre0 : ∀ t, Steps p.tables e below (s₁.setTop (mkF m 0 #[.val (.ref a), .val (.ref w_DATA), .val (.int r3), .unset] [])) t → Steps p.tables e below (s₁.setTop (entryFrame m #[(.ref a), (.ref w_DATA), (.int r3)] 4)) t := fun t kk_ => castTop (ef_32 m a w_DATA r3) kk_
  obtain ⟨T1, X1, e1, st1⟩ := getS2 X0 hx hZ hown (host := "") (Or.inl (W 98 rfl)) Via.refl e0 (S_w_TRANSIENT.ext O.2) (g := (mkF m 1 #[rv a, rv w_DATA, iv r3, .unset] [.ref w_DATA])) rfl (hb hby d13_1)
  obtain ⟨T2, X2, e2, st2⟩ := getS2 X1 hx hZ hown (host := "") (Or.inl (W 112 rfl)) Via.refl e1 (S_w_FAILED.ext O.2) (g := (mkF m 22 #[rv a, rv w_DATA, iv r3, .unset] [])) rfl (hb hby d13_22)
  obtain ⟨fs, hr, hrun, hended, hW, hsame⟩ := X2.leave (v := some (.ref w_FAILED)) (fun h => by rw [Bd.returns] at h; cases h)
  refine ⟨_, _, pre0 _ ?_, hrun, hended, _, _, rfl, ?_, ⟨_, rfl⟩, hW, hsame.mono (by decide) (by decide)⟩
  · show Sq p e below m s₁ 0 #[rv a, rv w_DATA, iv r3, .unset] [] _
    refine XS.aloadN X0.here hx rfl (hb hby d13_0) rfl rfl ?_
    show Sq p e below m s₁ 1 #[rv a, rv w_DATA, iv r3, .unset] [.ref w_DATA] _
    refine st1 _ ?_
    show Sq p e below m T1 4 #[rv a, rv w_DATA, iv r3, .unset] [.ref w_TRANSIENT, .ref w_DATA] _
    refine Jvm.RoadKit.acmp (g := (mkF m 4 #[rv a, rv w_DATA, iv r3, .unset] [.ref w_TRANSIENT, .ref w_DATA])) X1 hx rfl rfl rfl (pc0 := 4) (pc' := 22) (same := false) rfl (hb hby d13_4) rfl (decide_eq_false fun q => nek (Value.ref.inj q)) (by decide) (by decide) ?_
    show Sq p e below m T1 22 #[rv a, rv w_DATA, iv r3, .unset] [] _
    refine st2 _ ?_
    show Sq p e below m T2 25 #[rv a, rv w_DATA, iv r3, .unset] [.ref w_FAILED] _
    refine XS.astoreN X2.here hx rfl (hb hby d13_25) rfl rfl rfl ?_
    refine XS.aloadN X2.here hx rfl (hb hby d13_26) rfl rfl ?_
    show Sq p e below m T2 27 #[rv a, rv w_DATA, iv r3, rv w_FAILED] [.ref w_FAILED] _
    jvm_step X2.here [X2.here.top, hx, (hb hby d13_27), X2.method', Bd.returns, Value.isRef, FieldType.isReference]
    first | (intro acts; rw [hr _ acts rfl rfl rfl]) | rw [hr _ _ rfl rfl rfl]
    exact Steps.refl _
  · show Q_stD Z a r3 w_DATA w_TRANSIENT w_FAILED h0 n0 _ T2.heap _
    rw [e2]
    exact ⟨rfl, N0, rfl⟩
theorem d13_7 : decode prog_17_method_3_code 7 = .ok (.iload_n 2, 1) := by decide +kernel
theorem d13_8 : decode prog_17_method_3_code 8 = .ok (.aload_n 0, 1) := by decide +kernel
theorem d13_9 : decode prog_17_method_3_code 9 = .ok (.invokevirtual 29, 3) := by decide +kernel
theorem d13_12 : decode prog_17_method_3_code 12 = .ok (.if_icmp .ge 10, 3) := by decide +kernel
theorem d13_15 : decode prog_17_method_3_code 15 = .ok (.getstatic 32, 3) := by decide +kernel
theorem d13_18 : decode prog_17_method_3_code 18 = .ok (.astore_n 3, 1) := by decide +kernel
theorem d13_19 : decode prog_17_method_3_code 19 = .ok (.goto 7, 3) := by decide +kernel
def Q_sqN1 (Z : State) (a : Addr) (r3 : Int32) (w_TRANSIENT : Addr) (w_PENDING : Addr) (r : Addr) (g : Addr) (kg : ClassId) (k : Int32) (vs : List Value) (h0 : Heap) (n0 : Nat) (v : Option Value) (h : Heap) (L : List Loc) : Prop := v = some (.ref w_PENDING) ∧ Fr n0 L ∧ h = h0
set_option maxRecDepth 65536 in
set_option maxHeartbeats 40000000 in
theorem sqN1 (l : Launch) (Z : State) (a0 : Array Value) (hw : ∀ d ∈ tables_1, d.before a0 Z = true) (ws : List Jvm.Cond) (a : Addr) (r3 : Int32) (w_TRANSIENT : Addr) (w_PENDING : Addr) (r : Addr) (g : Addr) (kg : ClassId) (k : Int32) (vs : List Value) (h0 : Heap) (n0 : Nat) (O : Old Z n0 h0) (Ea : Exa Z h0 a "com/example/savitri/savitri/store/RedriveSchedule") (Fd : Fld Z h0 a "com/example/savitri/savitri/store/RedriveSchedule" "delays" "Ljava/util/List;" (.ref r)) (Er : Exa Z h0 r "java/util/ImmutableCollections$ListN") (Fe : Fld Z h0 r "java/util/ImmutableCollections$ListN" "elements" "[Ljava/lang/Object;" (.ref g)) (Vg : Arv Z h0 g kg (.object "java/lang/Object") k vs .null) (S_w_TRANSIENT : Sta Z Z.heap "com/example/savitri/savitri/client/FailureKind" "TRANSIENT" "Lcom/example/savitri/savitri/client/FailureKind;" (.ref w_TRANSIENT)) (S_w_PENDING : Sta Z Z.heap "com/example/savitri/savitri/store/DeadLetterStatus" "PENDING" "Lcom/example/savitri/savitri/store/DeadLetterStatus;" (.ref w_PENDING)) (hrr : r3 < k) :
    Ctr l Z y_35 prog_17_method_3_code 4 (some (.object "com/example/savitri/savitri/store/DeadLetterStatus")) ws ({ frames := 2, cells := 0, slots := 0, locals := 25 } : Room) #[(.ref a), (.ref w_TRANSIENT), (.int r3)] h0 (Q_sqN1 Z a r3 w_TRANSIENT w_PENDING r g kg k vs h0 n0) := by
  refine MetFree.of_bodySF (plainFor_of_name pn_12) hisR ?_
  intro p e s m args below meth c s₁ Bd hml0 hP hK
  obtain ⟨rfl, hZ, hh⟩ := hP
  have W := fun (i : Nat) {d : Jvm.Cond} (h : tables_1[i]? = some d) => hw d (List.mem_of_getElem? h)
  have hx := Bd.exec
  have hby := Bd.bytes
  have hml : c.maxLocals = 4 := hml0
  have hown : s.vm.findClass "com/example/savitri/savitri/store/RedriveSchedule" = some m.cls := findClass_of_methodNamed Bd.named
  have hnm := (name_of_methodNamed Bd.named Bd.method).1
  have X0 : Stand p l e ({ frames := 2, cells := 0, slots := 0, locals := 25 } : Room) s m #[(.ref a), (.ref w_TRANSIENT), (.int r3)] below meth c s₁ [] 0 0 := Stand.of_body Bd
  have e0 : s₁.heap = h0 := by rw [← hh, Bd.state]; rfl
  have N0 := Fr.nil n0
  have pre0 : ∀ t, Steps p.tables e below (s₁.setTop (mkF m 0 #[.val (.ref a), .val (.ref w_TRANSIENT), .val (.int r3), .unset] [])) t → Steps p.tables e below (s₁.setTop (entryFrame m #[(.ref a), (.ref w_TRANSIENT), (.int r3)] 4)) t := fun t kk_ => castTop (ef_32 m a w_TRANSIENT r3) kk_
  obtain ⟨T1, X1, e1, st1⟩ := getS2 X0 hx hZ hown (host := "") (Or.inl (W 98 rfl)) Via.refl e0 (S_w_TRANSIENT.ext O.2) (g := (mkF m 1 #[rv a, rv w_TRANSIENT, iv r3, .unset] [.ref w_TRANSIENT])) rfl (hb hby d13_1)
  obtain ⟨cq2, kq2, q2a, q2b, q2c⟩ := isOf hZ e1 Ea
  obtain ⟨_, _, ⟨T2, L2, k2, n2⟩, -, X2, ⟨Lc2, hQ2, l2, y2, z2⟩, st2⟩ := X1.virtualBack hx (y := y_31) (z := y_31) hown (mvT hZ (W 99 rfl)) (mvT hZ (W 100 rfl)) (notFace_of_selects (args := #[]) (mvT hZ (W 102 rfl))) (mvT hZ (W 102 rfl)) (mvT hZ (W 101 rfl)) (by decide) (backOf (W := 1) (redrivesN l Z a0 hw [] a r g kg k vs h0 n0 O Fd Er Fe Vg) hZ (W 103 rfl) (W 1 rfl) (by decide) (by decide)) q2a q2c (g := (mkF m 9 #[rv a, rv w_TRANSIENT, iv r3, .unset] [.ref a, .int r3])) rfl (by rw [hml]; rfl) (Steps.refl _) (argsL := []) (rest := [.int r3]) (lenOf pd_15 rfl) rfl (by show 2 * 0 + _ ≤ _; exact Nat.le_of_eq rfl) (hb hby d13_9) (fun _ _ => ⟨rfl, e1, (by decide : 0 + 0 ≤ _), (by decide : 0 + 0 ≤ _)⟩)
  dsimp only [Pt.U, Pt.locs, Pt.cells, Pt.slots] at X2 l2 y2 z2 st2 hQ2
  subst l2 y2 z2
  obtain ⟨h2, e2⟩ : ∃ z, T2.heap = z := ⟨_, rfl⟩
  rw [e2] at hQ2
  obtain ⟨rfl, N2q, p2_0⟩ := hQ2
  have N2 := Fr.app N0 N2q
  rw [p2_0] at e2
  obtain ⟨T3, X3, e3, st3⟩ := getS2 X2 hx hZ hown (host := "") (Or.inl (W 235 rfl)) Via.refl e2 (S_w_PENDING.ext O.2) (g := (mkF m 15 #[rv a, rv w_TRANSIENT, iv r3, .unset] [])) rfl (hb hby d13_15)
  obtain ⟨fs, hr, hrun, hended, hW, hsame⟩ := X3.leave (v := some (.ref w_PENDING)) (fun h => by rw [Bd.returns] at h; cases h)
  refine ⟨_, _, pre0 _ ?_, hrun, hended, _, _, rfl, ?_, ⟨_, rfl⟩, hW, hsame.mono (by decide) (by decide)⟩
  · show Sq p e below m s₁ 0 #[rv a, rv w_TRANSIENT, iv r3, .unset] [] _
    refine XS.aloadN X0.here hx rfl (hb hby d13_0) rfl rfl ?_
    show Sq p e below m s₁ 1 #[rv a, rv w_TRANSIENT, iv r3, .unset] [.ref w_TRANSIENT] _
    refine st1 _ ?_
    show Sq p e below m T1 4 #[rv a, rv w_TRANSIENT, iv r3, .unset] [.ref w_TRANSIENT, .ref w_TRANSIENT] _
    refine Jvm.RoadKit.acmp (g := (mkF m 4 #[rv a, rv w_TRANSIENT, iv r3, .unset] [.ref w_TRANSIENT, .ref w_TRANSIENT])) X1 hx rfl rfl rfl (pc0 := 4) (pc' := 7) (same := true) rfl (hb hby d13_4) rfl (decide_eq_true rfl) (by decide) (by decide) ?_
    show Sq p e below m T1 7 #[rv a, rv w_TRANSIENT, iv r3, .unset] [] _
    refine XS.iloadN X1.here hx rfl (hb hby d13_7) rfl ?_
    refine XS.aloadN X1.here hx rfl (hb hby d13_8) rfl rfl ?_
    show Sq p e below m T1 9 #[rv a, rv w_TRANSIENT, iv r3, .unset] [.ref a, .int r3] _
    refine st2.trans ?_
    show Sq p e below m T2 12 #[rv a, rv w_TRANSIENT, iv r3, .unset] [.int k, .int r3] _
    refine XS.icmpNo X2.here hx rfl (hb hby d13_12) rfl (tlt hrr).2.1 ?_
    show Sq p e below m T2 15 #[rv a, rv w_TRANSIENT, iv r3, .unset] [] _
    refine st3 _ ?_
    show Sq p e below m T3 18 #[rv a, rv w_TRANSIENT, iv r3, .unset] [.ref w_PENDING] _
    refine XS.astoreN X3.here hx rfl (hb hby d13_18) rfl rfl rfl ?_
    refine XS.goto X3.here hx rfl (pc0 := 19) (pc' := 26) rfl (hb hby d13_19) (by decide) (by decide) ?_
    show Sq p e below m T3 26 #[rv a, rv w_TRANSIENT, iv r3, rv w_PENDING] [] _
    refine XS.aloadN X3.here hx rfl (hb hby d13_26) rfl rfl ?_
    show Sq p e below m T3 27 #[rv a, rv w_TRANSIENT, iv r3, rv w_PENDING] [.ref w_PENDING] _
    jvm_step X3.here [X3.here.top, hx, (hb hby d13_27), X3.method', Bd.returns, Value.isRef, FieldType.isReference]
    first | (intro acts; rw [hr _ acts rfl rfl rfl]) | rw [hr _ _ rfl rfl rfl]
    exact Steps.refl _
  · show Q_sqN1 Z a r3 w_TRANSIENT w_PENDING r g kg k vs h0 n0 _ T3.heap _
    rw [e3]
    exact ⟨rfl, N2, rfl⟩
def Q_sqN0 (Z : State) (a : Addr) (r3 : Int32) (w_TRANSIENT : Addr) (w_FAILED : Addr) (r : Addr) (g : Addr) (kg : ClassId) (k : Int32) (vs : List Value) (h0 : Heap) (n0 : Nat) (v : Option Value) (h : Heap) (L : List Loc) : Prop := v = some (.ref w_FAILED) ∧ Fr n0 L ∧ h = h0
set_option maxRecDepth 65536 in
set_option maxHeartbeats 40000000 in
theorem sqN0 (l : Launch) (Z : State) (a0 : Array Value) (hw : ∀ d ∈ tables_1, d.before a0 Z = true) (ws : List Jvm.Cond) (a : Addr) (r3 : Int32) (w_TRANSIENT : Addr) (w_FAILED : Addr) (r : Addr) (g : Addr) (kg : ClassId) (k : Int32) (vs : List Value) (h0 : Heap) (n0 : Nat) (O : Old Z n0 h0) (Ea : Exa Z h0 a "com/example/savitri/savitri/store/RedriveSchedule") (Fd : Fld Z h0 a "com/example/savitri/savitri/store/RedriveSchedule" "delays" "Ljava/util/List;" (.ref r)) (Er : Exa Z h0 r "java/util/ImmutableCollections$ListN") (Fe : Fld Z h0 r "java/util/ImmutableCollections$ListN" "elements" "[Ljava/lang/Object;" (.ref g)) (Vg : Arv Z h0 g kg (.object "java/lang/Object") k vs .null) (S_w_TRANSIENT : Sta Z Z.heap "com/example/savitri/savitri/client/FailureKind" "TRANSIENT" "Lcom/example/savitri/savitri/client/FailureKind;" (.ref w_TRANSIENT)) (S_w_FAILED : Sta Z Z.heap "com/example/savitri/savitri/store/DeadLetterStatus" "FAILED" "Lcom/example/savitri/savitri/store/DeadLetterStatus;" (.ref w_FAILED)) (hrr : ¬ (r3 < k)) :
    Ctr l Z y_35 prog_17_method_3_code 4 (some (.object "com/example/savitri/savitri/store/DeadLetterStatus")) ws ({ frames := 2, cells := 0, slots := 0, locals := 25 } : Room) #[(.ref a), (.ref w_TRANSIENT), (.int r3)] h0 (Q_sqN0 Z a r3 w_TRANSIENT w_FAILED r g kg k vs h0 n0) := by
  refine MetFree.of_bodySF (plainFor_of_name pn_12) hisR ?_
  intro p e s m args below meth c s₁ Bd hml0 hP hK
  obtain ⟨rfl, hZ, hh⟩ := hP
  have W := fun (i : Nat) {d : Jvm.Cond} (h : tables_1[i]? = some d) => hw d (List.mem_of_getElem? h)
  have hx := Bd.exec
  have hby := Bd.bytes
  have hml : c.maxLocals = 4 := hml0
  have hown : s.vm.findClass "com/example/savitri/savitri/store/RedriveSchedule" = some m.cls := findClass_of_methodNamed Bd.named
  have hnm := (name_of_methodNamed Bd.named Bd.method).1
  have X0 : Stand p l e ({ frames := 2, cells := 0, slots := 0, locals := 25 } : Room) s m #[(.ref a), (.ref w_TRANSIENT), (.int r3)] below meth c s₁ [] 0 0 := Stand.of_body Bd
  have e0 : s₁.heap = h0 := by rw [← hh, Bd.state]; rfl
  have N0 := Fr.nil n0
  have pre0 : ∀ t, Steps p.tables e below (s₁.setTop (mkF m 0 #[.val (.ref a), .val (.ref w_TRANSIENT), .val (.int r3), .unset] [])) t → Steps p.tables e below (s₁.setTop (entryFrame m #[(.ref a), (.ref w_TRANSIENT), (.int r3)] 4)) t := fun t kk_ => castTop (ef_32 m a w_TRANSIENT r3) kk_
  obtain ⟨T1, X1, e1, st1⟩ := getS2 X0 hx hZ hown (host := "") (Or.inl (W 98 rfl)) Via.refl e0 (S_w_TRANSIENT.ext O.2) (g := (mkF m 1 #[rv a, rv w_TRANSIENT, iv r3, .unset] [.ref w_TRANSIENT])) rfl (hb hby d13_1)
  obtain ⟨cq2, kq2, q2a, q2b, q2c⟩ := isOf hZ e1 Ea
  obtain ⟨_, _, ⟨T2, L2, k2, n2⟩, -, X2, ⟨Lc2, hQ2, l2, y2, z2⟩, st2⟩ := X1.virtualBack hx (y := y_31) (z := y_31) hown (mvT hZ (W 99 rfl)) (mvT hZ (W 100 rfl)) (notFace_of_selects (args := #[]) (mvT hZ (W 102 rfl))) (mvT hZ (W 102 rfl)) (mvT hZ (W 101 rfl)) (by decide) (backOf (W := 1) (redrivesN l Z a0 hw [] a r g kg k vs h0 n0 O Fd Er Fe Vg) hZ (W 103 rfl) (W 1 rfl) (by decide) (by decide)) q2a q2c (g := (mkF m 9 #[rv a, rv w_TRANSIENT, iv r3, .unset] [.ref a, .int r3])) rfl (by rw [hml]; rfl) (Steps.refl _) (argsL := []) (rest := [.int r3]) (lenOf pd_15 rfl) rfl (by show 2 * 0 + _ ≤ _; exact Nat.le_of_eq rfl) (hb hby d13_9) (fun _ _ => ⟨rfl, e1, (by decide : 0 + 0 ≤ _), (by decide : 0 + 0 ≤ _)⟩)
  dsimp only [Pt.U, Pt.locs, Pt.cells, Pt.slots] at X2 l2 y2 z2 st2 hQ2
  subst l2 y2 z2
  obtain ⟨h2, e2⟩ : ∃ z, T2.heap = z := ⟨_, rfl⟩
  rw [e2] at hQ2
  obtain ⟨rfl, N2q, p2_0⟩ := hQ2
  have N2 := Fr.app N0 N2q
  rw [p2_0] at e2
  obtain ⟨T3, X3, e3, st3⟩ := getS2 X2 hx hZ hown (host := "") (Or.inl (W 112 rfl)) Via.refl e2 (S_w_FAILED.ext O.2) (g := (mkF m 22 #[rv a, rv w_TRANSIENT, iv r3, .unset] [])) rfl (hb hby d13_22)
  obtain ⟨fs, hr, hrun, hended, hW, hsame⟩ := X3.leave (v := some (.ref w_FAILED)) (fun h => by rw [Bd.returns] at h; cases h)
  refine ⟨_, _, pre0 _ ?_, hrun, hended, _, _, rfl, ?_, ⟨_, rfl⟩, hW, hsame.mono (by decide) (by decide)⟩
  · show Sq p e below m s₁ 0 #[rv a, rv w_TRANSIENT, iv r3, .unset] [] _
    refine XS.aloadN X0.here hx rfl (hb hby d13_0) rfl rfl ?_
    show Sq p e below m s₁ 1 #[rv a, rv w_TRANSIENT, iv r3, .unset] [.ref w_TRANSIENT] _
    refine st1 _ ?_
    show Sq p e below m T1 4 #[rv a, rv w_TRANSIENT, iv r3, .unset] [.ref w_TRANSIENT, .ref w_TRANSIENT] _
    refine Jvm.RoadKit.acmp (g := (mkF m 4 #[rv a, rv w_TRANSIENT, iv r3, .unset] [.ref w_TRANSIENT, .ref w_TRANSIENT])) X1 hx rfl rfl rfl (pc0 := 4) (pc' := 7) (same := true) rfl (hb hby d13_4) rfl (decide_eq_true rfl) (by decide) (by decide) ?_
    show Sq p e below m T1 7 #[rv a, rv w_TRANSIENT, iv r3, .unset] [] _
    refine XS.iloadN X1.here hx rfl (hb hby d13_7) rfl ?_
    refine XS.aloadN X1.here hx rfl (hb hby d13_8) rfl rfl ?_
    show Sq p e below m T1 9 #[rv a, rv w_TRANSIENT, iv r3, .unset] [.ref a, .int r3] _
    refine st2.trans ?_
    show Sq p e below m T2 12 #[rv a, rv w_TRANSIENT, iv r3, .unset] [.int k, .int r3] _
    refine XS.icmpYes X2.here hx rfl (pc0 := 12) (pc' := 22) rfl (hb hby d13_12) rfl (flt hrr).2.1 (by decide) (by decide) ?_
    show Sq p e below m T2 22 #[rv a, rv w_TRANSIENT, iv r3, .unset] [] _
    refine st3 _ ?_
    show Sq p e below m T3 25 #[rv a, rv w_TRANSIENT, iv r3, .unset] [.ref w_FAILED] _
    refine XS.astoreN X3.here hx rfl (hb hby d13_25) rfl rfl rfl ?_
    refine XS.aloadN X3.here hx rfl (hb hby d13_26) rfl rfl ?_
    show Sq p e below m T3 27 #[rv a, rv w_TRANSIENT, iv r3, rv w_FAILED] [.ref w_FAILED] _
    jvm_step X3.here [X3.here.top, hx, (hb hby d13_27), X3.method', Bd.returns, Value.isRef, FieldType.isReference]
    first | (intro acts; rw [hr _ acts rfl rfl rfl]) | rw [hr _ _ rfl rfl rfl]
    exact Steps.refl _
  · show Q_sqN0 Z a r3 w_TRANSIENT w_FAILED r g kg k vs h0 n0 _ T3.heap _
    rw [e3]
    exact ⟨rfl, N2, rfl⟩
def Q_sq11 (Z : State) (a : Addr) (r3 : Int32) (w_TRANSIENT : Addr) (w_PENDING : Addr) (r : Addr) (w_EMPTY : Addr) (h0 : Heap) (n0 : Nat) (v : Option Value) (h : Heap) (L : List Loc) : Prop := v = some (.ref w_PENDING) ∧ Fr n0 L ∧ h = h0
set_option maxRecDepth 65536 in
set_option maxHeartbeats 40000000 in
theorem sq11 (l : Launch) (Z : State) (a0 : Array Value) (hw : ∀ d ∈ tables_1, d.before a0 Z = true) (ws : List Jvm.Cond) (a : Addr) (r3 : Int32) (w_TRANSIENT : Addr) (w_PENDING : Addr) (r : Addr) (w_EMPTY : Addr) (h0 : Heap) (n0 : Nat) (O : Old Z n0 h0) (Ea : Exa Z h0 a "com/example/savitri/savitri/store/RedriveSchedule") (Fd : Fld Z h0 a "com/example/savitri/savitri/store/RedriveSchedule" "delays" "Ljava/util/List;" (.ref r)) (Er : Exa Z h0 r "java/util/ImmutableCollections$List12") (Fe : Fld Z h0 r "java/util/ImmutableCollections$List12" "e1" "Ljava/lang/Object;" (.ref w_EMPTY)) (S_w_EMPTY : Sta Z Z.heap "java/util/ImmutableCollections" "EMPTY" "Ljava/lang/Object;" (.ref w_EMPTY)) (S_w_TRANSIENT : Sta Z Z.heap "com/example/savitri/savitri/client/FailureKind" "TRANSIENT" "Lcom/example/savitri/savitri/client/FailureKind;" (.ref w_TRANSIENT)) (S_w_PENDING : Sta Z Z.heap "com/example/savitri/savitri/store/DeadLetterStatus" "PENDING" "Lcom/example/savitri/savitri/store/DeadLetterStatus;" (.ref w_PENDING)) (hrr : r3 < (1 : Int32)) :
    Ctr l Z y_35 prog_17_method_3_code 4 (some (.object "com/example/savitri/savitri/store/DeadLetterStatus")) ws ({ frames := 2, cells := 0, slots := 0, locals := 25 } : Room) #[(.ref a), (.ref w_TRANSIENT), (.int r3)] h0 (Q_sq11 Z a r3 w_TRANSIENT w_PENDING r w_EMPTY h0 n0) := by
  refine MetFree.of_bodySF (plainFor_of_name pn_12) hisR ?_
  intro p e s m args below meth c s₁ Bd hml0 hP hK
  obtain ⟨rfl, hZ, hh⟩ := hP
  have W := fun (i : Nat) {d : Jvm.Cond} (h : tables_1[i]? = some d) => hw d (List.mem_of_getElem? h)
  have hx := Bd.exec
  have hby := Bd.bytes
  have hml : c.maxLocals = 4 := hml0
  have hown : s.vm.findClass "com/example/savitri/savitri/store/RedriveSchedule" = some m.cls := findClass_of_methodNamed Bd.named
  have hnm := (name_of_methodNamed Bd.named Bd.method).1
  have X0 : Stand p l e ({ frames := 2, cells := 0, slots := 0, locals := 25 } : Room) s m #[(.ref a), (.ref w_TRANSIENT), (.int r3)] below meth c s₁ [] 0 0 := Stand.of_body Bd
  have e0 : s₁.heap = h0 := by rw [← hh, Bd.state]; rfl
  have N0 := Fr.nil n0
  have pre0 : ∀ t, Steps p.tables e below (s₁.setTop (mkF m 0 #[.val (.ref a), .val (.ref w_TRANSIENT), .val (.int r3), .unset] [])) t → Steps p.tables e below (s₁.setTop (entryFrame m #[(.ref a), (.ref w_TRANSIENT), (.int r3)] 4)) t := fun t kk_ => castTop (ef_32 m a w_TRANSIENT r3) kk_
  obtain ⟨T1, X1, e1, st1⟩ := getS2 X0 hx hZ hown (host := "") (Or.inl (W 98 rfl)) Via.refl e0 (S_w_TRANSIENT.ext O.2) (g := (mkF m 1 #[rv a, rv w_TRANSIENT, iv r3, .unset] [.ref w_TRANSIENT])) rfl (hb hby d13_1)
  obtain ⟨cq2, kq2, q2a, q2b, q2c⟩ := isOf hZ e1 Ea
  obtain ⟨_, _, ⟨T2, L2, k2, n2⟩, -, X2, ⟨Lc2, hQ2, l2, y2, z2⟩, st2⟩ := X1.virtualBack hx (y := y_31) (z := y_31) hown (mvT hZ (W 99 rfl)) (mvT hZ (W 100 rfl)) (notFace_of_selects (args := #[]) (mvT hZ (W 102 rfl))) (mvT hZ (W 102 rfl)) (mvT hZ (W 101 rfl)) (by decide) (backOf (W := 1) (redrives1 l Z a0 hw [] a r w_EMPTY h0 n0 O Fd Er Fe S_w_EMPTY) hZ (W 103 rfl) (W 1 rfl) (by decide) (by decide)) q2a q2c (g := (mkF m 9 #[rv a, rv w_TRANSIENT, iv r3, .unset] [.ref a, .int r3])) rfl (by rw [hml]; rfl) (Steps.refl _) (argsL := []) (rest := [.int r3]) (lenOf pd_15 rfl) rfl (by show 2 * 0 + _ ≤ _; exact Nat.le_of_eq rfl) (hb hby d13_9) (fun _ _ => ⟨rfl, e1, (by decide : 0 + 0 ≤ _), (by decide : 0 + 0 ≤ _)⟩)
  dsimp only [Pt.U, Pt.locs, Pt.cells, Pt.slots] at X2 l2 y2 z2 st2 hQ2
  subst l2 y2 z2
  obtain ⟨h2, e2⟩ : ∃ z, T2.heap = z := ⟨_, rfl⟩
  rw [e2] at hQ2
  obtain ⟨rfl, N2q, p2_0⟩ := hQ2
  have N2 := Fr.app N0 N2q
  rw [p2_0] at e2
  obtain ⟨T3, X3, e3, st3⟩ := getS2 X2 hx hZ hown (host := "") (Or.inl (W 235 rfl)) Via.refl e2 (S_w_PENDING.ext O.2) (g := (mkF m 15 #[rv a, rv w_TRANSIENT, iv r3, .unset] [])) rfl (hb hby d13_15)
  obtain ⟨fs, hr, hrun, hended, hW, hsame⟩ := X3.leave (v := some (.ref w_PENDING)) (fun h => by rw [Bd.returns] at h; cases h)
  refine ⟨_, _, pre0 _ ?_, hrun, hended, _, _, rfl, ?_, ⟨_, rfl⟩, hW, hsame.mono (by decide) (by decide)⟩
  · show Sq p e below m s₁ 0 #[rv a, rv w_TRANSIENT, iv r3, .unset] [] _
    refine XS.aloadN X0.here hx rfl (hb hby d13_0) rfl rfl ?_
    show Sq p e below m s₁ 1 #[rv a, rv w_TRANSIENT, iv r3, .unset] [.ref w_TRANSIENT] _
    refine st1 _ ?_
    show Sq p e below m T1 4 #[rv a, rv w_TRANSIENT, iv r3, .unset] [.ref w_TRANSIENT, .ref w_TRANSIENT] _
    refine Jvm.RoadKit.acmp (g := (mkF m 4 #[rv a, rv w_TRANSIENT, iv r3, .unset] [.ref w_TRANSIENT, .ref w_TRANSIENT])) X1 hx rfl rfl rfl (pc0 := 4) (pc' := 7) (same := true) rfl (hb hby d13_4) rfl (decide_eq_true rfl) (by decide) (by decide) ?_
    show Sq p e below m T1 7 #[rv a, rv w_TRANSIENT, iv r3, .unset] [] _
    refine XS.iloadN X1.here hx rfl (hb hby d13_7) rfl ?_
    refine XS.aloadN X1.here hx rfl (hb hby d13_8) rfl rfl ?_
    show Sq p e below m T1 9 #[rv a, rv w_TRANSIENT, iv r3, .unset] [.ref a, .int r3] _
    refine st2.trans ?_
    show Sq p e below m T2 12 #[rv a, rv w_TRANSIENT, iv r3, .unset] [.int 1, .int r3] _
    refine XS.icmpNo X2.here hx rfl (hb hby d13_12) rfl (tlt hrr).2.1 ?_
    show Sq p e below m T2 15 #[rv a, rv w_TRANSIENT, iv r3, .unset] [] _
    refine st3 _ ?_
    show Sq p e below m T3 18 #[rv a, rv w_TRANSIENT, iv r3, .unset] [.ref w_PENDING] _
    refine XS.astoreN X3.here hx rfl (hb hby d13_18) rfl rfl rfl ?_
    refine XS.goto X3.here hx rfl (pc0 := 19) (pc' := 26) rfl (hb hby d13_19) (by decide) (by decide) ?_
    show Sq p e below m T3 26 #[rv a, rv w_TRANSIENT, iv r3, rv w_PENDING] [] _
    refine XS.aloadN X3.here hx rfl (hb hby d13_26) rfl rfl ?_
    show Sq p e below m T3 27 #[rv a, rv w_TRANSIENT, iv r3, rv w_PENDING] [.ref w_PENDING] _
    jvm_step X3.here [X3.here.top, hx, (hb hby d13_27), X3.method', Bd.returns, Value.isRef, FieldType.isReference]
    first | (intro acts; rw [hr _ acts rfl rfl rfl]) | rw [hr _ _ rfl rfl rfl]
    exact Steps.refl _
  · show Q_sq11 Z a r3 w_TRANSIENT w_PENDING r w_EMPTY h0 n0 _ T3.heap _
    rw [e3]
    exact ⟨rfl, N2, rfl⟩
def Q_sq10 (Z : State) (a : Addr) (r3 : Int32) (w_TRANSIENT : Addr) (w_FAILED : Addr) (r : Addr) (w_EMPTY : Addr) (h0 : Heap) (n0 : Nat) (v : Option Value) (h : Heap) (L : List Loc) : Prop := v = some (.ref w_FAILED) ∧ Fr n0 L ∧ h = h0
set_option maxRecDepth 65536 in
set_option maxHeartbeats 40000000 in
theorem sq10 (l : Launch) (Z : State) (a0 : Array Value) (hw : ∀ d ∈ tables_1, d.before a0 Z = true) (ws : List Jvm.Cond) (a : Addr) (r3 : Int32) (w_TRANSIENT : Addr) (w_FAILED : Addr) (r : Addr) (w_EMPTY : Addr) (h0 : Heap) (n0 : Nat) (O : Old Z n0 h0) (Ea : Exa Z h0 a "com/example/savitri/savitri/store/RedriveSchedule") (Fd : Fld Z h0 a "com/example/savitri/savitri/store/RedriveSchedule" "delays" "Ljava/util/List;" (.ref r)) (Er : Exa Z h0 r "java/util/ImmutableCollections$List12") (Fe : Fld Z h0 r "java/util/ImmutableCollections$List12" "e1" "Ljava/lang/Object;" (.ref w_EMPTY)) (S_w_EMPTY : Sta Z Z.heap "java/util/ImmutableCollections" "EMPTY" "Ljava/lang/Object;" (.ref w_EMPTY)) (S_w_TRANSIENT : Sta Z Z.heap "com/example/savitri/savitri/client/FailureKind" "TRANSIENT" "Lcom/example/savitri/savitri/client/FailureKind;" (.ref w_TRANSIENT)) (S_w_FAILED : Sta Z Z.heap "com/example/savitri/savitri/store/DeadLetterStatus" "FAILED" "Lcom/example/savitri/savitri/store/DeadLetterStatus;" (.ref w_FAILED)) (hrr : ¬ (r3 < (1 : Int32))) :
    Ctr l Z y_35 prog_17_method_3_code 4 (some (.object "com/example/savitri/savitri/store/DeadLetterStatus")) ws ({ frames := 2, cells := 0, slots := 0, locals := 25 } : Room) #[(.ref a), (.ref w_TRANSIENT), (.int r3)] h0 (Q_sq10 Z a r3 w_TRANSIENT w_FAILED r w_EMPTY h0 n0) := by
  refine MetFree.of_bodySF (plainFor_of_name pn_12) hisR ?_
  intro p e s m args below meth c s₁ Bd hml0 hP hK
  obtain ⟨rfl, hZ, hh⟩ := hP
  have W := fun (i : Nat) {d : Jvm.Cond} (h : tables_1[i]? = some d) => hw d (List.mem_of_getElem? h)
  have hx := Bd.exec
  have hby := Bd.bytes
  have hml : c.maxLocals = 4 := hml0
  have hown : s.vm.findClass "com/example/savitri/savitri/store/RedriveSchedule" = some m.cls := findClass_of_methodNamed Bd.named
  have hnm := (name_of_methodNamed Bd.named Bd.method).1
  have X0 : Stand p l e ({ frames := 2, cells := 0, slots := 0, locals := 25 } : Room) s m #[(.ref a), (.ref w_TRANSIENT), (.int r3)] below meth c s₁ [] 0 0 := Stand.of_body Bd
  have e0 : s₁.heap = h0 := by rw [← hh, Bd.state]; rfl
  have N0 := Fr.nil n0
  have pre0 : ∀ t, Steps p.tables e below (s₁.setTop (mkF m 0 #[.val (.ref a), .val (.ref w_TRANSIENT), .val (.int r3), .unset] [])) t → Steps p.tables e below (s₁.setTop (entryFrame m #[(.ref a), (.ref w_TRANSIENT), (.int r3)] 4)) t := fun t kk_ => castTop (ef_32 m a w_TRANSIENT r3) kk_
  obtain ⟨T1, X1, e1, st1⟩ := getS2 X0 hx hZ hown (host := "") (Or.inl (W 98 rfl)) Via.refl e0 (S_w_TRANSIENT.ext O.2) (g := (mkF m 1 #[rv a, rv w_TRANSIENT, iv r3, .unset] [.ref w_TRANSIENT])) rfl (hb hby d13_1)
  obtain ⟨cq2, kq2, q2a, q2b, q2c⟩ := isOf hZ e1 Ea
  obtain ⟨_, _, ⟨T2, L2, k2, n2⟩, -, X2, ⟨Lc2, hQ2, l2, y2, z2⟩, st2⟩ := X1.virtualBack hx (y := y_31) (z := y_31) hown (mvT hZ (W 99 rfl)) (mvT hZ (W 100 rfl)) (notFace_of_selects (args := #[]) (mvT hZ (W 102 rfl))) (mvT hZ (W 102 rfl)) (mvT hZ (W 101 rfl)) (by decide) (backOf (W := 1) (redrives1 l Z a0 hw [] a r w_EMPTY h0 n0 O Fd Er Fe S_w_EMPTY) hZ (W 103 rfl) (W 1 rfl) (by decide) (by decide)) q2a q2c (g := (mkF m 9 #[rv a, rv w_TRANSIENT, iv r3, .unset] [.ref a, .int r3])) rfl (by rw [hml]; rfl) (Steps.refl _) (argsL := []) (rest := [.int r3]) (lenOf pd_15 rfl) rfl (by show 2 * 0 + _ ≤ _; exact Nat.le_of_eq rfl) (hb hby d13_9) (fun _ _ => ⟨rfl, e1, (by decide : 0 + 0 ≤ _), (by decide : 0 + 0 ≤ _)⟩)
  dsimp only [Pt.U, Pt.locs, Pt.cells, Pt.slots] at X2 l2 y2 z2 st2 hQ2
  subst l2 y2 z2
  obtain ⟨h2, e2⟩ : ∃ z, T2.heap = z := ⟨_, rfl⟩
  rw [e2] at hQ2
  obtain ⟨rfl, N2q, p2_0⟩ := hQ2
  have N2 := Fr.app N0 N2q
  rw [p2_0] at e2
  obtain ⟨T3, X3, e3, st3⟩ := getS2 X2 hx hZ hown (host := "") (Or.inl (W 112 rfl)) Via.refl e2 (S_w_FAILED.ext O.2) (g := (mkF m 22 #[rv a, rv w_TRANSIENT, iv r3, .unset] [])) rfl (hb hby d13_22)
  obtain ⟨fs, hr, hrun, hended, hW, hsame⟩ := X3.leave (v := some (.ref w_FAILED)) (fun h => by rw [Bd.returns] at h; cases h)
  refine ⟨_, _, pre0 _ ?_, hrun, hended, _, _, rfl, ?_, ⟨_, rfl⟩, hW, hsame.mono (by decide) (by decide)⟩
  · show Sq p e below m s₁ 0 #[rv a, rv w_TRANSIENT, iv r3, .unset] [] _
    refine XS.aloadN X0.here hx rfl (hb hby d13_0) rfl rfl ?_
    show Sq p e below m s₁ 1 #[rv a, rv w_TRANSIENT, iv r3, .unset] [.ref w_TRANSIENT] _
    refine st1 _ ?_
    show Sq p e below m T1 4 #[rv a, rv w_TRANSIENT, iv r3, .unset] [.ref w_TRANSIENT, .ref w_TRANSIENT] _
    refine Jvm.RoadKit.acmp (g := (mkF m 4 #[rv a, rv w_TRANSIENT, iv r3, .unset] [.ref w_TRANSIENT, .ref w_TRANSIENT])) X1 hx rfl rfl rfl (pc0 := 4) (pc' := 7) (same := true) rfl (hb hby d13_4) rfl (decide_eq_true rfl) (by decide) (by decide) ?_
    show Sq p e below m T1 7 #[rv a, rv w_TRANSIENT, iv r3, .unset] [] _
    refine XS.iloadN X1.here hx rfl (hb hby d13_7) rfl ?_
    refine XS.aloadN X1.here hx rfl (hb hby d13_8) rfl rfl ?_
    show Sq p e below m T1 9 #[rv a, rv w_TRANSIENT, iv r3, .unset] [.ref a, .int r3] _
    refine st2.trans ?_
    show Sq p e below m T2 12 #[rv a, rv w_TRANSIENT, iv r3, .unset] [.int 1, .int r3] _
    refine XS.icmpYes X2.here hx rfl (pc0 := 12) (pc' := 22) rfl (hb hby d13_12) rfl (flt hrr).2.1 (by decide) (by decide) ?_
    show Sq p e below m T2 22 #[rv a, rv w_TRANSIENT, iv r3, .unset] [] _
    refine st3 _ ?_
    show Sq p e below m T3 25 #[rv a, rv w_TRANSIENT, iv r3, .unset] [.ref w_FAILED] _
    refine XS.astoreN X3.here hx rfl (hb hby d13_25) rfl rfl rfl ?_
    refine XS.aloadN X3.here hx rfl (hb hby d13_26) rfl rfl ?_
    show Sq p e below m T3 27 #[rv a, rv w_TRANSIENT, iv r3, rv w_FAILED] [.ref w_FAILED] _
    jvm_step X3.here [X3.here.top, hx, (hb hby d13_27), X3.method', Bd.returns, Value.isRef, FieldType.isReference]
    first | (intro acts; rw [hr _ acts rfl rfl rfl]) | rw [hr _ _ rfl rfl rfl]
    exact Steps.refl _
  · show Q_sq10 Z a r3 w_TRANSIENT w_FAILED r w_EMPTY h0 n0 _ T3.heap _
    rw [e3]
    exact ⟨rfl, N2, rfl⟩
def Q_sq21 (Z : State) (a : Addr) (r3 : Int32) (w_TRANSIENT : Addr) (w_PENDING : Addr) (r : Addr) (y2 : Addr) (w_EMPTY : Addr) (h0 : Heap) (n0 : Nat) (v : Option Value) (h : Heap) (L : List Loc) : Prop := v = some (.ref w_PENDING) ∧ Fr n0 L ∧ h = h0
set_option maxRecDepth 65536 in
set_option maxHeartbeats 40000000 in
theorem sq21 (l : Launch) (Z : State) (a0 : Array Value) (hw : ∀ d ∈ tables_1, d.before a0 Z = true) (ws : List Jvm.Cond) (a : Addr) (r3 : Int32) (w_TRANSIENT : Addr) (w_PENDING : Addr) (r : Addr) (y2 : Addr) (w_EMPTY : Addr) (h0 : Heap) (n0 : Nat) (O : Old Z n0 h0) (Ea : Exa Z h0 a "com/example/savitri/savitri/store/RedriveSchedule") (Fd : Fld Z h0 a "com/example/savitri/savitri/store/RedriveSchedule" "delays" "Ljava/util/List;" (.ref r)) (Er : Exa Z h0 r "java/util/ImmutableCollections$List12") (Fe : Fld Z h0 r "java/util/ImmutableCollections$List12" "e1" "Ljava/lang/Object;" (.ref y2)) (S_w_EMPTY : Sta Z Z.heap "java/util/ImmutableCollections" "EMPTY" "Ljava/lang/Object;" (.ref w_EMPTY)) (ne2 : y2 ≠ w_EMPTY) (S_w_TRANSIENT : Sta Z Z.heap "com/example/savitri/savitri/client/FailureKind" "TRANSIENT" "Lcom/example/savitri/savitri/client/FailureKind;" (.ref w_TRANSIENT)) (S_w_PENDING : Sta Z Z.heap "com/example/savitri/savitri/store/DeadLetterStatus" "PENDING" "Lcom/example/savitri/savitri/store/DeadLetterStatus;" (.ref w_PENDING)) (hrr : r3 < (2 : Int32)) :
    Ctr l Z y_35 prog_17_method_3_code 4 (some (.object "com/example/savitri/savitri/store/DeadLetterStatus")) ws ({ frames := 2, cells := 0, slots := 0, locals := 25 } : Room) #[(.ref a), (.ref w_TRANSIENT), (.int r3)] h0 (Q_sq21 Z a r3 w_TRANSIENT w_PENDING r y2 w_EMPTY h0 n0) := by
  refine MetFree.of_bodySF (plainFor_of_name pn_12) hisR ?_
  intro p e s m args below meth c s₁ Bd hml0 hP hK
  obtain ⟨rfl, hZ, hh⟩ := hP
  have W := fun (i : Nat) {d : Jvm.Cond} (h : tables_1[i]? = some d) => hw d (List.mem_of_getElem? h)
  have hx := Bd.exec
  have hby := Bd.bytes
  have hml : c.maxLocals = 4 := hml0
  have hown : s.vm.findClass "com/example/savitri/savitri/store/RedriveSchedule" = some m.cls := findClass_of_methodNamed Bd.named
  have hnm := (name_of_methodNamed Bd.named Bd.method).1
  have X0 : Stand p l e ({ frames := 2, cells := 0, slots := 0, locals := 25 } : Room) s m #[(.ref a), (.ref w_TRANSIENT), (.int r3)] below meth c s₁ [] 0 0 := Stand.of_body Bd
  have e0 : s₁.heap = h0 := by rw [← hh, Bd.state]; rfl
  have N0 := Fr.nil n0
  have pre0 : ∀ t, Steps p.tables e below (s₁.setTop (mkF m 0 #[.val (.ref a), .val (.ref w_TRANSIENT), .val (.int r3), .unset] [])) t → Steps p.tables e below (s₁.setTop (entryFrame m #[(.ref a), (.ref w_TRANSIENT), (.int r3)] 4)) t := fun t kk_ => castTop (ef_32 m a w_TRANSIENT r3) kk_
  obtain ⟨T1, X1, e1, st1⟩ := getS2 X0 hx hZ hown (host := "") (Or.inl (W 98 rfl)) Via.refl e0 (S_w_TRANSIENT.ext O.2) (g := (mkF m 1 #[rv a, rv w_TRANSIENT, iv r3, .unset] [.ref w_TRANSIENT])) rfl (hb hby d13_1)
  obtain ⟨cq2, kq2, q2a, q2b, q2c⟩ := isOf hZ e1 Ea
  obtain ⟨_, _, ⟨T2, L2, k2, n2⟩, -, X2, ⟨Lc2, hQ2, l2, y2, z2⟩, st2⟩ := X1.virtualBack hx (y := y_31) (z := y_31) hown (mvT hZ (W 99 rfl)) (mvT hZ (W 100 rfl)) (notFace_of_selects (args := #[]) (mvT hZ (W 102 rfl))) (mvT hZ (W 102 rfl)) (mvT hZ (W 101 rfl)) (by decide) (backOf (W := 1) (redrives2 l Z a0 hw [] a r y2 w_EMPTY h0 n0 O Fd Er Fe S_w_EMPTY ne2) hZ (W 103 rfl) (W 1 rfl) (by decide) (by decide)) q2a q2c (g := (mkF m 9 #[rv a, rv w_TRANSIENT, iv r3, .unset] [.ref a, .int r3])) rfl (by rw [hml]; rfl) (Steps.refl _) (argsL := []) (rest := [.int r3]) (lenOf pd_15 rfl) rfl (by show 2 * 0 + _ ≤ _; exact Nat.le_of_eq rfl) (hb hby d13_9) (fun _ _ => ⟨rfl, e1, (by decide : 0 + 0 ≤ _), (by decide : 0 + 0 ≤ _)⟩)
  dsimp only [Pt.U, Pt.locs, Pt.cells, Pt.slots] at X2 l2 y2 z2 st2 hQ2
  subst l2 y2 z2
  obtain ⟨h2, e2⟩ : ∃ z, T2.heap = z := ⟨_, rfl⟩
  rw [e2] at hQ2
  obtain ⟨rfl, N2q, p2_0⟩ := hQ2
  have N2 := Fr.app N0 N2q
  rw [p2_0] at e2
  obtain ⟨T3, X3, e3, st3⟩ := getS2 X2 hx hZ hown (host := "") (Or.inl (W 235 rfl)) Via.refl e2 (S_w_PENDING.ext O.2) (g := (mkF m 15 #[rv a, rv w_TRANSIENT, iv r3, .unset] [])) rfl (hb hby d13_15)
  obtain ⟨fs, hr, hrun, hended, hW, hsame⟩ := X3.leave (v := some (.ref w_PENDING)) (fun h => by rw [Bd.returns] at h; cases h)
  refine ⟨_, _, pre0 _ ?_, hrun, hended, _, _, rfl, ?_, ⟨_, rfl⟩, hW, hsame.mono (by decide) (by decide)⟩
  · show Sq p e below m s₁ 0 #[rv a, rv w_TRANSIENT, iv r3, .unset] [] _
    refine XS.aloadN X0.here hx rfl (hb hby d13_0) rfl rfl ?_
    show Sq p e below m s₁ 1 #[rv a, rv w_TRANSIENT, iv r3, .unset] [.ref w_TRANSIENT] _
    refine st1 _ ?_
    show Sq p e below m T1 4 #[rv a, rv w_TRANSIENT, iv r3, .unset] [.ref w_TRANSIENT, .ref w_TRANSIENT] _
    refine Jvm.RoadKit.acmp (g := (mkF m 4 #[rv a, rv w_TRANSIENT, iv r3, .unset] [.ref w_TRANSIENT, .ref w_TRANSIENT])) X1 hx rfl rfl rfl (pc0 := 4) (pc' := 7) (same := true) rfl (hb hby d13_4) rfl (decide_eq_true rfl) (by decide) (by decide) ?_
    show Sq p e below m T1 7 #[rv a, rv w_TRANSIENT, iv r3, .unset] [] _
    refine XS.iloadN X1.here hx rfl (hb hby d13_7) rfl ?_
    refine XS.aloadN X1.here hx rfl (hb hby d13_8) rfl rfl ?_
    show Sq p e below m T1 9 #[rv a, rv w_TRANSIENT, iv r3, .unset] [.ref a, .int r3] _
    refine st2.trans ?_
    show Sq p e below m T2 12 #[rv a, rv w_TRANSIENT, iv r3, .unset] [.int 2, .int r3] _
    refine XS.icmpNo X2.here hx rfl (hb hby d13_12) rfl (tlt hrr).2.1 ?_
    show Sq p e below m T2 15 #[rv a, rv w_TRANSIENT, iv r3, .unset] [] _
    refine st3 _ ?_
    show Sq p e below m T3 18 #[rv a, rv w_TRANSIENT, iv r3, .unset] [.ref w_PENDING] _
    refine XS.astoreN X3.here hx rfl (hb hby d13_18) rfl rfl rfl ?_
    refine XS.goto X3.here hx rfl (pc0 := 19) (pc' := 26) rfl (hb hby d13_19) (by decide) (by decide) ?_
    show Sq p e below m T3 26 #[rv a, rv w_TRANSIENT, iv r3, rv w_PENDING] [] _
    refine XS.aloadN X3.here hx rfl (hb hby d13_26) rfl rfl ?_
    show Sq p e below m T3 27 #[rv a, rv w_TRANSIENT, iv r3, rv w_PENDING] [.ref w_PENDING] _
    jvm_step X3.here [X3.here.top, hx, (hb hby d13_27), X3.method', Bd.returns, Value.isRef, FieldType.isReference]
    first | (intro acts; rw [hr _ acts rfl rfl rfl]) | rw [hr _ _ rfl rfl rfl]
    exact Steps.refl _
  · show Q_sq21 Z a r3 w_TRANSIENT w_PENDING r y2 w_EMPTY h0 n0 _ T3.heap _
    rw [e3]
    exact ⟨rfl, N2, rfl⟩
def Q_sq20 (Z : State) (a : Addr) (r3 : Int32) (w_TRANSIENT : Addr) (w_FAILED : Addr) (r : Addr) (y2 : Addr) (w_EMPTY : Addr) (h0 : Heap) (n0 : Nat) (v : Option Value) (h : Heap) (L : List Loc) : Prop := v = some (.ref w_FAILED) ∧ Fr n0 L ∧ h = h0
set_option maxRecDepth 65536 in
set_option maxHeartbeats 40000000 in
theorem sq20 (l : Launch) (Z : State) (a0 : Array Value) (hw : ∀ d ∈ tables_1, d.before a0 Z = true) (ws : List Jvm.Cond) (a : Addr) (r3 : Int32) (w_TRANSIENT : Addr) (w_FAILED : Addr) (r : Addr) (y2 : Addr) (w_EMPTY : Addr) (h0 : Heap) (n0 : Nat) (O : Old Z n0 h0) (Ea : Exa Z h0 a "com/example/savitri/savitri/store/RedriveSchedule") (Fd : Fld Z h0 a "com/example/savitri/savitri/store/RedriveSchedule" "delays" "Ljava/util/List;" (.ref r)) (Er : Exa Z h0 r "java/util/ImmutableCollections$List12") (Fe : Fld Z h0 r "java/util/ImmutableCollections$List12" "e1" "Ljava/lang/Object;" (.ref y2)) (S_w_EMPTY : Sta Z Z.heap "java/util/ImmutableCollections" "EMPTY" "Ljava/lang/Object;" (.ref w_EMPTY)) (ne2 : y2 ≠ w_EMPTY) (S_w_TRANSIENT : Sta Z Z.heap "com/example/savitri/savitri/client/FailureKind" "TRANSIENT" "Lcom/example/savitri/savitri/client/FailureKind;" (.ref w_TRANSIENT)) (S_w_FAILED : Sta Z Z.heap "com/example/savitri/savitri/store/DeadLetterStatus" "FAILED" "Lcom/example/savitri/savitri/store/DeadLetterStatus;" (.ref w_FAILED)) (hrr : ¬ (r3 < (2 : Int32))) :
    Ctr l Z y_35 prog_17_method_3_code 4 (some (.object "com/example/savitri/savitri/store/DeadLetterStatus")) ws ({ frames := 2, cells := 0, slots := 0, locals := 25 } : Room) #[(.ref a), (.ref w_TRANSIENT), (.int r3)] h0 (Q_sq20 Z a r3 w_TRANSIENT w_FAILED r y2 w_EMPTY h0 n0) := by
  refine MetFree.of_bodySF (plainFor_of_name pn_12) hisR ?_
  intro p e s m args below meth c s₁ Bd hml0 hP hK
  obtain ⟨rfl, hZ, hh⟩ := hP
  have W := fun (i : Nat) {d : Jvm.Cond} (h : tables_1[i]? = some d) => hw d (List.mem_of_getElem? h)
  have hx := Bd.exec
  have hby := Bd.bytes
  have hml : c.maxLocals = 4 := hml0
  have hown : s.vm.findClass "com/example/savitri/savitri/store/RedriveSchedule" = some m.cls := findClass_of_methodNamed Bd.named
  have hnm := (name_of_methodNamed Bd.named Bd.method).1
  have X0 : Stand p l e ({ frames := 2, cells := 0, slots := 0, locals := 25 } : Room) s m #[(.ref a), (.ref w_TRANSIENT), (.int r3)] below meth c s₁ [] 0 0 := Stand.of_body Bd
  have e0 : s₁.heap = h0 := by rw [← hh, Bd.state]; rfl
  have N0 := Fr.nil n0
  have pre0 : ∀ t, Steps p.tables e below (s₁.setTop (mkF m 0 #[.val (.ref a), .val (.ref w_TRANSIENT), .val (.int r3), .unset] [])) t → Steps p.tables e below (s₁.setTop (entryFrame m #[(.ref a), (.ref w_TRANSIENT), (.int r3)] 4)) t := fun t kk_ => castTop (ef_32 m a w_TRANSIENT r3) kk_
  obtain ⟨T1, X1, e1, st1⟩ := getS2 X0 hx hZ hown (host := "") (Or.inl (W 98 rfl)) Via.refl e0 (S_w_TRANSIENT.ext O.2) (g := (mkF m 1 #[rv a, rv w_TRANSIENT, iv r3, .unset] [.ref w_TRANSIENT])) rfl (hb hby d13_1)
  obtain ⟨cq2, kq2, q2a, q2b, q2c⟩ := isOf hZ e1 Ea
  obtain ⟨_, _, ⟨T2, L2, k2, n2⟩, -, X2, ⟨Lc2, hQ2, l2, y2, z2⟩, st2⟩ := X1.virtualBack hx (y := y_31) (z := y_31) hown (mvT hZ (W 99 rfl)) (mvT hZ (W 100 rfl)) (notFace_of_selects (args := #[]) (mvT hZ (W 102 rfl))) (mvT hZ (W 102 rfl)) (mvT hZ (W 101 rfl)) (by decide) (backOf (W := 1) (redrives2 l Z a0 hw [] a r y2 w_EMPTY h0 n0 O Fd Er Fe S_w_EMPTY ne2) hZ (W 103 rfl) (W 1 rfl) (by decide) (by decide)) q2a q2c (g := (mkF m 9 #[rv a, rv w_TRANSIENT, iv r3, .unset] [.ref a, .int r3])) rfl (by rw [hml]; rfl) (Steps.refl _) (argsL := []) (rest := [.int r3]) (lenOf pd_15 rfl) rfl (by show 2 * 0 + _ ≤ _; exact Nat.le_of_eq rfl) (hb hby d13_9) (fun _ _ => ⟨rfl, e1, (by decide : 0 + 0 ≤ _), (by decide : 0 + 0 ≤ _)⟩)
  dsimp only [Pt.U, Pt.locs, Pt.cells, Pt.slots] at X2 l2 y2 z2 st2 hQ2
  subst l2 y2 z2
  obtain ⟨h2, e2⟩ : ∃ z, T2.heap = z := ⟨_, rfl⟩
  rw [e2] at hQ2
  obtain ⟨rfl, N2q, p2_0⟩ := hQ2
  have N2 := Fr.app N0 N2q
  rw [p2_0] at e2
  obtain ⟨T3, X3, e3, st3⟩ := getS2 X2 hx hZ hown (host := "") (Or.inl (W 112 rfl)) Via.refl e2 (S_w_FAILED.ext O.2) (g := (mkF m 22 #[rv a, rv w_TRANSIENT, iv r3, .unset] [])) rfl (hb hby d13_22)
  obtain ⟨fs, hr, hrun, hended, hW, hsame⟩ := X3.leave (v := some (.ref w_FAILED)) (fun h => by rw [Bd.returns] at h; cases h)
  refine ⟨_, _, pre0 _ ?_, hrun, hended, _, _, rfl, ?_, ⟨_, rfl⟩, hW, hsame.mono (by decide) (by decide)⟩
  · show Sq p e below m s₁ 0 #[rv a, rv w_TRANSIENT, iv r3, .unset] [] _
    refine XS.aloadN X0.here hx rfl (hb hby d13_0) rfl rfl ?_
    show Sq p e below m s₁ 1 #[rv a, rv w_TRANSIENT, iv r3, .unset] [.ref w_TRANSIENT] _
    refine st1 _ ?_
    show Sq p e below m T1 4 #[rv a, rv w_TRANSIENT, iv r3, .unset] [.ref w_TRANSIENT, .ref w_TRANSIENT] _
    refine Jvm.RoadKit.acmp (g := (mkF m 4 #[rv a, rv w_TRANSIENT, iv r3, .unset] [.ref w_TRANSIENT, .ref w_TRANSIENT])) X1 hx rfl rfl rfl (pc0 := 4) (pc' := 7) (same := true) rfl (hb hby d13_4) rfl (decide_eq_true rfl) (by decide) (by decide) ?_
    show Sq p e below m T1 7 #[rv a, rv w_TRANSIENT, iv r3, .unset] [] _
    refine XS.iloadN X1.here hx rfl (hb hby d13_7) rfl ?_
    refine XS.aloadN X1.here hx rfl (hb hby d13_8) rfl rfl ?_
    show Sq p e below m T1 9 #[rv a, rv w_TRANSIENT, iv r3, .unset] [.ref a, .int r3] _
    refine st2.trans ?_
    show Sq p e below m T2 12 #[rv a, rv w_TRANSIENT, iv r3, .unset] [.int 2, .int r3] _
    refine XS.icmpYes X2.here hx rfl (pc0 := 12) (pc' := 22) rfl (hb hby d13_12) rfl (flt hrr).2.1 (by decide) (by decide) ?_
    show Sq p e below m T2 22 #[rv a, rv w_TRANSIENT, iv r3, .unset] [] _
    refine st3 _ ?_
    show Sq p e below m T3 25 #[rv a, rv w_TRANSIENT, iv r3, .unset] [.ref w_FAILED] _
    refine XS.astoreN X3.here hx rfl (hb hby d13_25) rfl rfl rfl ?_
    refine XS.aloadN X3.here hx rfl (hb hby d13_26) rfl rfl ?_
    show Sq p e below m T3 27 #[rv a, rv w_TRANSIENT, iv r3, rv w_FAILED] [.ref w_FAILED] _
    jvm_step X3.here [X3.here.top, hx, (hb hby d13_27), X3.method', Bd.returns, Value.isRef, FieldType.isReference]
    first | (intro acts; rw [hr _ acts rfl rfl rfl]) | rw [hr _ _ rfl rfl rfl]
    exact Steps.refl _
  · show Q_sq20 Z a r3 w_TRANSIENT w_FAILED r y2 w_EMPTY h0 n0 _ T3.heap _
    rw [e3]
    exact ⟨rfl, N2, rfl⟩
theorem pd_17 : parseMethodDescriptor "(I)Ljava/time/Duration;" = some ⟨[.int], some (.object "java/time/Duration")⟩ := by decide +kernel
theorem pd_18 : parseMethodDescriptor "(Ljava/util/List;)V" = some ⟨[(.object "java/util/List")], none⟩ := by decide +kernel
theorem pd_19 : parseMethodDescriptor "(Lcom/example/savitri/savitri/client/FailureKind;I)Lcom/example/savitri/savitri/store/DeadLetterStatus;" = some ⟨[(.object "com/example/savitri/savitri/client/FailureKind"), .int], some (.object "com/example/savitri/savitri/store/DeadLetterStatus")⟩ := by decide +kernel
theorem pd_20 : parseMethodDescriptor "(Ljava/lang/Object;)Z" = some ⟨[(.object "java/lang/Object")], some .boolean⟩ := by decide +kernel
def Q_rm0 (Z : State) (p1 : Int32) (p2 : Int32) (p3 : Int32) (n : Int32) (w_STANDARD : Addr) (w_STANDARD_delays : Addr) (w_STANDARD_delays_elements : Addr) (w_STANDARD_delays_elements_0 : Addr) (w_TRANSIENT : Addr) (w_FAILED : Addr) (w_DATA : Addr) (w_PENDING : Addr) (w_STANDARD_delays_elements_1 : Addr) (w_STANDARD_delays_elements_2 : Addr) (w_STANDARD_delays_elements_3 : Addr) (w_STANDARD_delays_elements_4 : Addr) (w_DEF : Addr) (w_ELIST : Addr) (w_EMPTY : Addr) (w_ELIST_elements : Addr) (kdef : ClassId) (kel : ClassId) (k5 : ClassId) (w_MIR : Addr) (h0 : Heap) (n0 : Nat) (v : Option Value) (h : Heap) (L : List Loc) : Prop := v = some (.int (1 : Int32)) ∧ Fr n0 L
theorem ef_33 (m : MethodId) (x0 : Int32) (x1 : Int32) (x2 : Int32) : entryFrame m #[(.int x0), (.int x1), (.int x2)] maxLocals = mkF m 0 #[.val (.int x0), .val (.int x1), .val (.int x2), .unset, .unset, .unset, .unset, .unset, .unset, .unset, .unset, .unset, .unset] [] := by first | (simp [entryFrame, mkF, argsToLocals, Value.category, maxLocals]; done) | rfl
theorem pn_13 : plainName "com/example/savitri/savitri/store/RedriveScheduleStatusAfterPinLaw" = true := by first | (simp [plainName, overriddenIn]; done) | decide +kernel
set_option maxRecDepth 65536 in
set_option maxHeartbeats 40000000 in
theorem rm0 (l : Launch) (Z : State) (a0 : Array Value) (hw : ∀ d ∈ tables_1, d.before a0 Z = true) (ws : List Jvm.Cond) (p1 : Int32) (p2 : Int32) (p3 : Int32) (n : Int32) (w_STANDARD : Addr) (w_STANDARD_delays : Addr) (w_STANDARD_delays_elements : Addr) (w_STANDARD_delays_elements_0 : Addr) (w_TRANSIENT : Addr) (w_FAILED : Addr) (w_DATA : Addr) (w_PENDING : Addr) (w_STANDARD_delays_elements_1 : Addr) (w_STANDARD_delays_elements_2 : Addr) (w_STANDARD_delays_elements_3 : Addr) (w_STANDARD_delays_elements_4 : Addr) (w_DEF : Addr) (w_ELIST : Addr) (w_EMPTY : Addr) (w_ELIST_elements : Addr) (kdef : ClassId) (kel : ClassId) (k5 : ClassId) (w_MIR : Addr) (h0 : Heap) (n0 : Nat) (O : Old Z n0 h0) (S_w_STANDARD : Sta Z Z.heap "com/example/savitri/savitri/store/RedriveSchedule" "STANDARD" "Lcom/example/savitri/savitri/store/RedriveSchedule;" (.ref w_STANDARD)) (E_w_STANDARD : Exa Z Z.heap w_STANDARD "com/example/savitri/savitri/store/RedriveSchedule") (F_w_STANDARD_delays : Fld Z Z.heap w_STANDARD "com/example/savitri/savitri/store/RedriveSchedule" "delays" "Ljava/util/List;" (.ref w_STANDARD_delays)) (E_w_STANDARD_delays : Exa Z Z.heap w_STANDARD_delays "java/util/ImmutableCollections$ListN") (F_w_STANDARD_delays_elements : Fld Z Z.heap w_STANDARD_delays "java/util/ImmutableCollections$ListN" "elements" "[Ljava/lang/Object;" (.ref w_STANDARD_delays_elements)) (E_w_STANDARD_delays_elements_0 : Exa Z Z.heap w_STANDARD_delays_elements_0 "java/time/Duration") (S_w_TRANSIENT : Sta Z Z.heap "com/example/savitri/savitri/client/FailureKind" "TRANSIENT" "Lcom/example/savitri/savitri/client/FailureKind;" (.ref w_TRANSIENT)) (E_w_TRANSIENT : Exa Z Z.heap w_TRANSIENT "com/example/savitri/savitri/client/FailureKind") (S_w_FAILED : Sta Z Z.heap "com/example/savitri/savitri/store/DeadLetterStatus" "FAILED" "Lcom/example/savitri/savitri/store/DeadLetterStatus;" (.ref w_FAILED)) (E_w_FAILED : Exa Z Z.heap w_FAILED "com/example/savitri/savitri/store/DeadLetterStatus") (S_w_DATA : Sta Z Z.heap "com/example/savitri/savitri/client/FailureKind" "DATA" "Lcom/example/savitri/savitri/client/FailureKind;" (.ref w_DATA)) (E_w_DATA : Exa Z Z.heap w_DATA "com/example/savitri/savitri/client/FailureKind") (S_w_PENDING : Sta Z Z.heap "com/example/savitri/savitri/store/DeadLetterStatus" "PENDING" "Lcom/example/savitri/savitri/store/DeadLetterStatus;" (.ref w_PENDING)) (E_w_PENDING : Exa Z Z.heap w_PENDING "com/example/savitri/savitri/store/DeadLetterStatus") (E_w_STANDARD_delays_elements_1 : Exa Z Z.heap w_STANDARD_delays_elements_1 "java/time/Duration") (E_w_STANDARD_delays_elements_2 : Exa Z Z.heap w_STANDARD_delays_elements_2 "java/time/Duration") (E_w_STANDARD_delays_elements_3 : Exa Z Z.heap w_STANDARD_delays_elements_3 "java/time/Duration") (E_w_STANDARD_delays_elements_4 : Exa Z Z.heap w_STANDARD_delays_elements_4 "java/time/Duration") (S_w_DEF : Sta Z Z.heap "java/util/ArrayList" "DEFAULTCAPACITY_EMPTY_ELEMENTDATA" "[Ljava/lang/Object;" (.ref w_DEF)) (E_w_DEF : Exa Z Z.heap w_DEF "[Ljava/lang/Object;") (S_w_ELIST : Sta Z Z.heap "java/util/ImmutableCollections" "EMPTY_LIST" "Ljava/util/ImmutableCollections$ListN;" (.ref w_ELIST)) (E_w_ELIST : Exa Z Z.heap w_ELIST "java/util/ImmutableCollections$ListN") (S_w_EMPTY : Sta Z Z.heap "java/util/ImmutableCollections" "EMPTY" "Ljava/lang/Object;" (.ref w_EMPTY)) (E_w_EMPTY : Exa Z Z.heap w_EMPTY "java/lang/Object") (F_w_ELIST_elements : Fld Z Z.heap w_ELIST "java/util/ImmutableCollections$ListN" "elements" "[Ljava/lang/Object;" (.ref w_ELIST_elements)) (E_w_ELIST_elements : Exa Z Z.heap w_ELIST_elements "[Ljava/lang/Object;") (V_w_DEF : Arv Z Z.heap w_DEF kdef (.object "java/lang/Object") (0 : Int32) [] .null) (V_w_ELE : Arv Z Z.heap w_ELIST_elements kel (.object "java/lang/Object") (0 : Int32) [] .null) (V_5 : Arv Z Z.heap w_STANDARD_delays_elements k5 (.object "java/lang/Object") (5 : Int32) [(.ref w_STANDARD_delays_elements_0), (.ref w_STANDARD_delays_elements_1), (.ref w_STANDARD_delays_elements_2), (.ref w_STANDARD_delays_elements_3), (.ref w_STANDARD_delays_elements_4)] .null) (Mo : Mirr Z "[Ljava/lang/Object;" w_MIR) (nek : w_DATA ≠ w_TRANSIENT) (hn_ : (p1 &&& (7 : Int32)) = n) (hbn : 0 ≤ n.toInt ∧ n.toInt ≤ 7) :
    Ctr l Z x code maxLocals ret ws room_1 #[(.int p1), (.int p2), (.int p3)] h0 (Q_rm0 Z p1 p2 p3 n w_STANDARD w_STANDARD_delays w_STANDARD_delays_elements w_STANDARD_delays_elements_0 w_TRANSIENT w_FAILED w_DATA w_PENDING w_STANDARD_delays_elements_1 w_STANDARD_delays_elements_2 w_STANDARD_delays_elements_3 w_STANDARD_delays_elements_4 w_DEF w_ELIST w_EMPTY w_ELIST_elements kdef kel k5 w_MIR h0 n0) := by
  refine MetFree.of_bodySF (plainFor_of_name pn_13) hisR ?_
  intro p e s m args below meth c s₁ Bd hml0 hP hK
  obtain ⟨rfl, hZ, hh⟩ := hP
  have W := fun (i : Nat) {d : Jvm.Cond} (h : tables_1[i]? = some d) => hw d (List.mem_of_getElem? h)
  have hx := Bd.exec
  have hby := Bd.bytes
  have hml : c.maxLocals = 13 := hml0
  have hown : s.vm.findClass "com/example/savitri/savitri/store/RedriveScheduleStatusAfterPinLaw" = some m.cls := findClass_of_methodNamed Bd.named
  have hnm := (name_of_methodNamed Bd.named Bd.method).1
  have X0 : Stand p l e room_1 s m #[(.int p1), (.int p2), (.int p3)] below meth c s₁ [] 0 0 := Stand.of_body Bd
  have e0 : s₁.heap = h0 := by rw [← hh, Bd.state]; rfl
  have N0 := Fr.nil n0
  have pre0 : ∀ t, Steps p.tables e below (s₁.setTop (mkF m 0 #[.val (.int p1), .val (.int p2), .val (.int p3), .unset, .unset, .unset, .unset, .unset, .unset, .unset, .unset, .unset, .unset] [])) t → Steps p.tables e below (s₁.setTop (entryFrame m #[(.int p1), (.int p2), (.int p3)] maxLocals)) t := fun t kk_ => castTop (ef_33 m p1 p2 p3) kk_
  obtain ⟨T1, X1, e1, st1⟩ := getS2 X0 hx hZ hown (host := "") (Or.inl (W 0 rfl)) Via.refl e0 (S_w_STANDARD.ext O.2) (g := (mkF m 5 #[iv p1, iv p2, iv p3, iv n, .unset, .unset, .unset, .unset, .unset, .unset, .unset, .unset, .unset] [])) rfl (hb hby at_5)
  obtain ⟨cq2, kq2, q2a, q2b, q2c⟩ := isOf hZ e1 (E_w_STANDARD.ext O.2)
  obtain ⟨_, _, ⟨T2, L2, k2, n2⟩, -, X2, ⟨Lc2, hQ2, l2, y2, z2⟩, st2⟩ := X1.virtualBack hx (y := y_34) (z := y_34) hown (mvT hZ (W 3 rfl)) (mvT hZ (W 4 rfl)) (notFace_of_selects (args := #[]) (mvT hZ (W 6 rfl))) (mvT hZ (W 6 rfl)) (mvT hZ (W 5 rfl)) (by decide) (backOf (W := 0) (delaft l Z a0 hw [] w_STANDARD w_STANDARD_delays w_STANDARD_delays_elements k5 w_STANDARD_delays_elements_0 (.ref w_STANDARD_delays_elements_1) (.ref w_STANDARD_delays_elements_2) (.ref w_STANDARD_delays_elements_3) (.ref w_STANDARD_delays_elements_4) h0 n0 O (F_w_STANDARD_delays.ext O.2) (E_w_STANDARD_delays.ext O.2) (F_w_STANDARD_delays_elements.ext O.2) (V_5.ext O.2) E_w_STANDARD_delays_elements_0) hZ (W 7 rfl) (W 1 rfl) (by decide) (by decide)) q2a q2c (g := (mkF m 9 #[iv p1, iv p2, iv p3, iv n, .unset, .unset, .unset, .unset, .unset, .unset, .unset, .unset, .unset] [.int 0, .ref w_STANDARD])) rfl (by rw [hml]; rfl) (Steps.refl _) (argsL := [.int 0]) (rest := []) (lenOf pd_17 rfl) rfl (by show 2 * 0 + _ ≤ _; exact Nat.le_of_eq rfl) (hb hby at_9) (fun _ _ => ⟨rfl, e1, (by decide : 0 + 0 ≤ _), (by decide : 0 + 0 ≤ _)⟩)
  dsimp only [Pt.U, Pt.locs, Pt.cells, Pt.slots] at X2 l2 y2 z2 st2 hQ2
  subst l2 y2 z2
  obtain ⟨h2, e2⟩ : ∃ z, T2.heap = z := ⟨_, rfl⟩
  rw [e2] at hQ2
  obtain ⟨rfl, N2q, p2_0⟩ := hQ2
  have N2 := Fr.app N0 N2q
  rw [p2_0] at e2
  obtain ⟨T3, h3, X3, e3, E3, A3, D3, -, st3⟩ := newO X2 hx hZ hown (W 24 rfl) (W 25 rfl) (W 26 rfl) e2 (g := (mkF m 14 #[iv p1, iv p2, iv p3, iv n, rv w_STANDARD_delays_elements_0, .unset, .unset, .unset, .unset, .unset, .unset, .unset, .unset] [])) rfl (hb hby at_14) (by decide) (by decide)
  obtain ⟨b3, g3⟩ : ∃ z, z = h0.size := ⟨_, rfl⟩
  rw [← g3] at A3 D3 st3
  have g_b3 : n0 ≤ b3 := Nat.le_trans (own_sz O) (Nat.le_of_eq g3.symm)
  have O4 := O.ext E3
  have Fz6 : Fld Z h3 b3 "java/util/AbstractList" "modCount" "I" (.int (0 : Int32)) := D3 (Or.inl (W 46 rfl)) (ty := .int) (by decide)
  have Fz7 : Fld Z h3 b3 "java/util/ArrayList" "elementData" "[Ljava/lang/Object;" .null := D3 (Or.inl (W 49 rfl)) (ty := (.array (.object "java/lang/Object"))) (by decide)
  have Fz8 : Fld Z h3 b3 "java/util/ArrayList" "size" "I" (.int (0 : Int32)) := D3 (Or.inl (W 85 rfl)) (ty := .int) (by decide)
  obtain ⟨_, _, ⟨T9, L9, k9, n9⟩, -, X9, ⟨Lc9, hQ9, l9, y9, z9⟩, st9⟩ := X3.specialBack hx (y := y_2) rfl hown (mvT hZ (W 27 rfl)) (mvT hZ (W 28 rfl)) (mvT hZ (W 29 rfl)) (by decide) (backOf (W := 1) (alinit l Z a0 hw [] b3 w_DEF h3 n0 O4 A3 Fz7 Fz8 Fz6 g_b3 S_w_DEF) hZ (W 29 rfl) (W 26 rfl) (by decide) (by decide)) (g := (mkF m 18 #[iv p1, iv p2, iv p3, iv n, rv w_STANDARD_delays_elements_0, .unset, .unset, .unset, .unset, .unset, .unset, .unset, .unset] [.ref b3, .ref b3])) rfl (by rw [hml]; rfl) (Steps.refl _) (a := b3) (argsL := []) (rest := [.ref b3]) (lenOf pd_0 rfl) rfl (by show 2 * 0 + _ ≤ _; exact Nat.le_of_eq rfl) (hb hby at_18) (fun _ _ => ⟨rfl, e3, (by decide : 1 + 0 ≤ _), (by decide : 3 + 0 ≤ _)⟩)
  dsimp only [Pt.U, Pt.locs, Pt.cells, Pt.slots] at X9 l9 y9 z9 st9 hQ9
  subst l9 y9 z9
  obtain ⟨h9, e9⟩ : ∃ z, T9.heap = z := ⟨_, rfl⟩
  rw [e9] at hQ9
  obtain ⟨rfl, N9q, p9_0, p9_1, p9_2, p9_3⟩ := hQ9
  have N9 := Fr.app N2 N9q
  have A3 := A3.keep p9_0
  have O10 := O4.keep p9_0 (allS g_b3 all0)
  have pre12 : ∀ t, Steps p.tables e below (T9.setTop (mkF m 23 #[iv p1, iv p2, iv p3, iv n, rv w_STANDARD_delays_elements_0, rv b3, .unset, .unset, .unset, .unset, .unset, .unset, .unset] [])) t → Steps p.tables e below (s₁.setTop (entryFrame m #[(.int p1), (.int p2), (.int p3)] maxLocals)) t := by
    intro t kt
    refine pre0 _ ?_
    show Sq p e below m s₁ 0 #[iv p1, iv p2, iv p3, .unset, .unset, .unset, .unset, .unset, .unset, .unset, .unset, .unset, .unset] [] _
    refine XS.iloadN X0.here hx rfl (hb hby at_0) rfl ?_
    refine XS.bipush X0.here hx rfl (hb hby at_1) ?_
    show Sq p e below m s₁ 3 #[iv p1, iv p2, iv p3, .unset, .unset, .unset, .unset, .unset, .unset, .unset, .unset, .unset, .unset] [.int 7, .int p1] _
    refine XS.iand X0.here hx rfl (hb hby at_3) rfl ?_
    show Sq p e below m s₁ 4 #[iv p1, iv p2, iv p3, .unset, .unset, .unset, .unset, .unset, .unset, .unset, .unset, .unset, .unset] [.int (p1 &&& (7 : Int32))] _
    rw [hn_]
    show Sq p e below m s₁ 4 #[iv p1, iv p2, iv p3, .unset, .unset, .unset, .unset, .unset, .unset, .unset, .unset, .unset, .unset] [.int n] _
    refine XS.istoreN X0.here hx rfl (hb hby at_4) rfl rfl ?_
    show Sq p e below m s₁ 5 #[iv p1, iv p2, iv p3, iv n, .unset, .unset, .unset, .unset, .unset, .unset, .unset, .unset, .unset] [] _
    refine st1 _ ?_
    show Sq p e below m T1 8 #[iv p1, iv p2, iv p3, iv n, .unset, .unset, .unset, .unset, .unset, .unset, .unset, .unset, .unset] [.ref w_STANDARD] _
    refine XS.iconst X1.here hx rfl (hb hby at_8) ?_
    show Sq p e below m T1 9 #[iv p1, iv p2, iv p3, iv n, .unset, .unset, .unset, .unset, .unset, .unset, .unset, .unset, .unset] [.int 0, .ref w_STANDARD] _
    refine st2.trans ?_
    show Sq p e below m T2 12 #[iv p1, iv p2, iv p3, iv n, .unset, .unset, .unset, .unset, .unset, .unset, .unset, .unset, .unset] [.ref w_STANDARD_delays_elements_0] _
    refine XS.astore X2.here hx rfl (hb hby at_12) rfl rfl rfl ?_
    show Sq p e below m T2 14 #[iv p1, iv p2, iv p3, iv n, rv w_STANDARD_delays_elements_0, .unset, .unset, .unset, .unset, .unset, .unset, .unset, .unset] [] _
    refine st3 _ ?_
    show Sq p e below m T3 17 #[iv p1, iv p2, iv p3, iv n, rv w_STANDARD_delays_elements_0, .unset, .unset, .unset, .unset, .unset, .unset, .unset, .unset] [.ref b3] _
    refine XS.dup X3.here hx rfl (hb hby at_17) rfl rfl ?_
    show Sq p e below m T3 18 #[iv p1, iv p2, iv p3, iv n, rv w_STANDARD_delays_elements_0, .unset, .unset, .unset, .unset, .unset, .unset, .unset, .unset] [.ref b3, .ref b3] _
    refine st9.trans ?_
    show Sq p e below m T9 21 #[iv p1, iv p2, iv p3, iv n, rv w_STANDARD_delays_elements_0, .unset, .unset, .unset, .unset, .unset, .unset, .unset, .unset] [.ref b3] _
    refine XS.astore X9.here hx rfl (hb hby at_21) rfl rfl rfl ?_
    exact kt
  rcases own_s0 hbn with rfl | hs0
  · obtain ⟨T13, h13, X13, e13, E13, A13, D13, -, st13⟩ := newO X9 hx hZ hown (W 50 rfl) (W 51 rfl) (W 1 rfl) e9 (g := (mkF m 114 #[iv p1, iv p2, iv p3, iv 0, rv w_STANDARD_delays_elements_0, rv b3, .unset, .unset, .unset, .unset, .unset, .unset, .unset] [])) rfl (hb hby at_114) (by decide) (by decide)
    obtain ⟨b13, g13⟩ : ∃ z, z = h9.size := ⟨_, rfl⟩
    rw [← g13] at A13 D13 st13
    have g_b13 : n0 ≤ b13 := Nat.le_trans (own_sz O10) (Nat.le_of_eq g13.symm)
    have A3 := A3.ext E13
    have p9_2 := p9_2.ext E13
    have O14 := O10.ext E13
    have Fz16 : Fld Z h13 b13 "com/example/savitri/savitri/store/RedriveSchedule" "delays" "Ljava/util/List;" .null := D13 (Or.inr (W 9 rfl)) (ty := (.object "java/util/List")) (by decide)
    obtain ⟨_, _, ⟨T17, L17, k17, n17⟩, -, X17, ⟨Lc17, hQ17, l17, y17, z17⟩, st17⟩ := X13.specialBack hx (y := y_29) rfl hown (mvT hZ (W 52 rfl)) (mvT hZ (W 53 rfl)) (mvT hZ (W 54 rfl)) (by decide) (backOf (W := 1) (recin0 l Z a0 hw [] b13 b3 w_ELIST h13 n0 O14 A13 Fz16 g_b13 A3 p9_2 S_w_ELIST) hZ (W 54 rfl) (W 1 rfl) (by decide) (by decide)) (g := (mkF m 120 #[iv p1, iv p2, iv p3, iv 0, rv w_STANDARD_delays_elements_0, rv b3, .unset, .unset, .unset, .unset, .unset, .unset, .unset] [.ref b3, .ref b13, .ref b13])) rfl (by rw [hml]; rfl) (Steps.refl _) (a := b13) (argsL := [.ref b3]) (rest := [.ref b13]) (lenOf pd_18 rfl) rfl (by show 2 * 0 + _ ≤ _; exact Nat.le_of_eq rfl) (hb hby at_120) (fun _ _ => ⟨rfl, e13, (by decide : 2 + 0 ≤ _), (by decide : 4 + 0 ≤ _)⟩)
    dsimp only [Pt.U, Pt.locs, Pt.cells, Pt.slots] at X17 l17 y17 z17 st17 hQ17
    subst l17 y17 z17
    obtain ⟨h17, e17⟩ : ∃ z, T17.heap = z := ⟨_, rfl⟩
    rw [e17] at hQ17
    obtain ⟨rfl, N17q, p17_0, p17_1⟩ := hQ17
    have N17 := Fr.app N9 N17q
    have A13 := A13.keep p17_0
    have O18 := O14.keep p17_0 (allS g_b13 all0)
    have pre20 : ∀ t, Steps p.tables e below (T17.setTop (mkF m 128 #[iv p1, iv p2, iv p3, iv 0, rv w_STANDARD_delays_elements_0, rv b3, rv b13, .unset, .unset, .unset, .unset, .unset, .unset] [.int (p2 &&& (1 : Int32))])) t → Steps p.tables e below (s₁.setTop (entryFrame m #[(.int p1), (.int p2), (.int p3)] maxLocals)) t := by
      intro t kt
      refine pre12 _ ?_
      show Sq p e below m T9 23 #[iv p1, iv p2, iv p3, iv 0, rv w_STANDARD_delays_elements_0, rv b3, .unset, .unset, .unset, .unset, .unset, .unset, .unset] [] _
      refine XS.iloadN X9.here hx rfl (hb hby at_23) rfl ?_
      refine XS.ifYes X9.here hx rfl (pc0 := 24) (pc' := 35) rfl (hb hby at_24) rfl ((if0 _ _).trans (flt (by decide)).2.2.2) (by decide) (by decide) ?_
      show Sq p e below m T9 35 #[iv p1, iv p2, iv p3, iv 0, rv w_STANDARD_delays_elements_0, rv b3, .unset, .unset, .unset, .unset, .unset, .unset, .unset] [] _
      refine XS.iloadN X9.here hx rfl (hb hby at_35) rfl ?_
      refine XS.iconst X9.here hx rfl (hb hby at_36) ?_
      show Sq p e below m T9 37 #[iv p1, iv p2, iv p3, iv 0, rv w_STANDARD_delays_elements_0, rv b3, .unset, .unset, .unset, .unset, .unset, .unset, .unset] [.int 1, .int 0] _
      refine XS.icmpYes X9.here hx rfl (pc0 := 37) (pc' := 48) rfl (hb hby at_37) rfl (flt (by decide)).2.2.2 (by decide) (by decide) ?_
      refine XS.iloadN X9.here hx rfl (hb hby at_48) rfl ?_
      show Sq p e below m T9 49 #[iv p1, iv p2, iv p3, iv 0, rv w_STANDARD_delays_elements_0, rv b3, .unset, .unset, .unset, .unset, .unset, .unset, .unset] [.int 0] _
      refine XS.iconst X9.here hx rfl (hb hby at_49) ?_
      refine XS.icmpYes X9.here hx rfl (pc0 := 50) (pc' := 61) rfl (hb hby at_50) rfl (flt (by decide)).2.2.2 (by decide) (by decide) ?_
      show Sq p e below m T9 61 #[iv p1, iv p2, iv p3, iv 0, rv w_STANDARD_delays_elements_0, rv b3, .unset, .unset, .unset, .unset, .unset, .unset, .unset] [] _
      refine XS.iloadN X9.here hx rfl (hb hby at_61) rfl ?_
      refine XS.iconst X9.here hx rfl (hb hby at_62) ?_
      show Sq p e below m T9 63 #[iv p1, iv p2, iv p3, iv 0, rv w_STANDARD_delays_elements_0, rv b3, .unset, .unset, .unset, .unset, .unset, .unset, .unset] [.int 3, .int 0] _
      refine XS.icmpYes X9.here hx rfl (pc0 := 63) (pc' := 74) rfl (hb hby at_63) rfl (flt (by decide)).2.2.2 (by decide) (by decide) ?_
      refine XS.iloadN X9.here hx rfl (hb hby at_74) rfl ?_
      show Sq p e below m T9 75 #[iv p1, iv p2, iv p3, iv 0, rv w_STANDARD_delays_elements_0, rv b3, .unset, .unset, .unset, .unset, .unset, .unset, .unset] [.int 0] _
      refine XS.iconst X9.here hx rfl (hb hby at_75) ?_
      refine XS.icmpYes X9.here hx rfl (pc0 := 76) (pc' := 87) rfl (hb hby at_76) rfl (flt (by decide)).2.2.2 (by decide) (by decide) ?_
      show Sq p e below m T9 87 #[iv p1, iv p2, iv p3, iv 0, rv w_STANDARD_delays_elements_0, rv b3, .unset, .unset, .unset, .unset, .unset, .unset, .unset] [] _
      refine XS.iloadN X9.here hx rfl (hb hby at_87) rfl ?_
      refine XS.iconst X9.here hx rfl (hb hby at_88) ?_
      show Sq p e below m T9 89 #[iv p1, iv p2, iv p3, iv 0, rv w_STANDARD_delays_elements_0, rv b3, .unset, .unset, .unset, .unset, .unset, .unset, .unset] [.int 5, .int 0] _
      refine XS.icmpYes X9.here hx rfl (pc0 := 89) (pc' := 100) rfl (hb hby at_89) rfl (flt (by decide)).2.2.2 (by decide) (by decide) ?_
      refine XS.iloadN X9.here hx rfl (hb hby at_100) rfl ?_
      show Sq p e below m T9 101 #[iv p1, iv p2, iv p3, iv 0, rv w_STANDARD_delays_elements_0, rv b3, .unset, .unset, .unset, .unset, .unset, .unset, .unset] [.int 0] _
      refine XS.bipush X9.here hx rfl (hb hby at_101) ?_
      refine XS.icmpYes X9.here hx rfl (pc0 := 103) (pc' := 114) rfl (hb hby at_103) rfl (flt (by decide)).2.2.2 (by decide) (by decide) ?_
      show Sq p e below m T9 114 #[iv p1, iv p2, iv p3, iv 0, rv w_STANDARD_delays_elements_0, rv b3, .unset, .unset, .unset, .unset, .unset, .unset, .unset] [] _
      refine st13 _ ?_
      show Sq p e below m T13 117 #[iv p1, iv p2, iv p3, iv 0, rv w_STANDARD_delays_elements_0, rv b3, .unset, .unset, .unset, .unset, .unset, .unset, .unset] [.ref b13] _
      refine XS.dup X13.here hx rfl (hb hby at_117) rfl rfl ?_
      refine XS.aload X13.here hx rfl (hb hby at_118) rfl rfl ?_
      show Sq p e below m T13 120 #[iv p1, iv p2, iv p3, iv 0, rv w_STANDARD_delays_elements_0, rv b3, .unset, .unset, .unset, .unset, .unset, .unset, .unset] [.ref b3, .ref b13, .ref b13] _
      refine st17.trans ?_
      show Sq p e below m T17 123 #[iv p1, iv p2, iv p3, iv 0, rv w_STANDARD_delays_elements_0, rv b3, .unset, .unset, .unset, .unset, .unset, .unset, .unset] [.ref b13] _
      refine XS.astore X17.here hx rfl (hb hby at_123) rfl rfl rfl ?_
      refine XS.iloadN X17.here hx rfl (hb hby at_125) rfl ?_
      show Sq p e below m T17 126 #[iv p1, iv p2, iv p3, iv 0, rv w_STANDARD_delays_elements_0, rv b3, rv b13, .unset, .unset, .unset, .unset, .unset, .unset] [.int p2] _
      refine XS.iconst X17.here hx rfl (hb hby at_126) ?_
      refine XS.iand X17.here hx rfl (hb hby at_127) rfl ?_
      exact kt
    by_cases hc128 : (p2 &&& (1 : Int32)) = (0 : Int32)
    · obtain ⟨T21, X21, e21, st21⟩ := getS2 X17 hx hZ hown (host := "") (Or.inl (W 208 rfl)) Via.refl e17 (S_w_DATA.ext O18.2) (g := (mkF m 149 #[iv p1, iv p2, iv p3, iv 0, rv w_STANDARD_delays_elements_0, rv b3, rv b13, iv 0, .unset, .unset, .unset, .unset, .unset] [])) rfl (hb hby at_149)
      obtain ⟨cq22, kq22, q22a, q22b, q22c⟩ := isOf hZ e21 A13
      obtain ⟨_, _, ⟨T22, L22, k22, n22⟩, -, X22, ⟨Lc22, hQ22, l22, y22, z22⟩, st22⟩ := X21.virtualBack hx (y := y_35) (z := y_35) hown (mvT hZ (W 93 rfl)) (mvT hZ (W 94 rfl)) (notFace_of_selects (args := #[]) (mvT hZ (W 96 rfl))) (mvT hZ (W 96 rfl)) (mvT hZ (W 95 rfl)) (by decide) (backOf (W := 0) (stD l Z a0 hw [] b13 p3 w_DATA w_TRANSIENT w_FAILED h17 n0 O18 S_w_TRANSIENT S_w_FAILED nek) hZ (W 97 rfl) (W 1 rfl) (by decide) (by decide)) q22a q22c (g := (mkF m 159 #[iv p1, iv p2, iv p3, iv 0, rv w_STANDARD_delays_elements_0, rv b3, rv b13, iv 0, rv w_DATA, .unset, .unset, .unset, .unset] [.int p3, .ref w_DATA, .ref b13])) rfl (by rw [hml]; rfl) (Steps.refl _) (argsL := [.ref w_DATA, .int p3]) (rest := []) (lenOf pd_19 rfl) rfl (by show 2 * 0 + _ ≤ _; exact Nat.le_of_eq rfl) (hb hby at_159) (fun _ _ => ⟨rfl, e21, (by decide : 2 + 0 ≤ _), (by decide : 4 + 0 ≤ _)⟩)
      dsimp only [Pt.U, Pt.locs, Pt.cells, Pt.slots] at X22 l22 y22 z22 st22 hQ22
      subst l22 y22 z22
      obtain ⟨h22, e22⟩ : ∃ z, T22.heap = z := ⟨_, rfl⟩
      rw [e22] at hQ22
      obtain ⟨rfl, N22q, p22_0⟩ := hQ22
      have N22 := Fr.app N17 N22q
      rw [p22_0] at e22
      obtain ⟨T23, X23, e23, st23⟩ := getS2 X22 hx hZ hown (host := "") (Or.inl (W 115 rfl)) Via.refl e22 (S_w_FAILED.ext O18.2) (g := (mkF m 176 #[iv p1, iv p2, iv p3, iv 0, rv w_STANDARD_delays_elements_0, rv b3, rv b13, iv 0, rv w_DATA, rv w_FAILED, .val (.long ((0 : Int64) - (p3.toInt64))), .second, .unset] [])) rfl (hb hby at_176)
      obtain ⟨fs, hr, hrun, hended, hW, hsame⟩ := X23.leave (v := some (.int (1 : Int32))) (fun h => by rw [Bd.returns] at h; cases h)
      refine ⟨_, _, pre20 _ ?_, hrun, hended, _, _, rfl, ?_, ⟨_, rfl⟩, hW, hsame.mono (by decide) (by decide)⟩
      · show Sq p e below m T17 128 #[iv p1, iv p2, iv p3, iv 0, rv w_STANDARD_delays_elements_0, rv b3, rv b13, .unset, .unset, .unset, .unset, .unset, .unset] [.int (p2 &&& (1 : Int32))] _
        refine XS.ifYes X17.here hx rfl (pc0 := 128) (pc' := 135) rfl (hb hby at_128) rfl ((if0 _ _).trans (teq hc128).1) (by decide) (by decide) ?_
        refine XS.iconst X17.here hx rfl (hb hby at_135) ?_
        show Sq p e below m T17 136 #[iv p1, iv p2, iv p3, iv 0, rv w_STANDARD_delays_elements_0, rv b3, rv b13, .unset, .unset, .unset, .unset, .unset, .unset] [.int 0] _
        refine XS.istore X17.here hx rfl (hb hby at_136) rfl rfl ?_
        refine XS.iload X17.here hx rfl (hb hby at_138) rfl ?_
        show Sq p e below m T17 140 #[iv p1, iv p2, iv p3, iv 0, rv w_STANDARD_delays_elements_0, rv b3, rv b13, iv 0, .unset, .unset, .unset, .unset, .unset] [.int 0] _
        refine XS.ifYes X17.here hx rfl (pc0 := 140) (pc' := 149) rfl (hb hby at_140) rfl ((if0 _ _).trans (teq (rfl : (0 : Int32) = (0 : Int32))).1) (by decide) (by decide) ?_
        show Sq p e below m T17 149 #[iv p1, iv p2, iv p3, iv 0, rv w_STANDARD_delays_elements_0, rv b3, rv b13, iv 0, .unset, .unset, .unset, .unset, .unset] [] _
        refine st21 _ ?_
        show Sq p e below m T21 152 #[iv p1, iv p2, iv p3, iv 0, rv w_STANDARD_delays_elements_0, rv b3, rv b13, iv 0, .unset, .unset, .unset, .unset, .unset] [.ref w_DATA] _
        refine XS.astore X21.here hx rfl (hb hby at_152) rfl rfl rfl ?_
        refine XS.aload X21.here hx rfl (hb hby at_154) rfl rfl ?_
        show Sq p e below m T21 156 #[iv p1, iv p2, iv p3, iv 0, rv w_STANDARD_delays_elements_0, rv b3, rv b13, iv 0, rv w_DATA, .unset, .unset, .unset, .unset] [.ref b13] _
        refine XS.aload X21.here hx rfl (hb hby at_156) rfl rfl ?_
        refine XS.iloadN X21.here hx rfl (hb hby at_158) rfl ?_
        show Sq p e below m T21 159 #[iv p1, iv p2, iv p3, iv 0, rv w_STANDARD_delays_elements_0, rv b3, rv b13, iv 0, rv w_DATA, .unset, .unset, .unset, .unset] [.int p3, .ref w_DATA, .ref b13] _
        refine st22.trans ?_
        show Sq p e below m T22 162 #[iv p1, iv p2, iv p3, iv 0, rv w_STANDARD_delays_elements_0, rv b3, rv b13, iv 0, rv w_DATA, .unset, .unset, .unset, .unset] [.ref w_FAILED] _
        refine XS.astore X22.here hx rfl (hb hby at_162) rfl rfl rfl ?_
        refine XS.iloadN X22.here hx rfl (hb hby at_164) rfl ?_
        show Sq p e below m T22 165 #[iv p1, iv p2, iv p3, iv 0, rv w_STANDARD_delays_elements_0, rv b3, rv b13, iv 0, rv w_DATA, rv w_FAILED, .unset, .unset, .unset] [.int 0] _
        refine XS.i2l X22.here hx rfl (hb hby at_165) rfl ?_
        show Sq p e below m T22 166 #[iv p1, iv p2, iv p3, iv 0, rv w_STANDARD_delays_elements_0, rv b3, rv b13, iv 0, rv w_DATA, rv w_FAILED, .unset, .unset, .unset] [.long ((0 : Int32).toInt64)] _
        rw [show ((0 : Int32).toInt64) = (0 : Int64) from by decide]
        show Sq p e below m T22 166 #[iv p1, iv p2, iv p3, iv 0, rv w_STANDARD_delays_elements_0, rv b3, rv b13, iv 0, rv w_DATA, rv w_FAILED, .unset, .unset, .unset] [.long 0] _
        refine XS.iloadN X22.here hx rfl (hb hby at_166) rfl ?_
        refine XS.i2l X22.here hx rfl (hb hby at_167) rfl ?_
        show Sq p e below m T22 168 #[iv p1, iv p2, iv p3, iv 0, rv w_STANDARD_delays_elements_0, rv b3, rv b13, iv 0, rv w_DATA, rv w_FAILED, .unset, .unset, .unset] [.long (p3.toInt64), .long 0] _
        refine XS.lsub X22.here hx rfl (hb hby at_168) rfl ?_
        refine XS.lstore X22.here hx rfl (hb hby at_169) rfl rfl ?_
        show Sq p e below m T22 171 #[iv p1, iv p2, iv p3, iv 0, rv w_STANDARD_delays_elements_0, rv b3, rv b13, iv 0, rv w_DATA, rv w_FAILED, .val (.long ((0 : Int64) - (p3.toInt64))), .second, .unset] [] _
        refine XS.iload X22.here hx rfl (hb hby at_171) rfl ?_
        refine XS.ifNo X22.here hx rfl (hb hby at_173) rfl ((if0 _ _).trans (teq (rfl : (0 : Int32) = (0 : Int32))).2) ?_
        show Sq p e below m T22 176 #[iv p1, iv p2, iv p3, iv 0, rv w_STANDARD_delays_elements_0, rv b3, rv b13, iv 0, rv w_DATA, rv w_FAILED, .val (.long ((0 : Int64) - (p3.toInt64))), .second, .unset] [] _
        refine st23 _ ?_
        show Sq p e below m T23 179 #[iv p1, iv p2, iv p3, iv 0, rv w_STANDARD_delays_elements_0, rv b3, rv b13, iv 0, rv w_DATA, rv w_FAILED, .val (.long ((0 : Int64) - (p3.toInt64))), .second, .unset] [.ref w_FAILED] _
        refine XS.astore X23.here hx rfl (hb hby at_179) rfl rfl rfl ?_
        refine XS.goto X23.here hx rfl (pc0 := 181) (pc' := 204) rfl (hb hby at_181) (by decide) (by decide) ?_
        show Sq p e below m T23 204 #[iv p1, iv p2, iv p3, iv 0, rv w_STANDARD_delays_elements_0, rv b3, rv b13, iv 0, rv w_DATA, rv w_FAILED, .val (.long ((0 : Int64) - (p3.toInt64))), .second, rv w_FAILED] [] _
        refine XS.aload X23.here hx rfl (hb hby at_204) rfl rfl ?_
        refine XS.aload X23.here hx rfl (hb hby at_206) rfl rfl ?_
        show Sq p e below m T23 208 #[iv p1, iv p2, iv p3, iv 0, rv w_STANDARD_delays_elements_0, rv b3, rv b13, iv 0, rv w_DATA, rv w_FAILED, .val (.long ((0 : Int64) - (p3.toInt64))), .second, rv w_FAILED] [.ref w_FAILED, .ref w_FAILED] _
        refine Jvm.RoadKit.acmp (g := (mkF m 208 #[iv p1, iv p2, iv p3, iv 0, rv w_STANDARD_delays_elements_0, rv b3, rv b13, iv 0, rv w_DATA, rv w_FAILED, .val (.long ((0 : Int64) - (p3.toInt64))), .second, rv w_FAILED] [.ref w_FAILED, .ref w_FAILED])) X23 hx rfl rfl rfl (pc0 := 208) (pc' := 211) (same := true) rfl (hb hby at_208) rfl (decide_eq_true rfl) (by decide) (by decide) ?_
        show Sq p e below m T23 211 #[iv p1, iv p2, iv p3, iv 0, rv w_STANDARD_delays_elements_0, rv b3, rv b13, iv 0, rv w_DATA, rv w_FAILED, .val (.long ((0 : Int64) - (p3.toInt64))), .second, rv w_FAILED] [] _
        refine XS.iconst X23.here hx rfl (hb hby at_211) ?_
        refine XS.goto X23.here hx rfl (pc0 := 212) (pc' := 216) rfl (hb hby at_212) (by decide) (by decide) ?_
        show Sq p e below m T23 216 #[iv p1, iv p2, iv p3, iv 0, rv w_STANDARD_delays_elements_0, rv b3, rv b13, iv 0, rv w_DATA, rv w_FAILED, .val (.long ((0 : Int64) - (p3.toInt64))), .second, rv w_FAILED] [.int 1] _
        exact retN X23 hx (t := .boolean) Bd.returns (by simp) (hb hby at_216) hr
      · show Q_rm0 Z p1 p2 p3 (0 : Int32) w_STANDARD w_STANDARD_delays w_STANDARD_delays_elements w_STANDARD_delays_elements_0 w_TRANSIENT w_FAILED w_DATA w_PENDING w_STANDARD_delays_elements_1 w_STANDARD_delays_elements_2 w_STANDARD_delays_elements_3 w_STANDARD_delays_elements_4 w_DEF w_ELIST w_EMPTY w_ELIST_elements kdef kel k5 w_MIR h0 n0 _ T23.heap _
        rw [e23]
        exact ⟨rfl, N22⟩
    · obtain ⟨T21, X21, e21, st21⟩ := getS2 X17 hx hZ hown (host := "") (Or.inl (W 90 rfl)) Via.refl e17 (S_w_TRANSIENT.ext O18.2) (g := (mkF m 143 #[iv p1, iv p2, iv p3, iv 0, rv w_STANDARD_delays_elements_0, rv b3, rv b13, iv 1, .unset, .unset, .unset, .unset, .unset] [])) rfl (hb hby at_143)
      have pre22 : ∀ t, Steps p.tables e below (T21.setTop (mkF m 154 #[iv p1, iv p2, iv p3, iv 0, rv w_STANDARD_delays_elements_0, rv b3, rv b13, iv 1, rv w_TRANSIENT, .unset, .unset, .unset, .unset] [])) t → Steps p.tables e below (s₁.setTop (entryFrame m #[(.int p1), (.int p2), (.int p3)] maxLocals)) t := by
        intro t kt
        refine pre20 _ ?_
        show Sq p e below m T17 128 #[iv p1, iv p2, iv p3, iv 0, rv w_STANDARD_delays_elements_0, rv b3, rv b13, .unset, .unset, .unset, .unset, .unset, .unset] [.int (p2 &&& (1 : Int32))] _
        refine XS.ifNo X17.here hx rfl (hb hby at_128) rfl ((if0 _ _).trans (feq hc128).1) ?_
        refine XS.iconst X17.here hx rfl (hb hby at_131) ?_
        show Sq p e below m T17 132 #[iv p1, iv p2, iv p3, iv 0, rv w_STANDARD_delays_elements_0, rv b3, rv b13, .unset, .unset, .unset, .unset, .unset, .unset] [.int 1] _
        refine XS.goto X17.here hx rfl (pc0 := 132) (pc' := 136) rfl (hb hby at_132) (by decide) (by decide) ?_
        refine XS.istore X17.here hx rfl (hb hby at_136) rfl rfl ?_
        show Sq p e below m T17 138 #[iv p1, iv p2, iv p3, iv 0, rv w_STANDARD_delays_elements_0, rv b3, rv b13, iv 1, .unset, .unset, .unset, .unset, .unset] [] _
        refine XS.iload X17.here hx rfl (hb hby at_138) rfl ?_
        refine XS.ifNo X17.here hx rfl (hb hby at_140) rfl ((if0 _ _).trans (feq (by decide)).1) ?_
        show Sq p e below m T17 143 #[iv p1, iv p2, iv p3, iv 0, rv w_STANDARD_delays_elements_0, rv b3, rv b13, iv 1, .unset, .unset, .unset, .unset, .unset] [] _
        refine st21 _ ?_
        show Sq p e below m T21 146 #[iv p1, iv p2, iv p3, iv 0, rv w_STANDARD_delays_elements_0, rv b3, rv b13, iv 1, .unset, .unset, .unset, .unset, .unset] [.ref w_TRANSIENT] _
        refine XS.goto X21.here hx rfl (pc0 := 146) (pc' := 152) rfl (hb hby at_146) (by decide) (by decide) ?_
        refine XS.astore X21.here hx rfl (hb hby at_152) rfl rfl rfl ?_
        exact kt
      rcases Decidable.em (p3 < (0 : Int32)) with hrk | hrk
      · obtain ⟨cq23, kq23, q23a, q23b, q23c⟩ := isOf hZ e21 A13
        obtain ⟨_, _, ⟨T23, L23, k23, n23⟩, -, X23, ⟨Lc23, hQ23, l23, y23, z23⟩, st23⟩ := X21.virtualBack hx (y := y_35) (z := y_35) hown (mvT hZ (W 93 rfl)) (mvT hZ (W 94 rfl)) (notFace_of_selects (args := #[]) (mvT hZ (W 96 rfl))) (mvT hZ (W 96 rfl)) (mvT hZ (W 95 rfl)) (by decide) (backOf (W := 0) (sqN1 l Z a0 hw [] b13 p3 w_TRANSIENT w_PENDING w_ELIST w_ELIST_elements kel (0 : Int32) [] h17 n0 O18 A13 p17_1 (E_w_ELIST.ext O18.2) (F_w_ELIST_elements.ext O18.2) (V_w_ELE.ext O18.2) S_w_TRANSIENT S_w_PENDING hrk) hZ (W 97 rfl) (W 1 rfl) (by decide) (by decide)) q23a q23c (g := (mkF m 159 #[iv p1, iv p2, iv p3, iv 0, rv w_STANDARD_delays_elements_0, rv b3, rv b13, iv 1, rv w_TRANSIENT, .unset, .unset, .unset, .unset] [.int p3, .ref w_TRANSIENT, .ref b13])) rfl (by rw [hml]; rfl) (Steps.refl _) (argsL := [.ref w_TRANSIENT, .int p3]) (rest := []) (lenOf pd_19 rfl) rfl (by show 2 * 0 + _ ≤ _; exact Nat.le_of_eq rfl) (hb hby at_159) (fun _ _ => ⟨rfl, e21, (by decide : 2 + 0 ≤ _), (by decide : 4 + 0 ≤ _)⟩)
        dsimp only [Pt.U, Pt.locs, Pt.cells, Pt.slots] at X23 l23 y23 z23 st23 hQ23
        subst l23 y23 z23
        obtain ⟨h23, e23⟩ : ∃ z, T23.heap = z := ⟨_, rfl⟩
        rw [e23] at hQ23
        obtain ⟨rfl, N23q, p23_0⟩ := hQ23
        have N23 := Fr.app N17 N23q
        rw [p23_0] at e23
        obtain ⟨T24, X24, e24, st24⟩ := getS2 X23 hx hZ hown (host := "") (Or.inl (W 237 rfl)) Via.refl e23 (S_w_PENDING.ext O18.2) (g := (mkF m 191 #[iv p1, iv p2, iv p3, iv 0, rv w_STANDARD_delays_elements_0, rv b3, rv b13, iv 1, rv w_TRANSIENT, rv w_PENDING, .val (.long ((0 : Int64) - (p3.toInt64))), .second, .unset] [])) rfl (hb hby at_191)
        obtain ⟨fs, hr, hrun, hended, hW, hsame⟩ := X24.leave (v := some (.int (1 : Int32))) (fun h => by rw [Bd.returns] at h; cases h)
        refine ⟨_, _, pre22 _ ?_, hrun, hended, _, _, rfl, ?_, ⟨_, rfl⟩, hW, hsame.mono (by decide) (by decide)⟩
        · show Sq p e below m T21 154 #[iv p1, iv p2, iv p3, iv 0, rv w_STANDARD_delays_elements_0, rv b3, rv b13, iv 1, rv w_TRANSIENT, .unset, .unset, .unset, .unset] [] _
          refine XS.aload X21.here hx rfl (hb hby at_154) rfl rfl ?_
          refine XS.aload X21.here hx rfl (hb hby at_156) rfl rfl ?_
          show Sq p e below m T21 158 #[iv p1, iv p2, iv p3, iv 0, rv w_STANDARD_delays_elements_0, rv b3, rv b13, iv 1, rv w_TRANSIENT, .unset, .unset, .unset, .unset] [.ref w_TRANSIENT, .ref b13] _
          refine XS.iloadN X21.here hx rfl (hb hby at_158) rfl ?_
          show Sq p e below m T21 159 #[iv p1, iv p2, iv p3, iv 0, rv w_STANDARD_delays_elements_0, rv b3, rv b13, iv 1, rv w_TRANSIENT, .unset, .unset, .unset, .unset] [.int p3, .ref w_TRANSIENT, .ref b13] _
          refine st23.trans ?_
          show Sq p e below m T23 162 #[iv p1, iv p2, iv p3, iv 0, rv w_STANDARD_delays_elements_0, rv b3, rv b13, iv 1, rv w_TRANSIENT, .unset, .unset, .unset, .unset] [.ref w_PENDING] _
          refine XS.astore X23.here hx rfl (hb hby at_162) rfl rfl rfl ?_
          refine XS.iloadN X23.here hx rfl (hb hby at_164) rfl ?_
          show Sq p e below m T23 165 #[iv p1, iv p2, iv p3, iv 0, rv w_STANDARD_delays_elements_0, rv b3, rv b13, iv 1, rv w_TRANSIENT, rv w_PENDING, .unset, .unset, .unset] [.int 0] _
          refine XS.i2l X23.here hx rfl (hb hby at_165) rfl ?_
          show Sq p e below m T23 166 #[iv p1, iv p2, iv p3, iv 0, rv w_STANDARD_delays_elements_0, rv b3, rv b13, iv 1, rv w_TRANSIENT, rv w_PENDING, .unset, .unset, .unset] [.long ((0 : Int32).toInt64)] _
          rw [show ((0 : Int32).toInt64) = (0 : Int64) from by decide]
          show Sq p e below m T23 166 #[iv p1, iv p2, iv p3, iv 0, rv w_STANDARD_delays_elements_0, rv b3, rv b13, iv 1, rv w_TRANSIENT, rv w_PENDING, .unset, .unset, .unset] [.long 0] _
          refine XS.iloadN X23.here hx rfl (hb hby at_166) rfl ?_
          refine XS.i2l X23.here hx rfl (hb hby at_167) rfl ?_
          show Sq p e below m T23 168 #[iv p1, iv p2, iv p3, iv 0, rv w_STANDARD_delays_elements_0, rv b3, rv b13, iv 1, rv w_TRANSIENT, rv w_PENDING, .unset, .unset, .unset] [.long (p3.toInt64), .long 0] _
          refine XS.lsub X23.here hx rfl (hb hby at_168) rfl ?_
          refine XS.lstore X23.here hx rfl (hb hby at_169) rfl rfl ?_
          show Sq p e below m T23 171 #[iv p1, iv p2, iv p3, iv 0, rv w_STANDARD_delays_elements_0, rv b3, rv b13, iv 1, rv w_TRANSIENT, rv w_PENDING, .val (.long ((0 : Int64) - (p3.toInt64))), .second, .unset] [] _
          refine XS.iload X23.here hx rfl (hb hby at_171) rfl ?_
          refine XS.ifYes X23.here hx rfl (pc0 := 173) (pc' := 184) rfl (hb hby at_173) rfl ((if0 _ _).trans (feq (by decide)).2) (by decide) (by decide) ?_
          show Sq p e below m T23 184 #[iv p1, iv p2, iv p3, iv 0, rv w_STANDARD_delays_elements_0, rv b3, rv b13, iv 1, rv w_TRANSIENT, rv w_PENDING, .val (.long ((0 : Int64) - (p3.toInt64))), .second, .unset] [] _
          refine XS.lload X23.here hx rfl (hb hby at_184) rfl ?_
          refine XS.lconst X23.here hx rfl (hb hby at_186) ?_
          show Sq p e below m T23 187 #[iv p1, iv p2, iv p3, iv 0, rv w_STANDARD_delays_elements_0, rv b3, rv b13, iv 1, rv w_TRANSIENT, rv w_PENDING, .val (.long ((0 : Int64) - (p3.toInt64))), .second, .unset] [.long 1, .long ((0 : Int64) - (p3.toInt64))] _
          refine XS.lcmp X23.here hx rfl (hb hby at_187) rfl ?_
          refine XS.ifNo X23.here hx rfl (hb hby at_188) rfl ((if0 _ _).trans (flt (own_lf (k := (0 : Int32)) (by decide) hrk)).1) ?_
          show Sq p e below m T23 191 #[iv p1, iv p2, iv p3, iv 0, rv w_STANDARD_delays_elements_0, rv b3, rv b13, iv 1, rv w_TRANSIENT, rv w_PENDING, .val (.long ((0 : Int64) - (p3.toInt64))), .second, .unset] [] _
          refine st24 _ ?_
          show Sq p e below m T24 194 #[iv p1, iv p2, iv p3, iv 0, rv w_STANDARD_delays_elements_0, rv b3, rv b13, iv 1, rv w_TRANSIENT, rv w_PENDING, .val (.long ((0 : Int64) - (p3.toInt64))), .second, .unset] [.ref w_PENDING] _
          refine XS.astore X24.here hx rfl (hb hby at_194) rfl rfl rfl ?_
          refine XS.goto X24.here hx rfl (pc0 := 196) (pc' := 204) rfl (hb hby at_196) (by decide) (by decide) ?_
          show Sq p e below m T24 204 #[iv p1, iv p2, iv p3, iv 0, rv w_STANDARD_delays_elements_0, rv b3, rv b13, iv 1, rv w_TRANSIENT, rv w_PENDING, .val (.long ((0 : Int64) - (p3.toInt64))), .second, rv w_PENDING] [] _
          refine XS.aload X24.here hx rfl (hb hby at_204) rfl rfl ?_
          refine XS.aload X24.here hx rfl (hb hby at_206) rfl rfl ?_
          show Sq p e below m T24 208 #[iv p1, iv p2, iv p3, iv 0, rv w_STANDARD_delays_elements_0, rv b3, rv b13, iv 1, rv w_TRANSIENT, rv w_PENDING, .val (.long ((0 : Int64) - (p3.toInt64))), .second, rv w_PENDING] [.ref w_PENDING, .ref w_PENDING] _
          refine Jvm.RoadKit.acmp (g := (mkF m 208 #[iv p1, iv p2, iv p3, iv 0, rv w_STANDARD_delays_elements_0, rv b3, rv b13, iv 1, rv w_TRANSIENT, rv w_PENDING, .val (.long ((0 : Int64) - (p3.toInt64))), .second, rv w_PENDING] [.ref w_PENDING, .ref w_PENDING])) X24 hx rfl rfl rfl (pc0 := 208) (pc' := 211) (same := true) rfl (hb hby at_208) rfl (decide_eq_true rfl) (by decide) (by decide) ?_
          show Sq p e below m T24 211 #[iv p1, iv p2, iv p3, iv 0, rv w_STANDARD_delays_elements_0, rv b3, rv b13, iv 1, rv w_TRANSIENT, rv w_PENDING, .val (.long ((0 : Int64) - (p3.toInt64))), .second, rv w_PENDING] [] _
          refine XS.iconst X24.here hx rfl (hb hby at_211) ?_
          refine XS.goto X24.here hx rfl (pc0 := 212) (pc' := 216) rfl (hb hby at_212) (by decide) (by decide) ?_
          show Sq p e below m T24 216 #[iv p1, iv p2, iv p3, iv 0, rv w_STANDARD_delays_elements_0, rv b3, rv b13, iv 1, rv w_TRANSIENT, rv w_PENDING, .val (.long ((0 : Int64) - (p3.toInt64))), .second, rv w_PENDING] [.int 1] _
          exact retN X24 hx (t := .boolean) Bd.returns (by simp) (hb hby at_216) hr
        · show Q_rm0 Z p1 p2 p3 (0 : Int32) w_STANDARD w_STANDARD_delays w_STANDARD_delays_elements w_STANDARD_delays_elements_0 w_TRANSIENT w_FAILED w_DATA w_PENDING w_STANDARD_delays_elements_1 w_STANDARD_delays_elements_2 w_STANDARD_delays_elements_3 w_STANDARD_delays_elements_4 w_DEF w_ELIST w_EMPTY w_ELIST_elements kdef kel k5 w_MIR h0 n0 _ T24.heap _
          rw [e24]
          exact ⟨rfl, N23⟩
      · obtain ⟨cq23, kq23, q23a, q23b, q23c⟩ := isOf hZ e21 A13
        obtain ⟨_, _, ⟨T23, L23, k23, n23⟩, -, X23, ⟨Lc23, hQ23, l23, y23, z23⟩, st23⟩ := X21.virtualBack hx (y := y_35) (z := y_35) hown (mvT hZ (W 93 rfl)) (mvT hZ (W 94 rfl)) (notFace_of_selects (args := #[]) (mvT hZ (W 96 rfl))) (mvT hZ (W 96 rfl)) (mvT hZ (W 95 rfl)) (by decide) (backOf (W := 0) (sqN0 l Z a0 hw [] b13 p3 w_TRANSIENT w_FAILED w_ELIST w_ELIST_elements kel (0 : Int32) [] h17 n0 O18 A13 p17_1 (E_w_ELIST.ext O18.2) (F_w_ELIST_elements.ext O18.2) (V_w_ELE.ext O18.2) S_w_TRANSIENT S_w_FAILED hrk) hZ (W 97 rfl) (W 1 rfl) (by decide) (by decide)) q23a q23c (g := (mkF m 159 #[iv p1, iv p2, iv p3, iv 0, rv w_STANDARD_delays_elements_0, rv b3, rv b13, iv 1, rv w_TRANSIENT, .unset, .unset, .unset, .unset] [.int p3, .ref w_TRANSIENT, .ref b13])) rfl (by rw [hml]; rfl) (Steps.refl _) (argsL := [.ref w_TRANSIENT, .int p3]) (rest := []) (lenOf pd_19 rfl) rfl (by show 2 * 0 + _ ≤ _; exact Nat.le_of_eq rfl) (hb hby at_159) (fun _ _ => ⟨rfl, e21, (by decide : 2 + 0 ≤ _), (by decide : 4 + 0 ≤ _)⟩)
        dsimp only [Pt.U, Pt.locs, Pt.cells, Pt.slots] at X23 l23 y23 z23 st23 hQ23
        subst l23 y23 z23
        obtain ⟨h23, e23⟩ : ∃ z, T23.heap = z := ⟨_, rfl⟩
        rw [e23] at hQ23
        obtain ⟨rfl, N23q, p23_0⟩ := hQ23
        have N23 := Fr.app N17 N23q
        rw [p23_0] at e23
        obtain ⟨T24, X24, e24, st24⟩ := getS2 X23 hx hZ hown (host := "") (Or.inl (W 115 rfl)) Via.refl e23 (S_w_FAILED.ext O18.2) (g := (mkF m 199 #[iv p1, iv p2, iv p3, iv 0, rv w_STANDARD_delays_elements_0, rv b3, rv b13, iv 1, rv w_TRANSIENT, rv w_FAILED, .val (.long ((0 : Int64) - (p3.toInt64))), .second, .unset] [])) rfl (hb hby at_199)
        obtain ⟨fs, hr, hrun, hended, hW, hsame⟩ := X24.leave (v := some (.int (1 : Int32))) (fun h => by rw [Bd.returns] at h; cases h)
        refine ⟨_, _, pre22 _ ?_, hrun, hended, _, _, rfl, ?_, ⟨_, rfl⟩, hW, hsame.mono (by decide) (by decide)⟩
        · show Sq p e below m T21 154 #[iv p1, iv p2, iv p3, iv 0, rv w_STANDARD_delays_elements_0, rv b3, rv b13, iv 1, rv w_TRANSIENT, .unset, .unset, .unset, .unset] [] _
          refine XS.aload X21.here hx rfl (hb hby at_154) rfl rfl ?_
          refine XS.aload X21.here hx rfl (hb hby at_156) rfl rfl ?_
          show Sq p e below m T21 158 #[iv p1, iv p2, iv p3, iv 0, rv w_STANDARD_delays_elements_0, rv b3, rv b13, iv 1, rv w_TRANSIENT, .unset, .unset, .unset, .unset] [.ref w_TRANSIENT, .ref b13] _
          refine XS.iloadN X21.here hx rfl (hb hby at_158) rfl ?_
          show Sq p e below m T21 159 #[iv p1, iv p2, iv p3, iv 0, rv w_STANDARD_delays_elements_0, rv b3, rv b13, iv 1, rv w_TRANSIENT, .unset, .unset, .unset, .unset] [.int p3, .ref w_TRANSIENT, .ref b13] _
          refine st23.trans ?_
          show Sq p e below m T23 162 #[iv p1, iv p2, iv p3, iv 0, rv w_STANDARD_delays_elements_0, rv b3, rv b13, iv 1, rv w_TRANSIENT, .unset, .unset, .unset, .unset] [.ref w_FAILED] _
          refine XS.astore X23.here hx rfl (hb hby at_162) rfl rfl rfl ?_
          refine XS.iloadN X23.here hx rfl (hb hby at_164) rfl ?_
          show Sq p e below m T23 165 #[iv p1, iv p2, iv p3, iv 0, rv w_STANDARD_delays_elements_0, rv b3, rv b13, iv 1, rv w_TRANSIENT, rv w_FAILED, .unset, .unset, .unset] [.int 0] _
          refine XS.i2l X23.here hx rfl (hb hby at_165) rfl ?_
          show Sq p e below m T23 166 #[iv p1, iv p2, iv p3, iv 0, rv w_STANDARD_delays_elements_0, rv b3, rv b13, iv 1, rv w_TRANSIENT, rv w_FAILED, .unset, .unset, .unset] [.long ((0 : Int32).toInt64)] _
          rw [show ((0 : Int32).toInt64) = (0 : Int64) from by decide]
          show Sq p e below m T23 166 #[iv p1, iv p2, iv p3, iv 0, rv w_STANDARD_delays_elements_0, rv b3, rv b13, iv 1, rv w_TRANSIENT, rv w_FAILED, .unset, .unset, .unset] [.long 0] _
          refine XS.iloadN X23.here hx rfl (hb hby at_166) rfl ?_
          refine XS.i2l X23.here hx rfl (hb hby at_167) rfl ?_
          show Sq p e below m T23 168 #[iv p1, iv p2, iv p3, iv 0, rv w_STANDARD_delays_elements_0, rv b3, rv b13, iv 1, rv w_TRANSIENT, rv w_FAILED, .unset, .unset, .unset] [.long (p3.toInt64), .long 0] _
          refine XS.lsub X23.here hx rfl (hb hby at_168) rfl ?_
          refine XS.lstore X23.here hx rfl (hb hby at_169) rfl rfl ?_
          show Sq p e below m T23 171 #[iv p1, iv p2, iv p3, iv 0, rv w_STANDARD_delays_elements_0, rv b3, rv b13, iv 1, rv w_TRANSIENT, rv w_FAILED, .val (.long ((0 : Int64) - (p3.toInt64))), .second, .unset] [] _
          refine XS.iload X23.here hx rfl (hb hby at_171) rfl ?_
          refine XS.ifYes X23.here hx rfl (pc0 := 173) (pc' := 184) rfl (hb hby at_173) rfl ((if0 _ _).trans (feq (by decide)).2) (by decide) (by decide) ?_
          show Sq p e below m T23 184 #[iv p1, iv p2, iv p3, iv 0, rv w_STANDARD_delays_elements_0, rv b3, rv b13, iv 1, rv w_TRANSIENT, rv w_FAILED, .val (.long ((0 : Int64) - (p3.toInt64))), .second, .unset] [] _
          refine XS.lload X23.here hx rfl (hb hby at_184) rfl ?_
          refine XS.lconst X23.here hx rfl (hb hby at_186) ?_
          show Sq p e below m T23 187 #[iv p1, iv p2, iv p3, iv 0, rv w_STANDARD_delays_elements_0, rv b3, rv b13, iv 1, rv w_TRANSIENT, rv w_FAILED, .val (.long ((0 : Int64) - (p3.toInt64))), .second, .unset] [.long 1, .long ((0 : Int64) - (p3.toInt64))] _
          refine XS.lcmp X23.here hx rfl (hb hby at_187) rfl ?_
          refine XS.ifYes X23.here hx rfl (pc0 := 188) (pc' := 199) rfl (hb hby at_188) rfl ((if0 _ _).trans (tlt (own_lt (k := (0 : Int32)) (by decide) hrk)).1) (by decide) (by decide) ?_
          show Sq p e below m T23 199 #[iv p1, iv p2, iv p3, iv 0, rv w_STANDARD_delays_elements_0, rv b3, rv b13, iv 1, rv w_TRANSIENT, rv w_FAILED, .val (.long ((0 : Int64) - (p3.toInt64))), .second, .unset] [] _
          refine st24 _ ?_
          show Sq p e below m T24 202 #[iv p1, iv p2, iv p3, iv 0, rv w_STANDARD_delays_elements_0, rv b3, rv b13, iv 1, rv w_TRANSIENT, rv w_FAILED, .val (.long ((0 : Int64) - (p3.toInt64))), .second, .unset] [.ref w_FAILED] _
          refine XS.astore X24.here hx rfl (hb hby at_202) rfl rfl rfl ?_
          refine XS.aload X24.here hx rfl (hb hby at_204) rfl rfl ?_
          show Sq p e below m T24 206 #[iv p1, iv p2, iv p3, iv 0, rv w_STANDARD_delays_elements_0, rv b3, rv b13, iv 1, rv w_TRANSIENT, rv w_FAILED, .val (.long ((0 : Int64) - (p3.toInt64))), .second, rv w_FAILED] [.ref w_FAILED] _
          refine XS.aload X24.here hx rfl (hb hby at_206) rfl rfl ?_
          show Sq p e below m T24 208 #[iv p1, iv p2, iv p3, iv 0, rv w_STANDARD_delays_elements_0, rv b3, rv b13, iv 1, rv w_TRANSIENT, rv w_FAILED, .val (.long ((0 : Int64) - (p3.toInt64))), .second, rv w_FAILED] [.ref w_FAILED, .ref w_FAILED] _
          refine Jvm.RoadKit.acmp (g := (mkF m 208 #[iv p1, iv p2, iv p3, iv 0, rv w_STANDARD_delays_elements_0, rv b3, rv b13, iv 1, rv w_TRANSIENT, rv w_FAILED, .val (.long ((0 : Int64) - (p3.toInt64))), .second, rv w_FAILED] [.ref w_FAILED, .ref w_FAILED])) X24 hx rfl rfl rfl (pc0 := 208) (pc' := 211) (same := true) rfl (hb hby at_208) rfl (decide_eq_true rfl) (by decide) (by decide) ?_
          show Sq p e below m T24 211 #[iv p1, iv p2, iv p3, iv 0, rv w_STANDARD_delays_elements_0, rv b3, rv b13, iv 1, rv w_TRANSIENT, rv w_FAILED, .val (.long ((0 : Int64) - (p3.toInt64))), .second, rv w_FAILED] [] _
          refine XS.iconst X24.here hx rfl (hb hby at_211) ?_
          refine XS.goto X24.here hx rfl (pc0 := 212) (pc' := 216) rfl (hb hby at_212) (by decide) (by decide) ?_
          show Sq p e below m T24 216 #[iv p1, iv p2, iv p3, iv 0, rv w_STANDARD_delays_elements_0, rv b3, rv b13, iv 1, rv w_TRANSIENT, rv w_FAILED, .val (.long ((0 : Int64) - (p3.toInt64))), .second, rv w_FAILED] [.int 1] _
          exact retN X24 hx (t := .boolean) Bd.returns (by simp) (hb hby at_216) hr
        · show Q_rm0 Z p1 p2 p3 (0 : Int32) w_STANDARD w_STANDARD_delays w_STANDARD_delays_elements w_STANDARD_delays_elements_0 w_TRANSIENT w_FAILED w_DATA w_PENDING w_STANDARD_delays_elements_1 w_STANDARD_delays_elements_2 w_STANDARD_delays_elements_3 w_STANDARD_delays_elements_4 w_DEF w_ELIST w_EMPTY w_ELIST_elements kdef kel k5 w_MIR h0 n0 _ T24.heap _
          rw [e24]
          exact ⟨rfl, N23⟩
  · obtain ⟨cq13, kq13, q13a, q13b, q13c⟩ := isOf hZ e9 A3
    obtain ⟨_, _, ⟨T13, L13, k13, n13⟩, -, X13, ⟨Lc13, hQ13, l13, y13, z13⟩, st13⟩ := X9.virtualBack hx (y := y_18) (z := y_18) hown (mvT hZ (W 116 rfl)) (mvT hZ (W 117 rfl)) (notFace_of_selects (args := #[]) (mvT hZ (W 119 rfl))) (mvT hZ (W 119 rfl)) (mvT hZ (W 118 rfl)) (by decide) (backOf (W := 0) (add0D l Z a0 hw [] b3 w_STANDARD_delays_elements_0 (0 : Int32) w_DEF kdef h9 n0 O10 A3 (E_w_STANDARD_delays_elements_0.ext O10.2) p9_1 p9_2 p9_3 g_b3 S_w_DEF V_w_DEF) hZ (W 120 rfl) (W 26 rfl) (by decide) (by decide)) q13a q13c (g := (mkF m 31 #[iv p1, iv p2, iv p3, iv n, rv w_STANDARD_delays_elements_0, rv b3, .unset, .unset, .unset, .unset, .unset, .unset, .unset] [.ref w_STANDARD_delays_elements_0, .ref b3])) rfl (by rw [hml]; rfl) (Steps.refl _) (argsL := [.ref w_STANDARD_delays_elements_0]) (rest := []) (lenOf pd_20 rfl) rfl (by show 2 * 0 + _ ≤ _; exact Nat.le_of_eq rfl) (hb hby at_31) (fun _ _ => ⟨rfl, e9, (by decide : 1 + 1 ≤ _), (by decide : 3 + 10 ≤ _)⟩)
    dsimp only [Pt.U, Pt.locs, Pt.cells, Pt.slots] at X13 l13 y13 z13 st13 hQ13
    subst l13 y13 z13
    obtain ⟨h13, e13⟩ : ∃ z, T13.heap = z := ⟨_, rfl⟩
    rw [e13] at hQ13
    obtain ⟨b13b, b13kb, rfl, N13q, p13_0, p13_1, p13_2, p13_3, p13_4, p13_5, p13_6, p13_7⟩ := hQ13
    have N13 := Fr.app N9 N13q
    have g_b13b : n0 ≤ b13b := Nat.le_trans (own_sz O10) p13_1
    have ne_b3_b13b : b3 ≠ b13b := Nat.ne_of_lt (Nat.lt_of_lt_of_le A3.lt p13_1)
    have A3 := A3.keep p13_0
    have O14 := O10.keep p13_0 (allS g_b3 all0)
    have pre16 : ∀ t, Steps p.tables e below (T13.setTop (mkF m 35 #[iv p1, iv p2, iv p3, iv n, rv w_STANDARD_delays_elements_0, rv b3, .unset, .unset, .unset, .unset, .unset, .unset, .unset] [])) t → Steps p.tables e below (s₁.setTop (entryFrame m #[(.int p1), (.int p2), (.int p3)] maxLocals)) t := by
      intro t kt
      refine pre12 _ ?_
      show Sq p e below m T9 23 #[iv p1, iv p2, iv p3, iv n, rv w_STANDARD_delays_elements_0, rv b3, .unset, .unset, .unset, .unset, .unset, .unset, .unset] [] _
      refine XS.iloadN X9.here hx rfl (hb hby at_23) rfl ?_
      refine XS.ifNo X9.here hx rfl (hb hby at_24) rfl ((if0 _ _).trans (tlt hs0).2.2.2) ?_
      show Sq p e below m T9 27 #[iv p1, iv p2, iv p3, iv n, rv w_STANDARD_delays_elements_0, rv b3, .unset, .unset, .unset, .unset, .unset, .unset, .unset] [] _
      refine XS.aload X9.here hx rfl (hb hby at_27) rfl rfl ?_
      refine XS.aload X9.here hx rfl (hb hby at_29) rfl rfl ?_
      show Sq p e below m T9 31 #[iv p1, iv p2, iv p3, iv n, rv w_STANDARD_delays_elements_0, rv b3, .unset, .unset, .unset, .unset, .unset, .unset, .unset] [.ref w_STANDARD_delays_elements_0, .ref b3] _
      refine st13.trans ?_
      show Sq p e below m T13 34 #[iv p1, iv p2, iv p3, iv n, rv w_STANDARD_delays_elements_0, rv b3, .unset, .unset, .unset, .unset, .unset, .unset, .unset] [.int 1] _
      refine XS.pop X13.here hx rfl (hb hby at_34) rfl rfl ?_
      exact kt
    rcases own_sk (k := (1 : Int32)) hs0 (by decide) with rfl | hs1
    · obtain ⟨T17, h17, X17, e17, E17, A17, D17, -, st17⟩ := newO X13 hx hZ hown (W 50 rfl) (W 51 rfl) (W 1 rfl) e13 (g := (mkF m 114 #[iv p1, iv p2, iv p3, iv 1, rv w_STANDARD_delays_elements_0, rv b3, .unset, .unset, .unset, .unset, .unset, .unset, .unset] [])) rfl (hb hby at_114) (by decide) (by decide)
      obtain ⟨b17, g17⟩ : ∃ z, z = h13.size := ⟨_, rfl⟩
      rw [← g17] at A17 D17 st17
      have g_b17 : n0 ≤ b17 := Nat.le_trans (own_sz O14) (Nat.le_of_eq g17.symm)
      have A3 := A3.ext E17
      have p13_2 := p13_2.ext E17
      have p13_3 := p13_3.ext E17
      have p13_5 := p13_5.ext E17
      have p13_7 := p13_7.ext E17
      have O18 := O14.ext E17
      have Fz20 : Fld Z h17 b17 "com/example/savitri/savitri/store/RedriveSchedule" "delays" "Ljava/util/List;" .null := D17 (Or.inr (W 9 rfl)) (ty := (.object "java/util/List")) (by decide)
      obtain ⟨_, _, ⟨T21, L21, k21, n21⟩, -, X21, ⟨Lc21, hQ21, l21, y21, z21⟩, st21⟩ := X17.specialBack hx (y := y_29) rfl hown (mvT hZ (W 52 rfl)) (mvT hZ (W 53 rfl)) (mvT hZ (W 54 rfl)) (by decide) (backOf (W := 1) (recin1 l Z a0 hw [] b17 b3 b13b b13kb w_STANDARD_delays_elements_0 w_MIR w_EMPTY h17 n0 O18 A17 Fz20 g_b17 A3 p13_5 E_w_STANDARD_delays_elements_0 Mo p13_7 p13_2 p13_3 S_w_EMPTY) hZ (W 54 rfl) (W 1 rfl) (by decide) (by decide)) (g := (mkF m 120 #[iv p1, iv p2, iv p3, iv 1, rv w_STANDARD_delays_elements_0, rv b3, .unset, .unset, .unset, .unset, .unset, .unset, .unset] [.ref b3, .ref b17, .ref b17])) rfl (by rw [hml]; rfl) (Steps.refl _) (a := b17) (argsL := [.ref b3]) (rest := [.ref b17]) (lenOf pd_18 rfl) rfl (by show 2 * 0 + _ ≤ _; exact Nat.le_of_eq rfl) (hb hby at_120) (fun _ _ => ⟨rfl, e17, (by decide : 3 + 2 ≤ _), (by decide : 14 + 9 ≤ _)⟩)
      dsimp only [Pt.U, Pt.locs, Pt.cells, Pt.slots] at X21 l21 y21 z21 st21 hQ21
      subst l21 y21 z21
      obtain ⟨h21, e21⟩ : ∃ z, T21.heap = z := ⟨_, rfl⟩
      rw [e21] at hQ21
      obtain ⟨b21r, rfl, N21q, p21_0, p21_1, p21_2, p21_3, p21_4⟩ := hQ21
      have N21 := Fr.app N13 N21q
      have A17 := A17.keep p21_0
      have O22 := O18.keep p21_0 (allS g_b17 all0)
      have pre24 : ∀ t, Steps p.tables e below (T21.setTop (mkF m 128 #[iv p1, iv p2, iv p3, iv 1, rv w_STANDARD_delays_elements_0, rv b3, rv b17, .unset, .unset, .unset, .unset, .unset, .unset] [.int (p2 &&& (1 : Int32))])) t → Steps p.tables e below (s₁.setTop (entryFrame m #[(.int p1), (.int p2), (.int p3)] maxLocals)) t := by
        intro t kt
        refine pre16 _ ?_
        show Sq p e below m T13 35 #[iv p1, iv p2, iv p3, iv 1, rv w_STANDARD_delays_elements_0, rv b3, .unset, .unset, .unset, .unset, .unset, .unset, .unset] [] _
        refine XS.iloadN X13.here hx rfl (hb hby at_35) rfl ?_
        refine XS.iconst X13.here hx rfl (hb hby at_36) ?_
        show Sq p e below m T13 37 #[iv p1, iv p2, iv p3, iv 1, rv w_STANDARD_delays_elements_0, rv b3, .unset, .unset, .unset, .unset, .unset, .unset, .unset] [.int 1, .int 1] _
        refine XS.icmpYes X13.here hx rfl (pc0 := 37) (pc' := 48) rfl (hb hby at_37) rfl (flt (by decide)).2.2.2 (by decide) (by decide) ?_
        refine XS.iloadN X13.here hx rfl (hb hby at_48) rfl ?_
        show Sq p e below m T13 49 #[iv p1, iv p2, iv p3, iv 1, rv w_STANDARD_delays_elements_0, rv b3, .unset, .unset, .unset, .unset, .unset, .unset, .unset] [.int 1] _
        refine XS.iconst X13.here hx rfl (hb hby at_49) ?_
        refine XS.icmpYes X13.here hx rfl (pc0 := 50) (pc' := 61) rfl (hb hby at_50) rfl (flt (by decide)).2.2.2 (by decide) (by decide) ?_
        show Sq p e below m T13 61 #[iv p1, iv p2, iv p3, iv 1, rv w_STANDARD_delays_elements_0, rv b3, .unset, .unset, .unset, .unset, .unset, .unset, .unset] [] _
        refine XS.iloadN X13.here hx rfl (hb hby at_61) rfl ?_
        refine XS.iconst X13.here hx rfl (hb hby at_62) ?_
        show Sq p e below m T13 63 #[iv p1, iv p2, iv p3, iv 1, rv w_STANDARD_delays_elements_0, rv b3, .unset, .unset, .unset, .unset, .unset, .unset, .unset] [.int 3, .int 1] _
        refine XS.icmpYes X13.here hx rfl (pc0 := 63) (pc' := 74) rfl (hb hby at_63) rfl (flt (by decide)).2.2.2 (by decide) (by decide) ?_
        refine XS.iloadN X13.here hx rfl (hb hby at_74) rfl ?_
        show Sq p e below m T13 75 #[iv p1, iv p2, iv p3, iv 1, rv w_STANDARD_delays_elements_0, rv b3, .unset, .unset, .unset, .unset, .unset, .unset, .unset] [.int 1] _
        refine XS.iconst X13.here hx rfl (hb hby at_75) ?_
        refine XS.icmpYes X13.here hx rfl (pc0 := 76) (pc' := 87) rfl (hb hby at_76) rfl (flt (by decide)).2.2.2 (by decide) (by decide) ?_
        show Sq p e below m T13 87 #[iv p1, iv p2, iv p3, iv 1, rv w_STANDARD_delays_elements_0, rv b3, .unset, .unset, .unset, .unset, .unset, .unset, .unset] [] _
        refine XS.iloadN X13.here hx rfl (hb hby at_87) rfl ?_
        refine XS.iconst X13.here hx rfl (hb hby at_88) ?_
        show Sq p e below m T13 89 #[iv p1, iv p2, iv p3, iv 1, rv w_STANDARD_delays_elements_0, rv b3, .unset, .unset, .unset, .unset, .unset, .unset, .unset] [.int 5, .int 1] _
        refine XS.icmpYes X13.here hx rfl (pc0 := 89) (pc' := 100) rfl (hb hby at_89) rfl (flt (by decide)).2.2.2 (by decide) (by decide) ?_
        refine XS.iloadN X13.here hx rfl (hb hby at_100) rfl ?_
        show Sq p e below m T13 101 #[iv p1, iv p2, iv p3, iv 1, rv w_STANDARD_delays_elements_0, rv b3, .unset, .unset, .unset, .unset, .unset, .unset, .unset] [.int 1] _
        refine XS.bipush X13.here hx rfl (hb hby at_101) ?_
        refine XS.icmpYes X13.here hx rfl (pc0 := 103) (pc' := 114) rfl (hb hby at_103) rfl (flt (by decide)).2.2.2 (by decide) (by decide) ?_
        show Sq p e below m T13 114 #[iv p1, iv p2, iv p3, iv 1, rv w_STANDARD_delays_elements_0, rv b3, .unset, .unset, .unset, .unset, .unset, .unset, .unset] [] _
        refine st17 _ ?_
        show Sq p e below m T17 117 #[iv p1, iv p2, iv p3, iv 1, rv w_STANDARD_delays_elements_0, rv b3, .unset, .unset, .unset, .unset, .unset, .unset, .unset] [.ref b17] _
        refine XS.dup X17.here hx rfl (hb hby at_117) rfl rfl ?_
        refine XS.aload X17.here hx rfl (hb hby at_118) rfl rfl ?_
        show Sq p e below m T17 120 #[iv p1, iv p2, iv p3, iv 1, rv w_STANDARD_delays_elements_0, rv b3, .unset, .unset, .unset, .unset, .unset, .unset, .unset] [.ref b3, .ref b17, .ref b17] _
        refine st21.trans ?_
        show Sq p e below m T21 123 #[iv p1, iv p2, iv p3, iv 1, rv w_STANDARD_delays_elements_0, rv b3, .unset, .unset, .unset, .unset, .unset, .unset, .unset] [.ref b17] _
        refine XS.astore X21.here hx rfl (hb hby at_123) rfl rfl rfl ?_
        refine XS.iloadN X21.here hx rfl (hb hby at_125) rfl ?_
        show Sq p e below m T21 126 #[iv p1, iv p2, iv p3, iv 1, rv w_STANDARD_delays_elements_0, rv b3, rv b17, .unset, .unset, .unset, .unset, .unset, .unset] [.int p2] _
        refine XS.iconst X21.here hx rfl (hb hby at_126) ?_
        refine XS.iand X21.here hx rfl (hb hby at_127) rfl ?_
        exact kt
      by_cases hc128 : (p2 &&& (1 : Int32)) = (0 : Int32)
      · obtain ⟨T25, X25, e25, st25⟩ := getS2 X21 hx hZ hown (host := "") (Or.inl (W 208 rfl)) Via.refl e21 (S_w_DATA.ext O22.2) (g := (mkF m 149 #[iv p1, iv p2, iv p3, iv 1, rv w_STANDARD_delays_elements_0, rv b3, rv b17, iv 0, .unset, .unset, .unset, .unset, .unset] [])) rfl (hb hby at_149)
        obtain ⟨cq26, kq26, q26a, q26b, q26c⟩ := isOf hZ e25 A17
        obtain ⟨_, _, ⟨T26, L26, k26, n26⟩, -, X26, ⟨Lc26, hQ26, l26, y26, z26⟩, st26⟩ := X25.virtualBack hx (y := y_35) (z := y_35) hown (mvT hZ (W 93 rfl)) (mvT hZ (W 94 rfl)) (notFace_of_selects (args := #[]) (mvT hZ (W 96 rfl))) (mvT hZ (W 96 rfl)) (mvT hZ (W 95 rfl)) (by decide) (backOf (W := 0) (stD l Z a0 hw [] b17 p3 w_DATA w_TRANSIENT w_FAILED h21 n0 O22 S_w_TRANSIENT S_w_FAILED nek) hZ (W 97 rfl) (W 1 rfl) (by decide) (by decide)) q26a q26c (g := (mkF m 159 #[iv p1, iv p2, iv p3, iv 1, rv w_STANDARD_delays_elements_0, rv b3, rv b17, iv 0, rv w_DATA, .unset, .unset, .unset, .unset] [.int p3, .ref w_DATA, .ref b17])) rfl (by rw [hml]; rfl) (Steps.refl _) (argsL := [.ref w_DATA, .int p3]) (rest := []) (lenOf pd_19 rfl) rfl (by show 2 * 0 + _ ≤ _; exact Nat.le_of_eq rfl) (hb hby at_159) (fun _ _ => ⟨rfl, e25, (by decide : 5 + 0 ≤ _), (by decide : 23 + 0 ≤ _)⟩)
        dsimp only [Pt.U, Pt.locs, Pt.cells, Pt.slots] at X26 l26 y26 z26 st26 hQ26
        subst l26 y26 z26
        obtain ⟨h26, e26⟩ : ∃ z, T26.heap = z := ⟨_, rfl⟩
        rw [e26] at hQ26
        obtain ⟨rfl, N26q, p26_0⟩ := hQ26
        have N26 := Fr.app N21 N26q
        rw [p26_0] at e26
        obtain ⟨T27, X27, e27, st27⟩ := getS2 X26 hx hZ hown (host := "") (Or.inl (W 115 rfl)) Via.refl e26 (S_w_FAILED.ext O22.2) (g := (mkF m 176 #[iv p1, iv p2, iv p3, iv 1, rv w_STANDARD_delays_elements_0, rv b3, rv b17, iv 0, rv w_DATA, rv w_FAILED, .val (.long ((1 : Int64) - (p3.toInt64))), .second, .unset] [])) rfl (hb hby at_176)
        obtain ⟨fs, hr, hrun, hended, hW, hsame⟩ := X27.leave (v := some (.int (1 : Int32))) (fun h => by rw [Bd.returns] at h; cases h)
        refine ⟨_, _, pre24 _ ?_, hrun, hended, _, _, rfl, ?_, ⟨_, rfl⟩, hW, hsame.mono (by decide) (by decide)⟩
        · show Sq p e below m T21 128 #[iv p1, iv p2, iv p3, iv 1, rv w_STANDARD_delays_elements_0, rv b3, rv b17, .unset, .unset, .unset, .unset, .unset, .unset] [.int (p2 &&& (1 : Int32))] _
          refine XS.ifYes X21.here hx rfl (pc0 := 128) (pc' := 135) rfl (hb hby at_128) rfl ((if0 _ _).trans (teq hc128).1) (by decide) (by decide) ?_
          refine XS.iconst X21.here hx rfl (hb hby at_135) ?_
          show Sq p e below m T21 136 #[iv p1, iv p2, iv p3, iv 1, rv w_STANDARD_delays_elements_0, rv b3, rv b17, .unset, .unset, .unset, .unset, .unset, .unset] [.int 0] _
          refine XS.istore X21.here hx rfl (hb hby at_136) rfl rfl ?_
          refine XS.iload X21.here hx rfl (hb hby at_138) rfl ?_
          show Sq p e below m T21 140 #[iv p1, iv p2, iv p3, iv 1, rv w_STANDARD_delays_elements_0, rv b3, rv b17, iv 0, .unset, .unset, .unset, .unset, .unset] [.int 0] _
          refine XS.ifYes X21.here hx rfl (pc0 := 140) (pc' := 149) rfl (hb hby at_140) rfl ((if0 _ _).trans (teq (rfl : (0 : Int32) = (0 : Int32))).1) (by decide) (by decide) ?_
          show Sq p e below m T21 149 #[iv p1, iv p2, iv p3, iv 1, rv w_STANDARD_delays_elements_0, rv b3, rv b17, iv 0, .unset, .unset, .unset, .unset, .unset] [] _
          refine st25 _ ?_
          show Sq p e below m T25 152 #[iv p1, iv p2, iv p3, iv 1, rv w_STANDARD_delays_elements_0, rv b3, rv b17, iv 0, .unset, .unset, .unset, .unset, .unset] [.ref w_DATA] _
          refine XS.astore X25.here hx rfl (hb hby at_152) rfl rfl rfl ?_
          refine XS.aload X25.here hx rfl (hb hby at_154) rfl rfl ?_
          show Sq p e below m T25 156 #[iv p1, iv p2, iv p3, iv 1, rv w_STANDARD_delays_elements_0, rv b3, rv b17, iv 0, rv w_DATA, .unset, .unset, .unset, .unset] [.ref b17] _
          refine XS.aload X25.here hx rfl (hb hby at_156) rfl rfl ?_
          refine XS.iloadN X25.here hx rfl (hb hby at_158) rfl ?_
          show Sq p e below m T25 159 #[iv p1, iv p2, iv p3, iv 1, rv w_STANDARD_delays_elements_0, rv b3, rv b17, iv 0, rv w_DATA, .unset, .unset, .unset, .unset] [.int p3, .ref w_DATA, .ref b17] _
          refine st26.trans ?_
          show Sq p e below m T26 162 #[iv p1, iv p2, iv p3, iv 1, rv w_STANDARD_delays_elements_0, rv b3, rv b17, iv 0, rv w_DATA, .unset, .unset, .unset, .unset] [.ref w_FAILED] _
          refine XS.astore X26.here hx rfl (hb hby at_162) rfl rfl rfl ?_
          refine XS.iloadN X26.here hx rfl (hb hby at_164) rfl ?_
          show Sq p e below m T26 165 #[iv p1, iv p2, iv p3, iv 1, rv w_STANDARD_delays_elements_0, rv b3, rv b17, iv 0, rv w_DATA, rv w_FAILED, .unset, .unset, .unset] [.int 1] _
          refine XS.i2l X26.here hx rfl (hb hby at_165) rfl ?_
          show Sq p e below m T26 166 #[iv p1, iv p2, iv p3, iv 1, rv w_STANDARD_delays_elements_0, rv b3, rv b17, iv 0, rv w_DATA, rv w_FAILED, .unset, .unset, .unset] [.long ((1 : Int32).toInt64)] _
          rw [show ((1 : Int32).toInt64) = (1 : Int64) from by decide]
          show Sq p e below m T26 166 #[iv p1, iv p2, iv p3, iv 1, rv w_STANDARD_delays_elements_0, rv b3, rv b17, iv 0, rv w_DATA, rv w_FAILED, .unset, .unset, .unset] [.long 1] _
          refine XS.iloadN X26.here hx rfl (hb hby at_166) rfl ?_
          refine XS.i2l X26.here hx rfl (hb hby at_167) rfl ?_
          show Sq p e below m T26 168 #[iv p1, iv p2, iv p3, iv 1, rv w_STANDARD_delays_elements_0, rv b3, rv b17, iv 0, rv w_DATA, rv w_FAILED, .unset, .unset, .unset] [.long (p3.toInt64), .long 1] _
          refine XS.lsub X26.here hx rfl (hb hby at_168) rfl ?_
          refine XS.lstore X26.here hx rfl (hb hby at_169) rfl rfl ?_
          show Sq p e below m T26 171 #[iv p1, iv p2, iv p3, iv 1, rv w_STANDARD_delays_elements_0, rv b3, rv b17, iv 0, rv w_DATA, rv w_FAILED, .val (.long ((1 : Int64) - (p3.toInt64))), .second, .unset] [] _
          refine XS.iload X26.here hx rfl (hb hby at_171) rfl ?_
          refine XS.ifNo X26.here hx rfl (hb hby at_173) rfl ((if0 _ _).trans (teq (rfl : (0 : Int32) = (0 : Int32))).2) ?_
          show Sq p e below m T26 176 #[iv p1, iv p2, iv p3, iv 1, rv w_STANDARD_delays_elements_0, rv b3, rv b17, iv 0, rv w_DATA, rv w_FAILED, .val (.long ((1 : Int64) - (p3.toInt64))), .second, .unset] [] _
          refine st27 _ ?_
          show Sq p e below m T27 179 #[iv p1, iv p2, iv p3, iv 1, rv w_STANDARD_delays_elements_0, rv b3, rv b17, iv 0, rv w_DATA, rv w_FAILED, .val (.long ((1 : Int64) - (p3.toInt64))), .second, .unset] [.ref w_FAILED] _
          refine XS.astore X27.here hx rfl (hb hby at_179) rfl rfl rfl ?_
          refine XS.goto X27.here hx rfl (pc0 := 181) (pc' := 204) rfl (hb hby at_181) (by decide) (by decide) ?_
          show Sq p e below m T27 204 #[iv p1, iv p2, iv p3, iv 1, rv w_STANDARD_delays_elements_0, rv b3, rv b17, iv 0, rv w_DATA, rv w_FAILED, .val (.long ((1 : Int64) - (p3.toInt64))), .second, rv w_FAILED] [] _
          refine XS.aload X27.here hx rfl (hb hby at_204) rfl rfl ?_
          refine XS.aload X27.here hx rfl (hb hby at_206) rfl rfl ?_
          show Sq p e below m T27 208 #[iv p1, iv p2, iv p3, iv 1, rv w_STANDARD_delays_elements_0, rv b3, rv b17, iv 0, rv w_DATA, rv w_FAILED, .val (.long ((1 : Int64) - (p3.toInt64))), .second, rv w_FAILED] [.ref w_FAILED, .ref w_FAILED] _
          refine Jvm.RoadKit.acmp (g := (mkF m 208 #[iv p1, iv p2, iv p3, iv 1, rv w_STANDARD_delays_elements_0, rv b3, rv b17, iv 0, rv w_DATA, rv w_FAILED, .val (.long ((1 : Int64) - (p3.toInt64))), .second, rv w_FAILED] [.ref w_FAILED, .ref w_FAILED])) X27 hx rfl rfl rfl (pc0 := 208) (pc' := 211) (same := true) rfl (hb hby at_208) rfl (decide_eq_true rfl) (by decide) (by decide) ?_
          show Sq p e below m T27 211 #[iv p1, iv p2, iv p3, iv 1, rv w_STANDARD_delays_elements_0, rv b3, rv b17, iv 0, rv w_DATA, rv w_FAILED, .val (.long ((1 : Int64) - (p3.toInt64))), .second, rv w_FAILED] [] _
          refine XS.iconst X27.here hx rfl (hb hby at_211) ?_
          refine XS.goto X27.here hx rfl (pc0 := 212) (pc' := 216) rfl (hb hby at_212) (by decide) (by decide) ?_
          show Sq p e below m T27 216 #[iv p1, iv p2, iv p3, iv 1, rv w_STANDARD_delays_elements_0, rv b3, rv b17, iv 0, rv w_DATA, rv w_FAILED, .val (.long ((1 : Int64) - (p3.toInt64))), .second, rv w_FAILED] [.int 1] _
          exact retN X27 hx (t := .boolean) Bd.returns (by simp) (hb hby at_216) hr
        · show Q_rm0 Z p1 p2 p3 (1 : Int32) w_STANDARD w_STANDARD_delays w_STANDARD_delays_elements w_STANDARD_delays_elements_0 w_TRANSIENT w_FAILED w_DATA w_PENDING w_STANDARD_delays_elements_1 w_STANDARD_delays_elements_2 w_STANDARD_delays_elements_3 w_STANDARD_delays_elements_4 w_DEF w_ELIST w_EMPTY w_ELIST_elements kdef kel k5 w_MIR h0 n0 _ T27.heap _
          rw [e27]
          exact ⟨rfl, N26⟩
      · obtain ⟨T25, X25, e25, st25⟩ := getS2 X21 hx hZ hown (host := "") (Or.inl (W 90 rfl)) Via.refl e21 (S_w_TRANSIENT.ext O22.2) (g := (mkF m 143 #[iv p1, iv p2, iv p3, iv 1, rv w_STANDARD_delays_elements_0, rv b3, rv b17, iv 1, .unset, .unset, .unset, .unset, .unset] [])) rfl (hb hby at_143)
        have pre26 : ∀ t, Steps p.tables e below (T25.setTop (mkF m 154 #[iv p1, iv p2, iv p3, iv 1, rv w_STANDARD_delays_elements_0, rv b3, rv b17, iv 1, rv w_TRANSIENT, .unset, .unset, .unset, .unset] [])) t → Steps p.tables e below (s₁.setTop (entryFrame m #[(.int p1), (.int p2), (.int p3)] maxLocals)) t := by
          intro t kt
          refine pre24 _ ?_
          show Sq p e below m T21 128 #[iv p1, iv p2, iv p3, iv 1, rv w_STANDARD_delays_elements_0, rv b3, rv b17, .unset, .unset, .unset, .unset, .unset, .unset] [.int (p2 &&& (1 : Int32))] _
          refine XS.ifNo X21.here hx rfl (hb hby at_128) rfl ((if0 _ _).trans (feq hc128).1) ?_
          refine XS.iconst X21.here hx rfl (hb hby at_131) ?_
          show Sq p e below m T21 132 #[iv p1, iv p2, iv p3, iv 1, rv w_STANDARD_delays_elements_0, rv b3, rv b17, .unset, .unset, .unset, .unset, .unset, .unset] [.int 1] _
          refine XS.goto X21.here hx rfl (pc0 := 132) (pc' := 136) rfl (hb hby at_132) (by decide) (by decide) ?_
          refine XS.istore X21.here hx rfl (hb hby at_136) rfl rfl ?_
          show Sq p e below m T21 138 #[iv p1, iv p2, iv p3, iv 1, rv w_STANDARD_delays_elements_0, rv b3, rv b17, iv 1, .unset, .unset, .unset, .unset, .unset] [] _
          refine XS.iload X21.here hx rfl (hb hby at_138) rfl ?_
          refine XS.ifNo X21.here hx rfl (hb hby at_140) rfl ((if0 _ _).trans (feq (by decide)).1) ?_
          show Sq p e below m T21 143 #[iv p1, iv p2, iv p3, iv 1, rv w_STANDARD_delays_elements_0, rv b3, rv b17, iv 1, .unset, .unset, .unset, .unset, .unset] [] _
          refine st25 _ ?_
          show Sq p e below m T25 146 #[iv p1, iv p2, iv p3, iv 1, rv w_STANDARD_delays_elements_0, rv b3, rv b17, iv 1, .unset, .unset, .unset, .unset, .unset] [.ref w_TRANSIENT] _
          refine XS.goto X25.here hx rfl (pc0 := 146) (pc' := 152) rfl (hb hby at_146) (by decide) (by decide) ?_
          refine XS.astore X25.here hx rfl (hb hby at_152) rfl rfl rfl ?_
          exact kt
        rcases Decidable.em (p3 < (1 : Int32)) with hrk | hrk
        · obtain ⟨cq27, kq27, q27a, q27b, q27c⟩ := isOf hZ e25 A17
          obtain ⟨_, _, ⟨T27, L27, k27, n27⟩, -, X27, ⟨Lc27, hQ27, l27, y27, z27⟩, st27⟩ := X25.virtualBack hx (y := y_35) (z := y_35) hown (mvT hZ (W 93 rfl)) (mvT hZ (W 94 rfl)) (notFace_of_selects (args := #[]) (mvT hZ (W 96 rfl))) (mvT hZ (W 96 rfl)) (mvT hZ (W 95 rfl)) (by decide) (backOf (W := 0) (sq11 l Z a0 hw [] b17 p3 w_TRANSIENT w_PENDING b21r w_EMPTY h21 n0 O22 A17 p21_2 p21_3 p21_4 S_w_EMPTY S_w_TRANSIENT S_w_PENDING hrk) hZ (W 97 rfl) (W 1 rfl) (by decide) (by decide)) q27a q27c (g := (mkF m 159 #[iv p1, iv p2, iv p3, iv 1, rv w_STANDARD_delays_elements_0, rv b3, rv b17, iv 1, rv w_TRANSIENT, .unset, .unset, .unset, .unset] [.int p3, .ref w_TRANSIENT, .ref b17])) rfl (by rw [hml]; rfl) (Steps.refl _) (argsL := [.ref w_TRANSIENT, .int p3]) (rest := []) (lenOf pd_19 rfl) rfl (by show 2 * 0 + _ ≤ _; exact Nat.le_of_eq rfl) (hb hby at_159) (fun _ _ => ⟨rfl, e25, (by decide : 5 + 0 ≤ _), (by decide : 23 + 0 ≤ _)⟩)
          dsimp only [Pt.U, Pt.locs, Pt.cells, Pt.slots] at X27 l27 y27 z27 st27 hQ27
          subst l27 y27 z27
          obtain ⟨h27, e27⟩ : ∃ z, T27.heap = z := ⟨_, rfl⟩
          rw [e27] at hQ27
          obtain ⟨rfl, N27q, p27_0⟩ := hQ27
          have N27 := Fr.app N21 N27q
          rw [p27_0] at e27
          obtain ⟨T28, X28, e28, st28⟩ := getS2 X27 hx hZ hown (host := "") (Or.inl (W 237 rfl)) Via.refl e27 (S_w_PENDING.ext O22.2) (g := (mkF m 191 #[iv p1, iv p2, iv p3, iv 1, rv w_STANDARD_delays_elements_0, rv b3, rv b17, iv 1, rv w_TRANSIENT, rv w_PENDING, .val (.long ((1 : Int64) - (p3.toInt64))), .second, .unset] [])) rfl (hb hby at_191)
          obtain ⟨fs, hr, hrun, hended, hW, hsame⟩ := X28.leave (v := some (.int (1 : Int32))) (fun h => by rw [Bd.returns] at h; cases h)
          refine ⟨_, _, pre26 _ ?_, hrun, hended, _, _, rfl, ?_, ⟨_, rfl⟩, hW, hsame.mono (by decide) (by decide)⟩
          · show Sq p e below m T25 154 #[iv p1, iv p2, iv p3, iv 1, rv w_STANDARD_delays_elements_0, rv b3, rv b17, iv 1, rv w_TRANSIENT, .unset, .unset, .unset, .unset] [] _
            refine XS.aload X25.here hx rfl (hb hby at_154) rfl rfl ?_
            refine XS.aload X25.here hx rfl (hb hby at_156) rfl rfl ?_
            show Sq p e below m T25 158 #[iv p1, iv p2, iv p3, iv 1, rv w_STANDARD_delays_elements_0, rv b3, rv b17, iv 1, rv w_TRANSIENT, .unset, .unset, .unset, .unset] [.ref w_TRANSIENT, .ref b17] _
            refine XS.iloadN X25.here hx rfl (hb hby at_158) rfl ?_
            show Sq p e below m T25 159 #[iv p1, iv p2, iv p3, iv 1, rv w_STANDARD_delays_elements_0, rv b3, rv b17, iv 1, rv w_TRANSIENT, .unset, .unset, .unset, .unset] [.int p3, .ref w_TRANSIENT, .ref b17] _
            refine st27.trans ?_
            show Sq p e below m T27 162 #[iv p1, iv p2, iv p3, iv 1, rv w_STANDARD_delays_elements_0, rv b3, rv b17, iv 1, rv w_TRANSIENT, .unset, .unset, .unset, .unset] [.ref w_PENDING] _
            refine XS.astore X27.here hx rfl (hb hby at_162) rfl rfl rfl ?_
            refine XS.iloadN X27.here hx rfl (hb hby at_164) rfl ?_
            show Sq p e below m T27 165 #[iv p1, iv p2, iv p3, iv 1, rv w_STANDARD_delays_elements_0, rv b3, rv b17, iv 1, rv w_TRANSIENT, rv w_PENDING, .unset, .unset, .unset] [.int 1] _
            refine XS.i2l X27.here hx rfl (hb hby at_165) rfl ?_
            show Sq p e below m T27 166 #[iv p1, iv p2, iv p3, iv 1, rv w_STANDARD_delays_elements_0, rv b3, rv b17, iv 1, rv w_TRANSIENT, rv w_PENDING, .unset, .unset, .unset] [.long ((1 : Int32).toInt64)] _
            rw [show ((1 : Int32).toInt64) = (1 : Int64) from by decide]
            show Sq p e below m T27 166 #[iv p1, iv p2, iv p3, iv 1, rv w_STANDARD_delays_elements_0, rv b3, rv b17, iv 1, rv w_TRANSIENT, rv w_PENDING, .unset, .unset, .unset] [.long 1] _
            refine XS.iloadN X27.here hx rfl (hb hby at_166) rfl ?_
            refine XS.i2l X27.here hx rfl (hb hby at_167) rfl ?_
            show Sq p e below m T27 168 #[iv p1, iv p2, iv p3, iv 1, rv w_STANDARD_delays_elements_0, rv b3, rv b17, iv 1, rv w_TRANSIENT, rv w_PENDING, .unset, .unset, .unset] [.long (p3.toInt64), .long 1] _
            refine XS.lsub X27.here hx rfl (hb hby at_168) rfl ?_
            refine XS.lstore X27.here hx rfl (hb hby at_169) rfl rfl ?_
            show Sq p e below m T27 171 #[iv p1, iv p2, iv p3, iv 1, rv w_STANDARD_delays_elements_0, rv b3, rv b17, iv 1, rv w_TRANSIENT, rv w_PENDING, .val (.long ((1 : Int64) - (p3.toInt64))), .second, .unset] [] _
            refine XS.iload X27.here hx rfl (hb hby at_171) rfl ?_
            refine XS.ifYes X27.here hx rfl (pc0 := 173) (pc' := 184) rfl (hb hby at_173) rfl ((if0 _ _).trans (feq (by decide)).2) (by decide) (by decide) ?_
            show Sq p e below m T27 184 #[iv p1, iv p2, iv p3, iv 1, rv w_STANDARD_delays_elements_0, rv b3, rv b17, iv 1, rv w_TRANSIENT, rv w_PENDING, .val (.long ((1 : Int64) - (p3.toInt64))), .second, .unset] [] _
            refine XS.lload X27.here hx rfl (hb hby at_184) rfl ?_
            refine XS.lconst X27.here hx rfl (hb hby at_186) ?_
            show Sq p e below m T27 187 #[iv p1, iv p2, iv p3, iv 1, rv w_STANDARD_delays_elements_0, rv b3, rv b17, iv 1, rv w_TRANSIENT, rv w_PENDING, .val (.long ((1 : Int64) - (p3.toInt64))), .second, .unset] [.long 1, .long ((1 : Int64) - (p3.toInt64))] _
            refine XS.lcmp X27.here hx rfl (hb hby at_187) rfl ?_
            refine XS.ifNo X27.here hx rfl (hb hby at_188) rfl ((if0 _ _).trans (flt (own_lf (k := (1 : Int32)) (by decide) hrk)).1) ?_
            show Sq p e below m T27 191 #[iv p1, iv p2, iv p3, iv 1, rv w_STANDARD_delays_elements_0, rv b3, rv b17, iv 1, rv w_TRANSIENT, rv w_PENDING, .val (.long ((1 : Int64) - (p3.toInt64))), .second, .unset] [] _
            refine st28 _ ?_
            show Sq p e below m T28 194 #[iv p1, iv p2, iv p3, iv 1, rv w_STANDARD_delays_elements_0, rv b3, rv b17, iv 1, rv w_TRANSIENT, rv w_PENDING, .val (.long ((1 : Int64) - (p3.toInt64))), .second, .unset] [.ref w_PENDING] _
            refine XS.astore X28.here hx rfl (hb hby at_194) rfl rfl rfl ?_
            refine XS.goto X28.here hx rfl (pc0 := 196) (pc' := 204) rfl (hb hby at_196) (by decide) (by decide) ?_
            show Sq p e below m T28 204 #[iv p1, iv p2, iv p3, iv 1, rv w_STANDARD_delays_elements_0, rv b3, rv b17, iv 1, rv w_TRANSIENT, rv w_PENDING, .val (.long ((1 : Int64) - (p3.toInt64))), .second, rv w_PENDING] [] _
            refine XS.aload X28.here hx rfl (hb hby at_204) rfl rfl ?_
            refine XS.aload X28.here hx rfl (hb hby at_206) rfl rfl ?_
            show Sq p e below m T28 208 #[iv p1, iv p2, iv p3, iv 1, rv w_STANDARD_delays_elements_0, rv b3, rv b17, iv 1, rv w_TRANSIENT, rv w_PENDING, .val (.long ((1 : Int64) - (p3.toInt64))), .second, rv w_PENDING] [.ref w_PENDING, .ref w_PENDING] _
            refine Jvm.RoadKit.acmp (g := (mkF m 208 #[iv p1, iv p2, iv p3, iv 1, rv w_STANDARD_delays_elements_0, rv b3, rv b17, iv 1, rv w_TRANSIENT, rv w_PENDING, .val (.long ((1 : Int64) - (p3.toInt64))), .second, rv w_PENDING] [.ref w_PENDING, .ref w_PENDING])) X28 hx rfl rfl rfl (pc0 := 208) (pc' := 211) (same := true) rfl (hb hby at_208) rfl (decide_eq_true rfl) (by decide) (by decide) ?_
            show Sq p e below m T28 211 #[iv p1, iv p2, iv p3, iv 1, rv w_STANDARD_delays_elements_0, rv b3, rv b17, iv 1, rv w_TRANSIENT, rv w_PENDING, .val (.long ((1 : Int64) - (p3.toInt64))), .second, rv w_PENDING] [] _
            refine XS.iconst X28.here hx rfl (hb hby at_211) ?_
            refine XS.goto X28.here hx rfl (pc0 := 212) (pc' := 216) rfl (hb hby at_212) (by decide) (by decide) ?_
            show Sq p e below m T28 216 #[iv p1, iv p2, iv p3, iv 1, rv w_STANDARD_delays_elements_0, rv b3, rv b17, iv 1, rv w_TRANSIENT, rv w_PENDING, .val (.long ((1 : Int64) - (p3.toInt64))), .second, rv w_PENDING] [.int 1] _
            exact retN X28 hx (t := .boolean) Bd.returns (by simp) (hb hby at_216) hr
          · show Q_rm0 Z p1 p2 p3 (1 : Int32) w_STANDARD w_STANDARD_delays w_STANDARD_delays_elements w_STANDARD_delays_elements_0 w_TRANSIENT w_FAILED w_DATA w_PENDING w_STANDARD_delays_elements_1 w_STANDARD_delays_elements_2 w_STANDARD_delays_elements_3 w_STANDARD_delays_elements_4 w_DEF w_ELIST w_EMPTY w_ELIST_elements kdef kel k5 w_MIR h0 n0 _ T28.heap _
            rw [e28]
            exact ⟨rfl, N27⟩
        · obtain ⟨cq27, kq27, q27a, q27b, q27c⟩ := isOf hZ e25 A17
          obtain ⟨_, _, ⟨T27, L27, k27, n27⟩, -, X27, ⟨Lc27, hQ27, l27, y27, z27⟩, st27⟩ := X25.virtualBack hx (y := y_35) (z := y_35) hown (mvT hZ (W 93 rfl)) (mvT hZ (W 94 rfl)) (notFace_of_selects (args := #[]) (mvT hZ (W 96 rfl))) (mvT hZ (W 96 rfl)) (mvT hZ (W 95 rfl)) (by decide) (backOf (W := 0) (sq10 l Z a0 hw [] b17 p3 w_TRANSIENT w_FAILED b21r w_EMPTY h21 n0 O22 A17 p21_2 p21_3 p21_4 S_w_EMPTY S_w_TRANSIENT S_w_FAILED hrk) hZ (W 97 rfl) (W 1 rfl) (by decide) (by decide)) q27a q27c (g := (mkF m 159 #[iv p1, iv p2, iv p3, iv 1, rv w_STANDARD_delays_elements_0, rv b3, rv b17, iv 1, rv w_TRANSIENT, .unset, .unset, .unset, .unset] [.int p3, .ref w_TRANSIENT, .ref b17])) rfl (by rw [hml]; rfl) (Steps.refl _) (argsL := [.ref w_TRANSIENT, .int p3]) (rest := []) (lenOf pd_19 rfl) rfl (by show 2 * 0 + _ ≤ _; exact Nat.le_of_eq rfl) (hb hby at_159) (fun _ _ => ⟨rfl, e25, (by decide : 5 + 0 ≤ _), (by decide : 23 + 0 ≤ _)⟩)
          dsimp only [Pt.U, Pt.locs, Pt.cells, Pt.slots] at X27 l27 y27 z27 st27 hQ27
          subst l27 y27 z27
          obtain ⟨h27, e27⟩ : ∃ z, T27.heap = z := ⟨_, rfl⟩
          rw [e27] at hQ27
          obtain ⟨rfl, N27q, p27_0⟩ := hQ27
          have N27 := Fr.app N21 N27q
          rw [p27_0] at e27
          obtain ⟨T28, X28, e28, st28⟩ := getS2 X27 hx hZ hown (host := "") (Or.inl (W 115 rfl)) Via.refl e27 (S_w_FAILED.ext O22.2) (g := (mkF m 199 #[iv p1, iv p2, iv p3, iv 1, rv w_STANDARD_delays_elements_0, rv b3, rv b17, iv 1, rv w_TRANSIENT, rv w_FAILED, .val (.long ((1 : Int64) - (p3.toInt64))), .second, .unset] [])) rfl (hb hby at_199)
          obtain ⟨fs, hr, hrun, hended, hW, hsame⟩ := X28.leave (v := some (.int (1 : Int32))) (fun h => by rw [Bd.returns] at h; cases h)
          refine ⟨_, _, pre26 _ ?_, hrun, hended, _, _, rfl, ?_, ⟨_, rfl⟩, hW, hsame.mono (by decide) (by decide)⟩
          · show Sq p e below m T25 154 #[iv p1, iv p2, iv p3, iv 1, rv w_STANDARD_delays_elements_0, rv b3, rv b17, iv 1, rv w_TRANSIENT, .unset, .unset, .unset, .unset] [] _
            refine XS.aload X25.here hx rfl (hb hby at_154) rfl rfl ?_
            refine XS.aload X25.here hx rfl (hb hby at_156) rfl rfl ?_
            show Sq p e below m T25 158 #[iv p1, iv p2, iv p3, iv 1, rv w_STANDARD_delays_elements_0, rv b3, rv b17, iv 1, rv w_TRANSIENT, .unset, .unset, .unset, .unset] [.ref w_TRANSIENT, .ref b17] _
            refine XS.iloadN X25.here hx rfl (hb hby at_158) rfl ?_
            show Sq p e below m T25 159 #[iv p1, iv p2, iv p3, iv 1, rv w_STANDARD_delays_elements_0, rv b3, rv b17, iv 1, rv w_TRANSIENT, .unset, .unset, .unset, .unset] [.int p3, .ref w_TRANSIENT, .ref b17] _
            refine st27.trans ?_
            show Sq p e below m T27 162 #[iv p1, iv p2, iv p3, iv 1, rv w_STANDARD_delays_elements_0, rv b3, rv b17, iv 1, rv w_TRANSIENT, .unset, .unset, .unset, .unset] [.ref w_FAILED] _
            refine XS.astore X27.here hx rfl (hb hby at_162) rfl rfl rfl ?_
            refine XS.iloadN X27.here hx rfl (hb hby at_164) rfl ?_
            show Sq p e below m T27 165 #[iv p1, iv p2, iv p3, iv 1, rv w_STANDARD_delays_elements_0, rv b3, rv b17, iv 1, rv w_TRANSIENT, rv w_FAILED, .unset, .unset, .unset] [.int 1] _
            refine XS.i2l X27.here hx rfl (hb hby at_165) rfl ?_
            show Sq p e below m T27 166 #[iv p1, iv p2, iv p3, iv 1, rv w_STANDARD_delays_elements_0, rv b3, rv b17, iv 1, rv w_TRANSIENT, rv w_FAILED, .unset, .unset, .unset] [.long ((1 : Int32).toInt64)] _
            rw [show ((1 : Int32).toInt64) = (1 : Int64) from by decide]
            show Sq p e below m T27 166 #[iv p1, iv p2, iv p3, iv 1, rv w_STANDARD_delays_elements_0, rv b3, rv b17, iv 1, rv w_TRANSIENT, rv w_FAILED, .unset, .unset, .unset] [.long 1] _
            refine XS.iloadN X27.here hx rfl (hb hby at_166) rfl ?_
            refine XS.i2l X27.here hx rfl (hb hby at_167) rfl ?_
            show Sq p e below m T27 168 #[iv p1, iv p2, iv p3, iv 1, rv w_STANDARD_delays_elements_0, rv b3, rv b17, iv 1, rv w_TRANSIENT, rv w_FAILED, .unset, .unset, .unset] [.long (p3.toInt64), .long 1] _
            refine XS.lsub X27.here hx rfl (hb hby at_168) rfl ?_
            refine XS.lstore X27.here hx rfl (hb hby at_169) rfl rfl ?_
            show Sq p e below m T27 171 #[iv p1, iv p2, iv p3, iv 1, rv w_STANDARD_delays_elements_0, rv b3, rv b17, iv 1, rv w_TRANSIENT, rv w_FAILED, .val (.long ((1 : Int64) - (p3.toInt64))), .second, .unset] [] _
            refine XS.iload X27.here hx rfl (hb hby at_171) rfl ?_
            refine XS.ifYes X27.here hx rfl (pc0 := 173) (pc' := 184) rfl (hb hby at_173) rfl ((if0 _ _).trans (feq (by decide)).2) (by decide) (by decide) ?_
            show Sq p e below m T27 184 #[iv p1, iv p2, iv p3, iv 1, rv w_STANDARD_delays_elements_0, rv b3, rv b17, iv 1, rv w_TRANSIENT, rv w_FAILED, .val (.long ((1 : Int64) - (p3.toInt64))), .second, .unset] [] _
            refine XS.lload X27.here hx rfl (hb hby at_184) rfl ?_
            refine XS.lconst X27.here hx rfl (hb hby at_186) ?_
            show Sq p e below m T27 187 #[iv p1, iv p2, iv p3, iv 1, rv w_STANDARD_delays_elements_0, rv b3, rv b17, iv 1, rv w_TRANSIENT, rv w_FAILED, .val (.long ((1 : Int64) - (p3.toInt64))), .second, .unset] [.long 1, .long ((1 : Int64) - (p3.toInt64))] _
            refine XS.lcmp X27.here hx rfl (hb hby at_187) rfl ?_
            refine XS.ifYes X27.here hx rfl (pc0 := 188) (pc' := 199) rfl (hb hby at_188) rfl ((if0 _ _).trans (tlt (own_lt (k := (1 : Int32)) (by decide) hrk)).1) (by decide) (by decide) ?_
            show Sq p e below m T27 199 #[iv p1, iv p2, iv p3, iv 1, rv w_STANDARD_delays_elements_0, rv b3, rv b17, iv 1, rv w_TRANSIENT, rv w_FAILED, .val (.long ((1 : Int64) - (p3.toInt64))), .second, .unset] [] _
            refine st28 _ ?_
            show Sq p e below m T28 202 #[iv p1, iv p2, iv p3, iv 1, rv w_STANDARD_delays_elements_0, rv b3, rv b17, iv 1, rv w_TRANSIENT, rv w_FAILED, .val (.long ((1 : Int64) - (p3.toInt64))), .second, .unset] [.ref w_FAILED] _
            refine XS.astore X28.here hx rfl (hb hby at_202) rfl rfl rfl ?_
            refine XS.aload X28.here hx rfl (hb hby at_204) rfl rfl ?_
            show Sq p e below m T28 206 #[iv p1, iv p2, iv p3, iv 1, rv w_STANDARD_delays_elements_0, rv b3, rv b17, iv 1, rv w_TRANSIENT, rv w_FAILED, .val (.long ((1 : Int64) - (p3.toInt64))), .second, rv w_FAILED] [.ref w_FAILED] _
            refine XS.aload X28.here hx rfl (hb hby at_206) rfl rfl ?_
            show Sq p e below m T28 208 #[iv p1, iv p2, iv p3, iv 1, rv w_STANDARD_delays_elements_0, rv b3, rv b17, iv 1, rv w_TRANSIENT, rv w_FAILED, .val (.long ((1 : Int64) - (p3.toInt64))), .second, rv w_FAILED] [.ref w_FAILED, .ref w_FAILED] _
            refine Jvm.RoadKit.acmp (g := (mkF m 208 #[iv p1, iv p2, iv p3, iv 1, rv w_STANDARD_delays_elements_0, rv b3, rv b17, iv 1, rv w_TRANSIENT, rv w_FAILED, .val (.long ((1 : Int64) - (p3.toInt64))), .second, rv w_FAILED] [.ref w_FAILED, .ref w_FAILED])) X28 hx rfl rfl rfl (pc0 := 208) (pc' := 211) (same := true) rfl (hb hby at_208) rfl (decide_eq_true rfl) (by decide) (by decide) ?_
            show Sq p e below m T28 211 #[iv p1, iv p2, iv p3, iv 1, rv w_STANDARD_delays_elements_0, rv b3, rv b17, iv 1, rv w_TRANSIENT, rv w_FAILED, .val (.long ((1 : Int64) - (p3.toInt64))), .second, rv w_FAILED] [] _
            refine XS.iconst X28.here hx rfl (hb hby at_211) ?_
            refine XS.goto X28.here hx rfl (pc0 := 212) (pc' := 216) rfl (hb hby at_212) (by decide) (by decide) ?_
            show Sq p e below m T28 216 #[iv p1, iv p2, iv p3, iv 1, rv w_STANDARD_delays_elements_0, rv b3, rv b17, iv 1, rv w_TRANSIENT, rv w_FAILED, .val (.long ((1 : Int64) - (p3.toInt64))), .second, rv w_FAILED] [.int 1] _
            exact retN X28 hx (t := .boolean) Bd.returns (by simp) (hb hby at_216) hr
          · show Q_rm0 Z p1 p2 p3 (1 : Int32) w_STANDARD w_STANDARD_delays w_STANDARD_delays_elements w_STANDARD_delays_elements_0 w_TRANSIENT w_FAILED w_DATA w_PENDING w_STANDARD_delays_elements_1 w_STANDARD_delays_elements_2 w_STANDARD_delays_elements_3 w_STANDARD_delays_elements_4 w_DEF w_ELIST w_EMPTY w_ELIST_elements kdef kel k5 w_MIR h0 n0 _ T28.heap _
            rw [e28]
            exact ⟨rfl, N27⟩
    · obtain ⟨cq17, kq17, q17a, q17b, q17c⟩ := isOf hZ e13 A3
      obtain ⟨_, _, ⟨T17, L17, k17, n17⟩, -, X17, ⟨Lc17, hQ17, l17, y17, z17⟩, st17⟩ := X13.virtualBack hx (y := y_18) (z := y_18) hown (mvT hZ (W 116 rfl)) (mvT hZ (W 117 rfl)) (notFace_of_selects (args := #[]) (mvT hZ (W 119 rfl))) (mvT hZ (W 119 rfl)) (mvT hZ (W 118 rfl)) (by decide) (backOf (W := 0) (addg l Z a0 hw [] b3 w_STANDARD_delays_elements_0 b13b b13kb ((0 : Int32) + (1 : Int32)) (1 : Int32) (2 : Int32) [(.ref w_STANDARD_delays_elements_0), .null, .null, .null, .null, .null, .null, .null, .null, .null] [(.ref w_STANDARD_delays_elements_0), (.ref w_STANDARD_delays_elements_0), .null, .null, .null, .null, .null, .null, .null, .null] h13 n0 O14 A3 E_w_STANDARD_delays_elements_0 p13_2 p13_3 p13_4 g_b3 g_b13b ne_b3_b13b p13_5 p13_6 (by decide) (by decide) (by decide) rfl (Nat.le_of_ble_eq_true rfl)) hZ (W 120 rfl) (W 26 rfl) (by decide) (by decide)) q17a q17c (g := (mkF m 44 #[iv p1, iv p2, iv p3, iv n, rv w_STANDARD_delays_elements_0, rv b3, .unset, .unset, .unset, .unset, .unset, .unset, .unset] [.ref w_STANDARD_delays_elements_0, .ref b3])) rfl (by rw [hml]; rfl) (Steps.refl _) (argsL := [.ref w_STANDARD_delays_elements_0]) (rest := []) (lenOf pd_20 rfl) rfl (by show 2 * 0 + _ ≤ _; exact Nat.le_of_eq rfl) (hb hby at_44) (fun _ _ => ⟨rfl, e13, (by decide : 2 + 0 ≤ _), (by decide : 13 + 0 ≤ _)⟩)
      dsimp only [Pt.U, Pt.locs, Pt.cells, Pt.slots] at X17 l17 y17 z17 st17 hQ17
      subst l17 y17 z17
      obtain ⟨h17, e17⟩ : ∃ z, T17.heap = z := ⟨_, rfl⟩
      rw [e17] at hQ17
      obtain ⟨rfl, N17q, p17_0, p17_1, p17_2, p17_3, p17_4⟩ := hQ17
      have N17 := Fr.app N13 N17q
      have A3 := A3.keep p17_0
      have p13_7 := p13_7.keep p17_0
      have O18 := O14.keep p17_0 (allS g_b3 (allS g_b13b all0))
      have pre20 : ∀ t, Steps p.tables e below (T17.setTop (mkF m 48 #[iv p1, iv p2, iv p3, iv n, rv w_STANDARD_delays_elements_0, rv b3, .unset, .unset, .unset, .unset, .unset, .unset, .unset] [])) t → Steps p.tables e below (s₁.setTop (entryFrame m #[(.int p1), (.int p2), (.int p3)] maxLocals)) t := by
        intro t kt
        refine pre16 _ ?_
        show Sq p e below m T13 35 #[iv p1, iv p2, iv p3, iv n, rv w_STANDARD_delays_elements_0, rv b3, .unset, .unset, .unset, .unset, .unset, .unset, .unset] [] _
        refine XS.iloadN X13.here hx rfl (hb hby at_35) rfl ?_
        refine XS.iconst X13.here hx rfl (hb hby at_36) ?_
        show Sq p e below m T13 37 #[iv p1, iv p2, iv p3, iv n, rv w_STANDARD_delays_elements_0, rv b3, .unset, .unset, .unset, .unset, .unset, .unset, .unset] [.int 1, .int n] _
        refine XS.icmpNo X13.here hx rfl (hb hby at_37) rfl (tlt hs1).2.2.2 ?_
        refine XS.aload X13.here hx rfl (hb hby at_40) rfl rfl ?_
        show Sq p e below m T13 42 #[iv p1, iv p2, iv p3, iv n, rv w_STANDARD_delays_elements_0, rv b3, .unset, .unset, .unset, .unset, .unset, .unset, .unset] [.ref b3] _
        refine XS.aload X13.here hx rfl (hb hby at_42) rfl rfl ?_
        show Sq p e below m T13 44 #[iv p1, iv p2, iv p3, iv n, rv w_STANDARD_delays_elements_0, rv b3, .unset, .unset, .unset, .unset, .unset, .unset, .unset] [.ref w_STANDARD_delays_elements_0, .ref b3] _
        refine st17.trans ?_
        show Sq p e below m T17 47 #[iv p1, iv p2, iv p3, iv n, rv w_STANDARD_delays_elements_0, rv b3, .unset, .unset, .unset, .unset, .unset, .unset, .unset] [.int 1] _
        refine XS.pop X17.here hx rfl (hb hby at_47) rfl rfl ?_
        exact kt
      rcases own_sk (k := (2 : Int32)) hs1 (by decide) with rfl | hs2
      · obtain ⟨T21, h21, X21, e21, E21, A21, D21, -, st21⟩ := newO X17 hx hZ hown (W 50 rfl) (W 51 rfl) (W 1 rfl) e17 (g := (mkF m 114 #[iv p1, iv p2, iv p3, iv 2, rv w_STANDARD_delays_elements_0, rv b3, .unset, .unset, .unset, .unset, .unset, .unset, .unset] [])) rfl (hb hby at_114) (by decide) (by decide)
        obtain ⟨b21, g21⟩ : ∃ z, z = h17.size := ⟨_, rfl⟩
        rw [← g21] at A21 D21 st21
        have g_b21 : n0 ≤ b21 := Nat.le_trans (own_sz O18) (Nat.le_of_eq g21.symm)
        have A3 := A3.ext E21
        have p13_7 := p13_7.ext E21
        have p17_1 := p17_1.ext E21
        have p17_2 := p17_2.ext E21
        have p17_4 := p17_4.ext E21
        have O22 := O18.ext E21
        have Fz24 : Fld Z h21 b21 "com/example/savitri/savitri/store/RedriveSchedule" "delays" "Ljava/util/List;" .null := D21 (Or.inr (W 9 rfl)) (ty := (.object "java/util/List")) (by decide)
        obtain ⟨_, _, ⟨T25, L25, k25, n25⟩, -, X25, ⟨Lc25, hQ25, l25, y25, z25⟩, st25⟩ := X21.specialBack hx (y := y_29) rfl hown (mvT hZ (W 52 rfl)) (mvT hZ (W 53 rfl)) (mvT hZ (W 54 rfl)) (by decide) (backOf (W := 1) (recin2 l Z a0 hw [] b21 b3 b13b b13kb w_STANDARD_delays_elements_0 w_MIR h21 n0 O22 A21 Fz24 g_b21 A3 p17_4 E_w_STANDARD_delays_elements_0 Mo p13_7 p17_1 p17_2) hZ (W 54 rfl) (W 1 rfl) (by decide) (by decide)) (g := (mkF m 120 #[iv p1, iv p2, iv p3, iv 2, rv w_STANDARD_delays_elements_0, rv b3, .unset, .unset, .unset, .unset, .unset, .unset, .unset] [.ref b3, .ref b21, .ref b21])) rfl (by rw [hml]; rfl) (Steps.refl _) (a := b21) (argsL := [.ref b3]) (rest := [.ref b21]) (lenOf pd_18 rfl) rfl (by show 2 * 0 + _ ≤ _; exact Nat.le_of_eq rfl) (hb hby at_120) (fun _ _ => ⟨rfl, e21, (by decide : 3 + 2 ≤ _), (by decide : 14 + 9 ≤ _)⟩)
        dsimp only [Pt.U, Pt.locs, Pt.cells, Pt.slots] at X25 l25 y25 z25 st25 hQ25
        subst l25 y25 z25
        obtain ⟨h25, e25⟩ : ∃ z, T25.heap = z := ⟨_, rfl⟩
        rw [e25] at hQ25
        obtain ⟨b25r, rfl, N25q, p25_0, p25_1, p25_2, p25_3, p25_4⟩ := hQ25
        have N25 := Fr.app N17 N25q
        have A21 := A21.keep p25_0
        have O26 := O22.keep p25_0 (allS g_b21 all0)
        have pre28 : ∀ t, Steps p.tables e below (T25.setTop (mkF m 128 #[iv p1, iv p2, iv p3, iv 2, rv w_STANDARD_delays_elements_0, rv b3, rv b21, .unset, .unset, .unset, .unset, .unset, .unset] [.int (p2 &&& (1 : Int32))])) t → Steps p.tables e below (s₁.setTop (entryFrame m #[(.int p1), (.int p2), (.int p3)] maxLocals)) t := by
          intro t kt
          refine pre20 _ ?_
          show Sq p e below m T17 48 #[iv p1, iv p2, iv p3, iv 2, rv w_STANDARD_delays_elements_0, rv b3, .unset, .unset, .unset, .unset, .unset, .unset, .unset] [] _
          refine XS.iloadN X17.here hx rfl (hb hby at_48) rfl ?_
          refine XS.iconst X17.here hx rfl (hb hby at_49) ?_
          show Sq p e below m T17 50 #[iv p1, iv p2, iv p3, iv 2, rv w_STANDARD_delays_elements_0, rv b3, .unset, .unset, .unset, .unset, .unset, .unset, .unset] [.int 2, .int 2] _
          refine XS.icmpYes X17.here hx rfl (pc0 := 50) (pc' := 61) rfl (hb hby at_50) rfl (flt (by decide)).2.2.2 (by decide) (by decide) ?_
          refine XS.iloadN X17.here hx rfl (hb hby at_61) rfl ?_
          show Sq p e below m T17 62 #[iv p1, iv p2, iv p3, iv 2, rv w_STANDARD_delays_elements_0, rv b3, .unset, .unset, .unset, .unset, .unset, .unset, .unset] [.int 2] _
          refine XS.iconst X17.here hx rfl (hb hby at_62) ?_
          refine XS.icmpYes X17.here hx rfl (pc0 := 63) (pc' := 74) rfl (hb hby at_63) rfl (flt (by decide)).2.2.2 (by decide) (by decide) ?_
          show Sq p e below m T17 74 #[iv p1, iv p2, iv p3, iv 2, rv w_STANDARD_delays_elements_0, rv b3, .unset, .unset, .unset, .unset, .unset, .unset, .unset] [] _
          refine XS.iloadN X17.here hx rfl (hb hby at_74) rfl ?_
          refine XS.iconst X17.here hx rfl (hb hby at_75) ?_
          show Sq p e below m T17 76 #[iv p1, iv p2, iv p3, iv 2, rv w_STANDARD_delays_elements_0, rv b3, .unset, .unset, .unset, .unset, .unset, .unset, .unset] [.int 4, .int 2] _
          refine XS.icmpYes X17.here hx rfl (pc0 := 76) (pc' := 87) rfl (hb hby at_76) rfl (flt (by decide)).2.2.2 (by decide) (by decide) ?_
          refine XS.iloadN X17.here hx rfl (hb hby at_87) rfl ?_
          show Sq p e below m T17 88 #[iv p1, iv p2, iv p3, iv 2, rv w_STANDARD_delays_elements_0, rv b3, .unset, .unset, .unset, .unset, .unset, .unset, .unset] [.int 2] _
          refine XS.iconst X17.here hx rfl (hb hby at_88) ?_
          refine XS.icmpYes X17.here hx rfl (pc0 := 89) (pc' := 100) rfl (hb hby at_89) rfl (flt (by decide)).2.2.2 (by decide) (by decide) ?_
          show Sq p e below m T17 100 #[iv p1, iv p2, iv p3, iv 2, rv w_STANDARD_delays_elements_0, rv b3, .unset, .unset, .unset, .unset, .unset, .unset, .unset] [] _
          refine XS.iloadN X17.here hx rfl (hb hby at_100) rfl ?_
          refine XS.bipush X17.here hx rfl (hb hby at_101) ?_
          show Sq p e below m T17 103 #[iv p1, iv p2, iv p3, iv 2, rv w_STANDARD_delays_elements_0, rv b3, .unset, .unset, .unset, .unset, .unset, .unset, .unset] [.int 6, .int 2] _
          refine XS.icmpYes X17.here hx rfl (pc0 := 103) (pc' := 114) rfl (hb hby at_103) rfl (flt (by decide)).2.2.2 (by decide) (by decide) ?_
          show Sq p e below m T17 114 #[iv p1, iv p2, iv p3, iv 2, rv w_STANDARD_delays_elements_0, rv b3, .unset, .unset, .unset, .unset, .unset, .unset, .unset] [] _
          refine st21 _ ?_
          show Sq p e below m T21 117 #[iv p1, iv p2, iv p3, iv 2, rv w_STANDARD_delays_elements_0, rv b3, .unset, .unset, .unset, .unset, .unset, .unset, .unset] [.ref b21] _
          refine XS.dup X21.here hx rfl (hb hby at_117) rfl rfl ?_
          refine XS.aload X21.here hx rfl (hb hby at_118) rfl rfl ?_
          show Sq p e below m T21 120 #[iv p1, iv p2, iv p3, iv 2, rv w_STANDARD_delays_elements_0, rv b3, .unset, .unset, .unset, .unset, .unset, .unset, .unset] [.ref b3, .ref b21, .ref b21] _
          refine st25.trans ?_
          show Sq p e below m T25 123 #[iv p1, iv p2, iv p3, iv 2, rv w_STANDARD_delays_elements_0, rv b3, .unset, .unset, .unset, .unset, .unset, .unset, .unset] [.ref b21] _
          refine XS.astore X25.here hx rfl (hb hby at_123) rfl rfl rfl ?_
          refine XS.iloadN X25.here hx rfl (hb hby at_125) rfl ?_
          show Sq p e below m T25 126 #[iv p1, iv p2, iv p3, iv 2, rv w_STANDARD_delays_elements_0, rv b3, rv b21, .unset, .unset, .unset, .unset, .unset, .unset] [.int p2] _
          refine XS.iconst X25.here hx rfl (hb hby at_126) ?_
          refine XS.iand X25.here hx rfl (hb hby at_127) rfl ?_
          exact kt
        by_cases hc128 : (p2 &&& (1 : Int32)) = (0 : Int32)
        · obtain ⟨T29, X29, e29, st29⟩ := getS2 X25 hx hZ hown (host := "") (Or.inl (W 208 rfl)) Via.refl e25 (S_w_DATA.ext O26.2) (g := (mkF m 149 #[iv p1, iv p2, iv p3, iv 2, rv w_STANDARD_delays_elements_0, rv b3, rv b21, iv 0, .unset, .unset, .unset, .unset, .unset] [])) rfl (hb hby at_149)
          obtain ⟨cq30, kq30, q30a, q30b, q30c⟩ := isOf hZ e29 A21
          obtain ⟨_, _, ⟨T30, L30, k30, n30⟩, -, X30, ⟨Lc30, hQ30, l30, y30, z30⟩, st30⟩ := X29.virtualBack hx (y := y_35) (z := y_35) hown (mvT hZ (W 93 rfl)) (mvT hZ (W 94 rfl)) (notFace_of_selects (args := #[]) (mvT hZ (W 96 rfl))) (mvT hZ (W 96 rfl)) (mvT hZ (W 95 rfl)) (by decide) (backOf (W := 0) (stD l Z a0 hw [] b21 p3 w_DATA w_TRANSIENT w_FAILED h25 n0 O26 S_w_TRANSIENT S_w_FAILED nek) hZ (W 97 rfl) (W 1 rfl) (by decide) (by decide)) q30a q30c (g := (mkF m 159 #[iv p1, iv p2, iv p3, iv 2, rv w_STANDARD_delays_elements_0, rv b3, rv b21, iv 0, rv w_DATA, .unset, .unset, .unset, .unset] [.int p3, .ref w_DATA, .ref b21])) rfl (by rw [hml]; rfl) (Steps.refl _) (argsL := [.ref w_DATA, .int p3]) (rest := []) (lenOf pd_19 rfl) rfl (by show 2 * 0 + _ ≤ _; exact Nat.le_of_eq rfl) (hb hby at_159) (fun _ _ => ⟨rfl, e29, (by decide : 5 + 0 ≤ _), (by decide : 23 + 0 ≤ _)⟩)
          dsimp only [Pt.U, Pt.locs, Pt.cells, Pt.slots] at X30 l30 y30 z30 st30 hQ30
          subst l30 y30 z30
          obtain ⟨h30, e30⟩ : ∃ z, T30.heap = z := ⟨_, rfl⟩
          rw [e30] at hQ30
          obtain ⟨rfl, N30q, p30_0⟩ := hQ30
          have N30 := Fr.app N25 N30q
          rw [p30_0] at e30
          obtain ⟨T31, X31, e31, st31⟩ := getS2 X30 hx hZ hown (host := "") (Or.inl (W 115 rfl)) Via.refl e30 (S_w_FAILED.ext O26.2) (g := (mkF m 176 #[iv p1, iv p2, iv p3, iv 2, rv w_STANDARD_delays_elements_0, rv b3, rv b21, iv 0, rv w_DATA, rv w_FAILED, .val (.long ((2 : Int64) - (p3.toInt64))), .second, .unset] [])) rfl (hb hby at_176)
          obtain ⟨fs, hr, hrun, hended, hW, hsame⟩ := X31.leave (v := some (.int (1 : Int32))) (fun h => by rw [Bd.returns] at h; cases h)
          refine ⟨_, _, pre28 _ ?_, hrun, hended, _, _, rfl, ?_, ⟨_, rfl⟩, hW, hsame.mono (by decide) (by decide)⟩
          · show Sq p e below m T25 128 #[iv p1, iv p2, iv p3, iv 2, rv w_STANDARD_delays_elements_0, rv b3, rv b21, .unset, .unset, .unset, .unset, .unset, .unset] [.int (p2 &&& (1 : Int32))] _
            refine XS.ifYes X25.here hx rfl (pc0 := 128) (pc' := 135) rfl (hb hby at_128) rfl ((if0 _ _).trans (teq hc128).1) (by decide) (by decide) ?_
            refine XS.iconst X25.here hx rfl (hb hby at_135) ?_
            show Sq p e below m T25 136 #[iv p1, iv p2, iv p3, iv 2, rv w_STANDARD_delays_elements_0, rv b3, rv b21, .unset, .unset, .unset, .unset, .unset, .unset] [.int 0] _
            refine XS.istore X25.here hx rfl (hb hby at_136) rfl rfl ?_
            refine XS.iload X25.here hx rfl (hb hby at_138) rfl ?_
            show Sq p e below m T25 140 #[iv p1, iv p2, iv p3, iv 2, rv w_STANDARD_delays_elements_0, rv b3, rv b21, iv 0, .unset, .unset, .unset, .unset, .unset] [.int 0] _
            refine XS.ifYes X25.here hx rfl (pc0 := 140) (pc' := 149) rfl (hb hby at_140) rfl ((if0 _ _).trans (teq (rfl : (0 : Int32) = (0 : Int32))).1) (by decide) (by decide) ?_
            show Sq p e below m T25 149 #[iv p1, iv p2, iv p3, iv 2, rv w_STANDARD_delays_elements_0, rv b3, rv b21, iv 0, .unset, .unset, .unset, .unset, .unset] [] _
            refine st29 _ ?_
            show Sq p e below m T29 152 #[iv p1, iv p2, iv p3, iv 2, rv w_STANDARD_delays_elements_0, rv b3, rv b21, iv 0, .unset, .unset, .unset, .unset, .unset] [.ref w_DATA] _
            refine XS.astore X29.here hx rfl (hb hby at_152) rfl rfl rfl ?_
            refine XS.aload X29.here hx rfl (hb hby at_154) rfl rfl ?_
            show Sq p e below m T29 156 #[iv p1, iv p2, iv p3, iv 2, rv w_STANDARD_delays_elements_0, rv b3, rv b21, iv 0, rv w_DATA, .unset, .unset, .unset, .unset] [.ref b21] _
            refine XS.aload X29.here hx rfl (hb hby at_156) rfl rfl ?_
            refine XS.iloadN X29.here hx rfl (hb hby at_158) rfl ?_
            show Sq p e below m T29 159 #[iv p1, iv p2, iv p3, iv 2, rv w_STANDARD_delays_elements_0, rv b3, rv b21, iv 0, rv w_DATA, .unset, .unset, .unset, .unset] [.int p3, .ref w_DATA, .ref b21] _
            refine st30.trans ?_
            show Sq p e below m T30 162 #[iv p1, iv p2, iv p3, iv 2, rv w_STANDARD_delays_elements_0, rv b3, rv b21, iv 0, rv w_DATA, .unset, .unset, .unset, .unset] [.ref w_FAILED] _
            refine XS.astore X30.here hx rfl (hb hby at_162) rfl rfl rfl ?_
            refine XS.iloadN X30.here hx rfl (hb hby at_164) rfl ?_
            show Sq p e below m T30 165 #[iv p1, iv p2, iv p3, iv 2, rv w_STANDARD_delays_elements_0, rv b3, rv b21, iv 0, rv w_DATA, rv w_FAILED, .unset, .unset, .unset] [.int 2] _
            refine XS.i2l X30.here hx rfl (hb hby at_165) rfl ?_
            show Sq p e below m T30 166 #[iv p1, iv p2, iv p3, iv 2, rv w_STANDARD_delays_elements_0, rv b3, rv b21, iv 0, rv w_DATA, rv w_FAILED, .unset, .unset, .unset] [.long ((2 : Int32).toInt64)] _
            rw [show ((2 : Int32).toInt64) = (2 : Int64) from by decide]
            show Sq p e below m T30 166 #[iv p1, iv p2, iv p3, iv 2, rv w_STANDARD_delays_elements_0, rv b3, rv b21, iv 0, rv w_DATA, rv w_FAILED, .unset, .unset, .unset] [.long 2] _
            refine XS.iloadN X30.here hx rfl (hb hby at_166) rfl ?_
            refine XS.i2l X30.here hx rfl (hb hby at_167) rfl ?_
            show Sq p e below m T30 168 #[iv p1, iv p2, iv p3, iv 2, rv w_STANDARD_delays_elements_0, rv b3, rv b21, iv 0, rv w_DATA, rv w_FAILED, .unset, .unset, .unset] [.long (p3.toInt64), .long 2] _
            refine XS.lsub X30.here hx rfl (hb hby at_168) rfl ?_
            refine XS.lstore X30.here hx rfl (hb hby at_169) rfl rfl ?_
            show Sq p e below m T30 171 #[iv p1, iv p2, iv p3, iv 2, rv w_STANDARD_delays_elements_0, rv b3, rv b21, iv 0, rv w_DATA, rv w_FAILED, .val (.long ((2 : Int64) - (p3.toInt64))), .second, .unset] [] _
            refine XS.iload X30.here hx rfl (hb hby at_171) rfl ?_
            refine XS.ifNo X30.here hx rfl (hb hby at_173) rfl ((if0 _ _).trans (teq (rfl : (0 : Int32) = (0 : Int32))).2) ?_
            show Sq p e below m T30 176 #[iv p1, iv p2, iv p3, iv 2, rv w_STANDARD_delays_elements_0, rv b3, rv b21, iv 0, rv w_DATA, rv w_FAILED, .val (.long ((2 : Int64) - (p3.toInt64))), .second, .unset] [] _
            refine st31 _ ?_
            show Sq p e below m T31 179 #[iv p1, iv p2, iv p3, iv 2, rv w_STANDARD_delays_elements_0, rv b3, rv b21, iv 0, rv w_DATA, rv w_FAILED, .val (.long ((2 : Int64) - (p3.toInt64))), .second, .unset] [.ref w_FAILED] _
            refine XS.astore X31.here hx rfl (hb hby at_179) rfl rfl rfl ?_
            refine XS.goto X31.here hx rfl (pc0 := 181) (pc' := 204) rfl (hb hby at_181) (by decide) (by decide) ?_
            show Sq p e below m T31 204 #[iv p1, iv p2, iv p3, iv 2, rv w_STANDARD_delays_elements_0, rv b3, rv b21, iv 0, rv w_DATA, rv w_FAILED, .val (.long ((2 : Int64) - (p3.toInt64))), .second, rv w_FAILED] [] _
            refine XS.aload X31.here hx rfl (hb hby at_204) rfl rfl ?_
            refine XS.aload X31.here hx rfl (hb hby at_206) rfl rfl ?_
            show Sq p e below m T31 208 #[iv p1, iv p2, iv p3, iv 2, rv w_STANDARD_delays_elements_0, rv b3, rv b21, iv 0, rv w_DATA, rv w_FAILED, .val (.long ((2 : Int64) - (p3.toInt64))), .second, rv w_FAILED] [.ref w_FAILED, .ref w_FAILED] _
            refine Jvm.RoadKit.acmp (g := (mkF m 208 #[iv p1, iv p2, iv p3, iv 2, rv w_STANDARD_delays_elements_0, rv b3, rv b21, iv 0, rv w_DATA, rv w_FAILED, .val (.long ((2 : Int64) - (p3.toInt64))), .second, rv w_FAILED] [.ref w_FAILED, .ref w_FAILED])) X31 hx rfl rfl rfl (pc0 := 208) (pc' := 211) (same := true) rfl (hb hby at_208) rfl (decide_eq_true rfl) (by decide) (by decide) ?_
            show Sq p e below m T31 211 #[iv p1, iv p2, iv p3, iv 2, rv w_STANDARD_delays_elements_0, rv b3, rv b21, iv 0, rv w_DATA, rv w_FAILED, .val (.long ((2 : Int64) - (p3.toInt64))), .second, rv w_FAILED] [] _
            refine XS.iconst X31.here hx rfl (hb hby at_211) ?_
            refine XS.goto X31.here hx rfl (pc0 := 212) (pc' := 216) rfl (hb hby at_212) (by decide) (by decide) ?_
            show Sq p e below m T31 216 #[iv p1, iv p2, iv p3, iv 2, rv w_STANDARD_delays_elements_0, rv b3, rv b21, iv 0, rv w_DATA, rv w_FAILED, .val (.long ((2 : Int64) - (p3.toInt64))), .second, rv w_FAILED] [.int 1] _
            exact retN X31 hx (t := .boolean) Bd.returns (by simp) (hb hby at_216) hr
          · show Q_rm0 Z p1 p2 p3 (2 : Int32) w_STANDARD w_STANDARD_delays w_STANDARD_delays_elements w_STANDARD_delays_elements_0 w_TRANSIENT w_FAILED w_DATA w_PENDING w_STANDARD_delays_elements_1 w_STANDARD_delays_elements_2 w_STANDARD_delays_elements_3 w_STANDARD_delays_elements_4 w_DEF w_ELIST w_EMPTY w_ELIST_elements kdef kel k5 w_MIR h0 n0 _ T31.heap _
            rw [e31]
            exact ⟨rfl, N30⟩
        · obtain ⟨T29, X29, e29, st29⟩ := getS2 X25 hx hZ hown (host := "") (Or.inl (W 90 rfl)) Via.refl e25 (S_w_TRANSIENT.ext O26.2) (g := (mkF m 143 #[iv p1, iv p2, iv p3, iv 2, rv w_STANDARD_delays_elements_0, rv b3, rv b21, iv 1, .unset, .unset, .unset, .unset, .unset] [])) rfl (hb hby at_143)
          have pre30 : ∀ t, Steps p.tables e below (T29.setTop (mkF m 154 #[iv p1, iv p2, iv p3, iv 2, rv w_STANDARD_delays_elements_0, rv b3, rv b21, iv 1, rv w_TRANSIENT, .unset, .unset, .unset, .unset] [])) t → Steps p.tables e below (s₁.setTop (entryFrame m #[(.int p1), (.int p2), (.int p3)] maxLocals)) t := by
            intro t kt
            refine pre28 _ ?_
            show Sq p e below m T25 128 #[iv p1, iv p2, iv p3, iv 2, rv w_STANDARD_delays_elements_0, rv b3, rv b21, .unset, .unset, .unset, .unset, .unset, .unset] [.int (p2 &&& (1 : Int32))] _
            refine XS.ifNo X25.here hx rfl (hb hby at_128) rfl ((if0 _ _).trans (feq hc128).1) ?_
            refine XS.iconst X25.here hx rfl (hb hby at_131) ?_
            show Sq p e below m T25 132 #[iv p1, iv p2, iv p3, iv 2, rv w_STANDARD_delays_elements_0, rv b3, rv b21, .unset, .unset, .unset, .unset, .unset, .unset] [.int 1] _
            refine XS.goto X25.here hx rfl (pc0 := 132) (pc' := 136) rfl (hb hby at_132) (by decide) (by decide) ?_
            refine XS.istore X25.here hx rfl (hb hby at_136) rfl rfl ?_
            show Sq p e below m T25 138 #[iv p1, iv p2, iv p3, iv 2, rv w_STANDARD_delays_elements_0, rv b3, rv b21, iv 1, .unset, .unset, .unset, .unset, .unset] [] _
            refine XS.iload X25.here hx rfl (hb hby at_138) rfl ?_
            refine XS.ifNo X25.here hx rfl (hb hby at_140) rfl ((if0 _ _).trans (feq (by decide)).1) ?_
            show Sq p e below m T25 143 #[iv p1, iv p2, iv p3, iv 2, rv w_STANDARD_delays_elements_0, rv b3, rv b21, iv 1, .unset, .unset, .unset, .unset, .unset] [] _
            refine st29 _ ?_
            show Sq p e below m T29 146 #[iv p1, iv p2, iv p3, iv 2, rv w_STANDARD_delays_elements_0, rv b3, rv b21, iv 1, .unset, .unset, .unset, .unset, .unset] [.ref w_TRANSIENT] _
            refine XS.goto X29.here hx rfl (pc0 := 146) (pc' := 152) rfl (hb hby at_146) (by decide) (by decide) ?_
            refine XS.astore X29.here hx rfl (hb hby at_152) rfl rfl rfl ?_
            exact kt
          rcases Decidable.em (p3 < (2 : Int32)) with hrk | hrk
          · have nx_w_STANDARD_delays_elements_0_w_EMPTY : w_STANDARD_delays_elements_0 ≠ w_EMPTY := ne_exa (E_w_STANDARD_delays_elements_0.ext O26.2) (E_w_EMPTY.ext O26.2) (by decide)
            obtain ⟨cq31, kq31, q31a, q31b, q31c⟩ := isOf hZ e29 A21
            obtain ⟨_, _, ⟨T31, L31, k31, n31⟩, -, X31, ⟨Lc31, hQ31, l31, y31, z31⟩, st31⟩ := X29.virtualBack hx (y := y_35) (z := y_35) hown (mvT hZ (W 93 rfl)) (mvT hZ (W 94 rfl)) (notFace_of_selects (args := #[]) (mvT hZ (W 96 rfl))) (mvT hZ (W 96 rfl)) (mvT hZ (W 95 rfl)) (by decide) (backOf (W := 0) (sq21 l Z a0 hw [] b21 p3 w_TRANSIENT w_PENDING b25r w_STANDARD_delays_elements_0 w_EMPTY h25 n0 O26 A21 p25_2 p25_3 p25_4 S_w_EMPTY nx_w_STANDARD_delays_elements_0_w_EMPTY S_w_TRANSIENT S_w_PENDING hrk) hZ (W 97 rfl) (W 1 rfl) (by decide) (by decide)) q31a q31c (g := (mkF m 159 #[iv p1, iv p2, iv p3, iv 2, rv w_STANDARD_delays_elements_0, rv b3, rv b21, iv 1, rv w_TRANSIENT, .unset, .unset, .unset, .unset] [.int p3, .ref w_TRANSIENT, .ref b21])) rfl (by rw [hml]; rfl) (Steps.refl _) (argsL := [.ref w_TRANSIENT, .int p3]) (rest := []) (lenOf pd_19 rfl) rfl (by show 2 * 0 + _ ≤ _; exact Nat.le_of_eq rfl) (hb hby at_159) (fun _ _ => ⟨rfl, e29, (by decide : 5 + 0 ≤ _), (by decide : 23 + 0 ≤ _)⟩)
            dsimp only [Pt.U, Pt.locs, Pt.cells, Pt.slots] at X31 l31 y31 z31 st31 hQ31
            subst l31 y31 z31
            obtain ⟨h31, e31⟩ : ∃ z, T31.heap = z := ⟨_, rfl⟩
            rw [e31] at hQ31
            obtain ⟨rfl, N31q, p31_0⟩ := hQ31
            have N31 := Fr.app N25 N31q
            rw [p31_0] at e31
            obtain ⟨T32, X32, e32, st32⟩ := getS2 X31 hx hZ hown (host := "") (Or.inl (W 237 rfl)) Via.refl e31 (S_w_PENDING.ext O26.2) (g := (mkF m 191 #[iv p1, iv p2, iv p3, iv 2, rv w_STANDARD_delays_elements_0, rv b3, rv b21, iv 1, rv w_TRANSIENT, rv w_PENDING, .val (.long ((2 : Int64) - (p3.toInt64))), .second, .unset] [])) rfl (hb hby at_191)
            obtain ⟨fs, hr, hrun, hended, hW, hsame⟩ := X32.leave (v := some (.int (1 : Int32))) (fun h => by rw [Bd.returns] at h; cases h)
            refine ⟨_, _, pre30 _ ?_, hrun, hended, _, _, rfl, ?_, ⟨_, rfl⟩, hW, hsame.mono (by decide) (by decide)⟩
            · show Sq p e below m T29 154 #[iv p1, iv p2, iv p3, iv 2, rv w_STANDARD_delays_elements_0, rv b3, rv b21, iv 1, rv w_TRANSIENT, .unset, .unset, .unset, .unset] [] _
              refine XS.aload X29.here hx rfl (hb hby at_154) rfl rfl ?_
              refine XS.aload X29.here hx rfl (hb hby at_156) rfl rfl ?_
              show Sq p e below m T29 158 #[iv p1, iv p2, iv p3, iv 2, rv w_STANDARD_delays_elements_0, rv b3, rv b21, iv 1, rv w_TRANSIENT, .unset, .unset, .unset, .unset] [.ref w_TRANSIENT, .ref b21] _
              refine XS.iloadN X29.here hx rfl (hb hby at_158) rfl ?_
              show Sq p e below m T29 159 #[iv p1, iv p2, iv p3, iv 2, rv w_STANDARD_delays_elements_0, rv b3, rv b21, iv 1, rv w_TRANSIENT, .unset, .unset, .unset, .unset] [.int p3, .ref w_TRANSIENT, .ref b21] _
              refine st31.trans ?_
              show Sq p e below m T31 162 #[iv p1, iv p2, iv p3, iv 2, rv w_STANDARD_delays_elements_0, rv b3, rv b21, iv 1, rv w_TRANSIENT, .unset, .unset, .unset, .unset] [.ref w_PENDING] _
              refine XS.astore X31.here hx rfl (hb hby at_162) rfl rfl rfl ?_
              refine XS.iloadN X31.here hx rfl (hb hby at_164) rfl ?_
              show Sq p e below m T31 165 #[iv p1, iv p2, iv p3, iv 2, rv w_STANDARD_delays_elements_0, rv b3, rv b21, iv 1, rv w_TRANSIENT, rv w_PENDING, .unset, .unset, .unset] [.int 2] _
              refine XS.i2l X31.here hx rfl (hb hby at_165) rfl ?_
              show Sq p e below m T31 166 #[iv p1, iv p2, iv p3, iv 2, rv w_STANDARD_delays_elements_0, rv b3, rv b21, iv 1, rv w_TRANSIENT, rv w_PENDING, .unset, .unset, .unset] [.long ((2 : Int32).toInt64)] _
              rw [show ((2 : Int32).toInt64) = (2 : Int64) from by decide]
              show Sq p e below m T31 166 #[iv p1, iv p2, iv p3, iv 2, rv w_STANDARD_delays_elements_0, rv b3, rv b21, iv 1, rv w_TRANSIENT, rv w_PENDING, .unset, .unset, .unset] [.long 2] _
              refine XS.iloadN X31.here hx rfl (hb hby at_166) rfl ?_
              refine XS.i2l X31.here hx rfl (hb hby at_167) rfl ?_
              show Sq p e below m T31 168 #[iv p1, iv p2, iv p3, iv 2, rv w_STANDARD_delays_elements_0, rv b3, rv b21, iv 1, rv w_TRANSIENT, rv w_PENDING, .unset, .unset, .unset] [.long (p3.toInt64), .long 2] _
              refine XS.lsub X31.here hx rfl (hb hby at_168) rfl ?_
              refine XS.lstore X31.here hx rfl (hb hby at_169) rfl rfl ?_
              show Sq p e below m T31 171 #[iv p1, iv p2, iv p3, iv 2, rv w_STANDARD_delays_elements_0, rv b3, rv b21, iv 1, rv w_TRANSIENT, rv w_PENDING, .val (.long ((2 : Int64) - (p3.toInt64))), .second, .unset] [] _
              refine XS.iload X31.here hx rfl (hb hby at_171) rfl ?_
              refine XS.ifYes X31.here hx rfl (pc0 := 173) (pc' := 184) rfl (hb hby at_173) rfl ((if0 _ _).trans (feq (by decide)).2) (by decide) (by decide) ?_
              show Sq p e below m T31 184 #[iv p1, iv p2, iv p3, iv 2, rv w_STANDARD_delays_elements_0, rv b3, rv b21, iv 1, rv w_TRANSIENT, rv w_PENDING, .val (.long ((2 : Int64) - (p3.toInt64))), .second, .unset] [] _
              refine XS.lload X31.here hx rfl (hb hby at_184) rfl ?_
              refine XS.lconst X31.here hx rfl (hb hby at_186) ?_
              show Sq p e below m T31 187 #[iv p1, iv p2, iv p3, iv 2, rv w_STANDARD_delays_elements_0, rv b3, rv b21, iv 1, rv w_TRANSIENT, rv w_PENDING, .val (.long ((2 : Int64) - (p3.toInt64))), .second, .unset] [.long 1, .long ((2 : Int64) - (p3.toInt64))] _
              refine XS.lcmp X31.here hx rfl (hb hby at_187) rfl ?_
              refine XS.ifNo X31.here hx rfl (hb hby at_188) rfl ((if0 _ _).trans (flt (own_lf (k := (2 : Int32)) (by decide) hrk)).1) ?_
              show Sq p e below m T31 191 #[iv p1, iv p2, iv p3, iv 2, rv w_STANDARD_delays_elements_0, rv b3, rv b21, iv 1, rv w_TRANSIENT, rv w_PENDING, .val (.long ((2 : Int64) - (p3.toInt64))), .second, .unset] [] _
              refine st32 _ ?_
              show Sq p e below m T32 194 #[iv p1, iv p2, iv p3, iv 2, rv w_STANDARD_delays_elements_0, rv b3, rv b21, iv 1, rv w_TRANSIENT, rv w_PENDING, .val (.long ((2 : Int64) - (p3.toInt64))), .second, .unset] [.ref w_PENDING] _
              refine XS.astore X32.here hx rfl (hb hby at_194) rfl rfl rfl ?_
              refine XS.goto X32.here hx rfl (pc0 := 196) (pc' := 204) rfl (hb hby at_196) (by decide) (by decide) ?_
              show Sq p e below m T32 204 #[iv p1, iv p2, iv p3, iv 2, rv w_STANDARD_delays_elements_0, rv b3, rv b21, iv 1, rv w_TRANSIENT, rv w_PENDING, .val (.long ((2 : Int64) - (p3.toInt64))), .second, rv w_PENDING] [] _
              refine XS.aload X32.here hx rfl (hb hby at_204) rfl rfl ?_
              refine XS.aload X32.here hx rfl (hb hby at_206) rfl rfl ?_
              show Sq p e below m T32 208 #[iv p1, iv p2, iv p3, iv 2, rv w_STANDARD_delays_elements_0, rv b3, rv b21, iv 1, rv w_TRANSIENT, rv w_PENDING, .val (.long ((2 : Int64) - (p3.toInt64))), .second, rv w_PENDING] [.ref w_PENDING, .ref w_PENDING] _
              refine Jvm.RoadKit.acmp (g := (mkF m 208 #[iv p1, iv p2, iv p3, iv 2, rv w_STANDARD_delays_elements_0, rv b3, rv b21, iv 1, rv w_TRANSIENT, rv w_PENDING, .val (.long ((2 : Int64) - (p3.toInt64))), .second, rv w_PENDING] [.ref w_PENDING, .ref w_PENDING])) X32 hx rfl rfl rfl (pc0 := 208) (pc' := 211) (same := true) rfl (hb hby at_208) rfl (decide_eq_true rfl) (by decide) (by decide) ?_
              show Sq p e below m T32 211 #[iv p1, iv p2, iv p3, iv 2, rv w_STANDARD_delays_elements_0, rv b3, rv b21, iv 1, rv w_TRANSIENT, rv w_PENDING, .val (.long ((2 : Int64) - (p3.toInt64))), .second, rv w_PENDING] [] _
              refine XS.iconst X32.here hx rfl (hb hby at_211) ?_
              refine XS.goto X32.here hx rfl (pc0 := 212) (pc' := 216) rfl (hb hby at_212) (by decide) (by decide) ?_
              show Sq p e below m T32 216 #[iv p1, iv p2, iv p3, iv 2, rv w_STANDARD_delays_elements_0, rv b3, rv b21, iv 1, rv w_TRANSIENT, rv w_PENDING, .val (.long ((2 : Int64) - (p3.toInt64))), .second, rv w_PENDING] [.int 1] _
              exact retN X32 hx (t := .boolean) Bd.returns (by simp) (hb hby at_216) hr
            · show Q_rm0 Z p1 p2 p3 (2 : Int32) w_STANDARD w_STANDARD_delays w_STANDARD_delays_elements w_STANDARD_delays_elements_0 w_TRANSIENT w_FAILED w_DATA w_PENDING w_STANDARD_delays_elements_1 w_STANDARD_delays_elements_2 w_STANDARD_delays_elements_3 w_STANDARD_delays_elements_4 w_DEF w_ELIST w_EMPTY w_ELIST_elements kdef kel k5 w_MIR h0 n0 _ T32.heap _
              rw [e32]
              exact ⟨rfl, N31⟩
          · have nx_w_STANDARD_delays_elements_0_w_EMPTY : w_STANDARD_delays_elements_0 ≠ w_EMPTY := ne_exa (E_w_STANDARD_delays_elements_0.ext O26.2) (E_w_EMPTY.ext O26.2) (by decide)
            obtain ⟨cq31, kq31, q31a, q31b, q31c⟩ := isOf hZ e29 A21
            obtain ⟨_, _, ⟨T31, L31, k31, n31⟩, -, X31, ⟨Lc31, hQ31, l31, y31, z31⟩, st31⟩ := X29.virtualBack hx (y := y_35) (z := y_35) hown (mvT hZ (W 93 rfl)) (mvT hZ (W 94 rfl)) (notFace_of_selects (args := #[]) (mvT hZ (W 96 rfl))) (mvT hZ (W 96 rfl)) (mvT hZ (W 95 rfl)) (by decide) (backOf (W := 0) (sq20 l Z a0 hw [] b21 p3 w_TRANSIENT w_FAILED b25r w_STANDARD_delays_elements_0 w_EMPTY h25 n0 O26 A21 p25_2 p25_3 p25_4 S_w_EMPTY nx_w_STANDARD_delays_elements_0_w_EMPTY S_w_TRANSIENT S_w_FAILED hrk) hZ (W 97 rfl) (W 1 rfl) (by decide) (by decide)) q31a q31c (g := (mkF m 159 #[iv p1, iv p2, iv p3, iv 2, rv w_STANDARD_delays_elements_0, rv b3, rv b21, iv 1, rv w_TRANSIENT, .unset, .unset, .unset, .unset] [.int p3, .ref w_TRANSIENT, .ref b21])) rfl (by rw [hml]; rfl) (Steps.refl _) (argsL := [.ref w_TRANSIENT, .int p3]) (rest := []) (lenOf pd_19 rfl) rfl (by show 2 * 0 + _ ≤ _; exact Nat.le_of_eq rfl) (hb hby at_159) (fun _ _ => ⟨rfl, e29, (by decide : 5 + 0 ≤ _), (by decide : 23 + 0 ≤ _)⟩)
            dsimp only [Pt.U, Pt.locs, Pt.cells, Pt.slots] at X31 l31 y31 z31 st31 hQ31
            subst l31 y31 z31
            obtain ⟨h31, e31⟩ : ∃ z, T31.heap = z := ⟨_, rfl⟩
            rw [e31] at hQ31
            obtain ⟨rfl, N31q, p31_0⟩ := hQ31
            have N31 := Fr.app N25 N31q
            rw [p31_0] at e31
            obtain ⟨T32, X32, e32, st32⟩ := getS2 X31 hx hZ hown (host := "") (Or.inl (W 115 rfl)) Via.refl e31 (S_w_FAILED.ext O26.2) (g := (mkF m 199 #[iv p1, iv p2, iv p3, iv 2, rv w_STANDARD_delays_elements_0, rv b3, rv b21, iv 1, rv w_TRANSIENT, rv w_FAILED, .val (.long ((2 : Int64) - (p3.toInt64))), .second, .unset] [])) rfl (hb hby at_199)
            obtain ⟨fs, hr, hrun, hended, hW, hsame⟩ := X32.leave (v := some (.int (1 : Int32))) (fun h => by rw [Bd.returns] at h; cases h)
            refine ⟨_, _, pre30 _ ?_, hrun, hended, _, _, rfl, ?_, ⟨_, rfl⟩, hW, hsame.mono (by decide) (by decide)⟩
            · show Sq p e below m T29 154 #[iv p1, iv p2, iv p3, iv 2, rv w_STANDARD_delays_elements_0, rv b3, rv b21, iv 1, rv w_TRANSIENT, .unset, .unset, .unset, .unset] [] _
              refine XS.aload X29.here hx rfl (hb hby at_154) rfl rfl ?_
              refine XS.aload X29.here hx rfl (hb hby at_156) rfl rfl ?_
              show Sq p e below m T29 158 #[iv p1, iv p2, iv p3, iv 2, rv w_STANDARD_delays_elements_0, rv b3, rv b21, iv 1, rv w_TRANSIENT, .unset, .unset, .unset, .unset] [.ref w_TRANSIENT, .ref b21] _
              refine XS.iloadN X29.here hx rfl (hb hby at_158) rfl ?_
              show Sq p e below m T29 159 #[iv p1, iv p2, iv p3, iv 2, rv w_STANDARD_delays_elements_0, rv b3, rv b21, iv 1, rv w_TRANSIENT, .unset, .unset, .unset, .unset] [.int p3, .ref w_TRANSIENT, .ref b21] _
              refine st31.trans ?_
              show Sq p e below m T31 162 #[iv p1, iv p2, iv p3, iv 2, rv w_STANDARD_delays_elements_0, rv b3, rv b21, iv 1, rv w_TRANSIENT, .unset, .unset, .unset, .unset] [.ref w_FAILED] _
              refine XS.astore X31.here hx rfl (hb hby at_162) rfl rfl rfl ?_
              refine XS.iloadN X31.here hx rfl (hb hby at_164) rfl ?_
              show Sq p e below m T31 165 #[iv p1, iv p2, iv p3, iv 2, rv w_STANDARD_delays_elements_0, rv b3, rv b21, iv 1, rv w_TRANSIENT, rv w_FAILED, .unset, .unset, .unset] [.int 2] _
              refine XS.i2l X31.here hx rfl (hb hby at_165) rfl ?_
              show Sq p e below m T31 166 #[iv p1, iv p2, iv p3, iv 2, rv w_STANDARD_delays_elements_0, rv b3, rv b21, iv 1, rv w_TRANSIENT, rv w_FAILED, .unset, .unset, .unset] [.long ((2 : Int32).toInt64)] _
              rw [show ((2 : Int32).toInt64) = (2 : Int64) from by decide]
              show Sq p e below m T31 166 #[iv p1, iv p2, iv p3, iv 2, rv w_STANDARD_delays_elements_0, rv b3, rv b21, iv 1, rv w_TRANSIENT, rv w_FAILED, .unset, .unset, .unset] [.long 2] _
              refine XS.iloadN X31.here hx rfl (hb hby at_166) rfl ?_
              refine XS.i2l X31.here hx rfl (hb hby at_167) rfl ?_
              show Sq p e below m T31 168 #[iv p1, iv p2, iv p3, iv 2, rv w_STANDARD_delays_elements_0, rv b3, rv b21, iv 1, rv w_TRANSIENT, rv w_FAILED, .unset, .unset, .unset] [.long (p3.toInt64), .long 2] _
              refine XS.lsub X31.here hx rfl (hb hby at_168) rfl ?_
              refine XS.lstore X31.here hx rfl (hb hby at_169) rfl rfl ?_
              show Sq p e below m T31 171 #[iv p1, iv p2, iv p3, iv 2, rv w_STANDARD_delays_elements_0, rv b3, rv b21, iv 1, rv w_TRANSIENT, rv w_FAILED, .val (.long ((2 : Int64) - (p3.toInt64))), .second, .unset] [] _
              refine XS.iload X31.here hx rfl (hb hby at_171) rfl ?_
              refine XS.ifYes X31.here hx rfl (pc0 := 173) (pc' := 184) rfl (hb hby at_173) rfl ((if0 _ _).trans (feq (by decide)).2) (by decide) (by decide) ?_
              show Sq p e below m T31 184 #[iv p1, iv p2, iv p3, iv 2, rv w_STANDARD_delays_elements_0, rv b3, rv b21, iv 1, rv w_TRANSIENT, rv w_FAILED, .val (.long ((2 : Int64) - (p3.toInt64))), .second, .unset] [] _
              refine XS.lload X31.here hx rfl (hb hby at_184) rfl ?_
              refine XS.lconst X31.here hx rfl (hb hby at_186) ?_
              show Sq p e below m T31 187 #[iv p1, iv p2, iv p3, iv 2, rv w_STANDARD_delays_elements_0, rv b3, rv b21, iv 1, rv w_TRANSIENT, rv w_FAILED, .val (.long ((2 : Int64) - (p3.toInt64))), .second, .unset] [.long 1, .long ((2 : Int64) - (p3.toInt64))] _
              refine XS.lcmp X31.here hx rfl (hb hby at_187) rfl ?_
              refine XS.ifYes X31.here hx rfl (pc0 := 188) (pc' := 199) rfl (hb hby at_188) rfl ((if0 _ _).trans (tlt (own_lt (k := (2 : Int32)) (by decide) hrk)).1) (by decide) (by decide) ?_
              show Sq p e below m T31 199 #[iv p1, iv p2, iv p3, iv 2, rv w_STANDARD_delays_elements_0, rv b3, rv b21, iv 1, rv w_TRANSIENT, rv w_FAILED, .val (.long ((2 : Int64) - (p3.toInt64))), .second, .unset] [] _
              refine st32 _ ?_
              show Sq p e below m T32 202 #[iv p1, iv p2, iv p3, iv 2, rv w_STANDARD_delays_elements_0, rv b3, rv b21, iv 1, rv w_TRANSIENT, rv w_FAILED, .val (.long ((2 : Int64) - (p3.toInt64))), .second, .unset] [.ref w_FAILED] _
              refine XS.astore X32.here hx rfl (hb hby at_202) rfl rfl rfl ?_
              refine XS.aload X32.here hx rfl (hb hby at_204) rfl rfl ?_
              show Sq p e below m T32 206 #[iv p1, iv p2, iv p3, iv 2, rv w_STANDARD_delays_elements_0, rv b3, rv b21, iv 1, rv w_TRANSIENT, rv w_FAILED, .val (.long ((2 : Int64) - (p3.toInt64))), .second, rv w_FAILED] [.ref w_FAILED] _
              refine XS.aload X32.here hx rfl (hb hby at_206) rfl rfl ?_
              show Sq p e below m T32 208 #[iv p1, iv p2, iv p3, iv 2, rv w_STANDARD_delays_elements_0, rv b3, rv b21, iv 1, rv w_TRANSIENT, rv w_FAILED, .val (.long ((2 : Int64) - (p3.toInt64))), .second, rv w_FAILED] [.ref w_FAILED, .ref w_FAILED] _
              refine Jvm.RoadKit.acmp (g := (mkF m 208 #[iv p1, iv p2, iv p3, iv 2, rv w_STANDARD_delays_elements_0, rv b3, rv b21, iv 1, rv w_TRANSIENT, rv w_FAILED, .val (.long ((2 : Int64) - (p3.toInt64))), .second, rv w_FAILED] [.ref w_FAILED, .ref w_FAILED])) X32 hx rfl rfl rfl (pc0 := 208) (pc' := 211) (same := true) rfl (hb hby at_208) rfl (decide_eq_true rfl) (by decide) (by decide) ?_
              show Sq p e below m T32 211 #[iv p1, iv p2, iv p3, iv 2, rv w_STANDARD_delays_elements_0, rv b3, rv b21, iv 1, rv w_TRANSIENT, rv w_FAILED, .val (.long ((2 : Int64) - (p3.toInt64))), .second, rv w_FAILED] [] _
              refine XS.iconst X32.here hx rfl (hb hby at_211) ?_
              refine XS.goto X32.here hx rfl (pc0 := 212) (pc' := 216) rfl (hb hby at_212) (by decide) (by decide) ?_
              show Sq p e below m T32 216 #[iv p1, iv p2, iv p3, iv 2, rv w_STANDARD_delays_elements_0, rv b3, rv b21, iv 1, rv w_TRANSIENT, rv w_FAILED, .val (.long ((2 : Int64) - (p3.toInt64))), .second, rv w_FAILED] [.int 1] _
              exact retN X32 hx (t := .boolean) Bd.returns (by simp) (hb hby at_216) hr
            · show Q_rm0 Z p1 p2 p3 (2 : Int32) w_STANDARD w_STANDARD_delays w_STANDARD_delays_elements w_STANDARD_delays_elements_0 w_TRANSIENT w_FAILED w_DATA w_PENDING w_STANDARD_delays_elements_1 w_STANDARD_delays_elements_2 w_STANDARD_delays_elements_3 w_STANDARD_delays_elements_4 w_DEF w_ELIST w_EMPTY w_ELIST_elements kdef kel k5 w_MIR h0 n0 _ T32.heap _
              rw [e32]
              exact ⟨rfl, N31⟩
      · obtain ⟨cq21, kq21, q21a, q21b, q21c⟩ := isOf hZ e17 A3
        obtain ⟨_, _, ⟨T21, L21, k21, n21⟩, -, X21, ⟨Lc21, hQ21, l21, y21, z21⟩, st21⟩ := X17.virtualBack hx (y := y_18) (z := y_18) hown (mvT hZ (W 116 rfl)) (mvT hZ (W 117 rfl)) (notFace_of_selects (args := #[]) (mvT hZ (W 119 rfl))) (mvT hZ (W 119 rfl)) (mvT hZ (W 118 rfl)) (by decide) (backOf (W := 0) (addg l Z a0 hw [] b3 w_STANDARD_delays_elements_0 b13b b13kb (((0 : Int32) + (1 : Int32)) + (1 : Int32)) (2 : Int32) (3 : Int32) [(.ref w_STANDARD_delays_elements_0), (.ref w_STANDARD_delays_elements_0), .null, .null, .null, .null, .null, .null, .null, .null] [(.ref w_STANDARD_delays_elements_0), (.ref w_STANDARD_delays_elements_0), (.ref w_STANDARD_delays_elements_0), .null, .null, .null, .null, .null, .null, .null] h17 n0 O18 A3 E_w_STANDARD_delays_elements_0 p17_1 p17_2 p17_3 g_b3 g_b13b ne_b3_b13b p17_4 p13_6 (by decide) (by decide) (by decide) rfl (Nat.le_of_ble_eq_true rfl)) hZ (W 120 rfl) (W 26 rfl) (by decide) (by decide)) q21a q21c (g := (mkF m 57 #[iv p1, iv p2, iv p3, iv n, rv w_STANDARD_delays_elements_0, rv b3, .unset, .unset, .unset, .unset, .unset, .unset, .unset] [.ref w_STANDARD_delays_elements_0, .ref b3])) rfl (by rw [hml]; rfl) (Steps.refl _) (argsL := [.ref w_STANDARD_delays_elements_0]) (rest := []) (lenOf pd_20 rfl) rfl (by show 2 * 0 + _ ≤ _; exact Nat.le_of_eq rfl) (hb hby at_57) (fun _ _ => ⟨rfl, e17, (by decide : 2 + 0 ≤ _), (by decide : 13 + 0 ≤ _)⟩)
        dsimp only [Pt.U, Pt.locs, Pt.cells, Pt.slots] at X21 l21 y21 z21 st21 hQ21
        subst l21 y21 z21
        obtain ⟨h21, e21⟩ : ∃ z, T21.heap = z := ⟨_, rfl⟩
        rw [e21] at hQ21
        obtain ⟨rfl, N21q, p21_0, p21_1, p21_2, p21_3, p21_4⟩ := hQ21
        have N21 := Fr.app N17 N21q
        have A3 := A3.keep p21_0
        have p13_7 := p13_7.keep p21_0
        have O22 := O18.keep p21_0 (allS g_b3 (allS g_b13b all0))
        have pre24 : ∀ t, Steps p.tables e below (T21.setTop (mkF m 61 #[iv p1, iv p2, iv p3, iv n, rv w_STANDARD_delays_elements_0, rv b3, .unset, .unset, .unset, .unset, .unset, .unset, .unset] [])) t → Steps p.tables e below (s₁.setTop (entryFrame m #[(.int p1), (.int p2), (.int p3)] maxLocals)) t := by
          intro t kt
          refine pre20 _ ?_
          show Sq p e below m T17 48 #[iv p1, iv p2, iv p3, iv n, rv w_STANDARD_delays_elements_0, rv b3, .unset, .unset, .unset, .unset, .unset, .unset, .unset] [] _
          refine XS.iloadN X17.here hx rfl (hb hby at_48) rfl ?_
          refine XS.iconst X17.here hx rfl (hb hby at_49) ?_
          show Sq p e below m T17 50 #[iv p1, iv p2, iv p3, iv n, rv w_STANDARD_delays_elements_0, rv b3, .unset, .unset, .unset, .unset, .unset, .unset, .unset] [.int 2, .int n] _
          refine XS.icmpNo X17.here hx rfl (hb hby at_50) rfl (tlt hs2).2.2.2 ?_
          refine XS.aload X17.here hx rfl (hb hby at_53) rfl rfl ?_
          show Sq p e below m T17 55 #[iv p1, iv p2, iv p3, iv n, rv w_STANDARD_delays_elements_0, rv b3, .unset, .unset, .unset, .unset, .unset, .unset, .unset] [.ref b3] _
          refine XS.aload X17.here hx rfl (hb hby at_55) rfl rfl ?_
          show Sq p e below m T17 57 #[iv p1, iv p2, iv p3, iv n, rv w_STANDARD_delays_elements_0, rv b3, .unset, .unset, .unset, .unset, .unset, .unset, .unset] [.ref w_STANDARD_delays_elements_0, .ref b3] _
          refine st21.trans ?_
          show Sq p e below m T21 60 #[iv p1, iv p2, iv p3, iv n, rv w_STANDARD_delays_elements_0, rv b3, .unset, .unset, .unset, .unset, .unset, .unset, .unset] [.int 1] _
          refine XS.pop X21.here hx rfl (hb hby at_60) rfl rfl ?_
          exact kt
        rcases own_sk (k := (3 : Int32)) hs2 (by decide) with rfl | hs3
        · obtain ⟨T25, h25, X25, e25, E25, A25, D25, -, st25⟩ := newO X21 hx hZ hown (W 50 rfl) (W 51 rfl) (W 1 rfl) e21 (g := (mkF m 114 #[iv p1, iv p2, iv p3, iv 3, rv w_STANDARD_delays_elements_0, rv b3, .unset, .unset, .unset, .unset, .unset, .unset, .unset] [])) rfl (hb hby at_114) (by decide) (by decide)
          obtain ⟨b25, g25⟩ : ∃ z, z = h21.size := ⟨_, rfl⟩
          rw [← g25] at A25 D25 st25
          have g_b25 : n0 ≤ b25 := Nat.le_trans (own_sz O22) (Nat.le_of_eq g25.symm)
          have A3 := A3.ext E25
          have p13_7 := p13_7.ext E25
          have p21_1 := p21_1.ext E25
          have p21_2 := p21_2.ext E25
          have p21_4 := p21_4.ext E25
          have O26 := O22.ext E25
          have Fz28 : Fld Z h25 b25 "com/example/savitri/savitri/store/RedriveSchedule" "delays" "Ljava/util/List;" .null := D25 (Or.inr (W 9 rfl)) (ty := (.object "java/util/List")) (by decide)
          obtain ⟨_, _, ⟨T29, L29, k29, n29⟩, -, X29, ⟨Lc29, hQ29, l29, y29, z29⟩, st29⟩ := X25.specialBack hx (y := y_29) rfl hown (mvT hZ (W 52 rfl)) (mvT hZ (W 53 rfl)) (mvT hZ (W 54 rfl)) (by decide) (backOf (W := 1) (recin3 l Z a0 hw [] b25 b3 b13b b13kb w_STANDARD_delays_elements_0 w_MIR h25 n0 O26 A25 Fz28 g_b25 A3 p21_4 E_w_STANDARD_delays_elements_0 Mo p13_7 p21_1 p21_2) hZ (W 54 rfl) (W 1 rfl) (by decide) (by decide)) (g := (mkF m 120 #[iv p1, iv p2, iv p3, iv 3, rv w_STANDARD_delays_elements_0, rv b3, .unset, .unset, .unset, .unset, .unset, .unset, .unset] [.ref b3, .ref b25, .ref b25])) rfl (by rw [hml]; rfl) (Steps.refl _) (a := b25) (argsL := [.ref b3]) (rest := [.ref b25]) (lenOf pd_18 rfl) rfl (by show 2 * 0 + _ ≤ _; exact Nat.le_of_eq rfl) (hb hby at_120) (fun _ _ => ⟨rfl, e25, (by decide : 3 + 3 ≤ _), (by decide : 14 + 12 ≤ _)⟩)
          dsimp only [Pt.U, Pt.locs, Pt.cells, Pt.slots] at X29 l29 y29 z29 st29 hQ29
          subst l29 y29 z29
          obtain ⟨h29, e29⟩ : ∃ z, T29.heap = z := ⟨_, rfl⟩
          rw [e29] at hQ29
          obtain ⟨b29r, b29g, b29kg, rfl, N29q, p29_0, p29_1, p29_2, p29_3, p29_4, p29_5, p29_6⟩ := hQ29
          have N29 := Fr.app N21 N29q
          have A25 := A25.keep p29_0
          have O30 := O26.keep p29_0 (allS g_b25 all0)
          have pre32 : ∀ t, Steps p.tables e below (T29.setTop (mkF m 128 #[iv p1, iv p2, iv p3, iv 3, rv w_STANDARD_delays_elements_0, rv b3, rv b25, .unset, .unset, .unset, .unset, .unset, .unset] [.int (p2 &&& (1 : Int32))])) t → Steps p.tables e below (s₁.setTop (entryFrame m #[(.int p1), (.int p2), (.int p3)] maxLocals)) t := by
            intro t kt
            refine pre24 _ ?_
            show Sq p e below m T21 61 #[iv p1, iv p2, iv p3, iv 3, rv w_STANDARD_delays_elements_0, rv b3, .unset, .unset, .unset, .unset, .unset, .unset, .unset] [] _
            refine XS.iloadN X21.here hx rfl (hb hby at_61) rfl ?_
            refine XS.iconst X21.here hx rfl (hb hby at_62) ?_
            show Sq p e below m T21 63 #[iv p1, iv p2, iv p3, iv 3, rv w_STANDARD_delays_elements_0, rv b3, .unset, .unset, .unset, .unset, .unset, .unset, .unset] [.int 3, .int 3] _
            refine XS.icmpYes X21.here hx rfl (pc0 := 63) (pc' := 74) rfl (hb hby at_63) rfl (flt (by decide)).2.2.2 (by decide) (by decide) ?_
            refine XS.iloadN X21.here hx rfl (hb hby at_74) rfl ?_
            show Sq p e below m T21 75 #[iv p1, iv p2, iv p3, iv 3, rv w_STANDARD_delays_elements_0, rv b3, .unset, .unset, .unset, .unset, .unset, .unset, .unset] [.int 3] _
            refine XS.iconst X21.here hx rfl (hb hby at_75) ?_
            refine XS.icmpYes X21.here hx rfl (pc0 := 76) (pc' := 87) rfl (hb hby at_76) rfl (flt (by decide)).2.2.2 (by decide) (by decide) ?_
            show Sq p e below m T21 87 #[iv p1, iv p2, iv p3, iv 3, rv w_STANDARD_delays_elements_0, rv b3, .unset, .unset, .unset, .unset, .unset, .unset, .unset] [] _
            refine XS.iloadN X21.here hx rfl (hb hby at_87) rfl ?_
            refine XS.iconst X21.here hx rfl (hb hby at_88) ?_
            show Sq p e below m T21 89 #[iv p1, iv p2, iv p3, iv 3, rv w_STANDARD_delays_elements_0, rv b3, .unset, .unset, .unset, .unset, .unset, .unset, .unset] [.int 5, .int 3] _
            refine XS.icmpYes X21.here hx rfl (pc0 := 89) (pc' := 100) rfl (hb hby at_89) rfl (flt (by decide)).2.2.2 (by decide) (by decide) ?_
            refine XS.iloadN X21.here hx rfl (hb hby at_100) rfl ?_
            show Sq p e below m T21 101 #[iv p1, iv p2, iv p3, iv 3, rv w_STANDARD_delays_elements_0, rv b3, .unset, .unset, .unset, .unset, .unset, .unset, .unset] [.int 3] _
            refine XS.bipush X21.here hx rfl (hb hby at_101) ?_
            refine XS.icmpYes X21.here hx rfl (pc0 := 103) (pc' := 114) rfl (hb hby at_103) rfl (flt (by decide)).2.2.2 (by decide) (by decide) ?_
            show Sq p e below m T21 114 #[iv p1, iv p2, iv p3, iv 3, rv w_STANDARD_delays_elements_0, rv b3, .unset, .unset, .unset, .unset, .unset, .unset, .unset] [] _
            refine st25 _ ?_
            show Sq p e below m T25 117 #[iv p1, iv p2, iv p3, iv 3, rv w_STANDARD_delays_elements_0, rv b3, .unset, .unset, .unset, .unset, .unset, .unset, .unset] [.ref b25] _
            refine XS.dup X25.here hx rfl (hb hby at_117) rfl rfl ?_
            refine XS.aload X25.here hx rfl (hb hby at_118) rfl rfl ?_
            show Sq p e below m T25 120 #[iv p1, iv p2, iv p3, iv 3, rv w_STANDARD_delays_elements_0, rv b3, .unset, .unset, .unset, .unset, .unset, .unset, .unset] [.ref b3, .ref b25, .ref b25] _
            refine st29.trans ?_
            show Sq p e below m T29 123 #[iv p1, iv p2, iv p3, iv 3, rv w_STANDARD_delays_elements_0, rv b3, .unset, .unset, .unset, .unset, .unset, .unset, .unset] [.ref b25] _
            refine XS.astore X29.here hx rfl (hb hby at_123) rfl rfl rfl ?_
            refine XS.iloadN X29.here hx rfl (hb hby at_125) rfl ?_
            show Sq p e below m T29 126 #[iv p1, iv p2, iv p3, iv 3, rv w_STANDARD_delays_elements_0, rv b3, rv b25, .unset, .unset, .unset, .unset, .unset, .unset] [.int p2] _
            refine XS.iconst X29.here hx rfl (hb hby at_126) ?_
            refine XS.iand X29.here hx rfl (hb hby at_127) rfl ?_
            exact kt
          by_cases hc128 : (p2 &&& (1 : Int32)) = (0 : Int32)
          · obtain ⟨T33, X33, e33, st33⟩ := getS2 X29 hx hZ hown (host := "") (Or.inl (W 208 rfl)) Via.refl e29 (S_w_DATA.ext O30.2) (g := (mkF m 149 #[iv p1, iv p2, iv p3, iv 3, rv w_STANDARD_delays_elements_0, rv b3, rv b25, iv 0, .unset, .unset, .unset, .unset, .unset] [])) rfl (hb hby at_149)
            obtain ⟨cq34, kq34, q34a, q34b, q34c⟩ := isOf hZ e33 A25
            obtain ⟨_, _, ⟨T34, L34, k34, n34⟩, -, X34, ⟨Lc34, hQ34, l34, y34, z34⟩, st34⟩ := X33.virtualBack hx (y := y_35) (z := y_35) hown (mvT hZ (W 93 rfl)) (mvT hZ (W 94 rfl)) (notFace_of_selects (args := #[]) (mvT hZ (W 96 rfl))) (mvT hZ (W 96 rfl)) (mvT hZ (W 95 rfl)) (by decide) (backOf (W := 0) (stD l Z a0 hw [] b25 p3 w_DATA w_TRANSIENT w_FAILED h29 n0 O30 S_w_TRANSIENT S_w_FAILED nek) hZ (W 97 rfl) (W 1 rfl) (by decide) (by decide)) q34a q34c (g := (mkF m 159 #[iv p1, iv p2, iv p3, iv 3, rv w_STANDARD_delays_elements_0, rv b3, rv b25, iv 0, rv w_DATA, .unset, .unset, .unset, .unset] [.int p3, .ref w_DATA, .ref b25])) rfl (by rw [hml]; rfl) (Steps.refl _) (argsL := [.ref w_DATA, .int p3]) (rest := []) (lenOf pd_19 rfl) rfl (by show 2 * 0 + _ ≤ _; exact Nat.le_of_eq rfl) (hb hby at_159) (fun _ _ => ⟨rfl, e33, (by decide : 6 + 0 ≤ _), (by decide : 26 + 0 ≤ _)⟩)
            dsimp only [Pt.U, Pt.locs, Pt.cells, Pt.slots] at X34 l34 y34 z34 st34 hQ34
            subst l34 y34 z34
            obtain ⟨h34, e34⟩ : ∃ z, T34.heap = z := ⟨_, rfl⟩
            rw [e34] at hQ34
            obtain ⟨rfl, N34q, p34_0⟩ := hQ34
            have N34 := Fr.app N29 N34q
            rw [p34_0] at e34
            obtain ⟨T35, X35, e35, st35⟩ := getS2 X34 hx hZ hown (host := "") (Or.inl (W 115 rfl)) Via.refl e34 (S_w_FAILED.ext O30.2) (g := (mkF m 176 #[iv p1, iv p2, iv p3, iv 3, rv w_STANDARD_delays_elements_0, rv b3, rv b25, iv 0, rv w_DATA, rv w_FAILED, .val (.long ((3 : Int64) - (p3.toInt64))), .second, .unset] [])) rfl (hb hby at_176)
            obtain ⟨fs, hr, hrun, hended, hW, hsame⟩ := X35.leave (v := some (.int (1 : Int32))) (fun h => by rw [Bd.returns] at h; cases h)
            refine ⟨_, _, pre32 _ ?_, hrun, hended, _, _, rfl, ?_, ⟨_, rfl⟩, hW, hsame.mono (by decide) (by decide)⟩
            · show Sq p e below m T29 128 #[iv p1, iv p2, iv p3, iv 3, rv w_STANDARD_delays_elements_0, rv b3, rv b25, .unset, .unset, .unset, .unset, .unset, .unset] [.int (p2 &&& (1 : Int32))] _
              refine XS.ifYes X29.here hx rfl (pc0 := 128) (pc' := 135) rfl (hb hby at_128) rfl ((if0 _ _).trans (teq hc128).1) (by decide) (by decide) ?_
              refine XS.iconst X29.here hx rfl (hb hby at_135) ?_
              show Sq p e below m T29 136 #[iv p1, iv p2, iv p3, iv 3, rv w_STANDARD_delays_elements_0, rv b3, rv b25, .unset, .unset, .unset, .unset, .unset, .unset] [.int 0] _
              refine XS.istore X29.here hx rfl (hb hby at_136) rfl rfl ?_
              refine XS.iload X29.here hx rfl (hb hby at_138) rfl ?_
              show Sq p e below m T29 140 #[iv p1, iv p2, iv p3, iv 3, rv w_STANDARD_delays_elements_0, rv b3, rv b25, iv 0, .unset, .unset, .unset, .unset, .unset] [.int 0] _
              refine XS.ifYes X29.here hx rfl (pc0 := 140) (pc' := 149) rfl (hb hby at_140) rfl ((if0 _ _).trans (teq (rfl : (0 : Int32) = (0 : Int32))).1) (by decide) (by decide) ?_
              show Sq p e below m T29 149 #[iv p1, iv p2, iv p3, iv 3, rv w_STANDARD_delays_elements_0, rv b3, rv b25, iv 0, .unset, .unset, .unset, .unset, .unset] [] _
              refine st33 _ ?_
              show Sq p e below m T33 152 #[iv p1, iv p2, iv p3, iv 3, rv w_STANDARD_delays_elements_0, rv b3, rv b25, iv 0, .unset, .unset, .unset, .unset, .unset] [.ref w_DATA] _
              refine XS.astore X33.here hx rfl (hb hby at_152) rfl rfl rfl ?_
              refine XS.aload X33.here hx rfl (hb hby at_154) rfl rfl ?_
              show Sq p e below m T33 156 #[iv p1, iv p2, iv p3, iv 3, rv w_STANDARD_delays_elements_0, rv b3, rv b25, iv 0, rv w_DATA, .unset, .unset, .unset, .unset] [.ref b25] _
              refine XS.aload X33.here hx rfl (hb hby at_156) rfl rfl ?_
              refine XS.iloadN X33.here hx rfl (hb hby at_158) rfl ?_
              show Sq p e below m T33 159 #[iv p1, iv p2, iv p3, iv 3, rv w_STANDARD_delays_elements_0, rv b3, rv b25, iv 0, rv w_DATA, .unset, .unset, .unset, .unset] [.int p3, .ref w_DATA, .ref b25] _
              refine st34.trans ?_
              show Sq p e below m T34 162 #[iv p1, iv p2, iv p3, iv 3, rv w_STANDARD_delays_elements_0, rv b3, rv b25, iv 0, rv w_DATA, .unset, .unset, .unset, .unset] [.ref w_FAILED] _
              refine XS.astore X34.here hx rfl (hb hby at_162) rfl rfl rfl ?_
              refine XS.iloadN X34.here hx rfl (hb hby at_164) rfl ?_
              show Sq p e below m T34 165 #[iv p1, iv p2, iv p3, iv 3, rv w_STANDARD_delays_elements_0, rv b3, rv b25, iv 0, rv w_DATA, rv w_FAILED, .unset, .unset, .unset] [.int 3] _
              refine XS.i2l X34.here hx rfl (hb hby at_165) rfl ?_
              show Sq p e below m T34 166 #[iv p1, iv p2, iv p3, iv 3, rv w_STANDARD_delays_elements_0, rv b3, rv b25, iv 0, rv w_DATA, rv w_FAILED, .unset, .unset, .unset] [.long ((3 : Int32).toInt64)] _
              rw [show ((3 : Int32).toInt64) = (3 : Int64) from by decide]
              show Sq p e below m T34 166 #[iv p1, iv p2, iv p3, iv 3, rv w_STANDARD_delays_elements_0, rv b3, rv b25, iv 0, rv w_DATA, rv w_FAILED, .unset, .unset, .unset] [.long 3] _
              refine XS.iloadN X34.here hx rfl (hb hby at_166) rfl ?_
              refine XS.i2l X34.here hx rfl (hb hby at_167) rfl ?_
              show Sq p e below m T34 168 #[iv p1, iv p2, iv p3, iv 3, rv w_STANDARD_delays_elements_0, rv b3, rv b25, iv 0, rv w_DATA, rv w_FAILED, .unset, .unset, .unset] [.long (p3.toInt64), .long 3] _
              refine XS.lsub X34.here hx rfl (hb hby at_168) rfl ?_
              refine XS.lstore X34.here hx rfl (hb hby at_169) rfl rfl ?_
              show Sq p e below m T34 171 #[iv p1, iv p2, iv p3, iv 3, rv w_STANDARD_delays_elements_0, rv b3, rv b25, iv 0, rv w_DATA, rv w_FAILED, .val (.long ((3 : Int64) - (p3.toInt64))), .second, .unset] [] _
              refine XS.iload X34.here hx rfl (hb hby at_171) rfl ?_
              refine XS.ifNo X34.here hx rfl (hb hby at_173) rfl ((if0 _ _).trans (teq (rfl : (0 : Int32) = (0 : Int32))).2) ?_
              show Sq p e below m T34 176 #[iv p1, iv p2, iv p3, iv 3, rv w_STANDARD_delays_elements_0, rv b3, rv b25, iv 0, rv w_DATA, rv w_FAILED, .val (.long ((3 : Int64) - (p3.toInt64))), .second, .unset] [] _
              refine st35 _ ?_
              show Sq p e below m T35 179 #[iv p1, iv p2, iv p3, iv 3, rv w_STANDARD_delays_elements_0, rv b3, rv b25, iv 0, rv w_DATA, rv w_FAILED, .val (.long ((3 : Int64) - (p3.toInt64))), .second, .unset] [.ref w_FAILED] _
              refine XS.astore X35.here hx rfl (hb hby at_179) rfl rfl rfl ?_
              refine XS.goto X35.here hx rfl (pc0 := 181) (pc' := 204) rfl (hb hby at_181) (by decide) (by decide) ?_
              show Sq p e below m T35 204 #[iv p1, iv p2, iv p3, iv 3, rv w_STANDARD_delays_elements_0, rv b3, rv b25, iv 0, rv w_DATA, rv w_FAILED, .val (.long ((3 : Int64) - (p3.toInt64))), .second, rv w_FAILED] [] _
              refine XS.aload X35.here hx rfl (hb hby at_204) rfl rfl ?_
              refine XS.aload X35.here hx rfl (hb hby at_206) rfl rfl ?_
              show Sq p e below m T35 208 #[iv p1, iv p2, iv p3, iv 3, rv w_STANDARD_delays_elements_0, rv b3, rv b25, iv 0, rv w_DATA, rv w_FAILED, .val (.long ((3 : Int64) - (p3.toInt64))), .second, rv w_FAILED] [.ref w_FAILED, .ref w_FAILED] _
              refine Jvm.RoadKit.acmp (g := (mkF m 208 #[iv p1, iv p2, iv p3, iv 3, rv w_STANDARD_delays_elements_0, rv b3, rv b25, iv 0, rv w_DATA, rv w_FAILED, .val (.long ((3 : Int64) - (p3.toInt64))), .second, rv w_FAILED] [.ref w_FAILED, .ref w_FAILED])) X35 hx rfl rfl rfl (pc0 := 208) (pc' := 211) (same := true) rfl (hb hby at_208) rfl (decide_eq_true rfl) (by decide) (by decide) ?_
              show Sq p e below m T35 211 #[iv p1, iv p2, iv p3, iv 3, rv w_STANDARD_delays_elements_0, rv b3, rv b25, iv 0, rv w_DATA, rv w_FAILED, .val (.long ((3 : Int64) - (p3.toInt64))), .second, rv w_FAILED] [] _
              refine XS.iconst X35.here hx rfl (hb hby at_211) ?_
              refine XS.goto X35.here hx rfl (pc0 := 212) (pc' := 216) rfl (hb hby at_212) (by decide) (by decide) ?_
              show Sq p e below m T35 216 #[iv p1, iv p2, iv p3, iv 3, rv w_STANDARD_delays_elements_0, rv b3, rv b25, iv 0, rv w_DATA, rv w_FAILED, .val (.long ((3 : Int64) - (p3.toInt64))), .second, rv w_FAILED] [.int 1] _
              exact retN X35 hx (t := .boolean) Bd.returns (by simp) (hb hby at_216) hr
            · show Q_rm0 Z p1 p2 p3 (3 : Int32) w_STANDARD w_STANDARD_delays w_STANDARD_delays_elements w_STANDARD_delays_elements_0 w_TRANSIENT w_FAILED w_DATA w_PENDING w_STANDARD_delays_elements_1 w_STANDARD_delays_elements_2 w_STANDARD_delays_elements_3 w_STANDARD_delays_elements_4 w_DEF w_ELIST w_EMPTY w_ELIST_elements kdef kel k5 w_MIR h0 n0 _ T35.heap _
              rw [e35]
              exact ⟨rfl, N34⟩
          · obtain ⟨T33, X33, e33, st33⟩ := getS2 X29 hx hZ hown (host := "") (Or.inl (W 90 rfl)) Via.refl e29 (S_w_TRANSIENT.ext O30.2) (g := (mkF m 143 #[iv p1, iv p2, iv p3, iv 3, rv w_STANDARD_delays_elements_0, rv b3, rv b25, iv 1, .unset, .unset, .unset, .unset, .unset] [])) rfl (hb hby at_143)
            have pre34 : ∀ t, Steps p.tables e below (T33.setTop (mkF m 154 #[iv p1, iv p2, iv p3, iv 3, rv w_STANDARD_delays_elements_0, rv b3, rv b25, iv 1, rv w_TRANSIENT, .unset, .unset, .unset, .unset] [])) t → Steps p.tables e below (s₁.setTop (entryFrame m #[(.int p1), (.int p2), (.int p3)] maxLocals)) t := by
              intro t kt
              refine pre32 _ ?_
              show Sq p e below m T29 128 #[iv p1, iv p2, iv p3, iv 3, rv w_STANDARD_delays_elements_0, rv b3, rv b25, .unset, .unset, .unset, .unset, .unset, .unset] [.int (p2 &&& (1 : Int32))] _
              refine XS.ifNo X29.here hx rfl (hb hby at_128) rfl ((if0 _ _).trans (feq hc128).1) ?_
              refine XS.iconst X29.here hx rfl (hb hby at_131) ?_
              show Sq p e below m T29 132 #[iv p1, iv p2, iv p3, iv 3, rv w_STANDARD_delays_elements_0, rv b3, rv b25, .unset, .unset, .unset, .unset, .unset, .unset] [.int 1] _
              refine XS.goto X29.here hx rfl (pc0 := 132) (pc' := 136) rfl (hb hby at_132) (by decide) (by decide) ?_
              refine XS.istore X29.here hx rfl (hb hby at_136) rfl rfl ?_
              show Sq p e below m T29 138 #[iv p1, iv p2, iv p3, iv 3, rv w_STANDARD_delays_elements_0, rv b3, rv b25, iv 1, .unset, .unset, .unset, .unset, .unset] [] _
              refine XS.iload X29.here hx rfl (hb hby at_138) rfl ?_
              refine XS.ifNo X29.here hx rfl (hb hby at_140) rfl ((if0 _ _).trans (feq (by decide)).1) ?_
              show Sq p e below m T29 143 #[iv p1, iv p2, iv p3, iv 3, rv w_STANDARD_delays_elements_0, rv b3, rv b25, iv 1, .unset, .unset, .unset, .unset, .unset] [] _
              refine st33 _ ?_
              show Sq p e below m T33 146 #[iv p1, iv p2, iv p3, iv 3, rv w_STANDARD_delays_elements_0, rv b3, rv b25, iv 1, .unset, .unset, .unset, .unset, .unset] [.ref w_TRANSIENT] _
              refine XS.goto X33.here hx rfl (pc0 := 146) (pc' := 152) rfl (hb hby at_146) (by decide) (by decide) ?_
              refine XS.astore X33.here hx rfl (hb hby at_152) rfl rfl rfl ?_
              exact kt
            rcases Decidable.em (p3 < (3 : Int32)) with hrk | hrk
            · obtain ⟨cq35, kq35, q35a, q35b, q35c⟩ := isOf hZ e33 A25
              obtain ⟨_, _, ⟨T35, L35, k35, n35⟩, -, X35, ⟨Lc35, hQ35, l35, y35, z35⟩, st35⟩ := X33.virtualBack hx (y := y_35) (z := y_35) hown (mvT hZ (W 93 rfl)) (mvT hZ (W 94 rfl)) (notFace_of_selects (args := #[]) (mvT hZ (W 96 rfl))) (mvT hZ (W 96 rfl)) (mvT hZ (W 95 rfl)) (by decide) (backOf (W := 0) (sqN1 l Z a0 hw [] b25 p3 w_TRANSIENT w_PENDING b29r b29g b29kg (3 : Int32) [(.ref w_STANDARD_delays_elements_0), (.ref w_STANDARD_delays_elements_0), (.ref w_STANDARD_delays_elements_0)] h29 n0 O30 A25 p29_3 p29_4 p29_5 p29_6 S_w_TRANSIENT S_w_PENDING hrk) hZ (W 97 rfl) (W 1 rfl) (by decide) (by decide)) q35a q35c (g := (mkF m 159 #[iv p1, iv p2, iv p3, iv 3, rv w_STANDARD_delays_elements_0, rv b3, rv b25, iv 1, rv w_TRANSIENT, .unset, .unset, .unset, .unset] [.int p3, .ref w_TRANSIENT, .ref b25])) rfl (by rw [hml]; rfl) (Steps.refl _) (argsL := [.ref w_TRANSIENT, .int p3]) (rest := []) (lenOf pd_19 rfl) rfl (by show 2 * 0 + _ ≤ _; exact Nat.le_of_eq rfl) (hb hby at_159) (fun _ _ => ⟨rfl, e33, (by decide : 6 + 0 ≤ _), (by decide : 26 + 0 ≤ _)⟩)
              dsimp only [Pt.U, Pt.locs, Pt.cells, Pt.slots] at X35 l35 y35 z35 st35 hQ35
              subst l35 y35 z35
              obtain ⟨h35, e35⟩ : ∃ z, T35.heap = z := ⟨_, rfl⟩
              rw [e35] at hQ35
              obtain ⟨rfl, N35q, p35_0⟩ := hQ35
              have N35 := Fr.app N29 N35q
              rw [p35_0] at e35
              obtain ⟨T36, X36, e36, st36⟩ := getS2 X35 hx hZ hown (host := "") (Or.inl (W 237 rfl)) Via.refl e35 (S_w_PENDING.ext O30.2) (g := (mkF m 191 #[iv p1, iv p2, iv p3, iv 3, rv w_STANDARD_delays_elements_0, rv b3, rv b25, iv 1, rv w_TRANSIENT, rv w_PENDING, .val (.long ((3 : Int64) - (p3.toInt64))), .second, .unset] [])) rfl (hb hby at_191)
              obtain ⟨fs, hr, hrun, hended, hW, hsame⟩ := X36.leave (v := some (.int (1 : Int32))) (fun h => by rw [Bd.returns] at h; cases h)
              refine ⟨_, _, pre34 _ ?_, hrun, hended, _, _, rfl, ?_, ⟨_, rfl⟩, hW, hsame.mono (by decide) (by decide)⟩
              · show Sq p e below m T33 154 #[iv p1, iv p2, iv p3, iv 3, rv w_STANDARD_delays_elements_0, rv b3, rv b25, iv 1, rv w_TRANSIENT, .unset, .unset, .unset, .unset] [] _
                refine XS.aload X33.here hx rfl (hb hby at_154) rfl rfl ?_
                refine XS.aload X33.here hx rfl (hb hby at_156) rfl rfl ?_
                show Sq p e below m T33 158 #[iv p1, iv p2, iv p3, iv 3, rv w_STANDARD_delays_elements_0, rv b3, rv b25, iv 1, rv w_TRANSIENT, .unset, .unset, .unset, .unset] [.ref w_TRANSIENT, .ref b25] _
                refine XS.iloadN X33.here hx rfl (hb hby at_158) rfl ?_
                show Sq p e below m T33 159 #[iv p1, iv p2, iv p3, iv 3, rv w_STANDARD_delays_elements_0, rv b3, rv b25, iv 1, rv w_TRANSIENT, .unset, .unset, .unset, .unset] [.int p3, .ref w_TRANSIENT, .ref b25] _
                refine st35.trans ?_
                show Sq p e below m T35 162 #[iv p1, iv p2, iv p3, iv 3, rv w_STANDARD_delays_elements_0, rv b3, rv b25, iv 1, rv w_TRANSIENT, .unset, .unset, .unset, .unset] [.ref w_PENDING] _
                refine XS.astore X35.here hx rfl (hb hby at_162) rfl rfl rfl ?_
                refine XS.iloadN X35.here hx rfl (hb hby at_164) rfl ?_
                show Sq p e below m T35 165 #[iv p1, iv p2, iv p3, iv 3, rv w_STANDARD_delays_elements_0, rv b3, rv b25, iv 1, rv w_TRANSIENT, rv w_PENDING, .unset, .unset, .unset] [.int 3] _
                refine XS.i2l X35.here hx rfl (hb hby at_165) rfl ?_
                show Sq p e below m T35 166 #[iv p1, iv p2, iv p3, iv 3, rv w_STANDARD_delays_elements_0, rv b3, rv b25, iv 1, rv w_TRANSIENT, rv w_PENDING, .unset, .unset, .unset] [.long ((3 : Int32).toInt64)] _
                rw [show ((3 : Int32).toInt64) = (3 : Int64) from by decide]
                show Sq p e below m T35 166 #[iv p1, iv p2, iv p3, iv 3, rv w_STANDARD_delays_elements_0, rv b3, rv b25, iv 1, rv w_TRANSIENT, rv w_PENDING, .unset, .unset, .unset] [.long 3] _
                refine XS.iloadN X35.here hx rfl (hb hby at_166) rfl ?_
                refine XS.i2l X35.here hx rfl (hb hby at_167) rfl ?_
                show Sq p e below m T35 168 #[iv p1, iv p2, iv p3, iv 3, rv w_STANDARD_delays_elements_0, rv b3, rv b25, iv 1, rv w_TRANSIENT, rv w_PENDING, .unset, .unset, .unset] [.long (p3.toInt64), .long 3] _
                refine XS.lsub X35.here hx rfl (hb hby at_168) rfl ?_
                refine XS.lstore X35.here hx rfl (hb hby at_169) rfl rfl ?_
                show Sq p e below m T35 171 #[iv p1, iv p2, iv p3, iv 3, rv w_STANDARD_delays_elements_0, rv b3, rv b25, iv 1, rv w_TRANSIENT, rv w_PENDING, .val (.long ((3 : Int64) - (p3.toInt64))), .second, .unset] [] _
                refine XS.iload X35.here hx rfl (hb hby at_171) rfl ?_
                refine XS.ifYes X35.here hx rfl (pc0 := 173) (pc' := 184) rfl (hb hby at_173) rfl ((if0 _ _).trans (feq (by decide)).2) (by decide) (by decide) ?_
                show Sq p e below m T35 184 #[iv p1, iv p2, iv p3, iv 3, rv w_STANDARD_delays_elements_0, rv b3, rv b25, iv 1, rv w_TRANSIENT, rv w_PENDING, .val (.long ((3 : Int64) - (p3.toInt64))), .second, .unset] [] _
                refine XS.lload X35.here hx rfl (hb hby at_184) rfl ?_
                refine XS.lconst X35.here hx rfl (hb hby at_186) ?_
                show Sq p e below m T35 187 #[iv p1, iv p2, iv p3, iv 3, rv w_STANDARD_delays_elements_0, rv b3, rv b25, iv 1, rv w_TRANSIENT, rv w_PENDING, .val (.long ((3 : Int64) - (p3.toInt64))), .second, .unset] [.long 1, .long ((3 : Int64) - (p3.toInt64))] _
                refine XS.lcmp X35.here hx rfl (hb hby at_187) rfl ?_
                refine XS.ifNo X35.here hx rfl (hb hby at_188) rfl ((if0 _ _).trans (flt (own_lf (k := (3 : Int32)) (by decide) hrk)).1) ?_
                show Sq p e below m T35 191 #[iv p1, iv p2, iv p3, iv 3, rv w_STANDARD_delays_elements_0, rv b3, rv b25, iv 1, rv w_TRANSIENT, rv w_PENDING, .val (.long ((3 : Int64) - (p3.toInt64))), .second, .unset] [] _
                refine st36 _ ?_
                show Sq p e below m T36 194 #[iv p1, iv p2, iv p3, iv 3, rv w_STANDARD_delays_elements_0, rv b3, rv b25, iv 1, rv w_TRANSIENT, rv w_PENDING, .val (.long ((3 : Int64) - (p3.toInt64))), .second, .unset] [.ref w_PENDING] _
                refine XS.astore X36.here hx rfl (hb hby at_194) rfl rfl rfl ?_
                refine XS.goto X36.here hx rfl (pc0 := 196) (pc' := 204) rfl (hb hby at_196) (by decide) (by decide) ?_
                show Sq p e below m T36 204 #[iv p1, iv p2, iv p3, iv 3, rv w_STANDARD_delays_elements_0, rv b3, rv b25, iv 1, rv w_TRANSIENT, rv w_PENDING, .val (.long ((3 : Int64) - (p3.toInt64))), .second, rv w_PENDING] [] _
                refine XS.aload X36.here hx rfl (hb hby at_204) rfl rfl ?_
                refine XS.aload X36.here hx rfl (hb hby at_206) rfl rfl ?_
                show Sq p e below m T36 208 #[iv p1, iv p2, iv p3, iv 3, rv w_STANDARD_delays_elements_0, rv b3, rv b25, iv 1, rv w_TRANSIENT, rv w_PENDING, .val (.long ((3 : Int64) - (p3.toInt64))), .second, rv w_PENDING] [.ref w_PENDING, .ref w_PENDING] _
                refine Jvm.RoadKit.acmp (g := (mkF m 208 #[iv p1, iv p2, iv p3, iv 3, rv w_STANDARD_delays_elements_0, rv b3, rv b25, iv 1, rv w_TRANSIENT, rv w_PENDING, .val (.long ((3 : Int64) - (p3.toInt64))), .second, rv w_PENDING] [.ref w_PENDING, .ref w_PENDING])) X36 hx rfl rfl rfl (pc0 := 208) (pc' := 211) (same := true) rfl (hb hby at_208) rfl (decide_eq_true rfl) (by decide) (by decide) ?_
                show Sq p e below m T36 211 #[iv p1, iv p2, iv p3, iv 3, rv w_STANDARD_delays_elements_0, rv b3, rv b25, iv 1, rv w_TRANSIENT, rv w_PENDING, .val (.long ((3 : Int64) - (p3.toInt64))), .second, rv w_PENDING] [] _
                refine XS.iconst X36.here hx rfl (hb hby at_211) ?_
                refine XS.goto X36.here hx rfl (pc0 := 212) (pc' := 216) rfl (hb hby at_212) (by decide) (by decide) ?_
                show Sq p e below m T36 216 #[iv p1, iv p2, iv p3, iv 3, rv w_STANDARD_delays_elements_0, rv b3, rv b25, iv 1, rv w_TRANSIENT, rv w_PENDING, .val (.long ((3 : Int64) - (p3.toInt64))), .second, rv w_PENDING] [.int 1] _
                exact retN X36 hx (t := .boolean) Bd.returns (by simp) (hb hby at_216) hr
              · show Q_rm0 Z p1 p2 p3 (3 : Int32) w_STANDARD w_STANDARD_delays w_STANDARD_delays_elements w_STANDARD_delays_elements_0 w_TRANSIENT w_FAILED w_DATA w_PENDING w_STANDARD_delays_elements_1 w_STANDARD_delays_elements_2 w_STANDARD_delays_elements_3 w_STANDARD_delays_elements_4 w_DEF w_ELIST w_EMPTY w_ELIST_elements kdef kel k5 w_MIR h0 n0 _ T36.heap _
                rw [e36]
                exact ⟨rfl, N35⟩
            · obtain ⟨cq35, kq35, q35a, q35b, q35c⟩ := isOf hZ e33 A25
              obtain ⟨_, _, ⟨T35, L35, k35, n35⟩, -, X35, ⟨Lc35, hQ35, l35, y35, z35⟩, st35⟩ := X33.virtualBack hx (y := y_35) (z := y_35) hown (mvT hZ (W 93 rfl)) (mvT hZ (W 94 rfl)) (notFace_of_selects (args := #[]) (mvT hZ (W 96 rfl))) (mvT hZ (W 96 rfl)) (mvT hZ (W 95 rfl)) (by decide) (backOf (W := 0) (sqN0 l Z a0 hw [] b25 p3 w_TRANSIENT w_FAILED b29r b29g b29kg (3 : Int32) [(.ref w_STANDARD_delays_elements_0), (.ref w_STANDARD_delays_elements_0), (.ref w_STANDARD_delays_elements_0)] h29 n0 O30 A25 p29_3 p29_4 p29_5 p29_6 S_w_TRANSIENT S_w_FAILED hrk) hZ (W 97 rfl) (W 1 rfl) (by decide) (by decide)) q35a q35c (g := (mkF m 159 #[iv p1, iv p2, iv p3, iv 3, rv w_STANDARD_delays_elements_0, rv b3, rv b25, iv 1, rv w_TRANSIENT, .unset, .unset, .unset, .unset] [.int p3, .ref w_TRANSIENT, .ref b25])) rfl (by rw [hml]; rfl) (Steps.refl _) (argsL := [.ref w_TRANSIENT, .int p3]) (rest := []) (lenOf pd_19 rfl) rfl (by show 2 * 0 + _ ≤ _; exact Nat.le_of_eq rfl) (hb hby at_159) (fun _ _ => ⟨rfl, e33, (by decide : 6 + 0 ≤ _), (by decide : 26 + 0 ≤ _)⟩)
              dsimp only [Pt.U, Pt.locs, Pt.cells, Pt.slots] at X35 l35 y35 z35 st35 hQ35
              subst l35 y35 z35
              obtain ⟨h35, e35⟩ : ∃ z, T35.heap = z := ⟨_, rfl⟩
              rw [e35] at hQ35
              obtain ⟨rfl, N35q, p35_0⟩ := hQ35
              have N35 := Fr.app N29 N35q
              rw [p35_0] at e35
              obtain ⟨T36, X36, e36, st36⟩ := getS2 X35 hx hZ hown (host := "") (Or.inl (W 115 rfl)) Via.refl e35 (S_w_FAILED.ext O30.2) (g := (mkF m 199 #[iv p1, iv p2, iv p3, iv 3, rv w_STANDARD_delays_elements_0, rv b3, rv b25, iv 1, rv w_TRANSIENT, rv w_FAILED, .val (.long ((3 : Int64) - (p3.toInt64))), .second, .unset] [])) rfl (hb hby at_199)
              obtain ⟨fs, hr, hrun, hended, hW, hsame⟩ := X36.leave (v := some (.int (1 : Int32))) (fun h => by rw [Bd.returns] at h; cases h)
              refine ⟨_, _, pre34 _ ?_, hrun, hended, _, _, rfl, ?_, ⟨_, rfl⟩, hW, hsame.mono (by decide) (by decide)⟩
              · show Sq p e below m T33 154 #[iv p1, iv p2, iv p3, iv 3, rv w_STANDARD_delays_elements_0, rv b3, rv b25, iv 1, rv w_TRANSIENT, .unset, .unset, .unset, .unset] [] _
                refine XS.aload X33.here hx rfl (hb hby at_154) rfl rfl ?_
                refine XS.aload X33.here hx rfl (hb hby at_156) rfl rfl ?_
                show Sq p e below m T33 158 #[iv p1, iv p2, iv p3, iv 3, rv w_STANDARD_delays_elements_0, rv b3, rv b25, iv 1, rv w_TRANSIENT, .unset, .unset, .unset, .unset] [.ref w_TRANSIENT, .ref b25] _
                refine XS.iloadN X33.here hx rfl (hb hby at_158) rfl ?_
                show Sq p e below m T33 159 #[iv p1, iv p2, iv p3, iv 3, rv w_STANDARD_delays_elements_0, rv b3, rv b25, iv 1, rv w_TRANSIENT, .unset, .unset, .unset, .unset] [.int p3, .ref w_TRANSIENT, .ref b25] _
                refine st35.trans ?_
                show Sq p e below m T35 162 #[iv p1, iv p2, iv p3, iv 3, rv w_STANDARD_delays_elements_0, rv b3, rv b25, iv 1, rv w_TRANSIENT, .unset, .unset, .unset, .unset] [.ref w_FAILED] _
                refine XS.astore X35.here hx rfl (hb hby at_162) rfl rfl rfl ?_
                refine XS.iloadN X35.here hx rfl (hb hby at_164) rfl ?_
                show Sq p e below m T35 165 #[iv p1, iv p2, iv p3, iv 3, rv w_STANDARD_delays_elements_0, rv b3, rv b25, iv 1, rv w_TRANSIENT, rv w_FAILED, .unset, .unset, .unset] [.int 3] _
                refine XS.i2l X35.here hx rfl (hb hby at_165) rfl ?_
                show Sq p e below m T35 166 #[iv p1, iv p2, iv p3, iv 3, rv w_STANDARD_delays_elements_0, rv b3, rv b25, iv 1, rv w_TRANSIENT, rv w_FAILED, .unset, .unset, .unset] [.long ((3 : Int32).toInt64)] _
                rw [show ((3 : Int32).toInt64) = (3 : Int64) from by decide]
                show Sq p e below m T35 166 #[iv p1, iv p2, iv p3, iv 3, rv w_STANDARD_delays_elements_0, rv b3, rv b25, iv 1, rv w_TRANSIENT, rv w_FAILED, .unset, .unset, .unset] [.long 3] _
                refine XS.iloadN X35.here hx rfl (hb hby at_166) rfl ?_
                refine XS.i2l X35.here hx rfl (hb hby at_167) rfl ?_
                show Sq p e below m T35 168 #[iv p1, iv p2, iv p3, iv 3, rv w_STANDARD_delays_elements_0, rv b3, rv b25, iv 1, rv w_TRANSIENT, rv w_FAILED, .unset, .unset, .unset] [.long (p3.toInt64), .long 3] _
                refine XS.lsub X35.here hx rfl (hb hby at_168) rfl ?_
                refine XS.lstore X35.here hx rfl (hb hby at_169) rfl rfl ?_
                show Sq p e below m T35 171 #[iv p1, iv p2, iv p3, iv 3, rv w_STANDARD_delays_elements_0, rv b3, rv b25, iv 1, rv w_TRANSIENT, rv w_FAILED, .val (.long ((3 : Int64) - (p3.toInt64))), .second, .unset] [] _
                refine XS.iload X35.here hx rfl (hb hby at_171) rfl ?_
                refine XS.ifYes X35.here hx rfl (pc0 := 173) (pc' := 184) rfl (hb hby at_173) rfl ((if0 _ _).trans (feq (by decide)).2) (by decide) (by decide) ?_
                show Sq p e below m T35 184 #[iv p1, iv p2, iv p3, iv 3, rv w_STANDARD_delays_elements_0, rv b3, rv b25, iv 1, rv w_TRANSIENT, rv w_FAILED, .val (.long ((3 : Int64) - (p3.toInt64))), .second, .unset] [] _
                refine XS.lload X35.here hx rfl (hb hby at_184) rfl ?_
                refine XS.lconst X35.here hx rfl (hb hby at_186) ?_
                show Sq p e below m T35 187 #[iv p1, iv p2, iv p3, iv 3, rv w_STANDARD_delays_elements_0, rv b3, rv b25, iv 1, rv w_TRANSIENT, rv w_FAILED, .val (.long ((3 : Int64) - (p3.toInt64))), .second, .unset] [.long 1, .long ((3 : Int64) - (p3.toInt64))] _
                refine XS.lcmp X35.here hx rfl (hb hby at_187) rfl ?_
                refine XS.ifYes X35.here hx rfl (pc0 := 188) (pc' := 199) rfl (hb hby at_188) rfl ((if0 _ _).trans (tlt (own_lt (k := (3 : Int32)) (by decide) hrk)).1) (by decide) (by decide) ?_
                show Sq p e below m T35 199 #[iv p1, iv p2, iv p3, iv 3, rv w_STANDARD_delays_elements_0, rv b3, rv b25, iv 1, rv w_TRANSIENT, rv w_FAILED, .val (.long ((3 : Int64) - (p3.toInt64))), .second, .unset] [] _
                refine st36 _ ?_
                show Sq p e below m T36 202 #[iv p1, iv p2, iv p3, iv 3, rv w_STANDARD_delays_elements_0, rv b3, rv b25, iv 1, rv w_TRANSIENT, rv w_FAILED, .val (.long ((3 : Int64) - (p3.toInt64))), .second, .unset] [.ref w_FAILED] _
                refine XS.astore X36.here hx rfl (hb hby at_202) rfl rfl rfl ?_
                refine XS.aload X36.here hx rfl (hb hby at_204) rfl rfl ?_
                show Sq p e below m T36 206 #[iv p1, iv p2, iv p3, iv 3, rv w_STANDARD_delays_elements_0, rv b3, rv b25, iv 1, rv w_TRANSIENT, rv w_FAILED, .val (.long ((3 : Int64) - (p3.toInt64))), .second, rv w_FAILED] [.ref w_FAILED] _
                refine XS.aload X36.here hx rfl (hb hby at_206) rfl rfl ?_
                show Sq p e below m T36 208 #[iv p1, iv p2, iv p3, iv 3, rv w_STANDARD_delays_elements_0, rv b3, rv b25, iv 1, rv w_TRANSIENT, rv w_FAILED, .val (.long ((3 : Int64) - (p3.toInt64))), .second, rv w_FAILED] [.ref w_FAILED, .ref w_FAILED] _
                refine Jvm.RoadKit.acmp (g := (mkF m 208 #[iv p1, iv p2, iv p3, iv 3, rv w_STANDARD_delays_elements_0, rv b3, rv b25, iv 1, rv w_TRANSIENT, rv w_FAILED, .val (.long ((3 : Int64) - (p3.toInt64))), .second, rv w_FAILED] [.ref w_FAILED, .ref w_FAILED])) X36 hx rfl rfl rfl (pc0 := 208) (pc' := 211) (same := true) rfl (hb hby at_208) rfl (decide_eq_true rfl) (by decide) (by decide) ?_
                show Sq p e below m T36 211 #[iv p1, iv p2, iv p3, iv 3, rv w_STANDARD_delays_elements_0, rv b3, rv b25, iv 1, rv w_TRANSIENT, rv w_FAILED, .val (.long ((3 : Int64) - (p3.toInt64))), .second, rv w_FAILED] [] _
                refine XS.iconst X36.here hx rfl (hb hby at_211) ?_
                refine XS.goto X36.here hx rfl (pc0 := 212) (pc' := 216) rfl (hb hby at_212) (by decide) (by decide) ?_
                show Sq p e below m T36 216 #[iv p1, iv p2, iv p3, iv 3, rv w_STANDARD_delays_elements_0, rv b3, rv b25, iv 1, rv w_TRANSIENT, rv w_FAILED, .val (.long ((3 : Int64) - (p3.toInt64))), .second, rv w_FAILED] [.int 1] _
                exact retN X36 hx (t := .boolean) Bd.returns (by simp) (hb hby at_216) hr
              · show Q_rm0 Z p1 p2 p3 (3 : Int32) w_STANDARD w_STANDARD_delays w_STANDARD_delays_elements w_STANDARD_delays_elements_0 w_TRANSIENT w_FAILED w_DATA w_PENDING w_STANDARD_delays_elements_1 w_STANDARD_delays_elements_2 w_STANDARD_delays_elements_3 w_STANDARD_delays_elements_4 w_DEF w_ELIST w_EMPTY w_ELIST_elements kdef kel k5 w_MIR h0 n0 _ T36.heap _
                rw [e36]
                exact ⟨rfl, N35⟩
        · obtain ⟨cq25, kq25, q25a, q25b, q25c⟩ := isOf hZ e21 A3
          obtain ⟨_, _, ⟨T25, L25, k25, n25⟩, -, X25, ⟨Lc25, hQ25, l25, y25, z25⟩, st25⟩ := X21.virtualBack hx (y := y_18) (z := y_18) hown (mvT hZ (W 116 rfl)) (mvT hZ (W 117 rfl)) (notFace_of_selects (args := #[]) (mvT hZ (W 119 rfl))) (mvT hZ (W 119 rfl)) (mvT hZ (W 118 rfl)) (by decide) (backOf (W := 0) (addg l Z a0 hw [] b3 w_STANDARD_delays_elements_0 b13b b13kb ((((0 : Int32) + (1 : Int32)) + (1 : Int32)) + (1 : Int32)) (3 : Int32) (4 : Int32) [(.ref w_STANDARD_delays_elements_0), (.ref w_STANDARD_delays_elements_0), (.ref w_STANDARD_delays_elements_0), .null, .null, .null, .null, .null, .null, .null] [(.ref w_STANDARD_delays_elements_0), (.ref w_STANDARD_delays_elements_0), (.ref w_STANDARD_delays_elements_0), (.ref w_STANDARD_delays_elements_0), .null, .null, .null, .null, .null, .null] h21 n0 O22 A3 E_w_STANDARD_delays_elements_0 p21_1 p21_2 p21_3 g_b3 g_b13b ne_b3_b13b p21_4 p13_6 (by decide) (by decide) (by decide) rfl (Nat.le_of_ble_eq_true rfl)) hZ (W 120 rfl) (W 26 rfl) (by decide) (by decide)) q25a q25c (g := (mkF m 70 #[iv p1, iv p2, iv p3, iv n, rv w_STANDARD_delays_elements_0, rv b3, .unset, .unset, .unset, .unset, .unset, .unset, .unset] [.ref w_STANDARD_delays_elements_0, .ref b3])) rfl (by rw [hml]; rfl) (Steps.refl _) (argsL := [.ref w_STANDARD_delays_elements_0]) (rest := []) (lenOf pd_20 rfl) rfl (by show 2 * 0 + _ ≤ _; exact Nat.le_of_eq rfl) (hb hby at_70) (fun _ _ => ⟨rfl, e21, (by decide : 2 + 0 ≤ _), (by decide : 13 + 0 ≤ _)⟩)
          dsimp only [Pt.U, Pt.locs, Pt.cells, Pt.slots] at X25 l25 y25 z25 st25 hQ25
          subst l25 y25 z25
          obtain ⟨h25, e25⟩ : ∃ z, T25.heap = z := ⟨_, rfl⟩
          rw [e25] at hQ25
          obtain ⟨rfl, N25q, p25_0, p25_1, p25_2, p25_3, p25_4⟩ := hQ25
          have N25 := Fr.app N21 N25q
          have A3 := A3.keep p25_0
          have p13_7 := p13_7.keep p25_0
          have O26 := O22.keep p25_0 (allS g_b3 (allS g_b13b all0))
          have pre28 : ∀ t, Steps p.tables e below (T25.setTop (mkF m 74 #[iv p1, iv p2, iv p3, iv n, rv w_STANDARD_delays_elements_0, rv b3, .unset, .unset, .unset, .unset, .unset, .unset, .unset] [])) t → Steps p.tables e below (s₁.setTop (entryFrame m #[(.int p1), (.int p2), (.int p3)] maxLocals)) t := by
            intro t kt
            refine pre24 _ ?_
            show Sq p e below m T21 61 #[iv p1, iv p2, iv p3, iv n, rv w_STANDARD_delays_elements_0, rv b3, .unset, .unset, .unset, .unset, .unset, .unset, .unset] [] _
            refine XS.iloadN X21.here hx rfl (hb hby at_61) rfl ?_
            refine XS.iconst X21.here hx rfl (hb hby at_62) ?_
            show Sq p e below m T21 63 #[iv p1, iv p2, iv p3, iv n, rv w_STANDARD_delays_elements_0, rv b3, .unset, .unset, .unset, .unset, .unset, .unset, .unset] [.int 3, .int n] _
            refine XS.icmpNo X21.here hx rfl (hb hby at_63) rfl (tlt hs3).2.2.2 ?_
            refine XS.aload X21.here hx rfl (hb hby at_66) rfl rfl ?_
            show Sq p e below m T21 68 #[iv p1, iv p2, iv p3, iv n, rv w_STANDARD_delays_elements_0, rv b3, .unset, .unset, .unset, .unset, .unset, .unset, .unset] [.ref b3] _
            refine XS.aload X21.here hx rfl (hb hby at_68) rfl rfl ?_
            show Sq p e below m T21 70 #[iv p1, iv p2, iv p3, iv n, rv w_STANDARD_delays_elements_0, rv b3, .unset, .unset, .unset, .unset, .unset, .unset, .unset] [.ref w_STANDARD_delays_elements_0, .ref b3] _
            refine st25.trans ?_
            show Sq p e below m T25 73 #[iv p1, iv p2, iv p3, iv n, rv w_STANDARD_delays_elements_0, rv b3, .unset, .unset, .unset, .unset, .unset, .unset, .unset] [.int 1] _
            refine XS.pop X25.here hx rfl (hb hby at_73) rfl rfl ?_
            exact kt
          rcases own_sk (k := (4 : Int32)) hs3 (by decide) with rfl | hs4
          · obtain ⟨T29, h29, X29, e29, E29, A29, D29, -, st29⟩ := newO X25 hx hZ hown (W 50 rfl) (W 51 rfl) (W 1 rfl) e25 (g := (mkF m 114 #[iv p1, iv p2, iv p3, iv 4, rv w_STANDARD_delays_elements_0, rv b3, .unset, .unset, .unset, .unset, .unset, .unset, .unset] [])) rfl (hb hby at_114) (by decide) (by decide)
            obtain ⟨b29, g29⟩ : ∃ z, z = h25.size := ⟨_, rfl⟩
            rw [← g29] at A29 D29 st29
            have g_b29 : n0 ≤ b29 := Nat.le_trans (own_sz O26) (Nat.le_of_eq g29.symm)
            have A3 := A3.ext E29
            have p13_7 := p13_7.ext E29
            have p25_1 := p25_1.ext E29
            have p25_2 := p25_2.ext E29
            have p25_4 := p25_4.ext E29
            have O30 := O26.ext E29
            have Fz32 : Fld Z h29 b29 "com/example/savitri/savitri/store/RedriveSchedule" "delays" "Ljava/util/List;" .null := D29 (Or.inr (W 9 rfl)) (ty := (.object "java/util/List")) (by decide)
            obtain ⟨_, _, ⟨T33, L33, k33, n33⟩, -, X33, ⟨Lc33, hQ33, l33, y33, z33⟩, st33⟩ := X29.specialBack hx (y := y_29) rfl hown (mvT hZ (W 52 rfl)) (mvT hZ (W 53 rfl)) (mvT hZ (W 54 rfl)) (by decide) (backOf (W := 1) (recin4 l Z a0 hw [] b29 b3 b13b b13kb w_STANDARD_delays_elements_0 w_MIR h29 n0 O30 A29 Fz32 g_b29 A3 p25_4 E_w_STANDARD_delays_elements_0 Mo p13_7 p25_1 p25_2) hZ (W 54 rfl) (W 1 rfl) (by decide) (by decide)) (g := (mkF m 120 #[iv p1, iv p2, iv p3, iv 4, rv w_STANDARD_delays_elements_0, rv b3, .unset, .unset, .unset, .unset, .unset, .unset, .unset] [.ref b3, .ref b29, .ref b29])) rfl (by rw [hml]; rfl) (Steps.refl _) (a := b29) (argsL := [.ref b3]) (rest := [.ref b29]) (lenOf pd_18 rfl) rfl (by show 2 * 0 + _ ≤ _; exact Nat.le_of_eq rfl) (hb hby at_120) (fun _ _ => ⟨rfl, e29, (by decide : 3 + 3 ≤ _), (by decide : 14 + 13 ≤ _)⟩)
            dsimp only [Pt.U, Pt.locs, Pt.cells, Pt.slots] at X33 l33 y33 z33 st33 hQ33
            subst l33 y33 z33
            obtain ⟨h33, e33⟩ : ∃ z, T33.heap = z := ⟨_, rfl⟩
            rw [e33] at hQ33
            obtain ⟨b33r, b33g, b33kg, rfl, N33q, p33_0, p33_1, p33_2, p33_3, p33_4, p33_5, p33_6⟩ := hQ33
            have N33 := Fr.app N25 N33q
            have A29 := A29.keep p33_0
            have O34 := O30.keep p33_0 (allS g_b29 all0)
            have pre36 : ∀ t, Steps p.tables e below (T33.setTop (mkF m 128 #[iv p1, iv p2, iv p3, iv 4, rv w_STANDARD_delays_elements_0, rv b3, rv b29, .unset, .unset, .unset, .unset, .unset, .unset] [.int (p2 &&& (1 : Int32))])) t → Steps p.tables e below (s₁.setTop (entryFrame m #[(.int p1), (.int p2), (.int p3)] maxLocals)) t := by
              intro t kt
              refine pre28 _ ?_
              show Sq p e below m T25 74 #[iv p1, iv p2, iv p3, iv 4, rv w_STANDARD_delays_elements_0, rv b3, .unset, .unset, .unset, .unset, .unset, .unset, .unset] [] _
              refine XS.iloadN X25.here hx rfl (hb hby at_74) rfl ?_
              refine XS.iconst X25.here hx rfl (hb hby at_75) ?_
              show Sq p e below m T25 76 #[iv p1, iv p2, iv p3, iv 4, rv w_STANDARD_delays_elements_0, rv b3, .unset, .unset, .unset, .unset, .unset, .unset, .unset] [.int 4, .int 4] _
              refine XS.icmpYes X25.here hx rfl (pc0 := 76) (pc' := 87) rfl (hb hby at_76) rfl (flt (by decide)).2.2.2 (by decide) (by decide) ?_
              refine XS.iloadN X25.here hx rfl (hb hby at_87) rfl ?_
              show Sq p e below m T25 88 #[iv p1, iv p2, iv p3, iv 4, rv w_STANDARD_delays_elements_0, rv b3, .unset, .unset, .unset, .unset, .unset, .unset, .unset] [.int 4] _
              refine XS.iconst X25.here hx rfl (hb hby at_88) ?_
              refine XS.icmpYes X25.here hx rfl (pc0 := 89) (pc' := 100) rfl (hb hby at_89) rfl (flt (by decide)).2.2.2 (by decide) (by decide) ?_
              show Sq p e below m T25 100 #[iv p1, iv p2, iv p3, iv 4, rv w_STANDARD_delays_elements_0, rv b3, .unset, .unset, .unset, .unset, .unset, .unset, .unset] [] _
              refine XS.iloadN X25.here hx rfl (hb hby at_100) rfl ?_
              refine XS.bipush X25.here hx rfl (hb hby at_101) ?_
              show Sq p e below m T25 103 #[iv p1, iv p2, iv p3, iv 4, rv w_STANDARD_delays_elements_0, rv b3, .unset, .unset, .unset, .unset, .unset, .unset, .unset] [.int 6, .int 4] _
              refine XS.icmpYes X25.here hx rfl (pc0 := 103) (pc' := 114) rfl (hb hby at_103) rfl (flt (by decide)).2.2.2 (by decide) (by decide) ?_
              show Sq p e below m T25 114 #[iv p1, iv p2, iv p3, iv 4, rv w_STANDARD_delays_elements_0, rv b3, .unset, .unset, .unset, .unset, .unset, .unset, .unset] [] _
              refine st29 _ ?_
              show Sq p e below m T29 117 #[iv p1, iv p2, iv p3, iv 4, rv w_STANDARD_delays_elements_0, rv b3, .unset, .unset, .unset, .unset, .unset, .unset, .unset] [.ref b29] _
              refine XS.dup X29.here hx rfl (hb hby at_117) rfl rfl ?_
              refine XS.aload X29.here hx rfl (hb hby at_118) rfl rfl ?_
              show Sq p e below m T29 120 #[iv p1, iv p2, iv p3, iv 4, rv w_STANDARD_delays_elements_0, rv b3, .unset, .unset, .unset, .unset, .unset, .unset, .unset] [.ref b3, .ref b29, .ref b29] _
              refine st33.trans ?_
              show Sq p e below m T33 123 #[iv p1, iv p2, iv p3, iv 4, rv w_STANDARD_delays_elements_0, rv b3, .unset, .unset, .unset, .unset, .unset, .unset, .unset] [.ref b29] _
              refine XS.astore X33.here hx rfl (hb hby at_123) rfl rfl rfl ?_
              refine XS.iloadN X33.here hx rfl (hb hby at_125) rfl ?_
              show Sq p e below m T33 126 #[iv p1, iv p2, iv p3, iv 4, rv w_STANDARD_delays_elements_0, rv b3, rv b29, .unset, .unset, .unset, .unset, .unset, .unset] [.int p2] _
              refine XS.iconst X33.here hx rfl (hb hby at_126) ?_
              refine XS.iand X33.here hx rfl (hb hby at_127) rfl ?_
              exact kt
            by_cases hc128 : (p2 &&& (1 : Int32)) = (0 : Int32)
            · obtain ⟨T37, X37, e37, st37⟩ := getS2 X33 hx hZ hown (host := "") (Or.inl (W 208 rfl)) Via.refl e33 (S_w_DATA.ext O34.2) (g := (mkF m 149 #[iv p1, iv p2, iv p3, iv 4, rv w_STANDARD_delays_elements_0, rv b3, rv b29, iv 0, .unset, .unset, .unset, .unset, .unset] [])) rfl (hb hby at_149)
              obtain ⟨cq38, kq38, q38a, q38b, q38c⟩ := isOf hZ e37 A29
              obtain ⟨_, _, ⟨T38, L38, k38, n38⟩, -, X38, ⟨Lc38, hQ38, l38, y38, z38⟩, st38⟩ := X37.virtualBack hx (y := y_35) (z := y_35) hown (mvT hZ (W 93 rfl)) (mvT hZ (W 94 rfl)) (notFace_of_selects (args := #[]) (mvT hZ (W 96 rfl))) (mvT hZ (W 96 rfl)) (mvT hZ (W 95 rfl)) (by decide) (backOf (W := 0) (stD l Z a0 hw [] b29 p3 w_DATA w_TRANSIENT w_FAILED h33 n0 O34 S_w_TRANSIENT S_w_FAILED nek) hZ (W 97 rfl) (W 1 rfl) (by decide) (by decide)) q38a q38c (g := (mkF m 159 #[iv p1, iv p2, iv p3, iv 4, rv w_STANDARD_delays_elements_0, rv b3, rv b29, iv 0, rv w_DATA, .unset, .unset, .unset, .unset] [.int p3, .ref w_DATA, .ref b29])) rfl (by rw [hml]; rfl) (Steps.refl _) (argsL := [.ref w_DATA, .int p3]) (rest := []) (lenOf pd_19 rfl) rfl (by show 2 * 0 + _ ≤ _; exact Nat.le_of_eq rfl) (hb hby at_159) (fun _ _ => ⟨rfl, e37, (by decide : 6 + 0 ≤ _), (by decide : 27 + 0 ≤ _)⟩)
              dsimp only [Pt.U, Pt.locs, Pt.cells, Pt.slots] at X38 l38 y38 z38 st38 hQ38
              subst l38 y38 z38
              obtain ⟨h38, e38⟩ : ∃ z, T38.heap = z := ⟨_, rfl⟩
              rw [e38] at hQ38
              obtain ⟨rfl, N38q, p38_0⟩ := hQ38
              have N38 := Fr.app N33 N38q
              rw [p38_0] at e38
              obtain ⟨T39, X39, e39, st39⟩ := getS2 X38 hx hZ hown (host := "") (Or.inl (W 115 rfl)) Via.refl e38 (S_w_FAILED.ext O34.2) (g := (mkF m 176 #[iv p1, iv p2, iv p3, iv 4, rv w_STANDARD_delays_elements_0, rv b3, rv b29, iv 0, rv w_DATA, rv w_FAILED, .val (.long ((4 : Int64) - (p3.toInt64))), .second, .unset] [])) rfl (hb hby at_176)
              obtain ⟨fs, hr, hrun, hended, hW, hsame⟩ := X39.leave (v := some (.int (1 : Int32))) (fun h => by rw [Bd.returns] at h; cases h)
              refine ⟨_, _, pre36 _ ?_, hrun, hended, _, _, rfl, ?_, ⟨_, rfl⟩, hW, hsame.mono (by decide) (by decide)⟩
              · show Sq p e below m T33 128 #[iv p1, iv p2, iv p3, iv 4, rv w_STANDARD_delays_elements_0, rv b3, rv b29, .unset, .unset, .unset, .unset, .unset, .unset] [.int (p2 &&& (1 : Int32))] _
                refine XS.ifYes X33.here hx rfl (pc0 := 128) (pc' := 135) rfl (hb hby at_128) rfl ((if0 _ _).trans (teq hc128).1) (by decide) (by decide) ?_
                refine XS.iconst X33.here hx rfl (hb hby at_135) ?_
                show Sq p e below m T33 136 #[iv p1, iv p2, iv p3, iv 4, rv w_STANDARD_delays_elements_0, rv b3, rv b29, .unset, .unset, .unset, .unset, .unset, .unset] [.int 0] _
                refine XS.istore X33.here hx rfl (hb hby at_136) rfl rfl ?_
                refine XS.iload X33.here hx rfl (hb hby at_138) rfl ?_
                show Sq p e below m T33 140 #[iv p1, iv p2, iv p3, iv 4, rv w_STANDARD_delays_elements_0, rv b3, rv b29, iv 0, .unset, .unset, .unset, .unset, .unset] [.int 0] _
                refine XS.ifYes X33.here hx rfl (pc0 := 140) (pc' := 149) rfl (hb hby at_140) rfl ((if0 _ _).trans (teq (rfl : (0 : Int32) = (0 : Int32))).1) (by decide) (by decide) ?_
                show Sq p e below m T33 149 #[iv p1, iv p2, iv p3, iv 4, rv w_STANDARD_delays_elements_0, rv b3, rv b29, iv 0, .unset, .unset, .unset, .unset, .unset] [] _
                refine st37 _ ?_
                show Sq p e below m T37 152 #[iv p1, iv p2, iv p3, iv 4, rv w_STANDARD_delays_elements_0, rv b3, rv b29, iv 0, .unset, .unset, .unset, .unset, .unset] [.ref w_DATA] _
                refine XS.astore X37.here hx rfl (hb hby at_152) rfl rfl rfl ?_
                refine XS.aload X37.here hx rfl (hb hby at_154) rfl rfl ?_
                show Sq p e below m T37 156 #[iv p1, iv p2, iv p3, iv 4, rv w_STANDARD_delays_elements_0, rv b3, rv b29, iv 0, rv w_DATA, .unset, .unset, .unset, .unset] [.ref b29] _
                refine XS.aload X37.here hx rfl (hb hby at_156) rfl rfl ?_
                refine XS.iloadN X37.here hx rfl (hb hby at_158) rfl ?_
                show Sq p e below m T37 159 #[iv p1, iv p2, iv p3, iv 4, rv w_STANDARD_delays_elements_0, rv b3, rv b29, iv 0, rv w_DATA, .unset, .unset, .unset, .unset] [.int p3, .ref w_DATA, .ref b29] _
                refine st38.trans ?_
                show Sq p e below m T38 162 #[iv p1, iv p2, iv p3, iv 4, rv w_STANDARD_delays_elements_0, rv b3, rv b29, iv 0, rv w_DATA, .unset, .unset, .unset, .unset] [.ref w_FAILED] _
                refine XS.astore X38.here hx rfl (hb hby at_162) rfl rfl rfl ?_
                refine XS.iloadN X38.here hx rfl (hb hby at_164) rfl ?_
                show Sq p e below m T38 165 #[iv p1, iv p2, iv p3, iv 4, rv w_STANDARD_delays_elements_0, rv b3, rv b29, iv 0, rv w_DATA, rv w_FAILED, .unset, .unset, .unset] [.int 4] _
                refine XS.i2l X38.here hx rfl (hb hby at_165) rfl ?_
                show Sq p e below m T38 166 #[iv p1, iv p2, iv p3, iv 4, rv w_STANDARD_delays_elements_0, rv b3, rv b29, iv 0, rv w_DATA, rv w_FAILED, .unset, .unset, .unset] [.long ((4 : Int32).toInt64)] _
                rw [show ((4 : Int32).toInt64) = (4 : Int64) from by decide]
                show Sq p e below m T38 166 #[iv p1, iv p2, iv p3, iv 4, rv w_STANDARD_delays_elements_0, rv b3, rv b29, iv 0, rv w_DATA, rv w_FAILED, .unset, .unset, .unset] [.long 4] _
                refine XS.iloadN X38.here hx rfl (hb hby at_166) rfl ?_
                refine XS.i2l X38.here hx rfl (hb hby at_167) rfl ?_
                show Sq p e below m T38 168 #[iv p1, iv p2, iv p3, iv 4, rv w_STANDARD_delays_elements_0, rv b3, rv b29, iv 0, rv w_DATA, rv w_FAILED, .unset, .unset, .unset] [.long (p3.toInt64), .long 4] _
                refine XS.lsub X38.here hx rfl (hb hby at_168) rfl ?_
                refine XS.lstore X38.here hx rfl (hb hby at_169) rfl rfl ?_
                show Sq p e below m T38 171 #[iv p1, iv p2, iv p3, iv 4, rv w_STANDARD_delays_elements_0, rv b3, rv b29, iv 0, rv w_DATA, rv w_FAILED, .val (.long ((4 : Int64) - (p3.toInt64))), .second, .unset] [] _
                refine XS.iload X38.here hx rfl (hb hby at_171) rfl ?_
                refine XS.ifNo X38.here hx rfl (hb hby at_173) rfl ((if0 _ _).trans (teq (rfl : (0 : Int32) = (0 : Int32))).2) ?_
                show Sq p e below m T38 176 #[iv p1, iv p2, iv p3, iv 4, rv w_STANDARD_delays_elements_0, rv b3, rv b29, iv 0, rv w_DATA, rv w_FAILED, .val (.long ((4 : Int64) - (p3.toInt64))), .second, .unset] [] _
                refine st39 _ ?_
                show Sq p e below m T39 179 #[iv p1, iv p2, iv p3, iv 4, rv w_STANDARD_delays_elements_0, rv b3, rv b29, iv 0, rv w_DATA, rv w_FAILED, .val (.long ((4 : Int64) - (p3.toInt64))), .second, .unset] [.ref w_FAILED] _
                refine XS.astore X39.here hx rfl (hb hby at_179) rfl rfl rfl ?_
                refine XS.goto X39.here hx rfl (pc0 := 181) (pc' := 204) rfl (hb hby at_181) (by decide) (by decide) ?_
                show Sq p e below m T39 204 #[iv p1, iv p2, iv p3, iv 4, rv w_STANDARD_delays_elements_0, rv b3, rv b29, iv 0, rv w_DATA, rv w_FAILED, .val (.long ((4 : Int64) - (p3.toInt64))), .second, rv w_FAILED] [] _
                refine XS.aload X39.here hx rfl (hb hby at_204) rfl rfl ?_
                refine XS.aload X39.here hx rfl (hb hby at_206) rfl rfl ?_
                show Sq p e below m T39 208 #[iv p1, iv p2, iv p3, iv 4, rv w_STANDARD_delays_elements_0, rv b3, rv b29, iv 0, rv w_DATA, rv w_FAILED, .val (.long ((4 : Int64) - (p3.toInt64))), .second, rv w_FAILED] [.ref w_FAILED, .ref w_FAILED] _
                refine Jvm.RoadKit.acmp (g := (mkF m 208 #[iv p1, iv p2, iv p3, iv 4, rv w_STANDARD_delays_elements_0, rv b3, rv b29, iv 0, rv w_DATA, rv w_FAILED, .val (.long ((4 : Int64) - (p3.toInt64))), .second, rv w_FAILED] [.ref w_FAILED, .ref w_FAILED])) X39 hx rfl rfl rfl (pc0 := 208) (pc' := 211) (same := true) rfl (hb hby at_208) rfl (decide_eq_true rfl) (by decide) (by decide) ?_
                show Sq p e below m T39 211 #[iv p1, iv p2, iv p3, iv 4, rv w_STANDARD_delays_elements_0, rv b3, rv b29, iv 0, rv w_DATA, rv w_FAILED, .val (.long ((4 : Int64) - (p3.toInt64))), .second, rv w_FAILED] [] _
                refine XS.iconst X39.here hx rfl (hb hby at_211) ?_
                refine XS.goto X39.here hx rfl (pc0 := 212) (pc' := 216) rfl (hb hby at_212) (by decide) (by decide) ?_
                show Sq p e below m T39 216 #[iv p1, iv p2, iv p3, iv 4, rv w_STANDARD_delays_elements_0, rv b3, rv b29, iv 0, rv w_DATA, rv w_FAILED, .val (.long ((4 : Int64) - (p3.toInt64))), .second, rv w_FAILED] [.int 1] _
                exact retN X39 hx (t := .boolean) Bd.returns (by simp) (hb hby at_216) hr
              · show Q_rm0 Z p1 p2 p3 (4 : Int32) w_STANDARD w_STANDARD_delays w_STANDARD_delays_elements w_STANDARD_delays_elements_0 w_TRANSIENT w_FAILED w_DATA w_PENDING w_STANDARD_delays_elements_1 w_STANDARD_delays_elements_2 w_STANDARD_delays_elements_3 w_STANDARD_delays_elements_4 w_DEF w_ELIST w_EMPTY w_ELIST_elements kdef kel k5 w_MIR h0 n0 _ T39.heap _
                rw [e39]
                exact ⟨rfl, N38⟩
            · obtain ⟨T37, X37, e37, st37⟩ := getS2 X33 hx hZ hown (host := "") (Or.inl (W 90 rfl)) Via.refl e33 (S_w_TRANSIENT.ext O34.2) (g := (mkF m 143 #[iv p1, iv p2, iv p3, iv 4, rv w_STANDARD_delays_elements_0, rv b3, rv b29, iv 1, .unset, .unset, .unset, .unset, .unset] [])) rfl (hb hby at_143)
              have pre38 : ∀ t, Steps p.tables e below (T37.setTop (mkF m 154 #[iv p1, iv p2, iv p3, iv 4, rv w_STANDARD_delays_elements_0, rv b3, rv b29, iv 1, rv w_TRANSIENT, .unset, .unset, .unset, .unset] [])) t → Steps p.tables e below (s₁.setTop (entryFrame m #[(.int p1), (.int p2), (.int p3)] maxLocals)) t := by
                intro t kt
                refine pre36 _ ?_
                show Sq p e below m T33 128 #[iv p1, iv p2, iv p3, iv 4, rv w_STANDARD_delays_elements_0, rv b3, rv b29, .unset, .unset, .unset, .unset, .unset, .unset] [.int (p2 &&& (1 : Int32))] _
                refine XS.ifNo X33.here hx rfl (hb hby at_128) rfl ((if0 _ _).trans (feq hc128).1) ?_
                refine XS.iconst X33.here hx rfl (hb hby at_131) ?_
                show Sq p e below m T33 132 #[iv p1, iv p2, iv p3, iv 4, rv w_STANDARD_delays_elements_0, rv b3, rv b29, .unset, .unset, .unset, .unset, .unset, .unset] [.int 1] _
                refine XS.goto X33.here hx rfl (pc0 := 132) (pc' := 136) rfl (hb hby at_132) (by decide) (by decide) ?_
                refine XS.istore X33.here hx rfl (hb hby at_136) rfl rfl ?_
                show Sq p e below m T33 138 #[iv p1, iv p2, iv p3, iv 4, rv w_STANDARD_delays_elements_0, rv b3, rv b29, iv 1, .unset, .unset, .unset, .unset, .unset] [] _
                refine XS.iload X33.here hx rfl (hb hby at_138) rfl ?_
                refine XS.ifNo X33.here hx rfl (hb hby at_140) rfl ((if0 _ _).trans (feq (by decide)).1) ?_
                show Sq p e below m T33 143 #[iv p1, iv p2, iv p3, iv 4, rv w_STANDARD_delays_elements_0, rv b3, rv b29, iv 1, .unset, .unset, .unset, .unset, .unset] [] _
                refine st37 _ ?_
                show Sq p e below m T37 146 #[iv p1, iv p2, iv p3, iv 4, rv w_STANDARD_delays_elements_0, rv b3, rv b29, iv 1, .unset, .unset, .unset, .unset, .unset] [.ref w_TRANSIENT] _
                refine XS.goto X37.here hx rfl (pc0 := 146) (pc' := 152) rfl (hb hby at_146) (by decide) (by decide) ?_
                refine XS.astore X37.here hx rfl (hb hby at_152) rfl rfl rfl ?_
                exact kt
              rcases Decidable.em (p3 < (4 : Int32)) with hrk | hrk
              · obtain ⟨cq39, kq39, q39a, q39b, q39c⟩ := isOf hZ e37 A29
                obtain ⟨_, _, ⟨T39, L39, k39, n39⟩, -, X39, ⟨Lc39, hQ39, l39, y39, z39⟩, st39⟩ := X37.virtualBack hx (y := y_35) (z := y_35) hown (mvT hZ (W 93 rfl)) (mvT hZ (W 94 rfl)) (notFace_of_selects (args := #[]) (mvT hZ (W 96 rfl))) (mvT hZ (W 96 rfl)) (mvT hZ (W 95 rfl)) (by decide) (backOf (W := 0) (sqN1 l Z a0 hw [] b29 p3 w_TRANSIENT w_PENDING b33r b33g b33kg (4 : Int32) [(.ref w_STANDARD_delays_elements_0), (.ref w_STANDARD_delays_elements_0), (.ref w_STANDARD_delays_elements_0), (.ref w_STANDARD_delays_elements_0)] h33 n0 O34 A29 p33_3 p33_4 p33_5 p33_6 S_w_TRANSIENT S_w_PENDING hrk) hZ (W 97 rfl) (W 1 rfl) (by decide) (by decide)) q39a q39c (g := (mkF m 159 #[iv p1, iv p2, iv p3, iv 4, rv w_STANDARD_delays_elements_0, rv b3, rv b29, iv 1, rv w_TRANSIENT, .unset, .unset, .unset, .unset] [.int p3, .ref w_TRANSIENT, .ref b29])) rfl (by rw [hml]; rfl) (Steps.refl _) (argsL := [.ref w_TRANSIENT, .int p3]) (rest := []) (lenOf pd_19 rfl) rfl (by show 2 * 0 + _ ≤ _; exact Nat.le_of_eq rfl) (hb hby at_159) (fun _ _ => ⟨rfl, e37, (by decide : 6 + 0 ≤ _), (by decide : 27 + 0 ≤ _)⟩)
                dsimp only [Pt.U, Pt.locs, Pt.cells, Pt.slots] at X39 l39 y39 z39 st39 hQ39
                subst l39 y39 z39
                obtain ⟨h39, e39⟩ : ∃ z, T39.heap = z := ⟨_, rfl⟩
                rw [e39] at hQ39
                obtain ⟨rfl, N39q, p39_0⟩ := hQ39
                have N39 := Fr.app N33 N39q
                rw [p39_0] at e39
                obtain ⟨T40, X40, e40, st40⟩ := getS2 X39 hx hZ hown (host := "") (Or.inl (W 237 rfl)) Via.refl e39 (S_w_PENDING.ext O34.2) (g := (mkF m 191 #[iv p1, iv p2, iv p3, iv 4, rv w_STANDARD_delays_elements_0, rv b3, rv b29, iv 1, rv w_TRANSIENT, rv w_PENDING, .val (.long ((4 : Int64) - (p3.toInt64))), .second, .unset] [])) rfl (hb hby at_191)
                obtain ⟨fs, hr, hrun, hended, hW, hsame⟩ := X40.leave (v := some (.int (1 : Int32))) (fun h => by rw [Bd.returns] at h; cases h)
                refine ⟨_, _, pre38 _ ?_, hrun, hended, _, _, rfl, ?_, ⟨_, rfl⟩, hW, hsame.mono (by decide) (by decide)⟩
                · show Sq p e below m T37 154 #[iv p1, iv p2, iv p3, iv 4, rv w_STANDARD_delays_elements_0, rv b3, rv b29, iv 1, rv w_TRANSIENT, .unset, .unset, .unset, .unset] [] _
                  refine XS.aload X37.here hx rfl (hb hby at_154) rfl rfl ?_
                  refine XS.aload X37.here hx rfl (hb hby at_156) rfl rfl ?_
                  show Sq p e below m T37 158 #[iv p1, iv p2, iv p3, iv 4, rv w_STANDARD_delays_elements_0, rv b3, rv b29, iv 1, rv w_TRANSIENT, .unset, .unset, .unset, .unset] [.ref w_TRANSIENT, .ref b29] _
                  refine XS.iloadN X37.here hx rfl (hb hby at_158) rfl ?_
                  show Sq p e below m T37 159 #[iv p1, iv p2, iv p3, iv 4, rv w_STANDARD_delays_elements_0, rv b3, rv b29, iv 1, rv w_TRANSIENT, .unset, .unset, .unset, .unset] [.int p3, .ref w_TRANSIENT, .ref b29] _
                  refine st39.trans ?_
                  show Sq p e below m T39 162 #[iv p1, iv p2, iv p3, iv 4, rv w_STANDARD_delays_elements_0, rv b3, rv b29, iv 1, rv w_TRANSIENT, .unset, .unset, .unset, .unset] [.ref w_PENDING] _
                  refine XS.astore X39.here hx rfl (hb hby at_162) rfl rfl rfl ?_
                  refine XS.iloadN X39.here hx rfl (hb hby at_164) rfl ?_
                  show Sq p e below m T39 165 #[iv p1, iv p2, iv p3, iv 4, rv w_STANDARD_delays_elements_0, rv b3, rv b29, iv 1, rv w_TRANSIENT, rv w_PENDING, .unset, .unset, .unset] [.int 4] _
                  refine XS.i2l X39.here hx rfl (hb hby at_165) rfl ?_
                  show Sq p e below m T39 166 #[iv p1, iv p2, iv p3, iv 4, rv w_STANDARD_delays_elements_0, rv b3, rv b29, iv 1, rv w_TRANSIENT, rv w_PENDING, .unset, .unset, .unset] [.long ((4 : Int32).toInt64)] _
                  rw [show ((4 : Int32).toInt64) = (4 : Int64) from by decide]
                  show Sq p e below m T39 166 #[iv p1, iv p2, iv p3, iv 4, rv w_STANDARD_delays_elements_0, rv b3, rv b29, iv 1, rv w_TRANSIENT, rv w_PENDING, .unset, .unset, .unset] [.long 4] _
                  refine XS.iloadN X39.here hx rfl (hb hby at_166) rfl ?_
                  refine XS.i2l X39.here hx rfl (hb hby at_167) rfl ?_
                  show Sq p e below m T39 168 #[iv p1, iv p2, iv p3, iv 4, rv w_STANDARD_delays_elements_0, rv b3, rv b29, iv 1, rv w_TRANSIENT, rv w_PENDING, .unset, .unset, .unset] [.long (p3.toInt64), .long 4] _
                  refine XS.lsub X39.here hx rfl (hb hby at_168) rfl ?_
                  refine XS.lstore X39.here hx rfl (hb hby at_169) rfl rfl ?_
                  show Sq p e below m T39 171 #[iv p1, iv p2, iv p3, iv 4, rv w_STANDARD_delays_elements_0, rv b3, rv b29, iv 1, rv w_TRANSIENT, rv w_PENDING, .val (.long ((4 : Int64) - (p3.toInt64))), .second, .unset] [] _
                  refine XS.iload X39.here hx rfl (hb hby at_171) rfl ?_
                  refine XS.ifYes X39.here hx rfl (pc0 := 173) (pc' := 184) rfl (hb hby at_173) rfl ((if0 _ _).trans (feq (by decide)).2) (by decide) (by decide) ?_
                  show Sq p e below m T39 184 #[iv p1, iv p2, iv p3, iv 4, rv w_STANDARD_delays_elements_0, rv b3, rv b29, iv 1, rv w_TRANSIENT, rv w_PENDING, .val (.long ((4 : Int64) - (p3.toInt64))), .second, .unset] [] _
                  refine XS.lload X39.here hx rfl (hb hby at_184) rfl ?_
                  refine XS.lconst X39.here hx rfl (hb hby at_186) ?_
                  show Sq p e below m T39 187 #[iv p1, iv p2, iv p3, iv 4, rv w_STANDARD_delays_elements_0, rv b3, rv b29, iv 1, rv w_TRANSIENT, rv w_PENDING, .val (.long ((4 : Int64) - (p3.toInt64))), .second, .unset] [.long 1, .long ((4 : Int64) - (p3.toInt64))] _
                  refine XS.lcmp X39.here hx rfl (hb hby at_187) rfl ?_
                  refine XS.ifNo X39.here hx rfl (hb hby at_188) rfl ((if0 _ _).trans (flt (own_lf (k := (4 : Int32)) (by decide) hrk)).1) ?_
                  show Sq p e below m T39 191 #[iv p1, iv p2, iv p3, iv 4, rv w_STANDARD_delays_elements_0, rv b3, rv b29, iv 1, rv w_TRANSIENT, rv w_PENDING, .val (.long ((4 : Int64) - (p3.toInt64))), .second, .unset] [] _
                  refine st40 _ ?_
                  show Sq p e below m T40 194 #[iv p1, iv p2, iv p3, iv 4, rv w_STANDARD_delays_elements_0, rv b3, rv b29, iv 1, rv w_TRANSIENT, rv w_PENDING, .val (.long ((4 : Int64) - (p3.toInt64))), .second, .unset] [.ref w_PENDING] _
                  refine XS.astore X40.here hx rfl (hb hby at_194) rfl rfl rfl ?_
                  refine XS.goto X40.here hx rfl (pc0 := 196) (pc' := 204) rfl (hb hby at_196) (by decide) (by decide) ?_
                  show Sq p e below m T40 204 #[iv p1, iv p2, iv p3, iv 4, rv w_STANDARD_delays_elements_0, rv b3, rv b29, iv 1, rv w_TRANSIENT, rv w_PENDING, .val (.long ((4 : Int64) - (p3.toInt64))), .second, rv w_PENDING] [] _
                  refine XS.aload X40.here hx rfl (hb hby at_204) rfl rfl ?_
                  refine XS.aload X40.here hx rfl (hb hby at_206) rfl rfl ?_
                  show Sq p e below m T40 208 #[iv p1, iv p2, iv p3, iv 4, rv w_STANDARD_delays_elements_0, rv b3, rv b29, iv 1, rv w_TRANSIENT, rv w_PENDING, .val (.long ((4 : Int64) - (p3.toInt64))), .second, rv w_PENDING] [.ref w_PENDING, .ref w_PENDING] _
                  refine Jvm.RoadKit.acmp (g := (mkF m 208 #[iv p1, iv p2, iv p3, iv 4, rv w_STANDARD_delays_elements_0, rv b3, rv b29, iv 1, rv w_TRANSIENT, rv w_PENDING, .val (.long ((4 : Int64) - (p3.toInt64))), .second, rv w_PENDING] [.ref w_PENDING, .ref w_PENDING])) X40 hx rfl rfl rfl (pc0 := 208) (pc' := 211) (same := true) rfl (hb hby at_208) rfl (decide_eq_true rfl) (by decide) (by decide) ?_
                  show Sq p e below m T40 211 #[iv p1, iv p2, iv p3, iv 4, rv w_STANDARD_delays_elements_0, rv b3, rv b29, iv 1, rv w_TRANSIENT, rv w_PENDING, .val (.long ((4 : Int64) - (p3.toInt64))), .second, rv w_PENDING] [] _
                  refine XS.iconst X40.here hx rfl (hb hby at_211) ?_
                  refine XS.goto X40.here hx rfl (pc0 := 212) (pc' := 216) rfl (hb hby at_212) (by decide) (by decide) ?_
                  show Sq p e below m T40 216 #[iv p1, iv p2, iv p3, iv 4, rv w_STANDARD_delays_elements_0, rv b3, rv b29, iv 1, rv w_TRANSIENT, rv w_PENDING, .val (.long ((4 : Int64) - (p3.toInt64))), .second, rv w_PENDING] [.int 1] _
                  exact retN X40 hx (t := .boolean) Bd.returns (by simp) (hb hby at_216) hr
                · show Q_rm0 Z p1 p2 p3 (4 : Int32) w_STANDARD w_STANDARD_delays w_STANDARD_delays_elements w_STANDARD_delays_elements_0 w_TRANSIENT w_FAILED w_DATA w_PENDING w_STANDARD_delays_elements_1 w_STANDARD_delays_elements_2 w_STANDARD_delays_elements_3 w_STANDARD_delays_elements_4 w_DEF w_ELIST w_EMPTY w_ELIST_elements kdef kel k5 w_MIR h0 n0 _ T40.heap _
                  rw [e40]
                  exact ⟨rfl, N39⟩
              · obtain ⟨cq39, kq39, q39a, q39b, q39c⟩ := isOf hZ e37 A29
                obtain ⟨_, _, ⟨T39, L39, k39, n39⟩, -, X39, ⟨Lc39, hQ39, l39, y39, z39⟩, st39⟩ := X37.virtualBack hx (y := y_35) (z := y_35) hown (mvT hZ (W 93 rfl)) (mvT hZ (W 94 rfl)) (notFace_of_selects (args := #[]) (mvT hZ (W 96 rfl))) (mvT hZ (W 96 rfl)) (mvT hZ (W 95 rfl)) (by decide) (backOf (W := 0) (sqN0 l Z a0 hw [] b29 p3 w_TRANSIENT w_FAILED b33r b33g b33kg (4 : Int32) [(.ref w_STANDARD_delays_elements_0), (.ref w_STANDARD_delays_elements_0), (.ref w_STANDARD_delays_elements_0), (.ref w_STANDARD_delays_elements_0)] h33 n0 O34 A29 p33_3 p33_4 p33_5 p33_6 S_w_TRANSIENT S_w_FAILED hrk) hZ (W 97 rfl) (W 1 rfl) (by decide) (by decide)) q39a q39c (g := (mkF m 159 #[iv p1, iv p2, iv p3, iv 4, rv w_STANDARD_delays_elements_0, rv b3, rv b29, iv 1, rv w_TRANSIENT, .unset, .unset, .unset, .unset] [.int p3, .ref w_TRANSIENT, .ref b29])) rfl (by rw [hml]; rfl) (Steps.refl _) (argsL := [.ref w_TRANSIENT, .int p3]) (rest := []) (lenOf pd_19 rfl) rfl (by show 2 * 0 + _ ≤ _; exact Nat.le_of_eq rfl) (hb hby at_159) (fun _ _ => ⟨rfl, e37, (by decide : 6 + 0 ≤ _), (by decide : 27 + 0 ≤ _)⟩)
                dsimp only [Pt.U, Pt.locs, Pt.cells, Pt.slots] at X39 l39 y39 z39 st39 hQ39
                subst l39 y39 z39
                obtain ⟨h39, e39⟩ : ∃ z, T39.heap = z := ⟨_, rfl⟩
                rw [e39] at hQ39
                obtain ⟨rfl, N39q, p39_0⟩ := hQ39
                have N39 := Fr.app N33 N39q
                rw [p39_0] at e39
                obtain ⟨T40, X40, e40, st40⟩ := getS2 X39 hx hZ hown (host := "") (Or.inl (W 115 rfl)) Via.refl e39 (S_w_FAILED.ext O34.2) (g := (mkF m 199 #[iv p1, iv p2, iv p3, iv 4, rv w_STANDARD_delays_elements_0, rv b3, rv b29, iv 1, rv w_TRANSIENT, rv w_FAILED, .val (.long ((4 : Int64) - (p3.toInt64))), .second, .unset] [])) rfl (hb hby at_199)
                obtain ⟨fs, hr, hrun, hended, hW, hsame⟩ := X40.leave (v := some (.int (1 : Int32))) (fun h => by rw [Bd.returns] at h; cases h)
                refine ⟨_, _, pre38 _ ?_, hrun, hended, _, _, rfl, ?_, ⟨_, rfl⟩, hW, hsame.mono (by decide) (by decide)⟩
                · show Sq p e below m T37 154 #[iv p1, iv p2, iv p3, iv 4, rv w_STANDARD_delays_elements_0, rv b3, rv b29, iv 1, rv w_TRANSIENT, .unset, .unset, .unset, .unset] [] _
                  refine XS.aload X37.here hx rfl (hb hby at_154) rfl rfl ?_
                  refine XS.aload X37.here hx rfl (hb hby at_156) rfl rfl ?_
                  show Sq p e below m T37 158 #[iv p1, iv p2, iv p3, iv 4, rv w_STANDARD_delays_elements_0, rv b3, rv b29, iv 1, rv w_TRANSIENT, .unset, .unset, .unset, .unset] [.ref w_TRANSIENT, .ref b29] _
                  refine XS.iloadN X37.here hx rfl (hb hby at_158) rfl ?_
                  show Sq p e below m T37 159 #[iv p1, iv p2, iv p3, iv 4, rv w_STANDARD_delays_elements_0, rv b3, rv b29, iv 1, rv w_TRANSIENT, .unset, .unset, .unset, .unset] [.int p3, .ref w_TRANSIENT, .ref b29] _
                  refine st39.trans ?_
                  show Sq p e below m T39 162 #[iv p1, iv p2, iv p3, iv 4, rv w_STANDARD_delays_elements_0, rv b3, rv b29, iv 1, rv w_TRANSIENT, .unset, .unset, .unset, .unset] [.ref w_FAILED] _
                  refine XS.astore X39.here hx rfl (hb hby at_162) rfl rfl rfl ?_
                  refine XS.iloadN X39.here hx rfl (hb hby at_164) rfl ?_
                  show Sq p e below m T39 165 #[iv p1, iv p2, iv p3, iv 4, rv w_STANDARD_delays_elements_0, rv b3, rv b29, iv 1, rv w_TRANSIENT, rv w_FAILED, .unset, .unset, .unset] [.int 4] _
                  refine XS.i2l X39.here hx rfl (hb hby at_165) rfl ?_
                  show Sq p e below m T39 166 #[iv p1, iv p2, iv p3, iv 4, rv w_STANDARD_delays_elements_0, rv b3, rv b29, iv 1, rv w_TRANSIENT, rv w_FAILED, .unset, .unset, .unset] [.long ((4 : Int32).toInt64)] _
                  rw [show ((4 : Int32).toInt64) = (4 : Int64) from by decide]
                  show Sq p e below m T39 166 #[iv p1, iv p2, iv p3, iv 4, rv w_STANDARD_delays_elements_0, rv b3, rv b29, iv 1, rv w_TRANSIENT, rv w_FAILED, .unset, .unset, .unset] [.long 4] _
                  refine XS.iloadN X39.here hx rfl (hb hby at_166) rfl ?_
                  refine XS.i2l X39.here hx rfl (hb hby at_167) rfl ?_
                  show Sq p e below m T39 168 #[iv p1, iv p2, iv p3, iv 4, rv w_STANDARD_delays_elements_0, rv b3, rv b29, iv 1, rv w_TRANSIENT, rv w_FAILED, .unset, .unset, .unset] [.long (p3.toInt64), .long 4] _
                  refine XS.lsub X39.here hx rfl (hb hby at_168) rfl ?_
                  refine XS.lstore X39.here hx rfl (hb hby at_169) rfl rfl ?_
                  show Sq p e below m T39 171 #[iv p1, iv p2, iv p3, iv 4, rv w_STANDARD_delays_elements_0, rv b3, rv b29, iv 1, rv w_TRANSIENT, rv w_FAILED, .val (.long ((4 : Int64) - (p3.toInt64))), .second, .unset] [] _
                  refine XS.iload X39.here hx rfl (hb hby at_171) rfl ?_
                  refine XS.ifYes X39.here hx rfl (pc0 := 173) (pc' := 184) rfl (hb hby at_173) rfl ((if0 _ _).trans (feq (by decide)).2) (by decide) (by decide) ?_
                  show Sq p e below m T39 184 #[iv p1, iv p2, iv p3, iv 4, rv w_STANDARD_delays_elements_0, rv b3, rv b29, iv 1, rv w_TRANSIENT, rv w_FAILED, .val (.long ((4 : Int64) - (p3.toInt64))), .second, .unset] [] _
                  refine XS.lload X39.here hx rfl (hb hby at_184) rfl ?_
                  refine XS.lconst X39.here hx rfl (hb hby at_186) ?_
                  show Sq p e below m T39 187 #[iv p1, iv p2, iv p3, iv 4, rv w_STANDARD_delays_elements_0, rv b3, rv b29, iv 1, rv w_TRANSIENT, rv w_FAILED, .val (.long ((4 : Int64) - (p3.toInt64))), .second, .unset] [.long 1, .long ((4 : Int64) - (p3.toInt64))] _
                  refine XS.lcmp X39.here hx rfl (hb hby at_187) rfl ?_
                  refine XS.ifYes X39.here hx rfl (pc0 := 188) (pc' := 199) rfl (hb hby at_188) rfl ((if0 _ _).trans (tlt (own_lt (k := (4 : Int32)) (by decide) hrk)).1) (by decide) (by decide) ?_
                  show Sq p e below m T39 199 #[iv p1, iv p2, iv p3, iv 4, rv w_STANDARD_delays_elements_0, rv b3, rv b29, iv 1, rv w_TRANSIENT, rv w_FAILED, .val (.long ((4 : Int64) - (p3.toInt64))), .second, .unset] [] _
                  refine st40 _ ?_
                  show Sq p e below m T40 202 #[iv p1, iv p2, iv p3, iv 4, rv w_STANDARD_delays_elements_0, rv b3, rv b29, iv 1, rv w_TRANSIENT, rv w_FAILED, .val (.long ((4 : Int64) - (p3.toInt64))), .second, .unset] [.ref w_FAILED] _
                  refine XS.astore X40.here hx rfl (hb hby at_202) rfl rfl rfl ?_
                  refine XS.aload X40.here hx rfl (hb hby at_204) rfl rfl ?_
                  show Sq p e below m T40 206 #[iv p1, iv p2, iv p3, iv 4, rv w_STANDARD_delays_elements_0, rv b3, rv b29, iv 1, rv w_TRANSIENT, rv w_FAILED, .val (.long ((4 : Int64) - (p3.toInt64))), .second, rv w_FAILED] [.ref w_FAILED] _
                  refine XS.aload X40.here hx rfl (hb hby at_206) rfl rfl ?_
                  show Sq p e below m T40 208 #[iv p1, iv p2, iv p3, iv 4, rv w_STANDARD_delays_elements_0, rv b3, rv b29, iv 1, rv w_TRANSIENT, rv w_FAILED, .val (.long ((4 : Int64) - (p3.toInt64))), .second, rv w_FAILED] [.ref w_FAILED, .ref w_FAILED] _
                  refine Jvm.RoadKit.acmp (g := (mkF m 208 #[iv p1, iv p2, iv p3, iv 4, rv w_STANDARD_delays_elements_0, rv b3, rv b29, iv 1, rv w_TRANSIENT, rv w_FAILED, .val (.long ((4 : Int64) - (p3.toInt64))), .second, rv w_FAILED] [.ref w_FAILED, .ref w_FAILED])) X40 hx rfl rfl rfl (pc0 := 208) (pc' := 211) (same := true) rfl (hb hby at_208) rfl (decide_eq_true rfl) (by decide) (by decide) ?_
                  show Sq p e below m T40 211 #[iv p1, iv p2, iv p3, iv 4, rv w_STANDARD_delays_elements_0, rv b3, rv b29, iv 1, rv w_TRANSIENT, rv w_FAILED, .val (.long ((4 : Int64) - (p3.toInt64))), .second, rv w_FAILED] [] _
                  refine XS.iconst X40.here hx rfl (hb hby at_211) ?_
                  refine XS.goto X40.here hx rfl (pc0 := 212) (pc' := 216) rfl (hb hby at_212) (by decide) (by decide) ?_
                  show Sq p e below m T40 216 #[iv p1, iv p2, iv p3, iv 4, rv w_STANDARD_delays_elements_0, rv b3, rv b29, iv 1, rv w_TRANSIENT, rv w_FAILED, .val (.long ((4 : Int64) - (p3.toInt64))), .second, rv w_FAILED] [.int 1] _
                  exact retN X40 hx (t := .boolean) Bd.returns (by simp) (hb hby at_216) hr
                · show Q_rm0 Z p1 p2 p3 (4 : Int32) w_STANDARD w_STANDARD_delays w_STANDARD_delays_elements w_STANDARD_delays_elements_0 w_TRANSIENT w_FAILED w_DATA w_PENDING w_STANDARD_delays_elements_1 w_STANDARD_delays_elements_2 w_STANDARD_delays_elements_3 w_STANDARD_delays_elements_4 w_DEF w_ELIST w_EMPTY w_ELIST_elements kdef kel k5 w_MIR h0 n0 _ T40.heap _
                  rw [e40]
                  exact ⟨rfl, N39⟩
          · obtain ⟨cq29, kq29, q29a, q29b, q29c⟩ := isOf hZ e25 A3
            obtain ⟨_, _, ⟨T29, L29, k29, n29⟩, -, X29, ⟨Lc29, hQ29, l29, y29, z29⟩, st29⟩ := X25.virtualBack hx (y := y_18) (z := y_18) hown (mvT hZ (W 116 rfl)) (mvT hZ (W 117 rfl)) (notFace_of_selects (args := #[]) (mvT hZ (W 119 rfl))) (mvT hZ (W 119 rfl)) (mvT hZ (W 118 rfl)) (by decide) (backOf (W := 0) (addg l Z a0 hw [] b3 w_STANDARD_delays_elements_0 b13b b13kb (((((0 : Int32) + (1 : Int32)) + (1 : Int32)) + (1 : Int32)) + (1 : Int32)) (4 : Int32) (5 : Int32) [(.ref w_STANDARD_delays_elements_0), (.ref w_STANDARD_delays_elements_0), (.ref w_STANDARD_delays_elements_0), (.ref w_STANDARD_delays_elements_0), .null, .null, .null, .null, .null, .null] [(.ref w_STANDARD_delays_elements_0), (.ref w_STANDARD_delays_elements_0), (.ref w_STANDARD_delays_elements_0), (.ref w_STANDARD_delays_elements_0), (.ref w_STANDARD_delays_elements_0), .null, .null, .null, .null, .null] h25 n0 O26 A3 E_w_STANDARD_delays_elements_0 p25_1 p25_2 p25_3 g_b3 g_b13b ne_b3_b13b p25_4 p13_6 (by decide) (by decide) (by decide) rfl (Nat.le_of_ble_eq_true rfl)) hZ (W 120 rfl) (W 26 rfl) (by decide) (by decide)) q29a q29c (g := (mkF m 83 #[iv p1, iv p2, iv p3, iv n, rv w_STANDARD_delays_elements_0, rv b3, .unset, .unset, .unset, .unset, .unset, .unset, .unset] [.ref w_STANDARD_delays_elements_0, .ref b3])) rfl (by rw [hml]; rfl) (Steps.refl _) (argsL := [.ref w_STANDARD_delays_elements_0]) (rest := []) (lenOf pd_20 rfl) rfl (by show 2 * 0 + _ ≤ _; exact Nat.le_of_eq rfl) (hb hby at_83) (fun _ _ => ⟨rfl, e25, (by decide : 2 + 0 ≤ _), (by decide : 13 + 0 ≤ _)⟩)
            dsimp only [Pt.U, Pt.locs, Pt.cells, Pt.slots] at X29 l29 y29 z29 st29 hQ29
            subst l29 y29 z29
            obtain ⟨h29, e29⟩ : ∃ z, T29.heap = z := ⟨_, rfl⟩
            rw [e29] at hQ29
            obtain ⟨rfl, N29q, p29_0, p29_1, p29_2, p29_3, p29_4⟩ := hQ29
            have N29 := Fr.app N25 N29q
            have A3 := A3.keep p29_0
            have p13_7 := p13_7.keep p29_0
            have O30 := O26.keep p29_0 (allS g_b3 (allS g_b13b all0))
            have pre32 : ∀ t, Steps p.tables e below (T29.setTop (mkF m 87 #[iv p1, iv p2, iv p3, iv n, rv w_STANDARD_delays_elements_0, rv b3, .unset, .unset, .unset, .unset, .unset, .unset, .unset] [])) t → Steps p.tables e below (s₁.setTop (entryFrame m #[(.int p1), (.int p2), (.int p3)] maxLocals)) t := by
              intro t kt
              refine pre28 _ ?_
              show Sq p e below m T25 74 #[iv p1, iv p2, iv p3, iv n, rv w_STANDARD_delays_elements_0, rv b3, .unset, .unset, .unset, .unset, .unset, .unset, .unset] [] _
              refine XS.iloadN X25.here hx rfl (hb hby at_74) rfl ?_
              refine XS.iconst X25.here hx rfl (hb hby at_75) ?_
              show Sq p e below m T25 76 #[iv p1, iv p2, iv p3, iv n, rv w_STANDARD_delays_elements_0, rv b3, .unset, .unset, .unset, .unset, .unset, .unset, .unset] [.int 4, .int n] _
              refine XS.icmpNo X25.here hx rfl (hb hby at_76) rfl (tlt hs4).2.2.2 ?_
              refine XS.aload X25.here hx rfl (hb hby at_79) rfl rfl ?_
              show Sq p e below m T25 81 #[iv p1, iv p2, iv p3, iv n, rv w_STANDARD_delays_elements_0, rv b3, .unset, .unset, .unset, .unset, .unset, .unset, .unset] [.ref b3] _
              refine XS.aload X25.here hx rfl (hb hby at_81) rfl rfl ?_
              show Sq p e below m T25 83 #[iv p1, iv p2, iv p3, iv n, rv w_STANDARD_delays_elements_0, rv b3, .unset, .unset, .unset, .unset, .unset, .unset, .unset] [.ref w_STANDARD_delays_elements_0, .ref b3] _
              refine st29.trans ?_
              show Sq p e below m T29 86 #[iv p1, iv p2, iv p3, iv n, rv w_STANDARD_delays_elements_0, rv b3, .unset, .unset, .unset, .unset, .unset, .unset, .unset] [.int 1] _
              refine XS.pop X29.here hx rfl (hb hby at_86) rfl rfl ?_
              exact kt
            rcases own_sk (k := (5 : Int32)) hs4 (by decide) with rfl | hs5
            · obtain ⟨T33, h33, X33, e33, E33, A33, D33, -, st33⟩ := newO X29 hx hZ hown (W 50 rfl) (W 51 rfl) (W 1 rfl) e29 (g := (mkF m 114 #[iv p1, iv p2, iv p3, iv 5, rv w_STANDARD_delays_elements_0, rv b3, .unset, .unset, .unset, .unset, .unset, .unset, .unset] [])) rfl (hb hby at_114) (by decide) (by decide)
              obtain ⟨b33, g33⟩ : ∃ z, z = h29.size := ⟨_, rfl⟩
              rw [← g33] at A33 D33 st33
              have g_b33 : n0 ≤ b33 := Nat.le_trans (own_sz O30) (Nat.le_of_eq g33.symm)
              have A3 := A3.ext E33
              have p13_7 := p13_7.ext E33
              have p29_1 := p29_1.ext E33
              have p29_2 := p29_2.ext E33
              have p29_4 := p29_4.ext E33
              have O34 := O30.ext E33
              have Fz36 : Fld Z h33 b33 "com/example/savitri/savitri/store/RedriveSchedule" "delays" "Ljava/util/List;" .null := D33 (Or.inr (W 9 rfl)) (ty := (.object "java/util/List")) (by decide)
              obtain ⟨_, _, ⟨T37, L37, k37, n37⟩, -, X37, ⟨Lc37, hQ37, l37, y37, z37⟩, st37⟩ := X33.specialBack hx (y := y_29) rfl hown (mvT hZ (W 52 rfl)) (mvT hZ (W 53 rfl)) (mvT hZ (W 54 rfl)) (by decide) (backOf (W := 1) (recin5 l Z a0 hw [] b33 b3 b13b b13kb w_STANDARD_delays_elements_0 w_MIR h33 n0 O34 A33 Fz36 g_b33 A3 p29_4 E_w_STANDARD_delays_elements_0 Mo p13_7 p29_1 p29_2) hZ (W 54 rfl) (W 1 rfl) (by decide) (by decide)) (g := (mkF m 120 #[iv p1, iv p2, iv p3, iv 5, rv w_STANDARD_delays_elements_0, rv b3, .unset, .unset, .unset, .unset, .unset, .unset, .unset] [.ref b3, .ref b33, .ref b33])) rfl (by rw [hml]; rfl) (Steps.refl _) (a := b33) (argsL := [.ref b3]) (rest := [.ref b33]) (lenOf pd_18 rfl) rfl (by show 2 * 0 + _ ≤ _; exact Nat.le_of_eq rfl) (hb hby at_120) (fun _ _ => ⟨rfl, e33, (by decide : 3 + 3 ≤ _), (by decide : 14 + 14 ≤ _)⟩)
              dsimp only [Pt.U, Pt.locs, Pt.cells, Pt.slots] at X37 l37 y37 z37 st37 hQ37
              subst l37 y37 z37
              obtain ⟨h37, e37⟩ : ∃ z, T37.heap = z := ⟨_, rfl⟩
              rw [e37] at hQ37
              obtain ⟨b37r, b37g, b37kg, rfl, N37q, p37_0, p37_1, p37_2, p37_3, p37_4, p37_5, p37_6⟩ := hQ37
              have N37 := Fr.app N29 N37q
              have A33 := A33.keep p37_0
              have O38 := O34.keep p37_0 (allS g_b33 all0)
              have pre40 : ∀ t, Steps p.tables e below (T37.setTop (mkF m 128 #[iv p1, iv p2, iv p3, iv 5, rv w_STANDARD_delays_elements_0, rv b3, rv b33, .unset, .unset, .unset, .unset, .unset, .unset] [.int (p2 &&& (1 : Int32))])) t → Steps p.tables e below (s₁.setTop (entryFrame m #[(.int p1), (.int p2), (.int p3)] maxLocals)) t := by
                intro t kt
                refine pre32 _ ?_
                show Sq p e below m T29 87 #[iv p1, iv p2, iv p3, iv 5, rv w_STANDARD_delays_elements_0, rv b3, .unset, .unset, .unset, .unset, .unset, .unset, .unset] [] _
                refine XS.iloadN X29.here hx rfl (hb hby at_87) rfl ?_
                refine XS.iconst X29.here hx rfl (hb hby at_88) ?_
                show Sq p e below m T29 89 #[iv p1, iv p2, iv p3, iv 5, rv w_STANDARD_delays_elements_0, rv b3, .unset, .unset, .unset, .unset, .unset, .unset, .unset] [.int 5, .int 5] _
                refine XS.icmpYes X29.here hx rfl (pc0 := 89) (pc' := 100) rfl (hb hby at_89) rfl (flt (by decide)).2.2.2 (by decide) (by decide) ?_
                refine XS.iloadN X29.here hx rfl (hb hby at_100) rfl ?_
                show Sq p e below m T29 101 #[iv p1, iv p2, iv p3, iv 5, rv w_STANDARD_delays_elements_0, rv b3, .unset, .unset, .unset, .unset, .unset, .unset, .unset] [.int 5] _
                refine XS.bipush X29.here hx rfl (hb hby at_101) ?_
                refine XS.icmpYes X29.here hx rfl (pc0 := 103) (pc' := 114) rfl (hb hby at_103) rfl (flt (by decide)).2.2.2 (by decide) (by decide) ?_
                show Sq p e below m T29 114 #[iv p1, iv p2, iv p3, iv 5, rv w_STANDARD_delays_elements_0, rv b3, .unset, .unset, .unset, .unset, .unset, .unset, .unset] [] _
                refine st33 _ ?_
                show Sq p e below m T33 117 #[iv p1, iv p2, iv p3, iv 5, rv w_STANDARD_delays_elements_0, rv b3, .unset, .unset, .unset, .unset, .unset, .unset, .unset] [.ref b33] _
                refine XS.dup X33.here hx rfl (hb hby at_117) rfl rfl ?_
                refine XS.aload X33.here hx rfl (hb hby at_118) rfl rfl ?_
                show Sq p e below m T33 120 #[iv p1, iv p2, iv p3, iv 5, rv w_STANDARD_delays_elements_0, rv b3, .unset, .unset, .unset, .unset, .unset, .unset, .unset] [.ref b3, .ref b33, .ref b33] _
                refine st37.trans ?_
                show Sq p e below m T37 123 #[iv p1, iv p2, iv p3, iv 5, rv w_STANDARD_delays_elements_0, rv b3, .unset, .unset, .unset, .unset, .unset, .unset, .unset] [.ref b33] _
                refine XS.astore X37.here hx rfl (hb hby at_123) rfl rfl rfl ?_
                refine XS.iloadN X37.here hx rfl (hb hby at_125) rfl ?_
                show Sq p e below m T37 126 #[iv p1, iv p2, iv p3, iv 5, rv w_STANDARD_delays_elements_0, rv b3, rv b33, .unset, .unset, .unset, .unset, .unset, .unset] [.int p2] _
                refine XS.iconst X37.here hx rfl (hb hby at_126) ?_
                refine XS.iand X37.here hx rfl (hb hby at_127) rfl ?_
                exact kt
              by_cases hc128 : (p2 &&& (1 : Int32)) = (0 : Int32)
              · obtain ⟨T41, X41, e41, st41⟩ := getS2 X37 hx hZ hown (host := "") (Or.inl (W 208 rfl)) Via.refl e37 (S_w_DATA.ext O38.2) (g := (mkF m 149 #[iv p1, iv p2, iv p3, iv 5, rv w_STANDARD_delays_elements_0, rv b3, rv b33, iv 0, .unset, .unset, .unset, .unset, .unset] [])) rfl (hb hby at_149)
                obtain ⟨cq42, kq42, q42a, q42b, q42c⟩ := isOf hZ e41 A33
                obtain ⟨_, _, ⟨T42, L42, k42, n42⟩, -, X42, ⟨Lc42, hQ42, l42, y42, z42⟩, st42⟩ := X41.virtualBack hx (y := y_35) (z := y_35) hown (mvT hZ (W 93 rfl)) (mvT hZ (W 94 rfl)) (notFace_of_selects (args := #[]) (mvT hZ (W 96 rfl))) (mvT hZ (W 96 rfl)) (mvT hZ (W 95 rfl)) (by decide) (backOf (W := 0) (stD l Z a0 hw [] b33 p3 w_DATA w_TRANSIENT w_FAILED h37 n0 O38 S_w_TRANSIENT S_w_FAILED nek) hZ (W 97 rfl) (W 1 rfl) (by decide) (by decide)) q42a q42c (g := (mkF m 159 #[iv p1, iv p2, iv p3, iv 5, rv w_STANDARD_delays_elements_0, rv b3, rv b33, iv 0, rv w_DATA, .unset, .unset, .unset, .unset] [.int p3, .ref w_DATA, .ref b33])) rfl (by rw [hml]; rfl) (Steps.refl _) (argsL := [.ref w_DATA, .int p3]) (rest := []) (lenOf pd_19 rfl) rfl (by show 2 * 0 + _ ≤ _; exact Nat.le_of_eq rfl) (hb hby at_159) (fun _ _ => ⟨rfl, e41, (by decide : 6 + 0 ≤ _), (by decide : 28 + 0 ≤ _)⟩)
                dsimp only [Pt.U, Pt.locs, Pt.cells, Pt.slots] at X42 l42 y42 z42 st42 hQ42
                subst l42 y42 z42
                obtain ⟨h42, e42⟩ : ∃ z, T42.heap = z := ⟨_, rfl⟩
                rw [e42] at hQ42
                obtain ⟨rfl, N42q, p42_0⟩ := hQ42
                have N42 := Fr.app N37 N42q
                rw [p42_0] at e42
                obtain ⟨T43, X43, e43, st43⟩ := getS2 X42 hx hZ hown (host := "") (Or.inl (W 115 rfl)) Via.refl e42 (S_w_FAILED.ext O38.2) (g := (mkF m 176 #[iv p1, iv p2, iv p3, iv 5, rv w_STANDARD_delays_elements_0, rv b3, rv b33, iv 0, rv w_DATA, rv w_FAILED, .val (.long ((5 : Int64) - (p3.toInt64))), .second, .unset] [])) rfl (hb hby at_176)
                obtain ⟨fs, hr, hrun, hended, hW, hsame⟩ := X43.leave (v := some (.int (1 : Int32))) (fun h => by rw [Bd.returns] at h; cases h)
                refine ⟨_, _, pre40 _ ?_, hrun, hended, _, _, rfl, ?_, ⟨_, rfl⟩, hW, hsame.mono (by decide) (by decide)⟩
                · show Sq p e below m T37 128 #[iv p1, iv p2, iv p3, iv 5, rv w_STANDARD_delays_elements_0, rv b3, rv b33, .unset, .unset, .unset, .unset, .unset, .unset] [.int (p2 &&& (1 : Int32))] _
                  refine XS.ifYes X37.here hx rfl (pc0 := 128) (pc' := 135) rfl (hb hby at_128) rfl ((if0 _ _).trans (teq hc128).1) (by decide) (by decide) ?_
                  refine XS.iconst X37.here hx rfl (hb hby at_135) ?_
                  show Sq p e below m T37 136 #[iv p1, iv p2, iv p3, iv 5, rv w_STANDARD_delays_elements_0, rv b3, rv b33, .unset, .unset, .unset, .unset, .unset, .unset] [.int 0] _
                  refine XS.istore X37.here hx rfl (hb hby at_136) rfl rfl ?_
                  refine XS.iload X37.here hx rfl (hb hby at_138) rfl ?_
                  show Sq p e below m T37 140 #[iv p1, iv p2, iv p3, iv 5, rv w_STANDARD_delays_elements_0, rv b3, rv b33, iv 0, .unset, .unset, .unset, .unset, .unset] [.int 0] _
                  refine XS.ifYes X37.here hx rfl (pc0 := 140) (pc' := 149) rfl (hb hby at_140) rfl ((if0 _ _).trans (teq (rfl : (0 : Int32) = (0 : Int32))).1) (by decide) (by decide) ?_
                  show Sq p e below m T37 149 #[iv p1, iv p2, iv p3, iv 5, rv w_STANDARD_delays_elements_0, rv b3, rv b33, iv 0, .unset, .unset, .unset, .unset, .unset] [] _
                  refine st41 _ ?_
                  show Sq p e below m T41 152 #[iv p1, iv p2, iv p3, iv 5, rv w_STANDARD_delays_elements_0, rv b3, rv b33, iv 0, .unset, .unset, .unset, .unset, .unset] [.ref w_DATA] _
                  refine XS.astore X41.here hx rfl (hb hby at_152) rfl rfl rfl ?_
                  refine XS.aload X41.here hx rfl (hb hby at_154) rfl rfl ?_
                  show Sq p e below m T41 156 #[iv p1, iv p2, iv p3, iv 5, rv w_STANDARD_delays_elements_0, rv b3, rv b33, iv 0, rv w_DATA, .unset, .unset, .unset, .unset] [.ref b33] _
                  refine XS.aload X41.here hx rfl (hb hby at_156) rfl rfl ?_
                  refine XS.iloadN X41.here hx rfl (hb hby at_158) rfl ?_
                  show Sq p e below m T41 159 #[iv p1, iv p2, iv p3, iv 5, rv w_STANDARD_delays_elements_0, rv b3, rv b33, iv 0, rv w_DATA, .unset, .unset, .unset, .unset] [.int p3, .ref w_DATA, .ref b33] _
                  refine st42.trans ?_
                  show Sq p e below m T42 162 #[iv p1, iv p2, iv p3, iv 5, rv w_STANDARD_delays_elements_0, rv b3, rv b33, iv 0, rv w_DATA, .unset, .unset, .unset, .unset] [.ref w_FAILED] _
                  refine XS.astore X42.here hx rfl (hb hby at_162) rfl rfl rfl ?_
                  refine XS.iloadN X42.here hx rfl (hb hby at_164) rfl ?_
                  show Sq p e below m T42 165 #[iv p1, iv p2, iv p3, iv 5, rv w_STANDARD_delays_elements_0, rv b3, rv b33, iv 0, rv w_DATA, rv w_FAILED, .unset, .unset, .unset] [.int 5] _
                  refine XS.i2l X42.here hx rfl (hb hby at_165) rfl ?_
                  show Sq p e below m T42 166 #[iv p1, iv p2, iv p3, iv 5, rv w_STANDARD_delays_elements_0, rv b3, rv b33, iv 0, rv w_DATA, rv w_FAILED, .unset, .unset, .unset] [.long ((5 : Int32).toInt64)] _
                  rw [show ((5 : Int32).toInt64) = (5 : Int64) from by decide]
                  show Sq p e below m T42 166 #[iv p1, iv p2, iv p3, iv 5, rv w_STANDARD_delays_elements_0, rv b3, rv b33, iv 0, rv w_DATA, rv w_FAILED, .unset, .unset, .unset] [.long 5] _
                  refine XS.iloadN X42.here hx rfl (hb hby at_166) rfl ?_
                  refine XS.i2l X42.here hx rfl (hb hby at_167) rfl ?_
                  show Sq p e below m T42 168 #[iv p1, iv p2, iv p3, iv 5, rv w_STANDARD_delays_elements_0, rv b3, rv b33, iv 0, rv w_DATA, rv w_FAILED, .unset, .unset, .unset] [.long (p3.toInt64), .long 5] _
                  refine XS.lsub X42.here hx rfl (hb hby at_168) rfl ?_
                  refine XS.lstore X42.here hx rfl (hb hby at_169) rfl rfl ?_
                  show Sq p e below m T42 171 #[iv p1, iv p2, iv p3, iv 5, rv w_STANDARD_delays_elements_0, rv b3, rv b33, iv 0, rv w_DATA, rv w_FAILED, .val (.long ((5 : Int64) - (p3.toInt64))), .second, .unset] [] _
                  refine XS.iload X42.here hx rfl (hb hby at_171) rfl ?_
                  refine XS.ifNo X42.here hx rfl (hb hby at_173) rfl ((if0 _ _).trans (teq (rfl : (0 : Int32) = (0 : Int32))).2) ?_
                  show Sq p e below m T42 176 #[iv p1, iv p2, iv p3, iv 5, rv w_STANDARD_delays_elements_0, rv b3, rv b33, iv 0, rv w_DATA, rv w_FAILED, .val (.long ((5 : Int64) - (p3.toInt64))), .second, .unset] [] _
                  refine st43 _ ?_
                  show Sq p e below m T43 179 #[iv p1, iv p2, iv p3, iv 5, rv w_STANDARD_delays_elements_0, rv b3, rv b33, iv 0, rv w_DATA, rv w_FAILED, .val (.long ((5 : Int64) - (p3.toInt64))), .second, .unset] [.ref w_FAILED] _
                  refine XS.astore X43.here hx rfl (hb hby at_179) rfl rfl rfl ?_
                  refine XS.goto X43.here hx rfl (pc0 := 181) (pc' := 204) rfl (hb hby at_181) (by decide) (by decide) ?_
                  show Sq p e below m T43 204 #[iv p1, iv p2, iv p3, iv 5, rv w_STANDARD_delays_elements_0, rv b3, rv b33, iv 0, rv w_DATA, rv w_FAILED, .val (.long ((5 : Int64) - (p3.toInt64))), .second, rv w_FAILED] [] _
                  refine XS.aload X43.here hx rfl (hb hby at_204) rfl rfl ?_
                  refine XS.aload X43.here hx rfl (hb hby at_206) rfl rfl ?_
                  show Sq p e below m T43 208 #[iv p1, iv p2, iv p3, iv 5, rv w_STANDARD_delays_elements_0, rv b3, rv b33, iv 0, rv w_DATA, rv w_FAILED, .val (.long ((5 : Int64) - (p3.toInt64))), .second, rv w_FAILED] [.ref w_FAILED, .ref w_FAILED] _
                  refine Jvm.RoadKit.acmp (g := (mkF m 208 #[iv p1, iv p2, iv p3, iv 5, rv w_STANDARD_delays_elements_0, rv b3, rv b33, iv 0, rv w_DATA, rv w_FAILED, .val (.long ((5 : Int64) - (p3.toInt64))), .second, rv w_FAILED] [.ref w_FAILED, .ref w_FAILED])) X43 hx rfl rfl rfl (pc0 := 208) (pc' := 211) (same := true) rfl (hb hby at_208) rfl (decide_eq_true rfl) (by decide) (by decide) ?_
                  show Sq p e below m T43 211 #[iv p1, iv p2, iv p3, iv 5, rv w_STANDARD_delays_elements_0, rv b3, rv b33, iv 0, rv w_DATA, rv w_FAILED, .val (.long ((5 : Int64) - (p3.toInt64))), .second, rv w_FAILED] [] _
                  refine XS.iconst X43.here hx rfl (hb hby at_211) ?_
                  refine XS.goto X43.here hx rfl (pc0 := 212) (pc' := 216) rfl (hb hby at_212) (by decide) (by decide) ?_
                  show Sq p e below m T43 216 #[iv p1, iv p2, iv p3, iv 5, rv w_STANDARD_delays_elements_0, rv b3, rv b33, iv 0, rv w_DATA, rv w_FAILED, .val (.long ((5 : Int64) - (p3.toInt64))), .second, rv w_FAILED] [.int 1] _
                  exact retN X43 hx (t := .boolean) Bd.returns (by simp) (hb hby at_216) hr
                · show Q_rm0 Z p1 p2 p3 (5 : Int32) w_STANDARD w_STANDARD_delays w_STANDARD_delays_elements w_STANDARD_delays_elements_0 w_TRANSIENT w_FAILED w_DATA w_PENDING w_STANDARD_delays_elements_1 w_STANDARD_delays_elements_2 w_STANDARD_delays_elements_3 w_STANDARD_delays_elements_4 w_DEF w_ELIST w_EMPTY w_ELIST_elements kdef kel k5 w_MIR h0 n0 _ T43.heap _
                  rw [e43]
                  exact ⟨rfl, N42⟩
              · obtain ⟨T41, X41, e41, st41⟩ := getS2 X37 hx hZ hown (host := "") (Or.inl (W 90 rfl)) Via.refl e37 (S_w_TRANSIENT.ext O38.2) (g := (mkF m 143 #[iv p1, iv p2, iv p3, iv 5, rv w_STANDARD_delays_elements_0, rv b3, rv b33, iv 1, .unset, .unset, .unset, .unset, .unset] [])) rfl (hb hby at_143)
                have pre42 : ∀ t, Steps p.tables e below (T41.setTop (mkF m 154 #[iv p1, iv p2, iv p3, iv 5, rv w_STANDARD_delays_elements_0, rv b3, rv b33, iv 1, rv w_TRANSIENT, .unset, .unset, .unset, .unset] [])) t → Steps p.tables e below (s₁.setTop (entryFrame m #[(.int p1), (.int p2), (.int p3)] maxLocals)) t := by
                  intro t kt
                  refine pre40 _ ?_
                  show Sq p e below m T37 128 #[iv p1, iv p2, iv p3, iv 5, rv w_STANDARD_delays_elements_0, rv b3, rv b33, .unset, .unset, .unset, .unset, .unset, .unset] [.int (p2 &&& (1 : Int32))] _
                  refine XS.ifNo X37.here hx rfl (hb hby at_128) rfl ((if0 _ _).trans (feq hc128).1) ?_
                  refine XS.iconst X37.here hx rfl (hb hby at_131) ?_
                  show Sq p e below m T37 132 #[iv p1, iv p2, iv p3, iv 5, rv w_STANDARD_delays_elements_0, rv b3, rv b33, .unset, .unset, .unset, .unset, .unset, .unset] [.int 1] _
                  refine XS.goto X37.here hx rfl (pc0 := 132) (pc' := 136) rfl (hb hby at_132) (by decide) (by decide) ?_
                  refine XS.istore X37.here hx rfl (hb hby at_136) rfl rfl ?_
                  show Sq p e below m T37 138 #[iv p1, iv p2, iv p3, iv 5, rv w_STANDARD_delays_elements_0, rv b3, rv b33, iv 1, .unset, .unset, .unset, .unset, .unset] [] _
                  refine XS.iload X37.here hx rfl (hb hby at_138) rfl ?_
                  refine XS.ifNo X37.here hx rfl (hb hby at_140) rfl ((if0 _ _).trans (feq (by decide)).1) ?_
                  show Sq p e below m T37 143 #[iv p1, iv p2, iv p3, iv 5, rv w_STANDARD_delays_elements_0, rv b3, rv b33, iv 1, .unset, .unset, .unset, .unset, .unset] [] _
                  refine st41 _ ?_
                  show Sq p e below m T41 146 #[iv p1, iv p2, iv p3, iv 5, rv w_STANDARD_delays_elements_0, rv b3, rv b33, iv 1, .unset, .unset, .unset, .unset, .unset] [.ref w_TRANSIENT] _
                  refine XS.goto X41.here hx rfl (pc0 := 146) (pc' := 152) rfl (hb hby at_146) (by decide) (by decide) ?_
                  refine XS.astore X41.here hx rfl (hb hby at_152) rfl rfl rfl ?_
                  exact kt
                rcases Decidable.em (p3 < (5 : Int32)) with hrk | hrk
                · obtain ⟨cq43, kq43, q43a, q43b, q43c⟩ := isOf hZ e41 A33
                  obtain ⟨_, _, ⟨T43, L43, k43, n43⟩, -, X43, ⟨Lc43, hQ43, l43, y43, z43⟩, st43⟩ := X41.virtualBack hx (y := y_35) (z := y_35) hown (mvT hZ (W 93 rfl)) (mvT hZ (W 94 rfl)) (notFace_of_selects (args := #[]) (mvT hZ (W 96 rfl))) (mvT hZ (W 96 rfl)) (mvT hZ (W 95 rfl)) (by decide) (backOf (W := 0) (sqN1 l Z a0 hw [] b33 p3 w_TRANSIENT w_PENDING b37r b37g b37kg (5 : Int32) [(.ref w_STANDARD_delays_elements_0), (.ref w_STANDARD_delays_elements_0), (.ref w_STANDARD_delays_elements_0), (.ref w_STANDARD_delays_elements_0), (.ref w_STANDARD_delays_elements_0)] h37 n0 O38 A33 p37_3 p37_4 p37_5 p37_6 S_w_TRANSIENT S_w_PENDING hrk) hZ (W 97 rfl) (W 1 rfl) (by decide) (by decide)) q43a q43c (g := (mkF m 159 #[iv p1, iv p2, iv p3, iv 5, rv w_STANDARD_delays_elements_0, rv b3, rv b33, iv 1, rv w_TRANSIENT, .unset, .unset, .unset, .unset] [.int p3, .ref w_TRANSIENT, .ref b33])) rfl (by rw [hml]; rfl) (Steps.refl _) (argsL := [.ref w_TRANSIENT, .int p3]) (rest := []) (lenOf pd_19 rfl) rfl (by show 2 * 0 + _ ≤ _; exact Nat.le_of_eq rfl) (hb hby at_159) (fun _ _ => ⟨rfl, e41, (by decide : 6 + 0 ≤ _), (by decide : 28 + 0 ≤ _)⟩)
                  dsimp only [Pt.U, Pt.locs, Pt.cells, Pt.slots] at X43 l43 y43 z43 st43 hQ43
                  subst l43 y43 z43
                  obtain ⟨h43, e43⟩ : ∃ z, T43.heap = z := ⟨_, rfl⟩
                  rw [e43] at hQ43
                  obtain ⟨rfl, N43q, p43_0⟩ := hQ43
                  have N43 := Fr.app N37 N43q
                  rw [p43_0] at e43
                  obtain ⟨T44, X44, e44, st44⟩ := getS2 X43 hx hZ hown (host := "") (Or.inl (W 237 rfl)) Via.refl e43 (S_w_PENDING.ext O38.2) (g := (mkF m 191 #[iv p1, iv p2, iv p3, iv 5, rv w_STANDARD_delays_elements_0, rv b3, rv b33, iv 1, rv w_TRANSIENT, rv w_PENDING, .val (.long ((5 : Int64) - (p3.toInt64))), .second, .unset] [])) rfl (hb hby at_191)
                  obtain ⟨fs, hr, hrun, hended, hW, hsame⟩ := X44.leave (v := some (.int (1 : Int32))) (fun h => by rw [Bd.returns] at h; cases h)
                  refine ⟨_, _, pre42 _ ?_, hrun, hended, _, _, rfl, ?_, ⟨_, rfl⟩, hW, hsame.mono (by decide) (by decide)⟩
                  · show Sq p e below m T41 154 #[iv p1, iv p2, iv p3, iv 5, rv w_STANDARD_delays_elements_0, rv b3, rv b33, iv 1, rv w_TRANSIENT, .unset, .unset, .unset, .unset] [] _
                    refine XS.aload X41.here hx rfl (hb hby at_154) rfl rfl ?_
                    refine XS.aload X41.here hx rfl (hb hby at_156) rfl rfl ?_
                    show Sq p e below m T41 158 #[iv p1, iv p2, iv p3, iv 5, rv w_STANDARD_delays_elements_0, rv b3, rv b33, iv 1, rv w_TRANSIENT, .unset, .unset, .unset, .unset] [.ref w_TRANSIENT, .ref b33] _
                    refine XS.iloadN X41.here hx rfl (hb hby at_158) rfl ?_
                    show Sq p e below m T41 159 #[iv p1, iv p2, iv p3, iv 5, rv w_STANDARD_delays_elements_0, rv b3, rv b33, iv 1, rv w_TRANSIENT, .unset, .unset, .unset, .unset] [.int p3, .ref w_TRANSIENT, .ref b33] _
                    refine st43.trans ?_
                    show Sq p e below m T43 162 #[iv p1, iv p2, iv p3, iv 5, rv w_STANDARD_delays_elements_0, rv b3, rv b33, iv 1, rv w_TRANSIENT, .unset, .unset, .unset, .unset] [.ref w_PENDING] _
                    refine XS.astore X43.here hx rfl (hb hby at_162) rfl rfl rfl ?_
                    refine XS.iloadN X43.here hx rfl (hb hby at_164) rfl ?_
                    show Sq p e below m T43 165 #[iv p1, iv p2, iv p3, iv 5, rv w_STANDARD_delays_elements_0, rv b3, rv b33, iv 1, rv w_TRANSIENT, rv w_PENDING, .unset, .unset, .unset] [.int 5] _
                    refine XS.i2l X43.here hx rfl (hb hby at_165) rfl ?_
                    show Sq p e below m T43 166 #[iv p1, iv p2, iv p3, iv 5, rv w_STANDARD_delays_elements_0, rv b3, rv b33, iv 1, rv w_TRANSIENT, rv w_PENDING, .unset, .unset, .unset] [.long ((5 : Int32).toInt64)] _
                    rw [show ((5 : Int32).toInt64) = (5 : Int64) from by decide]
                    show Sq p e below m T43 166 #[iv p1, iv p2, iv p3, iv 5, rv w_STANDARD_delays_elements_0, rv b3, rv b33, iv 1, rv w_TRANSIENT, rv w_PENDING, .unset, .unset, .unset] [.long 5] _
                    refine XS.iloadN X43.here hx rfl (hb hby at_166) rfl ?_
                    refine XS.i2l X43.here hx rfl (hb hby at_167) rfl ?_
                    show Sq p e below m T43 168 #[iv p1, iv p2, iv p3, iv 5, rv w_STANDARD_delays_elements_0, rv b3, rv b33, iv 1, rv w_TRANSIENT, rv w_PENDING, .unset, .unset, .unset] [.long (p3.toInt64), .long 5] _
                    refine XS.lsub X43.here hx rfl (hb hby at_168) rfl ?_
                    refine XS.lstore X43.here hx rfl (hb hby at_169) rfl rfl ?_
                    show Sq p e below m T43 171 #[iv p1, iv p2, iv p3, iv 5, rv w_STANDARD_delays_elements_0, rv b3, rv b33, iv 1, rv w_TRANSIENT, rv w_PENDING, .val (.long ((5 : Int64) - (p3.toInt64))), .second, .unset] [] _
                    refine XS.iload X43.here hx rfl (hb hby at_171) rfl ?_
                    refine XS.ifYes X43.here hx rfl (pc0 := 173) (pc' := 184) rfl (hb hby at_173) rfl ((if0 _ _).trans (feq (by decide)).2) (by decide) (by decide) ?_
                    show Sq p e below m T43 184 #[iv p1, iv p2, iv p3, iv 5, rv w_STANDARD_delays_elements_0, rv b3, rv b33, iv 1, rv w_TRANSIENT, rv w_PENDING, .val (.long ((5 : Int64) - (p3.toInt64))), .second, .unset] [] _
                    refine XS.lload X43.here hx rfl (hb hby at_184) rfl ?_
                    refine XS.lconst X43.here hx rfl (hb hby at_186) ?_
                    show Sq p e below m T43 187 #[iv p1, iv p2, iv p3, iv 5, rv w_STANDARD_delays_elements_0, rv b3, rv b33, iv 1, rv w_TRANSIENT, rv w_PENDING, .val (.long ((5 : Int64) - (p3.toInt64))), .second, .unset] [.long 1, .long ((5 : Int64) - (p3.toInt64))] _
                    refine XS.lcmp X43.here hx rfl (hb hby at_187) rfl ?_
                    refine XS.ifNo X43.here hx rfl (hb hby at_188) rfl ((if0 _ _).trans (flt (own_lf (k := (5 : Int32)) (by decide) hrk)).1) ?_
                    show Sq p e below m T43 191 #[iv p1, iv p2, iv p3, iv 5, rv w_STANDARD_delays_elements_0, rv b3, rv b33, iv 1, rv w_TRANSIENT, rv w_PENDING, .val (.long ((5 : Int64) - (p3.toInt64))), .second, .unset] [] _
                    refine st44 _ ?_
                    show Sq p e below m T44 194 #[iv p1, iv p2, iv p3, iv 5, rv w_STANDARD_delays_elements_0, rv b3, rv b33, iv 1, rv w_TRANSIENT, rv w_PENDING, .val (.long ((5 : Int64) - (p3.toInt64))), .second, .unset] [.ref w_PENDING] _
                    refine XS.astore X44.here hx rfl (hb hby at_194) rfl rfl rfl ?_
                    refine XS.goto X44.here hx rfl (pc0 := 196) (pc' := 204) rfl (hb hby at_196) (by decide) (by decide) ?_
                    show Sq p e below m T44 204 #[iv p1, iv p2, iv p3, iv 5, rv w_STANDARD_delays_elements_0, rv b3, rv b33, iv 1, rv w_TRANSIENT, rv w_PENDING, .val (.long ((5 : Int64) - (p3.toInt64))), .second, rv w_PENDING] [] _
                    refine XS.aload X44.here hx rfl (hb hby at_204) rfl rfl ?_
                    refine XS.aload X44.here hx rfl (hb hby at_206) rfl rfl ?_
                    show Sq p e below m T44 208 #[iv p1, iv p2, iv p3, iv 5, rv w_STANDARD_delays_elements_0, rv b3, rv b33, iv 1, rv w_TRANSIENT, rv w_PENDING, .val (.long ((5 : Int64) - (p3.toInt64))), .second, rv w_PENDING] [.ref w_PENDING, .ref w_PENDING] _
                    refine Jvm.RoadKit.acmp (g := (mkF m 208 #[iv p1, iv p2, iv p3, iv 5, rv w_STANDARD_delays_elements_0, rv b3, rv b33, iv 1, rv w_TRANSIENT, rv w_PENDING, .val (.long ((5 : Int64) - (p3.toInt64))), .second, rv w_PENDING] [.ref w_PENDING, .ref w_PENDING])) X44 hx rfl rfl rfl (pc0 := 208) (pc' := 211) (same := true) rfl (hb hby at_208) rfl (decide_eq_true rfl) (by decide) (by decide) ?_
                    show Sq p e below m T44 211 #[iv p1, iv p2, iv p3, iv 5, rv w_STANDARD_delays_elements_0, rv b3, rv b33, iv 1, rv w_TRANSIENT, rv w_PENDING, .val (.long ((5 : Int64) - (p3.toInt64))), .second, rv w_PENDING] [] _
                    refine XS.iconst X44.here hx rfl (hb hby at_211) ?_
                    refine XS.goto X44.here hx rfl (pc0 := 212) (pc' := 216) rfl (hb hby at_212) (by decide) (by decide) ?_
                    show Sq p e below m T44 216 #[iv p1, iv p2, iv p3, iv 5, rv w_STANDARD_delays_elements_0, rv b3, rv b33, iv 1, rv w_TRANSIENT, rv w_PENDING, .val (.long ((5 : Int64) - (p3.toInt64))), .second, rv w_PENDING] [.int 1] _
                    exact retN X44 hx (t := .boolean) Bd.returns (by simp) (hb hby at_216) hr
                  · show Q_rm0 Z p1 p2 p3 (5 : Int32) w_STANDARD w_STANDARD_delays w_STANDARD_delays_elements w_STANDARD_delays_elements_0 w_TRANSIENT w_FAILED w_DATA w_PENDING w_STANDARD_delays_elements_1 w_STANDARD_delays_elements_2 w_STANDARD_delays_elements_3 w_STANDARD_delays_elements_4 w_DEF w_ELIST w_EMPTY w_ELIST_elements kdef kel k5 w_MIR h0 n0 _ T44.heap _
                    rw [e44]
                    exact ⟨rfl, N43⟩
                · obtain ⟨cq43, kq43, q43a, q43b, q43c⟩ := isOf hZ e41 A33
                  obtain ⟨_, _, ⟨T43, L43, k43, n43⟩, -, X43, ⟨Lc43, hQ43, l43, y43, z43⟩, st43⟩ := X41.virtualBack hx (y := y_35) (z := y_35) hown (mvT hZ (W 93 rfl)) (mvT hZ (W 94 rfl)) (notFace_of_selects (args := #[]) (mvT hZ (W 96 rfl))) (mvT hZ (W 96 rfl)) (mvT hZ (W 95 rfl)) (by decide) (backOf (W := 0) (sqN0 l Z a0 hw [] b33 p3 w_TRANSIENT w_FAILED b37r b37g b37kg (5 : Int32) [(.ref w_STANDARD_delays_elements_0), (.ref w_STANDARD_delays_elements_0), (.ref w_STANDARD_delays_elements_0), (.ref w_STANDARD_delays_elements_0), (.ref w_STANDARD_delays_elements_0)] h37 n0 O38 A33 p37_3 p37_4 p37_5 p37_6 S_w_TRANSIENT S_w_FAILED hrk) hZ (W 97 rfl) (W 1 rfl) (by decide) (by decide)) q43a q43c (g := (mkF m 159 #[iv p1, iv p2, iv p3, iv 5, rv w_STANDARD_delays_elements_0, rv b3, rv b33, iv 1, rv w_TRANSIENT, .unset, .unset, .unset, .unset] [.int p3, .ref w_TRANSIENT, .ref b33])) rfl (by rw [hml]; rfl) (Steps.refl _) (argsL := [.ref w_TRANSIENT, .int p3]) (rest := []) (lenOf pd_19 rfl) rfl (by show 2 * 0 + _ ≤ _; exact Nat.le_of_eq rfl) (hb hby at_159) (fun _ _ => ⟨rfl, e41, (by decide : 6 + 0 ≤ _), (by decide : 28 + 0 ≤ _)⟩)
                  dsimp only [Pt.U, Pt.locs, Pt.cells, Pt.slots] at X43 l43 y43 z43 st43 hQ43
                  subst l43 y43 z43
                  obtain ⟨h43, e43⟩ : ∃ z, T43.heap = z := ⟨_, rfl⟩
                  rw [e43] at hQ43
                  obtain ⟨rfl, N43q, p43_0⟩ := hQ43
                  have N43 := Fr.app N37 N43q
                  rw [p43_0] at e43
                  obtain ⟨T44, X44, e44, st44⟩ := getS2 X43 hx hZ hown (host := "") (Or.inl (W 115 rfl)) Via.refl e43 (S_w_FAILED.ext O38.2) (g := (mkF m 199 #[iv p1, iv p2, iv p3, iv 5, rv w_STANDARD_delays_elements_0, rv b3, rv b33, iv 1, rv w_TRANSIENT, rv w_FAILED, .val (.long ((5 : Int64) - (p3.toInt64))), .second, .unset] [])) rfl (hb hby at_199)
                  obtain ⟨fs, hr, hrun, hended, hW, hsame⟩ := X44.leave (v := some (.int (1 : Int32))) (fun h => by rw [Bd.returns] at h; cases h)
                  refine ⟨_, _, pre42 _ ?_, hrun, hended, _, _, rfl, ?_, ⟨_, rfl⟩, hW, hsame.mono (by decide) (by decide)⟩
                  · show Sq p e below m T41 154 #[iv p1, iv p2, iv p3, iv 5, rv w_STANDARD_delays_elements_0, rv b3, rv b33, iv 1, rv w_TRANSIENT, .unset, .unset, .unset, .unset] [] _
                    refine XS.aload X41.here hx rfl (hb hby at_154) rfl rfl ?_
                    refine XS.aload X41.here hx rfl (hb hby at_156) rfl rfl ?_
                    show Sq p e below m T41 158 #[iv p1, iv p2, iv p3, iv 5, rv w_STANDARD_delays_elements_0, rv b3, rv b33, iv 1, rv w_TRANSIENT, .unset, .unset, .unset, .unset] [.ref w_TRANSIENT, .ref b33] _
                    refine XS.iloadN X41.here hx rfl (hb hby at_158) rfl ?_
                    show Sq p e below m T41 159 #[iv p1, iv p2, iv p3, iv 5, rv w_STANDARD_delays_elements_0, rv b3, rv b33, iv 1, rv w_TRANSIENT, .unset, .unset, .unset, .unset] [.int p3, .ref w_TRANSIENT, .ref b33] _
                    refine st43.trans ?_
                    show Sq p e below m T43 162 #[iv p1, iv p2, iv p3, iv 5, rv w_STANDARD_delays_elements_0, rv b3, rv b33, iv 1, rv w_TRANSIENT, .unset, .unset, .unset, .unset] [.ref w_FAILED] _
                    refine XS.astore X43.here hx rfl (hb hby at_162) rfl rfl rfl ?_
                    refine XS.iloadN X43.here hx rfl (hb hby at_164) rfl ?_
                    show Sq p e below m T43 165 #[iv p1, iv p2, iv p3, iv 5, rv w_STANDARD_delays_elements_0, rv b3, rv b33, iv 1, rv w_TRANSIENT, rv w_FAILED, .unset, .unset, .unset] [.int 5] _
                    refine XS.i2l X43.here hx rfl (hb hby at_165) rfl ?_
                    show Sq p e below m T43 166 #[iv p1, iv p2, iv p3, iv 5, rv w_STANDARD_delays_elements_0, rv b3, rv b33, iv 1, rv w_TRANSIENT, rv w_FAILED, .unset, .unset, .unset] [.long ((5 : Int32).toInt64)] _
                    rw [show ((5 : Int32).toInt64) = (5 : Int64) from by decide]
                    show Sq p e below m T43 166 #[iv p1, iv p2, iv p3, iv 5, rv w_STANDARD_delays_elements_0, rv b3, rv b33, iv 1, rv w_TRANSIENT, rv w_FAILED, .unset, .unset, .unset] [.long 5] _
                    refine XS.iloadN X43.here hx rfl (hb hby at_166) rfl ?_
                    refine XS.i2l X43.here hx rfl (hb hby at_167) rfl ?_
                    show Sq p e below m T43 168 #[iv p1, iv p2, iv p3, iv 5, rv w_STANDARD_delays_elements_0, rv b3, rv b33, iv 1, rv w_TRANSIENT, rv w_FAILED, .unset, .unset, .unset] [.long (p3.toInt64), .long 5] _
                    refine XS.lsub X43.here hx rfl (hb hby at_168) rfl ?_
                    refine XS.lstore X43.here hx rfl (hb hby at_169) rfl rfl ?_
                    show Sq p e below m T43 171 #[iv p1, iv p2, iv p3, iv 5, rv w_STANDARD_delays_elements_0, rv b3, rv b33, iv 1, rv w_TRANSIENT, rv w_FAILED, .val (.long ((5 : Int64) - (p3.toInt64))), .second, .unset] [] _
                    refine XS.iload X43.here hx rfl (hb hby at_171) rfl ?_
                    refine XS.ifYes X43.here hx rfl (pc0 := 173) (pc' := 184) rfl (hb hby at_173) rfl ((if0 _ _).trans (feq (by decide)).2) (by decide) (by decide) ?_
                    show Sq p e below m T43 184 #[iv p1, iv p2, iv p3, iv 5, rv w_STANDARD_delays_elements_0, rv b3, rv b33, iv 1, rv w_TRANSIENT, rv w_FAILED, .val (.long ((5 : Int64) - (p3.toInt64))), .second, .unset] [] _
                    refine XS.lload X43.here hx rfl (hb hby at_184) rfl ?_
                    refine XS.lconst X43.here hx rfl (hb hby at_186) ?_
                    show Sq p e below m T43 187 #[iv p1, iv p2, iv p3, iv 5, rv w_STANDARD_delays_elements_0, rv b3, rv b33, iv 1, rv w_TRANSIENT, rv w_FAILED, .val (.long ((5 : Int64) - (p3.toInt64))), .second, .unset] [.long 1, .long ((5 : Int64) - (p3.toInt64))] _
                    refine XS.lcmp X43.here hx rfl (hb hby at_187) rfl ?_
                    refine XS.ifYes X43.here hx rfl (pc0 := 188) (pc' := 199) rfl (hb hby at_188) rfl ((if0 _ _).trans (tlt (own_lt (k := (5 : Int32)) (by decide) hrk)).1) (by decide) (by decide) ?_
                    show Sq p e below m T43 199 #[iv p1, iv p2, iv p3, iv 5, rv w_STANDARD_delays_elements_0, rv b3, rv b33, iv 1, rv w_TRANSIENT, rv w_FAILED, .val (.long ((5 : Int64) - (p3.toInt64))), .second, .unset] [] _
                    refine st44 _ ?_
                    show Sq p e below m T44 202 #[iv p1, iv p2, iv p3, iv 5, rv w_STANDARD_delays_elements_0, rv b3, rv b33, iv 1, rv w_TRANSIENT, rv w_FAILED, .val (.long ((5 : Int64) - (p3.toInt64))), .second, .unset] [.ref w_FAILED] _
                    refine XS.astore X44.here hx rfl (hb hby at_202) rfl rfl rfl ?_
                    refine XS.aload X44.here hx rfl (hb hby at_204) rfl rfl ?_
                    show Sq p e below m T44 206 #[iv p1, iv p2, iv p3, iv 5, rv w_STANDARD_delays_elements_0, rv b3, rv b33, iv 1, rv w_TRANSIENT, rv w_FAILED, .val (.long ((5 : Int64) - (p3.toInt64))), .second, rv w_FAILED] [.ref w_FAILED] _
                    refine XS.aload X44.here hx rfl (hb hby at_206) rfl rfl ?_
                    show Sq p e below m T44 208 #[iv p1, iv p2, iv p3, iv 5, rv w_STANDARD_delays_elements_0, rv b3, rv b33, iv 1, rv w_TRANSIENT, rv w_FAILED, .val (.long ((5 : Int64) - (p3.toInt64))), .second, rv w_FAILED] [.ref w_FAILED, .ref w_FAILED] _
                    refine Jvm.RoadKit.acmp (g := (mkF m 208 #[iv p1, iv p2, iv p3, iv 5, rv w_STANDARD_delays_elements_0, rv b3, rv b33, iv 1, rv w_TRANSIENT, rv w_FAILED, .val (.long ((5 : Int64) - (p3.toInt64))), .second, rv w_FAILED] [.ref w_FAILED, .ref w_FAILED])) X44 hx rfl rfl rfl (pc0 := 208) (pc' := 211) (same := true) rfl (hb hby at_208) rfl (decide_eq_true rfl) (by decide) (by decide) ?_
                    show Sq p e below m T44 211 #[iv p1, iv p2, iv p3, iv 5, rv w_STANDARD_delays_elements_0, rv b3, rv b33, iv 1, rv w_TRANSIENT, rv w_FAILED, .val (.long ((5 : Int64) - (p3.toInt64))), .second, rv w_FAILED] [] _
                    refine XS.iconst X44.here hx rfl (hb hby at_211) ?_
                    refine XS.goto X44.here hx rfl (pc0 := 212) (pc' := 216) rfl (hb hby at_212) (by decide) (by decide) ?_
                    show Sq p e below m T44 216 #[iv p1, iv p2, iv p3, iv 5, rv w_STANDARD_delays_elements_0, rv b3, rv b33, iv 1, rv w_TRANSIENT, rv w_FAILED, .val (.long ((5 : Int64) - (p3.toInt64))), .second, rv w_FAILED] [.int 1] _
                    exact retN X44 hx (t := .boolean) Bd.returns (by simp) (hb hby at_216) hr
                  · show Q_rm0 Z p1 p2 p3 (5 : Int32) w_STANDARD w_STANDARD_delays w_STANDARD_delays_elements w_STANDARD_delays_elements_0 w_TRANSIENT w_FAILED w_DATA w_PENDING w_STANDARD_delays_elements_1 w_STANDARD_delays_elements_2 w_STANDARD_delays_elements_3 w_STANDARD_delays_elements_4 w_DEF w_ELIST w_EMPTY w_ELIST_elements kdef kel k5 w_MIR h0 n0 _ T44.heap _
                    rw [e44]
                    exact ⟨rfl, N43⟩
            · obtain ⟨cq33, kq33, q33a, q33b, q33c⟩ := isOf hZ e29 A3
              obtain ⟨_, _, ⟨T33, L33, k33, n33⟩, -, X33, ⟨Lc33, hQ33, l33, y33, z33⟩, st33⟩ := X29.virtualBack hx (y := y_18) (z := y_18) hown (mvT hZ (W 116 rfl)) (mvT hZ (W 117 rfl)) (notFace_of_selects (args := #[]) (mvT hZ (W 119 rfl))) (mvT hZ (W 119 rfl)) (mvT hZ (W 118 rfl)) (by decide) (backOf (W := 0) (addg l Z a0 hw [] b3 w_STANDARD_delays_elements_0 b13b b13kb ((((((0 : Int32) + (1 : Int32)) + (1 : Int32)) + (1 : Int32)) + (1 : Int32)) + (1 : Int32)) (5 : Int32) (6 : Int32) [(.ref w_STANDARD_delays_elements_0), (.ref w_STANDARD_delays_elements_0), (.ref w_STANDARD_delays_elements_0), (.ref w_STANDARD_delays_elements_0), (.ref w_STANDARD_delays_elements_0), .null, .null, .null, .null, .null] [(.ref w_STANDARD_delays_elements_0), (.ref w_STANDARD_delays_elements_0), (.ref w_STANDARD_delays_elements_0), (.ref w_STANDARD_delays_elements_0), (.ref w_STANDARD_delays_elements_0), (.ref w_STANDARD_delays_elements_0), .null, .null, .null, .null] h29 n0 O30 A3 E_w_STANDARD_delays_elements_0 p29_1 p29_2 p29_3 g_b3 g_b13b ne_b3_b13b p29_4 p13_6 (by decide) (by decide) (by decide) rfl (Nat.le_of_ble_eq_true rfl)) hZ (W 120 rfl) (W 26 rfl) (by decide) (by decide)) q33a q33c (g := (mkF m 96 #[iv p1, iv p2, iv p3, iv n, rv w_STANDARD_delays_elements_0, rv b3, .unset, .unset, .unset, .unset, .unset, .unset, .unset] [.ref w_STANDARD_delays_elements_0, .ref b3])) rfl (by rw [hml]; rfl) (Steps.refl _) (argsL := [.ref w_STANDARD_delays_elements_0]) (rest := []) (lenOf pd_20 rfl) rfl (by show 2 * 0 + _ ≤ _; exact Nat.le_of_eq rfl) (hb hby at_96) (fun _ _ => ⟨rfl, e29, (by decide : 2 + 0 ≤ _), (by decide : 13 + 0 ≤ _)⟩)
              dsimp only [Pt.U, Pt.locs, Pt.cells, Pt.slots] at X33 l33 y33 z33 st33 hQ33
              subst l33 y33 z33
              obtain ⟨h33, e33⟩ : ∃ z, T33.heap = z := ⟨_, rfl⟩
              rw [e33] at hQ33
              obtain ⟨rfl, N33q, p33_0, p33_1, p33_2, p33_3, p33_4⟩ := hQ33
              have N33 := Fr.app N29 N33q
              have A3 := A3.keep p33_0
              have p13_7 := p13_7.keep p33_0
              have O34 := O30.keep p33_0 (allS g_b3 (allS g_b13b all0))
              have pre36 : ∀ t, Steps p.tables e below (T33.setTop (mkF m 100 #[iv p1, iv p2, iv p3, iv n, rv w_STANDARD_delays_elements_0, rv b3, .unset, .unset, .unset, .unset, .unset, .unset, .unset] [])) t → Steps p.tables e below (s₁.setTop (entryFrame m #[(.int p1), (.int p2), (.int p3)] maxLocals)) t := by
                intro t kt
                refine pre32 _ ?_
                show Sq p e below m T29 87 #[iv p1, iv p2, iv p3, iv n, rv w_STANDARD_delays_elements_0, rv b3, .unset, .unset, .unset, .unset, .unset, .unset, .unset] [] _
                refine XS.iloadN X29.here hx rfl (hb hby at_87) rfl ?_
                refine XS.iconst X29.here hx rfl (hb hby at_88) ?_
                show Sq p e below m T29 89 #[iv p1, iv p2, iv p3, iv n, rv w_STANDARD_delays_elements_0, rv b3, .unset, .unset, .unset, .unset, .unset, .unset, .unset] [.int 5, .int n] _
                refine XS.icmpNo X29.here hx rfl (hb hby at_89) rfl (tlt hs5).2.2.2 ?_
                refine XS.aload X29.here hx rfl (hb hby at_92) rfl rfl ?_
                show Sq p e below m T29 94 #[iv p1, iv p2, iv p3, iv n, rv w_STANDARD_delays_elements_0, rv b3, .unset, .unset, .unset, .unset, .unset, .unset, .unset] [.ref b3] _
                refine XS.aload X29.here hx rfl (hb hby at_94) rfl rfl ?_
                show Sq p e below m T29 96 #[iv p1, iv p2, iv p3, iv n, rv w_STANDARD_delays_elements_0, rv b3, .unset, .unset, .unset, .unset, .unset, .unset, .unset] [.ref w_STANDARD_delays_elements_0, .ref b3] _
                refine st33.trans ?_
                show Sq p e below m T33 99 #[iv p1, iv p2, iv p3, iv n, rv w_STANDARD_delays_elements_0, rv b3, .unset, .unset, .unset, .unset, .unset, .unset, .unset] [.int 1] _
                refine XS.pop X33.here hx rfl (hb hby at_99) rfl rfl ?_
                exact kt
              rcases own_s67 hbn hs5 with rfl | rfl
              · obtain ⟨T37, h37, X37, e37, E37, A37, D37, -, st37⟩ := newO X33 hx hZ hown (W 50 rfl) (W 51 rfl) (W 1 rfl) e33 (g := (mkF m 114 #[iv p1, iv p2, iv p3, iv 6, rv w_STANDARD_delays_elements_0, rv b3, .unset, .unset, .unset, .unset, .unset, .unset, .unset] [])) rfl (hb hby at_114) (by decide) (by decide)
                obtain ⟨b37, g37⟩ : ∃ z, z = h33.size := ⟨_, rfl⟩
                rw [← g37] at A37 D37 st37
                have g_b37 : n0 ≤ b37 := Nat.le_trans (own_sz O34) (Nat.le_of_eq g37.symm)
                have A3 := A3.ext E37
                have p13_7 := p13_7.ext E37
                have p33_1 := p33_1.ext E37
                have p33_2 := p33_2.ext E37
                have p33_4 := p33_4.ext E37
                have O38 := O34.ext E37
                have Fz40 : Fld Z h37 b37 "com/example/savitri/savitri/store/RedriveSchedule" "delays" "Ljava/util/List;" .null := D37 (Or.inr (W 9 rfl)) (ty := (.object "java/util/List")) (by decide)
                obtain ⟨_, _, ⟨T41, L41, k41, n41⟩, -, X41, ⟨Lc41, hQ41, l41, y41, z41⟩, st41⟩ := X37.specialBack hx (y := y_29) rfl hown (mvT hZ (W 52 rfl)) (mvT hZ (W 53 rfl)) (mvT hZ (W 54 rfl)) (by decide) (backOf (W := 1) (recin6 l Z a0 hw [] b37 b3 b13b b13kb w_STANDARD_delays_elements_0 w_MIR h37 n0 O38 A37 Fz40 g_b37 A3 p33_4 E_w_STANDARD_delays_elements_0 Mo p13_7 p33_1 p33_2) hZ (W 54 rfl) (W 1 rfl) (by decide) (by decide)) (g := (mkF m 120 #[iv p1, iv p2, iv p3, iv 6, rv w_STANDARD_delays_elements_0, rv b3, .unset, .unset, .unset, .unset, .unset, .unset, .unset] [.ref b3, .ref b37, .ref b37])) rfl (by rw [hml]; rfl) (Steps.refl _) (a := b37) (argsL := [.ref b3]) (rest := [.ref b37]) (lenOf pd_18 rfl) rfl (by show 2 * 0 + _ ≤ _; exact Nat.le_of_eq rfl) (hb hby at_120) (fun _ _ => ⟨rfl, e37, (by decide : 3 + 3 ≤ _), (by decide : 14 + 15 ≤ _)⟩)
                dsimp only [Pt.U, Pt.locs, Pt.cells, Pt.slots] at X41 l41 y41 z41 st41 hQ41
                subst l41 y41 z41
                obtain ⟨h41, e41⟩ : ∃ z, T41.heap = z := ⟨_, rfl⟩
                rw [e41] at hQ41
                obtain ⟨b41r, b41g, b41kg, rfl, N41q, p41_0, p41_1, p41_2, p41_3, p41_4, p41_5, p41_6⟩ := hQ41
                have N41 := Fr.app N33 N41q
                have A37 := A37.keep p41_0
                have O42 := O38.keep p41_0 (allS g_b37 all0)
                have pre44 : ∀ t, Steps p.tables e below (T41.setTop (mkF m 128 #[iv p1, iv p2, iv p3, iv 6, rv w_STANDARD_delays_elements_0, rv b3, rv b37, .unset, .unset, .unset, .unset, .unset, .unset] [.int (p2 &&& (1 : Int32))])) t → Steps p.tables e below (s₁.setTop (entryFrame m #[(.int p1), (.int p2), (.int p3)] maxLocals)) t := by
                  intro t kt
                  refine pre36 _ ?_
                  show Sq p e below m T33 100 #[iv p1, iv p2, iv p3, iv 6, rv w_STANDARD_delays_elements_0, rv b3, .unset, .unset, .unset, .unset, .unset, .unset, .unset] [] _
                  refine XS.iloadN X33.here hx rfl (hb hby at_100) rfl ?_
                  refine XS.bipush X33.here hx rfl (hb hby at_101) ?_
                  show Sq p e below m T33 103 #[iv p1, iv p2, iv p3, iv 6, rv w_STANDARD_delays_elements_0, rv b3, .unset, .unset, .unset, .unset, .unset, .unset, .unset] [.int 6, .int 6] _
                  refine XS.icmpYes X33.here hx rfl (pc0 := 103) (pc' := 114) rfl (hb hby at_103) rfl (flt (by decide)).2.2.2 (by decide) (by decide) ?_
                  show Sq p e below m T33 114 #[iv p1, iv p2, iv p3, iv 6, rv w_STANDARD_delays_elements_0, rv b3, .unset, .unset, .unset, .unset, .unset, .unset, .unset] [] _
                  refine st37 _ ?_
                  show Sq p e below m T37 117 #[iv p1, iv p2, iv p3, iv 6, rv w_STANDARD_delays_elements_0, rv b3, .unset, .unset, .unset, .unset, .unset, .unset, .unset] [.ref b37] _
                  refine XS.dup X37.here hx rfl (hb hby at_117) rfl rfl ?_
                  refine XS.aload X37.here hx rfl (hb hby at_118) rfl rfl ?_
                  show Sq p e below m T37 120 #[iv p1, iv p2, iv p3, iv 6, rv w_STANDARD_delays_elements_0, rv b3, .unset, .unset, .unset, .unset, .unset, .unset, .unset] [.ref b3, .ref b37, .ref b37] _
                  refine st41.trans ?_
                  show Sq p e below m T41 123 #[iv p1, iv p2, iv p3, iv 6, rv w_STANDARD_delays_elements_0, rv b3, .unset, .unset, .unset, .unset, .unset, .unset, .unset] [.ref b37] _
                  refine XS.astore X41.here hx rfl (hb hby at_123) rfl rfl rfl ?_
                  refine XS.iloadN X41.here hx rfl (hb hby at_125) rfl ?_
                  show Sq p e below m T41 126 #[iv p1, iv p2, iv p3, iv 6, rv w_STANDARD_delays_elements_0, rv b3, rv b37, .unset, .unset, .unset, .unset, .unset, .unset] [.int p2] _
                  refine XS.iconst X41.here hx rfl (hb hby at_126) ?_
                  refine XS.iand X41.here hx rfl (hb hby at_127) rfl ?_
                  exact kt
                by_cases hc128 : (p2 &&& (1 : Int32)) = (0 : Int32)
                · obtain ⟨T45, X45, e45, st45⟩ := getS2 X41 hx hZ hown (host := "") (Or.inl (W 208 rfl)) Via.refl e41 (S_w_DATA.ext O42.2) (g := (mkF m 149 #[iv p1, iv p2, iv p3, iv 6, rv w_STANDARD_delays_elements_0, rv b3, rv b37, iv 0, .unset, .unset, .unset, .unset, .unset] [])) rfl (hb hby at_149)
                  obtain ⟨cq46, kq46, q46a, q46b, q46c⟩ := isOf hZ e45 A37
                  obtain ⟨_, _, ⟨T46, L46, k46, n46⟩, -, X46, ⟨Lc46, hQ46, l46, y46, z46⟩, st46⟩ := X45.virtualBack hx (y := y_35) (z := y_35) hown (mvT hZ (W 93 rfl)) (mvT hZ (W 94 rfl)) (notFace_of_selects (args := #[]) (mvT hZ (W 96 rfl))) (mvT hZ (W 96 rfl)) (mvT hZ (W 95 rfl)) (by decide) (backOf (W := 0) (stD l Z a0 hw [] b37 p3 w_DATA w_TRANSIENT w_FAILED h41 n0 O42 S_w_TRANSIENT S_w_FAILED nek) hZ (W 97 rfl) (W 1 rfl) (by decide) (by decide)) q46a q46c (g := (mkF m 159 #[iv p1, iv p2, iv p3, iv 6, rv w_STANDARD_delays_elements_0, rv b3, rv b37, iv 0, rv w_DATA, .unset, .unset, .unset, .unset] [.int p3, .ref w_DATA, .ref b37])) rfl (by rw [hml]; rfl) (Steps.refl _) (argsL := [.ref w_DATA, .int p3]) (rest := []) (lenOf pd_19 rfl) rfl (by show 2 * 0 + _ ≤ _; exact Nat.le_of_eq rfl) (hb hby at_159) (fun _ _ => ⟨rfl, e45, (by decide : 6 + 0 ≤ _), (by decide : 29 + 0 ≤ _)⟩)
                  dsimp only [Pt.U, Pt.locs, Pt.cells, Pt.slots] at X46 l46 y46 z46 st46 hQ46
                  subst l46 y46 z46
                  obtain ⟨h46, e46⟩ : ∃ z, T46.heap = z := ⟨_, rfl⟩
                  rw [e46] at hQ46
                  obtain ⟨rfl, N46q, p46_0⟩ := hQ46
                  have N46 := Fr.app N41 N46q
                  rw [p46_0] at e46
                  obtain ⟨T47, X47, e47, st47⟩ := getS2 X46 hx hZ hown (host := "") (Or.inl (W 115 rfl)) Via.refl e46 (S_w_FAILED.ext O42.2) (g := (mkF m 176 #[iv p1, iv p2, iv p3, iv 6, rv w_STANDARD_delays_elements_0, rv b3, rv b37, iv 0, rv w_DATA, rv w_FAILED, .val (.long ((6 : Int64) - (p3.toInt64))), .second, .unset] [])) rfl (hb hby at_176)
                  obtain ⟨fs, hr, hrun, hended, hW, hsame⟩ := X47.leave (v := some (.int (1 : Int32))) (fun h => by rw [Bd.returns] at h; cases h)
                  refine ⟨_, _, pre44 _ ?_, hrun, hended, _, _, rfl, ?_, ⟨_, rfl⟩, hW, hsame.mono (by decide) (by decide)⟩
                  · show Sq p e below m T41 128 #[iv p1, iv p2, iv p3, iv 6, rv w_STANDARD_delays_elements_0, rv b3, rv b37, .unset, .unset, .unset, .unset, .unset, .unset] [.int (p2 &&& (1 : Int32))] _
                    refine XS.ifYes X41.here hx rfl (pc0 := 128) (pc' := 135) rfl (hb hby at_128) rfl ((if0 _ _).trans (teq hc128).1) (by decide) (by decide) ?_
                    refine XS.iconst X41.here hx rfl (hb hby at_135) ?_
                    show Sq p e below m T41 136 #[iv p1, iv p2, iv p3, iv 6, rv w_STANDARD_delays_elements_0, rv b3, rv b37, .unset, .unset, .unset, .unset, .unset, .unset] [.int 0] _
                    refine XS.istore X41.here hx rfl (hb hby at_136) rfl rfl ?_
                    refine XS.iload X41.here hx rfl (hb hby at_138) rfl ?_
                    show Sq p e below m T41 140 #[iv p1, iv p2, iv p3, iv 6, rv w_STANDARD_delays_elements_0, rv b3, rv b37, iv 0, .unset, .unset, .unset, .unset, .unset] [.int 0] _
                    refine XS.ifYes X41.here hx rfl (pc0 := 140) (pc' := 149) rfl (hb hby at_140) rfl ((if0 _ _).trans (teq (rfl : (0 : Int32) = (0 : Int32))).1) (by decide) (by decide) ?_
                    show Sq p e below m T41 149 #[iv p1, iv p2, iv p3, iv 6, rv w_STANDARD_delays_elements_0, rv b3, rv b37, iv 0, .unset, .unset, .unset, .unset, .unset] [] _
                    refine st45 _ ?_
                    show Sq p e below m T45 152 #[iv p1, iv p2, iv p3, iv 6, rv w_STANDARD_delays_elements_0, rv b3, rv b37, iv 0, .unset, .unset, .unset, .unset, .unset] [.ref w_DATA] _
                    refine XS.astore X45.here hx rfl (hb hby at_152) rfl rfl rfl ?_
                    refine XS.aload X45.here hx rfl (hb hby at_154) rfl rfl ?_
                    show Sq p e below m T45 156 #[iv p1, iv p2, iv p3, iv 6, rv w_STANDARD_delays_elements_0, rv b3, rv b37, iv 0, rv w_DATA, .unset, .unset, .unset, .unset] [.ref b37] _
                    refine XS.aload X45.here hx rfl (hb hby at_156) rfl rfl ?_
                    refine XS.iloadN X45.here hx rfl (hb hby at_158) rfl ?_
                    show Sq p e below m T45 159 #[iv p1, iv p2, iv p3, iv 6, rv w_STANDARD_delays_elements_0, rv b3, rv b37, iv 0, rv w_DATA, .unset, .unset, .unset, .unset] [.int p3, .ref w_DATA, .ref b37] _
                    refine st46.trans ?_
                    show Sq p e below m T46 162 #[iv p1, iv p2, iv p3, iv 6, rv w_STANDARD_delays_elements_0, rv b3, rv b37, iv 0, rv w_DATA, .unset, .unset, .unset, .unset] [.ref w_FAILED] _
                    refine XS.astore X46.here hx rfl (hb hby at_162) rfl rfl rfl ?_
                    refine XS.iloadN X46.here hx rfl (hb hby at_164) rfl ?_
                    show Sq p e below m T46 165 #[iv p1, iv p2, iv p3, iv 6, rv w_STANDARD_delays_elements_0, rv b3, rv b37, iv 0, rv w_DATA, rv w_FAILED, .unset, .unset, .unset] [.int 6] _
                    refine XS.i2l X46.here hx rfl (hb hby at_165) rfl ?_
                    show Sq p e below m T46 166 #[iv p1, iv p2, iv p3, iv 6, rv w_STANDARD_delays_elements_0, rv b3, rv b37, iv 0, rv w_DATA, rv w_FAILED, .unset, .unset, .unset] [.long ((6 : Int32).toInt64)] _
                    rw [show ((6 : Int32).toInt64) = (6 : Int64) from by decide]
                    show Sq p e below m T46 166 #[iv p1, iv p2, iv p3, iv 6, rv w_STANDARD_delays_elements_0, rv b3, rv b37, iv 0, rv w_DATA, rv w_FAILED, .unset, .unset, .unset] [.long 6] _
                    refine XS.iloadN X46.here hx rfl (hb hby at_166) rfl ?_
                    refine XS.i2l X46.here hx rfl (hb hby at_167) rfl ?_
                    show Sq p e below m T46 168 #[iv p1, iv p2, iv p3, iv 6, rv w_STANDARD_delays_elements_0, rv b3, rv b37, iv 0, rv w_DATA, rv w_FAILED, .unset, .unset, .unset] [.long (p3.toInt64), .long 6] _
                    refine XS.lsub X46.here hx rfl (hb hby at_168) rfl ?_
                    refine XS.lstore X46.here hx rfl (hb hby at_169) rfl rfl ?_
                    show Sq p e below m T46 171 #[iv p1, iv p2, iv p3, iv 6, rv w_STANDARD_delays_elements_0, rv b3, rv b37, iv 0, rv w_DATA, rv w_FAILED, .val (.long ((6 : Int64) - (p3.toInt64))), .second, .unset] [] _
                    refine XS.iload X46.here hx rfl (hb hby at_171) rfl ?_
                    refine XS.ifNo X46.here hx rfl (hb hby at_173) rfl ((if0 _ _).trans (teq (rfl : (0 : Int32) = (0 : Int32))).2) ?_
                    show Sq p e below m T46 176 #[iv p1, iv p2, iv p3, iv 6, rv w_STANDARD_delays_elements_0, rv b3, rv b37, iv 0, rv w_DATA, rv w_FAILED, .val (.long ((6 : Int64) - (p3.toInt64))), .second, .unset] [] _
                    refine st47 _ ?_
                    show Sq p e below m T47 179 #[iv p1, iv p2, iv p3, iv 6, rv w_STANDARD_delays_elements_0, rv b3, rv b37, iv 0, rv w_DATA, rv w_FAILED, .val (.long ((6 : Int64) - (p3.toInt64))), .second, .unset] [.ref w_FAILED] _
                    refine XS.astore X47.here hx rfl (hb hby at_179) rfl rfl rfl ?_
                    refine XS.goto X47.here hx rfl (pc0 := 181) (pc' := 204) rfl (hb hby at_181) (by decide) (by decide) ?_
                    show Sq p e below m T47 204 #[iv p1, iv p2, iv p3, iv 6, rv w_STANDARD_delays_elements_0, rv b3, rv b37, iv 0, rv w_DATA, rv w_FAILED, .val (.long ((6 : Int64) - (p3.toInt64))), .second, rv w_FAILED] [] _
                    refine XS.aload X47.here hx rfl (hb hby at_204) rfl rfl ?_
                    refine XS.aload X47.here hx rfl (hb hby at_206) rfl rfl ?_
                    show Sq p e below m T47 208 #[iv p1, iv p2, iv p3, iv 6, rv w_STANDARD_delays_elements_0, rv b3, rv b37, iv 0, rv w_DATA, rv w_FAILED, .val (.long ((6 : Int64) - (p3.toInt64))), .second, rv w_FAILED] [.ref w_FAILED, .ref w_FAILED] _
                    refine Jvm.RoadKit.acmp (g := (mkF m 208 #[iv p1, iv p2, iv p3, iv 6, rv w_STANDARD_delays_elements_0, rv b3, rv b37, iv 0, rv w_DATA, rv w_FAILED, .val (.long ((6 : Int64) - (p3.toInt64))), .second, rv w_FAILED] [.ref w_FAILED, .ref w_FAILED])) X47 hx rfl rfl rfl (pc0 := 208) (pc' := 211) (same := true) rfl (hb hby at_208) rfl (decide_eq_true rfl) (by decide) (by decide) ?_
                    show Sq p e below m T47 211 #[iv p1, iv p2, iv p3, iv 6, rv w_STANDARD_delays_elements_0, rv b3, rv b37, iv 0, rv w_DATA, rv w_FAILED, .val (.long ((6 : Int64) - (p3.toInt64))), .second, rv w_FAILED] [] _
                    refine XS.iconst X47.here hx rfl (hb hby at_211) ?_
                    refine XS.goto X47.here hx rfl (pc0 := 212) (pc' := 216) rfl (hb hby at_212) (by decide) (by decide) ?_
                    show Sq p e below m T47 216 #[iv p1, iv p2, iv p3, iv 6, rv w_STANDARD_delays_elements_0, rv b3, rv b37, iv 0, rv w_DATA, rv w_FAILED, .val (.long ((6 : Int64) - (p3.toInt64))), .second, rv w_FAILED] [.int 1] _
                    exact retN X47 hx (t := .boolean) Bd.returns (by simp) (hb hby at_216) hr
                  · show Q_rm0 Z p1 p2 p3 (6 : Int32) w_STANDARD w_STANDARD_delays w_STANDARD_delays_elements w_STANDARD_delays_elements_0 w_TRANSIENT w_FAILED w_DATA w_PENDING w_STANDARD_delays_elements_1 w_STANDARD_delays_elements_2 w_STANDARD_delays_elements_3 w_STANDARD_delays_elements_4 w_DEF w_ELIST w_EMPTY w_ELIST_elements kdef kel k5 w_MIR h0 n0 _ T47.heap _
                    rw [e47]
                    exact ⟨rfl, N46⟩
                · obtain ⟨T45, X45, e45, st45⟩ := getS2 X41 hx hZ hown (host := "") (Or.inl (W 90 rfl)) Via.refl e41 (S_w_TRANSIENT.ext O42.2) (g := (mkF m 143 #[iv p1, iv p2, iv p3, iv 6, rv w_STANDARD_delays_elements_0, rv b3, rv b37, iv 1, .unset, .unset, .unset, .unset, .unset] [])) rfl (hb hby at_143)
                  have pre46 : ∀ t, Steps p.tables e below (T45.setTop (mkF m 154 #[iv p1, iv p2, iv p3, iv 6, rv w_STANDARD_delays_elements_0, rv b3, rv b37, iv 1, rv w_TRANSIENT, .unset, .unset, .unset, .unset] [])) t → Steps p.tables e below (s₁.setTop (entryFrame m #[(.int p1), (.int p2), (.int p3)] maxLocals)) t := by
                    intro t kt
                    refine pre44 _ ?_
                    show Sq p e below m T41 128 #[iv p1, iv p2, iv p3, iv 6, rv w_STANDARD_delays_elements_0, rv b3, rv b37, .unset, .unset, .unset, .unset, .unset, .unset] [.int (p2 &&& (1 : Int32))] _
                    refine XS.ifNo X41.here hx rfl (hb hby at_128) rfl ((if0 _ _).trans (feq hc128).1) ?_
                    refine XS.iconst X41.here hx rfl (hb hby at_131) ?_
                    show Sq p e below m T41 132 #[iv p1, iv p2, iv p3, iv 6, rv w_STANDARD_delays_elements_0, rv b3, rv b37, .unset, .unset, .unset, .unset, .unset, .unset] [.int 1] _
                    refine XS.goto X41.here hx rfl (pc0 := 132) (pc' := 136) rfl (hb hby at_132) (by decide) (by decide) ?_
                    refine XS.istore X41.here hx rfl (hb hby at_136) rfl rfl ?_
                    show Sq p e below m T41 138 #[iv p1, iv p2, iv p3, iv 6, rv w_STANDARD_delays_elements_0, rv b3, rv b37, iv 1, .unset, .unset, .unset, .unset, .unset] [] _
                    refine XS.iload X41.here hx rfl (hb hby at_138) rfl ?_
                    refine XS.ifNo X41.here hx rfl (hb hby at_140) rfl ((if0 _ _).trans (feq (by decide)).1) ?_
                    show Sq p e below m T41 143 #[iv p1, iv p2, iv p3, iv 6, rv w_STANDARD_delays_elements_0, rv b3, rv b37, iv 1, .unset, .unset, .unset, .unset, .unset] [] _
                    refine st45 _ ?_
                    show Sq p e below m T45 146 #[iv p1, iv p2, iv p3, iv 6, rv w_STANDARD_delays_elements_0, rv b3, rv b37, iv 1, .unset, .unset, .unset, .unset, .unset] [.ref w_TRANSIENT] _
                    refine XS.goto X45.here hx rfl (pc0 := 146) (pc' := 152) rfl (hb hby at_146) (by decide) (by decide) ?_
                    refine XS.astore X45.here hx rfl (hb hby at_152) rfl rfl rfl ?_
                    exact kt
                  rcases Decidable.em (p3 < (6 : Int32)) with hrk | hrk
                  · obtain ⟨cq47, kq47, q47a, q47b, q47c⟩ := isOf hZ e45 A37
                    obtain ⟨_, _, ⟨T47, L47, k47, n47⟩, -, X47, ⟨Lc47, hQ47, l47, y47, z47⟩, st47⟩ := X45.virtualBack hx (y := y_35) (z := y_35) hown (mvT hZ (W 93 rfl)) (mvT hZ (W 94 rfl)) (notFace_of_selects (args := #[]) (mvT hZ (W 96 rfl))) (mvT hZ (W 96 rfl)) (mvT hZ (W 95 rfl)) (by decide) (backOf (W := 0) (sqN1 l Z a0 hw [] b37 p3 w_TRANSIENT w_PENDING b41r b41g b41kg (6 : Int32) [(.ref w_STANDARD_delays_elements_0), (.ref w_STANDARD_delays_elements_0), (.ref w_STANDARD_delays_elements_0), (.ref w_STANDARD_delays_elements_0), (.ref w_STANDARD_delays_elements_0), (.ref w_STANDARD_delays_elements_0)] h41 n0 O42 A37 p41_3 p41_4 p41_5 p41_6 S_w_TRANSIENT S_w_PENDING hrk) hZ (W 97 rfl) (W 1 rfl) (by decide) (by decide)) q47a q47c (g := (mkF m 159 #[iv p1, iv p2, iv p3, iv 6, rv w_STANDARD_delays_elements_0, rv b3, rv b37, iv 1, rv w_TRANSIENT, .unset, .unset, .unset, .unset] [.int p3, .ref w_TRANSIENT, .ref b37])) rfl (by rw [hml]; rfl) (Steps.refl _) (argsL := [.ref w_TRANSIENT, .int p3]) (rest := []) (lenOf pd_19 rfl) rfl (by show 2 * 0 + _ ≤ _; exact Nat.le_of_eq rfl) (hb hby at_159) (fun _ _ => ⟨rfl, e45, (by decide : 6 + 0 ≤ _), (by decide : 29 + 0 ≤ _)⟩)
                    dsimp only [Pt.U, Pt.locs, Pt.cells, Pt.slots] at X47 l47 y47 z47 st47 hQ47
                    subst l47 y47 z47
                    obtain ⟨h47, e47⟩ : ∃ z, T47.heap = z := ⟨_, rfl⟩
                    rw [e47] at hQ47
                    obtain ⟨rfl, N47q, p47_0⟩ := hQ47
                    have N47 := Fr.app N41 N47q
                    rw [p47_0] at e47
                    obtain ⟨T48, X48, e48, st48⟩ := getS2 X47 hx hZ hown (host := "") (Or.inl (W 237 rfl)) Via.refl e47 (S_w_PENDING.ext O42.2) (g := (mkF m 191 #[iv p1, iv p2, iv p3, iv 6, rv w_STANDARD_delays_elements_0, rv b3, rv b37, iv 1, rv w_TRANSIENT, rv w_PENDING, .val (.long ((6 : Int64) - (p3.toInt64))), .second, .unset] [])) rfl (hb hby at_191)
                    obtain ⟨fs, hr, hrun, hended, hW, hsame⟩ := X48.leave (v := some (.int (1 : Int32))) (fun h => by rw [Bd.returns] at h; cases h)
                    refine ⟨_, _, pre46 _ ?_, hrun, hended, _, _, rfl, ?_, ⟨_, rfl⟩, hW, hsame.mono (by decide) (by decide)⟩
                    · show Sq p e below m T45 154 #[iv p1, iv p2, iv p3, iv 6, rv w_STANDARD_delays_elements_0, rv b3, rv b37, iv 1, rv w_TRANSIENT, .unset, .unset, .unset, .unset] [] _
                      refine XS.aload X45.here hx rfl (hb hby at_154) rfl rfl ?_
                      refine XS.aload X45.here hx rfl (hb hby at_156) rfl rfl ?_
                      show Sq p e below m T45 158 #[iv p1, iv p2, iv p3, iv 6, rv w_STANDARD_delays_elements_0, rv b3, rv b37, iv 1, rv w_TRANSIENT, .unset, .unset, .unset, .unset] [.ref w_TRANSIENT, .ref b37] _
                      refine XS.iloadN X45.here hx rfl (hb hby at_158) rfl ?_
                      show Sq p e below m T45 159 #[iv p1, iv p2, iv p3, iv 6, rv w_STANDARD_delays_elements_0, rv b3, rv b37, iv 1, rv w_TRANSIENT, .unset, .unset, .unset, .unset] [.int p3, .ref w_TRANSIENT, .ref b37] _
                      refine st47.trans ?_
                      show Sq p e below m T47 162 #[iv p1, iv p2, iv p3, iv 6, rv w_STANDARD_delays_elements_0, rv b3, rv b37, iv 1, rv w_TRANSIENT, .unset, .unset, .unset, .unset] [.ref w_PENDING] _
                      refine XS.astore X47.here hx rfl (hb hby at_162) rfl rfl rfl ?_
                      refine XS.iloadN X47.here hx rfl (hb hby at_164) rfl ?_
                      show Sq p e below m T47 165 #[iv p1, iv p2, iv p3, iv 6, rv w_STANDARD_delays_elements_0, rv b3, rv b37, iv 1, rv w_TRANSIENT, rv w_PENDING, .unset, .unset, .unset] [.int 6] _
                      refine XS.i2l X47.here hx rfl (hb hby at_165) rfl ?_
                      show Sq p e below m T47 166 #[iv p1, iv p2, iv p3, iv 6, rv w_STANDARD_delays_elements_0, rv b3, rv b37, iv 1, rv w_TRANSIENT, rv w_PENDING, .unset, .unset, .unset] [.long ((6 : Int32).toInt64)] _
                      rw [show ((6 : Int32).toInt64) = (6 : Int64) from by decide]
                      show Sq p e below m T47 166 #[iv p1, iv p2, iv p3, iv 6, rv w_STANDARD_delays_elements_0, rv b3, rv b37, iv 1, rv w_TRANSIENT, rv w_PENDING, .unset, .unset, .unset] [.long 6] _
                      refine XS.iloadN X47.here hx rfl (hb hby at_166) rfl ?_
                      refine XS.i2l X47.here hx rfl (hb hby at_167) rfl ?_
                      show Sq p e below m T47 168 #[iv p1, iv p2, iv p3, iv 6, rv w_STANDARD_delays_elements_0, rv b3, rv b37, iv 1, rv w_TRANSIENT, rv w_PENDING, .unset, .unset, .unset] [.long (p3.toInt64), .long 6] _
                      refine XS.lsub X47.here hx rfl (hb hby at_168) rfl ?_
                      refine XS.lstore X47.here hx rfl (hb hby at_169) rfl rfl ?_
                      show Sq p e below m T47 171 #[iv p1, iv p2, iv p3, iv 6, rv w_STANDARD_delays_elements_0, rv b3, rv b37, iv 1, rv w_TRANSIENT, rv w_PENDING, .val (.long ((6 : Int64) - (p3.toInt64))), .second, .unset] [] _
                      refine XS.iload X47.here hx rfl (hb hby at_171) rfl ?_
                      refine XS.ifYes X47.here hx rfl (pc0 := 173) (pc' := 184) rfl (hb hby at_173) rfl ((if0 _ _).trans (feq (by decide)).2) (by decide) (by decide) ?_
                      show Sq p e below m T47 184 #[iv p1, iv p2, iv p3, iv 6, rv w_STANDARD_delays_elements_0, rv b3, rv b37, iv 1, rv w_TRANSIENT, rv w_PENDING, .val (.long ((6 : Int64) - (p3.toInt64))), .second, .unset] [] _
                      refine XS.lload X47.here hx rfl (hb hby at_184) rfl ?_
                      refine XS.lconst X47.here hx rfl (hb hby at_186) ?_
                      show Sq p e below m T47 187 #[iv p1, iv p2, iv p3, iv 6, rv w_STANDARD_delays_elements_0, rv b3, rv b37, iv 1, rv w_TRANSIENT, rv w_PENDING, .val (.long ((6 : Int64) - (p3.toInt64))), .second, .unset] [.long 1, .long ((6 : Int64) - (p3.toInt64))] _
                      refine XS.lcmp X47.here hx rfl (hb hby at_187) rfl ?_
                      refine XS.ifNo X47.here hx rfl (hb hby at_188) rfl ((if0 _ _).trans (flt (own_lf (k := (6 : Int32)) (by decide) hrk)).1) ?_
                      show Sq p e below m T47 191 #[iv p1, iv p2, iv p3, iv 6, rv w_STANDARD_delays_elements_0, rv b3, rv b37, iv 1, rv w_TRANSIENT, rv w_PENDING, .val (.long ((6 : Int64) - (p3.toInt64))), .second, .unset] [] _
                      refine st48 _ ?_
                      show Sq p e below m T48 194 #[iv p1, iv p2, iv p3, iv 6, rv w_STANDARD_delays_elements_0, rv b3, rv b37, iv 1, rv w_TRANSIENT, rv w_PENDING, .val (.long ((6 : Int64) - (p3.toInt64))), .second, .unset] [.ref w_PENDING] _
                      refine XS.astore X48.here hx rfl (hb hby at_194) rfl rfl rfl ?_
                      refine XS.goto X48.here hx rfl (pc0 := 196) (pc' := 204) rfl (hb hby at_196) (by decide) (by decide) ?_
                      show Sq p e below m T48 204 #[iv p1, iv p2, iv p3, iv 6, rv w_STANDARD_delays_elements_0, rv b3, rv b37, iv 1, rv w_TRANSIENT, rv w_PENDING, .val (.long ((6 : Int64) - (p3.toInt64))), .second, rv w_PENDING] [] _
                      refine XS.aload X48.here hx rfl (hb hby at_204) rfl rfl ?_
                      refine XS.aload X48.here hx rfl (hb hby at_206) rfl rfl ?_
                      show Sq p e below m T48 208 #[iv p1, iv p2, iv p3, iv 6, rv w_STANDARD_delays_elements_0, rv b3, rv b37, iv 1, rv w_TRANSIENT, rv w_PENDING, .val (.long ((6 : Int64) - (p3.toInt64))), .second, rv w_PENDING] [.ref w_PENDING, .ref w_PENDING] _
                      refine Jvm.RoadKit.acmp (g := (mkF m 208 #[iv p1, iv p2, iv p3, iv 6, rv w_STANDARD_delays_elements_0, rv b3, rv b37, iv 1, rv w_TRANSIENT, rv w_PENDING, .val (.long ((6 : Int64) - (p3.toInt64))), .second, rv w_PENDING] [.ref w_PENDING, .ref w_PENDING])) X48 hx rfl rfl rfl (pc0 := 208) (pc' := 211) (same := true) rfl (hb hby at_208) rfl (decide_eq_true rfl) (by decide) (by decide) ?_
                      show Sq p e below m T48 211 #[iv p1, iv p2, iv p3, iv 6, rv w_STANDARD_delays_elements_0, rv b3, rv b37, iv 1, rv w_TRANSIENT, rv w_PENDING, .val (.long ((6 : Int64) - (p3.toInt64))), .second, rv w_PENDING] [] _
                      refine XS.iconst X48.here hx rfl (hb hby at_211) ?_
                      refine XS.goto X48.here hx rfl (pc0 := 212) (pc' := 216) rfl (hb hby at_212) (by decide) (by decide) ?_
                      show Sq p e below m T48 216 #[iv p1, iv p2, iv p3, iv 6, rv w_STANDARD_delays_elements_0, rv b3, rv b37, iv 1, rv w_TRANSIENT, rv w_PENDING, .val (.long ((6 : Int64) - (p3.toInt64))), .second, rv w_PENDING] [.int 1] _
                      exact retN X48 hx (t := .boolean) Bd.returns (by simp) (hb hby at_216) hr
                    · show Q_rm0 Z p1 p2 p3 (6 : Int32) w_STANDARD w_STANDARD_delays w_STANDARD_delays_elements w_STANDARD_delays_elements_0 w_TRANSIENT w_FAILED w_DATA w_PENDING w_STANDARD_delays_elements_1 w_STANDARD_delays_elements_2 w_STANDARD_delays_elements_3 w_STANDARD_delays_elements_4 w_DEF w_ELIST w_EMPTY w_ELIST_elements kdef kel k5 w_MIR h0 n0 _ T48.heap _
                      rw [e48]
                      exact ⟨rfl, N47⟩
                  · obtain ⟨cq47, kq47, q47a, q47b, q47c⟩ := isOf hZ e45 A37
                    obtain ⟨_, _, ⟨T47, L47, k47, n47⟩, -, X47, ⟨Lc47, hQ47, l47, y47, z47⟩, st47⟩ := X45.virtualBack hx (y := y_35) (z := y_35) hown (mvT hZ (W 93 rfl)) (mvT hZ (W 94 rfl)) (notFace_of_selects (args := #[]) (mvT hZ (W 96 rfl))) (mvT hZ (W 96 rfl)) (mvT hZ (W 95 rfl)) (by decide) (backOf (W := 0) (sqN0 l Z a0 hw [] b37 p3 w_TRANSIENT w_FAILED b41r b41g b41kg (6 : Int32) [(.ref w_STANDARD_delays_elements_0), (.ref w_STANDARD_delays_elements_0), (.ref w_STANDARD_delays_elements_0), (.ref w_STANDARD_delays_elements_0), (.ref w_STANDARD_delays_elements_0), (.ref w_STANDARD_delays_elements_0)] h41 n0 O42 A37 p41_3 p41_4 p41_5 p41_6 S_w_TRANSIENT S_w_FAILED hrk) hZ (W 97 rfl) (W 1 rfl) (by decide) (by decide)) q47a q47c (g := (mkF m 159 #[iv p1, iv p2, iv p3, iv 6, rv w_STANDARD_delays_elements_0, rv b3, rv b37, iv 1, rv w_TRANSIENT, .unset, .unset, .unset, .unset] [.int p3, .ref w_TRANSIENT, .ref b37])) rfl (by rw [hml]; rfl) (Steps.refl _) (argsL := [.ref w_TRANSIENT, .int p3]) (rest := []) (lenOf pd_19 rfl) rfl (by show 2 * 0 + _ ≤ _; exact Nat.le_of_eq rfl) (hb hby at_159) (fun _ _ => ⟨rfl, e45, (by decide : 6 + 0 ≤ _), (by decide : 29 + 0 ≤ _)⟩)
                    dsimp only [Pt.U, Pt.locs, Pt.cells, Pt.slots] at X47 l47 y47 z47 st47 hQ47
                    subst l47 y47 z47
                    obtain ⟨h47, e47⟩ : ∃ z, T47.heap = z := ⟨_, rfl⟩
                    rw [e47] at hQ47
                    obtain ⟨rfl, N47q, p47_0⟩ := hQ47
                    have N47 := Fr.app N41 N47q
                    rw [p47_0] at e47
                    obtain ⟨T48, X48, e48, st48⟩ := getS2 X47 hx hZ hown (host := "") (Or.inl (W 115 rfl)) Via.refl e47 (S_w_FAILED.ext O42.2) (g := (mkF m 199 #[iv p1, iv p2, iv p3, iv 6, rv w_STANDARD_delays_elements_0, rv b3, rv b37, iv 1, rv w_TRANSIENT, rv w_FAILED, .val (.long ((6 : Int64) - (p3.toInt64))), .second, .unset] [])) rfl (hb hby at_199)
                    obtain ⟨fs, hr, hrun, hended, hW, hsame⟩ := X48.leave (v := some (.int (1 : Int32))) (fun h => by rw [Bd.returns] at h; cases h)
                    refine ⟨_, _, pre46 _ ?_, hrun, hended, _, _, rfl, ?_, ⟨_, rfl⟩, hW, hsame.mono (by decide) (by decide)⟩
                    · show Sq p e below m T45 154 #[iv p1, iv p2, iv p3, iv 6, rv w_STANDARD_delays_elements_0, rv b3, rv b37, iv 1, rv w_TRANSIENT, .unset, .unset, .unset, .unset] [] _
                      refine XS.aload X45.here hx rfl (hb hby at_154) rfl rfl ?_
                      refine XS.aload X45.here hx rfl (hb hby at_156) rfl rfl ?_
                      show Sq p e below m T45 158 #[iv p1, iv p2, iv p3, iv 6, rv w_STANDARD_delays_elements_0, rv b3, rv b37, iv 1, rv w_TRANSIENT, .unset, .unset, .unset, .unset] [.ref w_TRANSIENT, .ref b37] _
                      refine XS.iloadN X45.here hx rfl (hb hby at_158) rfl ?_
                      show Sq p e below m T45 159 #[iv p1, iv p2, iv p3, iv 6, rv w_STANDARD_delays_elements_0, rv b3, rv b37, iv 1, rv w_TRANSIENT, .unset, .unset, .unset, .unset] [.int p3, .ref w_TRANSIENT, .ref b37] _
                      refine st47.trans ?_
                      show Sq p e below m T47 162 #[iv p1, iv p2, iv p3, iv 6, rv w_STANDARD_delays_elements_0, rv b3, rv b37, iv 1, rv w_TRANSIENT, .unset, .unset, .unset, .unset] [.ref w_FAILED] _
                      refine XS.astore X47.here hx rfl (hb hby at_162) rfl rfl rfl ?_
                      refine XS.iloadN X47.here hx rfl (hb hby at_164) rfl ?_
                      show Sq p e below m T47 165 #[iv p1, iv p2, iv p3, iv 6, rv w_STANDARD_delays_elements_0, rv b3, rv b37, iv 1, rv w_TRANSIENT, rv w_FAILED, .unset, .unset, .unset] [.int 6] _
                      refine XS.i2l X47.here hx rfl (hb hby at_165) rfl ?_
                      show Sq p e below m T47 166 #[iv p1, iv p2, iv p3, iv 6, rv w_STANDARD_delays_elements_0, rv b3, rv b37, iv 1, rv w_TRANSIENT, rv w_FAILED, .unset, .unset, .unset] [.long ((6 : Int32).toInt64)] _
                      rw [show ((6 : Int32).toInt64) = (6 : Int64) from by decide]
                      show Sq p e below m T47 166 #[iv p1, iv p2, iv p3, iv 6, rv w_STANDARD_delays_elements_0, rv b3, rv b37, iv 1, rv w_TRANSIENT, rv w_FAILED, .unset, .unset, .unset] [.long 6] _
                      refine XS.iloadN X47.here hx rfl (hb hby at_166) rfl ?_
                      refine XS.i2l X47.here hx rfl (hb hby at_167) rfl ?_
                      show Sq p e below m T47 168 #[iv p1, iv p2, iv p3, iv 6, rv w_STANDARD_delays_elements_0, rv b3, rv b37, iv 1, rv w_TRANSIENT, rv w_FAILED, .unset, .unset, .unset] [.long (p3.toInt64), .long 6] _
                      refine XS.lsub X47.here hx rfl (hb hby at_168) rfl ?_
                      refine XS.lstore X47.here hx rfl (hb hby at_169) rfl rfl ?_
                      show Sq p e below m T47 171 #[iv p1, iv p2, iv p3, iv 6, rv w_STANDARD_delays_elements_0, rv b3, rv b37, iv 1, rv w_TRANSIENT, rv w_FAILED, .val (.long ((6 : Int64) - (p3.toInt64))), .second, .unset] [] _
                      refine XS.iload X47.here hx rfl (hb hby at_171) rfl ?_
                      refine XS.ifYes X47.here hx rfl (pc0 := 173) (pc' := 184) rfl (hb hby at_173) rfl ((if0 _ _).trans (feq (by decide)).2) (by decide) (by decide) ?_
                      show Sq p e below m T47 184 #[iv p1, iv p2, iv p3, iv 6, rv w_STANDARD_delays_elements_0, rv b3, rv b37, iv 1, rv w_TRANSIENT, rv w_FAILED, .val (.long ((6 : Int64) - (p3.toInt64))), .second, .unset] [] _
                      refine XS.lload X47.here hx rfl (hb hby at_184) rfl ?_
                      refine XS.lconst X47.here hx rfl (hb hby at_186) ?_
                      show Sq p e below m T47 187 #[iv p1, iv p2, iv p3, iv 6, rv w_STANDARD_delays_elements_0, rv b3, rv b37, iv 1, rv w_TRANSIENT, rv w_FAILED, .val (.long ((6 : Int64) - (p3.toInt64))), .second, .unset] [.long 1, .long ((6 : Int64) - (p3.toInt64))] _
                      refine XS.lcmp X47.here hx rfl (hb hby at_187) rfl ?_
                      refine XS.ifYes X47.here hx rfl (pc0 := 188) (pc' := 199) rfl (hb hby at_188) rfl ((if0 _ _).trans (tlt (own_lt (k := (6 : Int32)) (by decide) hrk)).1) (by decide) (by decide) ?_
                      show Sq p e below m T47 199 #[iv p1, iv p2, iv p3, iv 6, rv w_STANDARD_delays_elements_0, rv b3, rv b37, iv 1, rv w_TRANSIENT, rv w_FAILED, .val (.long ((6 : Int64) - (p3.toInt64))), .second, .unset] [] _
                      refine st48 _ ?_
                      show Sq p e below m T48 202 #[iv p1, iv p2, iv p3, iv 6, rv w_STANDARD_delays_elements_0, rv b3, rv b37, iv 1, rv w_TRANSIENT, rv w_FAILED, .val (.long ((6 : Int64) - (p3.toInt64))), .second, .unset] [.ref w_FAILED] _
                      refine XS.astore X48.here hx rfl (hb hby at_202) rfl rfl rfl ?_
                      refine XS.aload X48.here hx rfl (hb hby at_204) rfl rfl ?_
                      show Sq p e below m T48 206 #[iv p1, iv p2, iv p3, iv 6, rv w_STANDARD_delays_elements_0, rv b3, rv b37, iv 1, rv w_TRANSIENT, rv w_FAILED, .val (.long ((6 : Int64) - (p3.toInt64))), .second, rv w_FAILED] [.ref w_FAILED] _
                      refine XS.aload X48.here hx rfl (hb hby at_206) rfl rfl ?_
                      show Sq p e below m T48 208 #[iv p1, iv p2, iv p3, iv 6, rv w_STANDARD_delays_elements_0, rv b3, rv b37, iv 1, rv w_TRANSIENT, rv w_FAILED, .val (.long ((6 : Int64) - (p3.toInt64))), .second, rv w_FAILED] [.ref w_FAILED, .ref w_FAILED] _
                      refine Jvm.RoadKit.acmp (g := (mkF m 208 #[iv p1, iv p2, iv p3, iv 6, rv w_STANDARD_delays_elements_0, rv b3, rv b37, iv 1, rv w_TRANSIENT, rv w_FAILED, .val (.long ((6 : Int64) - (p3.toInt64))), .second, rv w_FAILED] [.ref w_FAILED, .ref w_FAILED])) X48 hx rfl rfl rfl (pc0 := 208) (pc' := 211) (same := true) rfl (hb hby at_208) rfl (decide_eq_true rfl) (by decide) (by decide) ?_
                      show Sq p e below m T48 211 #[iv p1, iv p2, iv p3, iv 6, rv w_STANDARD_delays_elements_0, rv b3, rv b37, iv 1, rv w_TRANSIENT, rv w_FAILED, .val (.long ((6 : Int64) - (p3.toInt64))), .second, rv w_FAILED] [] _
                      refine XS.iconst X48.here hx rfl (hb hby at_211) ?_
                      refine XS.goto X48.here hx rfl (pc0 := 212) (pc' := 216) rfl (hb hby at_212) (by decide) (by decide) ?_
                      show Sq p e below m T48 216 #[iv p1, iv p2, iv p3, iv 6, rv w_STANDARD_delays_elements_0, rv b3, rv b37, iv 1, rv w_TRANSIENT, rv w_FAILED, .val (.long ((6 : Int64) - (p3.toInt64))), .second, rv w_FAILED] [.int 1] _
                      exact retN X48 hx (t := .boolean) Bd.returns (by simp) (hb hby at_216) hr
                    · show Q_rm0 Z p1 p2 p3 (6 : Int32) w_STANDARD w_STANDARD_delays w_STANDARD_delays_elements w_STANDARD_delays_elements_0 w_TRANSIENT w_FAILED w_DATA w_PENDING w_STANDARD_delays_elements_1 w_STANDARD_delays_elements_2 w_STANDARD_delays_elements_3 w_STANDARD_delays_elements_4 w_DEF w_ELIST w_EMPTY w_ELIST_elements kdef kel k5 w_MIR h0 n0 _ T48.heap _
                      rw [e48]
                      exact ⟨rfl, N47⟩
              · obtain ⟨cq37, kq37, q37a, q37b, q37c⟩ := isOf hZ e33 A3
                obtain ⟨_, _, ⟨T37, L37, k37, n37⟩, -, X37, ⟨Lc37, hQ37, l37, y37, z37⟩, st37⟩ := X33.virtualBack hx (y := y_18) (z := y_18) hown (mvT hZ (W 116 rfl)) (mvT hZ (W 117 rfl)) (notFace_of_selects (args := #[]) (mvT hZ (W 119 rfl))) (mvT hZ (W 119 rfl)) (mvT hZ (W 118 rfl)) (by decide) (backOf (W := 0) (addg l Z a0 hw [] b3 w_STANDARD_delays_elements_0 b13b b13kb (((((((0 : Int32) + (1 : Int32)) + (1 : Int32)) + (1 : Int32)) + (1 : Int32)) + (1 : Int32)) + (1 : Int32)) (6 : Int32) (7 : Int32) [(.ref w_STANDARD_delays_elements_0), (.ref w_STANDARD_delays_elements_0), (.ref w_STANDARD_delays_elements_0), (.ref w_STANDARD_delays_elements_0), (.ref w_STANDARD_delays_elements_0), (.ref w_STANDARD_delays_elements_0), .null, .null, .null, .null] [(.ref w_STANDARD_delays_elements_0), (.ref w_STANDARD_delays_elements_0), (.ref w_STANDARD_delays_elements_0), (.ref w_STANDARD_delays_elements_0), (.ref w_STANDARD_delays_elements_0), (.ref w_STANDARD_delays_elements_0), (.ref w_STANDARD_delays_elements_0), .null, .null, .null] h33 n0 O34 A3 E_w_STANDARD_delays_elements_0 p33_1 p33_2 p33_3 g_b3 g_b13b ne_b3_b13b p33_4 p13_6 (by decide) (by decide) (by decide) rfl (Nat.le_of_ble_eq_true rfl)) hZ (W 120 rfl) (W 26 rfl) (by decide) (by decide)) q37a q37c (g := (mkF m 110 #[iv p1, iv p2, iv p3, iv 7, rv w_STANDARD_delays_elements_0, rv b3, .unset, .unset, .unset, .unset, .unset, .unset, .unset] [.ref w_STANDARD_delays_elements_0, .ref b3])) rfl (by rw [hml]; rfl) (Steps.refl _) (argsL := [.ref w_STANDARD_delays_elements_0]) (rest := []) (lenOf pd_20 rfl) rfl (by show 2 * 0 + _ ≤ _; exact Nat.le_of_eq rfl) (hb hby at_110) (fun _ _ => ⟨rfl, e33, (by decide : 2 + 0 ≤ _), (by decide : 13 + 0 ≤ _)⟩)
                dsimp only [Pt.U, Pt.locs, Pt.cells, Pt.slots] at X37 l37 y37 z37 st37 hQ37
                subst l37 y37 z37
                obtain ⟨h37, e37⟩ : ∃ z, T37.heap = z := ⟨_, rfl⟩
                rw [e37] at hQ37
                obtain ⟨rfl, N37q, p37_0, p37_1, p37_2, p37_3, p37_4⟩ := hQ37
                have N37 := Fr.app N33 N37q
                have A3 := A3.keep p37_0
                have p13_7 := p13_7.keep p37_0
                have O38 := O34.keep p37_0 (allS g_b3 (allS g_b13b all0))
                obtain ⟨T40, h40, X40, e40, E40, A40, D40, -, st40⟩ := newO X37 hx hZ hown (W 50 rfl) (W 51 rfl) (W 1 rfl) e37 (g := (mkF m 114 #[iv p1, iv p2, iv p3, iv 7, rv w_STANDARD_delays_elements_0, rv b3, .unset, .unset, .unset, .unset, .unset, .unset, .unset] [])) rfl (hb hby at_114) (by decide) (by decide)
                obtain ⟨b40, g40⟩ : ∃ z, z = h37.size := ⟨_, rfl⟩
                rw [← g40] at A40 D40 st40
                have g_b40 : n0 ≤ b40 := Nat.le_trans (own_sz O38) (Nat.le_of_eq g40.symm)
                have A3 := A3.ext E40
                have p13_7 := p13_7.ext E40
                have p37_1 := p37_1.ext E40
                have p37_2 := p37_2.ext E40
                have p37_4 := p37_4.ext E40
                have O41 := O38.ext E40
                have Fz43 : Fld Z h40 b40 "com/example/savitri/savitri/store/RedriveSchedule" "delays" "Ljava/util/List;" .null := D40 (Or.inr (W 9 rfl)) (ty := (.object "java/util/List")) (by decide)
                obtain ⟨_, _, ⟨T44, L44, k44, n44⟩, -, X44, ⟨Lc44, hQ44, l44, y44, z44⟩, st44⟩ := X40.specialBack hx (y := y_29) rfl hown (mvT hZ (W 52 rfl)) (mvT hZ (W 53 rfl)) (mvT hZ (W 54 rfl)) (by decide) (backOf (W := 1) (recin7 l Z a0 hw [] b40 b3 b13b b13kb w_STANDARD_delays_elements_0 w_MIR h40 n0 O41 A40 Fz43 g_b40 A3 p37_4 E_w_STANDARD_delays_elements_0 Mo p13_7 p37_1 p37_2) hZ (W 54 rfl) (W 1 rfl) (by decide) (by decide)) (g := (mkF m 120 #[iv p1, iv p2, iv p3, iv 7, rv w_STANDARD_delays_elements_0, rv b3, .unset, .unset, .unset, .unset, .unset, .unset, .unset] [.ref b3, .ref b40, .ref b40])) rfl (by rw [hml]; rfl) (Steps.refl _) (a := b40) (argsL := [.ref b3]) (rest := [.ref b40]) (lenOf pd_18 rfl) rfl (by show 2 * 0 + _ ≤ _; exact Nat.le_of_eq rfl) (hb hby at_120) (fun _ _ => ⟨rfl, e40, (by decide : 3 + 3 ≤ _), (by decide : 14 + 16 ≤ _)⟩)
                dsimp only [Pt.U, Pt.locs, Pt.cells, Pt.slots] at X44 l44 y44 z44 st44 hQ44
                subst l44 y44 z44
                obtain ⟨h44, e44⟩ : ∃ z, T44.heap = z := ⟨_, rfl⟩
                rw [e44] at hQ44
                obtain ⟨b44r, b44g, b44kg, rfl, N44q, p44_0, p44_1, p44_2, p44_3, p44_4, p44_5, p44_6⟩ := hQ44
                have N44 := Fr.app N37 N44q
                have A40 := A40.keep p44_0
                have O45 := O41.keep p44_0 (allS g_b40 all0)
                have pre47 : ∀ t, Steps p.tables e below (T44.setTop (mkF m 128 #[iv p1, iv p2, iv p3, iv 7, rv w_STANDARD_delays_elements_0, rv b3, rv b40, .unset, .unset, .unset, .unset, .unset, .unset] [.int (p2 &&& (1 : Int32))])) t → Steps p.tables e below (s₁.setTop (entryFrame m #[(.int p1), (.int p2), (.int p3)] maxLocals)) t := by
                  intro t kt
                  refine pre36 _ ?_
                  show Sq p e below m T33 100 #[iv p1, iv p2, iv p3, iv 7, rv w_STANDARD_delays_elements_0, rv b3, .unset, .unset, .unset, .unset, .unset, .unset, .unset] [] _
                  refine XS.iloadN X33.here hx rfl (hb hby at_100) rfl ?_
                  refine XS.bipush X33.here hx rfl (hb hby at_101) ?_
                  show Sq p e below m T33 103 #[iv p1, iv p2, iv p3, iv 7, rv w_STANDARD_delays_elements_0, rv b3, .unset, .unset, .unset, .unset, .unset, .unset, .unset] [.int 6, .int 7] _
                  refine XS.icmpNo X33.here hx rfl (hb hby at_103) rfl (tlt (by decide)).2.2.2 ?_
                  refine XS.aload X33.here hx rfl (hb hby at_106) rfl rfl ?_
                  show Sq p e below m T33 108 #[iv p1, iv p2, iv p3, iv 7, rv w_STANDARD_delays_elements_0, rv b3, .unset, .unset, .unset, .unset, .unset, .unset, .unset] [.ref b3] _
                  refine XS.aload X33.here hx rfl (hb hby at_108) rfl rfl ?_
                  show Sq p e below m T33 110 #[iv p1, iv p2, iv p3, iv 7, rv w_STANDARD_delays_elements_0, rv b3, .unset, .unset, .unset, .unset, .unset, .unset, .unset] [.ref w_STANDARD_delays_elements_0, .ref b3] _
                  refine st37.trans ?_
                  show Sq p e below m T37 113 #[iv p1, iv p2, iv p3, iv 7, rv w_STANDARD_delays_elements_0, rv b3, .unset, .unset, .unset, .unset, .unset, .unset, .unset] [.int 1] _
                  refine XS.pop X37.here hx rfl (hb hby at_113) rfl rfl ?_
                  show Sq p e below m T37 114 #[iv p1, iv p2, iv p3, iv 7, rv w_STANDARD_delays_elements_0, rv b3, .unset, .unset, .unset, .unset, .unset, .unset, .unset] [] _
                  refine st40 _ ?_
                  show Sq p e below m T40 117 #[iv p1, iv p2, iv p3, iv 7, rv w_STANDARD_delays_elements_0, rv b3, .unset, .unset, .unset, .unset, .unset, .unset, .unset] [.ref b40] _
                  refine XS.dup X40.here hx rfl (hb hby at_117) rfl rfl ?_
                  refine XS.aload X40.here hx rfl (hb hby at_118) rfl rfl ?_
                  show Sq p e below m T40 120 #[iv p1, iv p2, iv p3, iv 7, rv w_STANDARD_delays_elements_0, rv b3, .unset, .unset, .unset, .unset, .unset, .unset, .unset] [.ref b3, .ref b40, .ref b40] _
                  refine st44.trans ?_
                  show Sq p e below m T44 123 #[iv p1, iv p2, iv p3, iv 7, rv w_STANDARD_delays_elements_0, rv b3, .unset, .unset, .unset, .unset, .unset, .unset, .unset] [.ref b40] _
                  refine XS.astore X44.here hx rfl (hb hby at_123) rfl rfl rfl ?_
                  refine XS.iloadN X44.here hx rfl (hb hby at_125) rfl ?_
                  show Sq p e below m T44 126 #[iv p1, iv p2, iv p3, iv 7, rv w_STANDARD_delays_elements_0, rv b3, rv b40, .unset, .unset, .unset, .unset, .unset, .unset] [.int p2] _
                  refine XS.iconst X44.here hx rfl (hb hby at_126) ?_
                  refine XS.iand X44.here hx rfl (hb hby at_127) rfl ?_
                  exact kt
                by_cases hc128 : (p2 &&& (1 : Int32)) = (0 : Int32)
                · obtain ⟨T48, X48, e48, st48⟩ := getS2 X44 hx hZ hown (host := "") (Or.inl (W 208 rfl)) Via.refl e44 (S_w_DATA.ext O45.2) (g := (mkF m 149 #[iv p1, iv p2, iv p3, iv 7, rv w_STANDARD_delays_elements_0, rv b3, rv b40, iv 0, .unset, .unset, .unset, .unset, .unset] [])) rfl (hb hby at_149)
                  obtain ⟨cq49, kq49, q49a, q49b, q49c⟩ := isOf hZ e48 A40
                  obtain ⟨_, _, ⟨T49, L49, k49, n49⟩, -, X49, ⟨Lc49, hQ49, l49, y49, z49⟩, st49⟩ := X48.virtualBack hx (y := y_35) (z := y_35) hown (mvT hZ (W 93 rfl)) (mvT hZ (W 94 rfl)) (notFace_of_selects (args := #[]) (mvT hZ (W 96 rfl))) (mvT hZ (W 96 rfl)) (mvT hZ (W 95 rfl)) (by decide) (backOf (W := 0) (stD l Z a0 hw [] b40 p3 w_DATA w_TRANSIENT w_FAILED h44 n0 O45 S_w_TRANSIENT S_w_FAILED nek) hZ (W 97 rfl) (W 1 rfl) (by decide) (by decide)) q49a q49c (g := (mkF m 159 #[iv p1, iv p2, iv p3, iv 7, rv w_STANDARD_delays_elements_0, rv b3, rv b40, iv 0, rv w_DATA, .unset, .unset, .unset, .unset] [.int p3, .ref w_DATA, .ref b40])) rfl (by rw [hml]; rfl) (Steps.refl _) (argsL := [.ref w_DATA, .int p3]) (rest := []) (lenOf pd_19 rfl) rfl (by show 2 * 0 + _ ≤ _; exact Nat.le_of_eq rfl) (hb hby at_159) (fun _ _ => ⟨rfl, e48, (by decide : 6 + 0 ≤ _), (by decide : 30 + 0 ≤ _)⟩)
                  dsimp only [Pt.U, Pt.locs, Pt.cells, Pt.slots] at X49 l49 y49 z49 st49 hQ49
                  subst l49 y49 z49
                  obtain ⟨h49, e49⟩ : ∃ z, T49.heap = z := ⟨_, rfl⟩
                  rw [e49] at hQ49
                  obtain ⟨rfl, N49q, p49_0⟩ := hQ49
                  have N49 := Fr.app N44 N49q
                  rw [p49_0] at e49
                  obtain ⟨T50, X50, e50, st50⟩ := getS2 X49 hx hZ hown (host := "") (Or.inl (W 115 rfl)) Via.refl e49 (S_w_FAILED.ext O45.2) (g := (mkF m 176 #[iv p1, iv p2, iv p3, iv 7, rv w_STANDARD_delays_elements_0, rv b3, rv b40, iv 0, rv w_DATA, rv w_FAILED, .val (.long ((7 : Int64) - (p3.toInt64))), .second, .unset] [])) rfl (hb hby at_176)
                  obtain ⟨fs, hr, hrun, hended, hW, hsame⟩ := X50.leave (v := some (.int (1 : Int32))) (fun h => by rw [Bd.returns] at h; cases h)
                  refine ⟨_, _, pre47 _ ?_, hrun, hended, _, _, rfl, ?_, ⟨_, rfl⟩, hW, hsame.mono (by decide) (by decide)⟩
                  · show Sq p e below m T44 128 #[iv p1, iv p2, iv p3, iv 7, rv w_STANDARD_delays_elements_0, rv b3, rv b40, .unset, .unset, .unset, .unset, .unset, .unset] [.int (p2 &&& (1 : Int32))] _
                    refine XS.ifYes X44.here hx rfl (pc0 := 128) (pc' := 135) rfl (hb hby at_128) rfl ((if0 _ _).trans (teq hc128).1) (by decide) (by decide) ?_
                    refine XS.iconst X44.here hx rfl (hb hby at_135) ?_
                    show Sq p e below m T44 136 #[iv p1, iv p2, iv p3, iv 7, rv w_STANDARD_delays_elements_0, rv b3, rv b40, .unset, .unset, .unset, .unset, .unset, .unset] [.int 0] _
                    refine XS.istore X44.here hx rfl (hb hby at_136) rfl rfl ?_
                    refine XS.iload X44.here hx rfl (hb hby at_138) rfl ?_
                    show Sq p e below m T44 140 #[iv p1, iv p2, iv p3, iv 7, rv w_STANDARD_delays_elements_0, rv b3, rv b40, iv 0, .unset, .unset, .unset, .unset, .unset] [.int 0] _
                    refine XS.ifYes X44.here hx rfl (pc0 := 140) (pc' := 149) rfl (hb hby at_140) rfl ((if0 _ _).trans (teq (rfl : (0 : Int32) = (0 : Int32))).1) (by decide) (by decide) ?_
                    show Sq p e below m T44 149 #[iv p1, iv p2, iv p3, iv 7, rv w_STANDARD_delays_elements_0, rv b3, rv b40, iv 0, .unset, .unset, .unset, .unset, .unset] [] _
                    refine st48 _ ?_
                    show Sq p e below m T48 152 #[iv p1, iv p2, iv p3, iv 7, rv w_STANDARD_delays_elements_0, rv b3, rv b40, iv 0, .unset, .unset, .unset, .unset, .unset] [.ref w_DATA] _
                    refine XS.astore X48.here hx rfl (hb hby at_152) rfl rfl rfl ?_
                    refine XS.aload X48.here hx rfl (hb hby at_154) rfl rfl ?_
                    show Sq p e below m T48 156 #[iv p1, iv p2, iv p3, iv 7, rv w_STANDARD_delays_elements_0, rv b3, rv b40, iv 0, rv w_DATA, .unset, .unset, .unset, .unset] [.ref b40] _
                    refine XS.aload X48.here hx rfl (hb hby at_156) rfl rfl ?_
                    refine XS.iloadN X48.here hx rfl (hb hby at_158) rfl ?_
                    show Sq p e below m T48 159 #[iv p1, iv p2, iv p3, iv 7, rv w_STANDARD_delays_elements_0, rv b3, rv b40, iv 0, rv w_DATA, .unset, .unset, .unset, .unset] [.int p3, .ref w_DATA, .ref b40] _
                    refine st49.trans ?_
                    show Sq p e below m T49 162 #[iv p1, iv p2, iv p3, iv 7, rv w_STANDARD_delays_elements_0, rv b3, rv b40, iv 0, rv w_DATA, .unset, .unset, .unset, .unset] [.ref w_FAILED] _
                    refine XS.astore X49.here hx rfl (hb hby at_162) rfl rfl rfl ?_
                    refine XS.iloadN X49.here hx rfl (hb hby at_164) rfl ?_
                    show Sq p e below m T49 165 #[iv p1, iv p2, iv p3, iv 7, rv w_STANDARD_delays_elements_0, rv b3, rv b40, iv 0, rv w_DATA, rv w_FAILED, .unset, .unset, .unset] [.int 7] _
                    refine XS.i2l X49.here hx rfl (hb hby at_165) rfl ?_
                    show Sq p e below m T49 166 #[iv p1, iv p2, iv p3, iv 7, rv w_STANDARD_delays_elements_0, rv b3, rv b40, iv 0, rv w_DATA, rv w_FAILED, .unset, .unset, .unset] [.long ((7 : Int32).toInt64)] _
                    rw [show ((7 : Int32).toInt64) = (7 : Int64) from by decide]
                    show Sq p e below m T49 166 #[iv p1, iv p2, iv p3, iv 7, rv w_STANDARD_delays_elements_0, rv b3, rv b40, iv 0, rv w_DATA, rv w_FAILED, .unset, .unset, .unset] [.long 7] _
                    refine XS.iloadN X49.here hx rfl (hb hby at_166) rfl ?_
                    refine XS.i2l X49.here hx rfl (hb hby at_167) rfl ?_
                    show Sq p e below m T49 168 #[iv p1, iv p2, iv p3, iv 7, rv w_STANDARD_delays_elements_0, rv b3, rv b40, iv 0, rv w_DATA, rv w_FAILED, .unset, .unset, .unset] [.long (p3.toInt64), .long 7] _
                    refine XS.lsub X49.here hx rfl (hb hby at_168) rfl ?_
                    refine XS.lstore X49.here hx rfl (hb hby at_169) rfl rfl ?_
                    show Sq p e below m T49 171 #[iv p1, iv p2, iv p3, iv 7, rv w_STANDARD_delays_elements_0, rv b3, rv b40, iv 0, rv w_DATA, rv w_FAILED, .val (.long ((7 : Int64) - (p3.toInt64))), .second, .unset] [] _
                    refine XS.iload X49.here hx rfl (hb hby at_171) rfl ?_
                    refine XS.ifNo X49.here hx rfl (hb hby at_173) rfl ((if0 _ _).trans (teq (rfl : (0 : Int32) = (0 : Int32))).2) ?_
                    show Sq p e below m T49 176 #[iv p1, iv p2, iv p3, iv 7, rv w_STANDARD_delays_elements_0, rv b3, rv b40, iv 0, rv w_DATA, rv w_FAILED, .val (.long ((7 : Int64) - (p3.toInt64))), .second, .unset] [] _
                    refine st50 _ ?_
                    show Sq p e below m T50 179 #[iv p1, iv p2, iv p3, iv 7, rv w_STANDARD_delays_elements_0, rv b3, rv b40, iv 0, rv w_DATA, rv w_FAILED, .val (.long ((7 : Int64) - (p3.toInt64))), .second, .unset] [.ref w_FAILED] _
                    refine XS.astore X50.here hx rfl (hb hby at_179) rfl rfl rfl ?_
                    refine XS.goto X50.here hx rfl (pc0 := 181) (pc' := 204) rfl (hb hby at_181) (by decide) (by decide) ?_
                    show Sq p e below m T50 204 #[iv p1, iv p2, iv p3, iv 7, rv w_STANDARD_delays_elements_0, rv b3, rv b40, iv 0, rv w_DATA, rv w_FAILED, .val (.long ((7 : Int64) - (p3.toInt64))), .second, rv w_FAILED] [] _
                    refine XS.aload X50.here hx rfl (hb hby at_204) rfl rfl ?_
                    refine XS.aload X50.here hx rfl (hb hby at_206) rfl rfl ?_
                    show Sq p e below m T50 208 #[iv p1, iv p2, iv p3, iv 7, rv w_STANDARD_delays_elements_0, rv b3, rv b40, iv 0, rv w_DATA, rv w_FAILED, .val (.long ((7 : Int64) - (p3.toInt64))), .second, rv w_FAILED] [.ref w_FAILED, .ref w_FAILED] _
                    refine Jvm.RoadKit.acmp (g := (mkF m 208 #[iv p1, iv p2, iv p3, iv 7, rv w_STANDARD_delays_elements_0, rv b3, rv b40, iv 0, rv w_DATA, rv w_FAILED, .val (.long ((7 : Int64) - (p3.toInt64))), .second, rv w_FAILED] [.ref w_FAILED, .ref w_FAILED])) X50 hx rfl rfl rfl (pc0 := 208) (pc' := 211) (same := true) rfl (hb hby at_208) rfl (decide_eq_true rfl) (by decide) (by decide) ?_
                    show Sq p e below m T50 211 #[iv p1, iv p2, iv p3, iv 7, rv w_STANDARD_delays_elements_0, rv b3, rv b40, iv 0, rv w_DATA, rv w_FAILED, .val (.long ((7 : Int64) - (p3.toInt64))), .second, rv w_FAILED] [] _
                    refine XS.iconst X50.here hx rfl (hb hby at_211) ?_
                    refine XS.goto X50.here hx rfl (pc0 := 212) (pc' := 216) rfl (hb hby at_212) (by decide) (by decide) ?_
                    show Sq p e below m T50 216 #[iv p1, iv p2, iv p3, iv 7, rv w_STANDARD_delays_elements_0, rv b3, rv b40, iv 0, rv w_DATA, rv w_FAILED, .val (.long ((7 : Int64) - (p3.toInt64))), .second, rv w_FAILED] [.int 1] _
                    exact retN X50 hx (t := .boolean) Bd.returns (by simp) (hb hby at_216) hr
                  · show Q_rm0 Z p1 p2 p3 (7 : Int32) w_STANDARD w_STANDARD_delays w_STANDARD_delays_elements w_STANDARD_delays_elements_0 w_TRANSIENT w_FAILED w_DATA w_PENDING w_STANDARD_delays_elements_1 w_STANDARD_delays_elements_2 w_STANDARD_delays_elements_3 w_STANDARD_delays_elements_4 w_DEF w_ELIST w_EMPTY w_ELIST_elements kdef kel k5 w_MIR h0 n0 _ T50.heap _
                    rw [e50]
                    exact ⟨rfl, N49⟩
                · obtain ⟨T48, X48, e48, st48⟩ := getS2 X44 hx hZ hown (host := "") (Or.inl (W 90 rfl)) Via.refl e44 (S_w_TRANSIENT.ext O45.2) (g := (mkF m 143 #[iv p1, iv p2, iv p3, iv 7, rv w_STANDARD_delays_elements_0, rv b3, rv b40, iv 1, .unset, .unset, .unset, .unset, .unset] [])) rfl (hb hby at_143)
                  have pre49 : ∀ t, Steps p.tables e below (T48.setTop (mkF m 154 #[iv p1, iv p2, iv p3, iv 7, rv w_STANDARD_delays_elements_0, rv b3, rv b40, iv 1, rv w_TRANSIENT, .unset, .unset, .unset, .unset] [])) t → Steps p.tables e below (s₁.setTop (entryFrame m #[(.int p1), (.int p2), (.int p3)] maxLocals)) t := by
                    intro t kt
                    refine pre47 _ ?_
                    show Sq p e below m T44 128 #[iv p1, iv p2, iv p3, iv 7, rv w_STANDARD_delays_elements_0, rv b3, rv b40, .unset, .unset, .unset, .unset, .unset, .unset] [.int (p2 &&& (1 : Int32))] _
                    refine XS.ifNo X44.here hx rfl (hb hby at_128) rfl ((if0 _ _).trans (feq hc128).1) ?_
                    refine XS.iconst X44.here hx rfl (hb hby at_131) ?_
                    show Sq p e below m T44 132 #[iv p1, iv p2, iv p3, iv 7, rv w_STANDARD_delays_elements_0, rv b3, rv b40, .unset, .unset, .unset, .unset, .unset, .unset] [.int 1] _
                    refine XS.goto X44.here hx rfl (pc0 := 132) (pc' := 136) rfl (hb hby at_132) (by decide) (by decide) ?_
                    refine XS.istore X44.here hx rfl (hb hby at_136) rfl rfl ?_
                    show Sq p e below m T44 138 #[iv p1, iv p2, iv p3, iv 7, rv w_STANDARD_delays_elements_0, rv b3, rv b40, iv 1, .unset, .unset, .unset, .unset, .unset] [] _
                    refine XS.iload X44.here hx rfl (hb hby at_138) rfl ?_
                    refine XS.ifNo X44.here hx rfl (hb hby at_140) rfl ((if0 _ _).trans (feq (by decide)).1) ?_
                    show Sq p e below m T44 143 #[iv p1, iv p2, iv p3, iv 7, rv w_STANDARD_delays_elements_0, rv b3, rv b40, iv 1, .unset, .unset, .unset, .unset, .unset] [] _
                    refine st48 _ ?_
                    show Sq p e below m T48 146 #[iv p1, iv p2, iv p3, iv 7, rv w_STANDARD_delays_elements_0, rv b3, rv b40, iv 1, .unset, .unset, .unset, .unset, .unset] [.ref w_TRANSIENT] _
                    refine XS.goto X48.here hx rfl (pc0 := 146) (pc' := 152) rfl (hb hby at_146) (by decide) (by decide) ?_
                    refine XS.astore X48.here hx rfl (hb hby at_152) rfl rfl rfl ?_
                    exact kt
                  rcases Decidable.em (p3 < (7 : Int32)) with hrk | hrk
                  · obtain ⟨cq50, kq50, q50a, q50b, q50c⟩ := isOf hZ e48 A40
                    obtain ⟨_, _, ⟨T50, L50, k50, n50⟩, -, X50, ⟨Lc50, hQ50, l50, y50, z50⟩, st50⟩ := X48.virtualBack hx (y := y_35) (z := y_35) hown (mvT hZ (W 93 rfl)) (mvT hZ (W 94 rfl)) (notFace_of_selects (args := #[]) (mvT hZ (W 96 rfl))) (mvT hZ (W 96 rfl)) (mvT hZ (W 95 rfl)) (by decide) (backOf (W := 0) (sqN1 l Z a0 hw [] b40 p3 w_TRANSIENT w_PENDING b44r b44g b44kg (7 : Int32) [(.ref w_STANDARD_delays_elements_0), (.ref w_STANDARD_delays_elements_0), (.ref w_STANDARD_delays_elements_0), (.ref w_STANDARD_delays_elements_0), (.ref w_STANDARD_delays_elements_0), (.ref w_STANDARD_delays_elements_0), (.ref w_STANDARD_delays_elements_0)] h44 n0 O45 A40 p44_3 p44_4 p44_5 p44_6 S_w_TRANSIENT S_w_PENDING hrk) hZ (W 97 rfl) (W 1 rfl) (by decide) (by decide)) q50a q50c (g := (mkF m 159 #[iv p1, iv p2, iv p3, iv 7, rv w_STANDARD_delays_elements_0, rv b3, rv b40, iv 1, rv w_TRANSIENT, .unset, .unset, .unset, .unset] [.int p3, .ref w_TRANSIENT, .ref b40])) rfl (by rw [hml]; rfl) (Steps.refl _) (argsL := [.ref w_TRANSIENT, .int p3]) (rest := []) (lenOf pd_19 rfl) rfl (by show 2 * 0 + _ ≤ _; exact Nat.le_of_eq rfl) (hb hby at_159) (fun _ _ => ⟨rfl, e48, (by decide : 6 + 0 ≤ _), (by decide : 30 + 0 ≤ _)⟩)
                    dsimp only [Pt.U, Pt.locs, Pt.cells, Pt.slots] at X50 l50 y50 z50 st50 hQ50
                    subst l50 y50 z50
                    obtain ⟨h50, e50⟩ : ∃ z, T50.heap = z := ⟨_, rfl⟩
                    rw [e50] at hQ50
                    obtain ⟨rfl, N50q, p50_0⟩ := hQ50
                    have N50 := Fr.app N44 N50q
                    rw [p50_0] at e50
                    obtain ⟨T51, X51, e51, st51⟩ := getS2 X50 hx hZ hown (host := "") (Or.inl (W 237 rfl)) Via.refl e50 (S_w_PENDING.ext O45.2) (g := (mkF m 191 #[iv p1, iv p2, iv p3, iv 7, rv w_STANDARD_delays_elements_0, rv b3, rv b40, iv 1, rv w_TRANSIENT, rv w_PENDING, .val (.long ((7 : Int64) - (p3.toInt64))), .second, .unset] [])) rfl (hb hby at_191)
                    obtain ⟨fs, hr, hrun, hended, hW, hsame⟩ := X51.leave (v := some (.int (1 : Int32))) (fun h => by rw [Bd.returns] at h; cases h)
                    refine ⟨_, _, pre49 _ ?_, hrun, hended, _, _, rfl, ?_, ⟨_, rfl⟩, hW, hsame.mono (by decide) (by decide)⟩
                    · show Sq p e below m T48 154 #[iv p1, iv p2, iv p3, iv 7, rv w_STANDARD_delays_elements_0, rv b3, rv b40, iv 1, rv w_TRANSIENT, .unset, .unset, .unset, .unset] [] _
                      refine XS.aload X48.here hx rfl (hb hby at_154) rfl rfl ?_
                      refine XS.aload X48.here hx rfl (hb hby at_156) rfl rfl ?_
                      show Sq p e below m T48 158 #[iv p1, iv p2, iv p3, iv 7, rv w_STANDARD_delays_elements_0, rv b3, rv b40, iv 1, rv w_TRANSIENT, .unset, .unset, .unset, .unset] [.ref w_TRANSIENT, .ref b40] _
                      refine XS.iloadN X48.here hx rfl (hb hby at_158) rfl ?_
                      show Sq p e below m T48 159 #[iv p1, iv p2, iv p3, iv 7, rv w_STANDARD_delays_elements_0, rv b3, rv b40, iv 1, rv w_TRANSIENT, .unset, .unset, .unset, .unset] [.int p3, .ref w_TRANSIENT, .ref b40] _
                      refine st50.trans ?_
                      show Sq p e below m T50 162 #[iv p1, iv p2, iv p3, iv 7, rv w_STANDARD_delays_elements_0, rv b3, rv b40, iv 1, rv w_TRANSIENT, .unset, .unset, .unset, .unset] [.ref w_PENDING] _
                      refine XS.astore X50.here hx rfl (hb hby at_162) rfl rfl rfl ?_
                      refine XS.iloadN X50.here hx rfl (hb hby at_164) rfl ?_
                      show Sq p e below m T50 165 #[iv p1, iv p2, iv p3, iv 7, rv w_STANDARD_delays_elements_0, rv b3, rv b40, iv 1, rv w_TRANSIENT, rv w_PENDING, .unset, .unset, .unset] [.int 7] _
                      refine XS.i2l X50.here hx rfl (hb hby at_165) rfl ?_
                      show Sq p e below m T50 166 #[iv p1, iv p2, iv p3, iv 7, rv w_STANDARD_delays_elements_0, rv b3, rv b40, iv 1, rv w_TRANSIENT, rv w_PENDING, .unset, .unset, .unset] [.long ((7 : Int32).toInt64)] _
                      rw [show ((7 : Int32).toInt64) = (7 : Int64) from by decide]
                      show Sq p e below m T50 166 #[iv p1, iv p2, iv p3, iv 7, rv w_STANDARD_delays_elements_0, rv b3, rv b40, iv 1, rv w_TRANSIENT, rv w_PENDING, .unset, .unset, .unset] [.long 7] _
                      refine XS.iloadN X50.here hx rfl (hb hby at_166) rfl ?_
                      refine XS.i2l X50.here hx rfl (hb hby at_167) rfl ?_
                      show Sq p e below m T50 168 #[iv p1, iv p2, iv p3, iv 7, rv w_STANDARD_delays_elements_0, rv b3, rv b40, iv 1, rv w_TRANSIENT, rv w_PENDING, .unset, .unset, .unset] [.long (p3.toInt64), .long 7] _
                      refine XS.lsub X50.here hx rfl (hb hby at_168) rfl ?_
                      refine XS.lstore X50.here hx rfl (hb hby at_169) rfl rfl ?_
                      show Sq p e below m T50 171 #[iv p1, iv p2, iv p3, iv 7, rv w_STANDARD_delays_elements_0, rv b3, rv b40, iv 1, rv w_TRANSIENT, rv w_PENDING, .val (.long ((7 : Int64) - (p3.toInt64))), .second, .unset] [] _
                      refine XS.iload X50.here hx rfl (hb hby at_171) rfl ?_
                      refine XS.ifYes X50.here hx rfl (pc0 := 173) (pc' := 184) rfl (hb hby at_173) rfl ((if0 _ _).trans (feq (by decide)).2) (by decide) (by decide) ?_
                      show Sq p e below m T50 184 #[iv p1, iv p2, iv p3, iv 7, rv w_STANDARD_delays_elements_0, rv b3, rv b40, iv 1, rv w_TRANSIENT, rv w_PENDING, .val (.long ((7 : Int64) - (p3.toInt64))), .second, .unset] [] _
                      refine XS.lload X50.here hx rfl (hb hby at_184) rfl ?_
                      refine XS.lconst X50.here hx rfl (hb hby at_186) ?_
                      show Sq p e below m T50 187 #[iv p1, iv p2, iv p3, iv 7, rv w_STANDARD_delays_elements_0, rv b3, rv b40, iv 1, rv w_TRANSIENT, rv w_PENDING, .val (.long ((7 : Int64) - (p3.toInt64))), .second, .unset] [.long 1, .long ((7 : Int64) - (p3.toInt64))] _
                      refine XS.lcmp X50.here hx rfl (hb hby at_187) rfl ?_
                      refine XS.ifNo X50.here hx rfl (hb hby at_188) rfl ((if0 _ _).trans (flt (own_lf (k := (7 : Int32)) (by decide) hrk)).1) ?_
                      show Sq p e below m T50 191 #[iv p1, iv p2, iv p3, iv 7, rv w_STANDARD_delays_elements_0, rv b3, rv b40, iv 1, rv w_TRANSIENT, rv w_PENDING, .val (.long ((7 : Int64) - (p3.toInt64))), .second, .unset] [] _
                      refine st51 _ ?_
                      show Sq p e below m T51 194 #[iv p1, iv p2, iv p3, iv 7, rv w_STANDARD_delays_elements_0, rv b3, rv b40, iv 1, rv w_TRANSIENT, rv w_PENDING, .val (.long ((7 : Int64) - (p3.toInt64))), .second, .unset] [.ref w_PENDING] _
                      refine XS.astore X51.here hx rfl (hb hby at_194) rfl rfl rfl ?_
                      refine XS.goto X51.here hx rfl (pc0 := 196) (pc' := 204) rfl (hb hby at_196) (by decide) (by decide) ?_
                      show Sq p e below m T51 204 #[iv p1, iv p2, iv p3, iv 7, rv w_STANDARD_delays_elements_0, rv b3, rv b40, iv 1, rv w_TRANSIENT, rv w_PENDING, .val (.long ((7 : Int64) - (p3.toInt64))), .second, rv w_PENDING] [] _
                      refine XS.aload X51.here hx rfl (hb hby at_204) rfl rfl ?_
                      refine XS.aload X51.here hx rfl (hb hby at_206) rfl rfl ?_
                      show Sq p e below m T51 208 #[iv p1, iv p2, iv p3, iv 7, rv w_STANDARD_delays_elements_0, rv b3, rv b40, iv 1, rv w_TRANSIENT, rv w_PENDING, .val (.long ((7 : Int64) - (p3.toInt64))), .second, rv w_PENDING] [.ref w_PENDING, .ref w_PENDING] _
                      refine Jvm.RoadKit.acmp (g := (mkF m 208 #[iv p1, iv p2, iv p3, iv 7, rv w_STANDARD_delays_elements_0, rv b3, rv b40, iv 1, rv w_TRANSIENT, rv w_PENDING, .val (.long ((7 : Int64) - (p3.toInt64))), .second, rv w_PENDING] [.ref w_PENDING, .ref w_PENDING])) X51 hx rfl rfl rfl (pc0 := 208) (pc' := 211) (same := true) rfl (hb hby at_208) rfl (decide_eq_true rfl) (by decide) (by decide) ?_
                      show Sq p e below m T51 211 #[iv p1, iv p2, iv p3, iv 7, rv w_STANDARD_delays_elements_0, rv b3, rv b40, iv 1, rv w_TRANSIENT, rv w_PENDING, .val (.long ((7 : Int64) - (p3.toInt64))), .second, rv w_PENDING] [] _
                      refine XS.iconst X51.here hx rfl (hb hby at_211) ?_
                      refine XS.goto X51.here hx rfl (pc0 := 212) (pc' := 216) rfl (hb hby at_212) (by decide) (by decide) ?_
                      show Sq p e below m T51 216 #[iv p1, iv p2, iv p3, iv 7, rv w_STANDARD_delays_elements_0, rv b3, rv b40, iv 1, rv w_TRANSIENT, rv w_PENDING, .val (.long ((7 : Int64) - (p3.toInt64))), .second, rv w_PENDING] [.int 1] _
                      exact retN X51 hx (t := .boolean) Bd.returns (by simp) (hb hby at_216) hr
                    · show Q_rm0 Z p1 p2 p3 (7 : Int32) w_STANDARD w_STANDARD_delays w_STANDARD_delays_elements w_STANDARD_delays_elements_0 w_TRANSIENT w_FAILED w_DATA w_PENDING w_STANDARD_delays_elements_1 w_STANDARD_delays_elements_2 w_STANDARD_delays_elements_3 w_STANDARD_delays_elements_4 w_DEF w_ELIST w_EMPTY w_ELIST_elements kdef kel k5 w_MIR h0 n0 _ T51.heap _
                      rw [e51]
                      exact ⟨rfl, N50⟩
                  · obtain ⟨cq50, kq50, q50a, q50b, q50c⟩ := isOf hZ e48 A40
                    obtain ⟨_, _, ⟨T50, L50, k50, n50⟩, -, X50, ⟨Lc50, hQ50, l50, y50, z50⟩, st50⟩ := X48.virtualBack hx (y := y_35) (z := y_35) hown (mvT hZ (W 93 rfl)) (mvT hZ (W 94 rfl)) (notFace_of_selects (args := #[]) (mvT hZ (W 96 rfl))) (mvT hZ (W 96 rfl)) (mvT hZ (W 95 rfl)) (by decide) (backOf (W := 0) (sqN0 l Z a0 hw [] b40 p3 w_TRANSIENT w_FAILED b44r b44g b44kg (7 : Int32) [(.ref w_STANDARD_delays_elements_0), (.ref w_STANDARD_delays_elements_0), (.ref w_STANDARD_delays_elements_0), (.ref w_STANDARD_delays_elements_0), (.ref w_STANDARD_delays_elements_0), (.ref w_STANDARD_delays_elements_0), (.ref w_STANDARD_delays_elements_0)] h44 n0 O45 A40 p44_3 p44_4 p44_5 p44_6 S_w_TRANSIENT S_w_FAILED hrk) hZ (W 97 rfl) (W 1 rfl) (by decide) (by decide)) q50a q50c (g := (mkF m 159 #[iv p1, iv p2, iv p3, iv 7, rv w_STANDARD_delays_elements_0, rv b3, rv b40, iv 1, rv w_TRANSIENT, .unset, .unset, .unset, .unset] [.int p3, .ref w_TRANSIENT, .ref b40])) rfl (by rw [hml]; rfl) (Steps.refl _) (argsL := [.ref w_TRANSIENT, .int p3]) (rest := []) (lenOf pd_19 rfl) rfl (by show 2 * 0 + _ ≤ _; exact Nat.le_of_eq rfl) (hb hby at_159) (fun _ _ => ⟨rfl, e48, (by decide : 6 + 0 ≤ _), (by decide : 30 + 0 ≤ _)⟩)
                    dsimp only [Pt.U, Pt.locs, Pt.cells, Pt.slots] at X50 l50 y50 z50 st50 hQ50
                    subst l50 y50 z50
                    obtain ⟨h50, e50⟩ : ∃ z, T50.heap = z := ⟨_, rfl⟩
                    rw [e50] at hQ50
                    obtain ⟨rfl, N50q, p50_0⟩ := hQ50
                    have N50 := Fr.app N44 N50q
                    rw [p50_0] at e50
                    obtain ⟨T51, X51, e51, st51⟩ := getS2 X50 hx hZ hown (host := "") (Or.inl (W 115 rfl)) Via.refl e50 (S_w_FAILED.ext O45.2) (g := (mkF m 199 #[iv p1, iv p2, iv p3, iv 7, rv w_STANDARD_delays_elements_0, rv b3, rv b40, iv 1, rv w_TRANSIENT, rv w_FAILED, .val (.long ((7 : Int64) - (p3.toInt64))), .second, .unset] [])) rfl (hb hby at_199)
                    obtain ⟨fs, hr, hrun, hended, hW, hsame⟩ := X51.leave (v := some (.int (1 : Int32))) (fun h => by rw [Bd.returns] at h; cases h)
                    refine ⟨_, _, pre49 _ ?_, hrun, hended, _, _, rfl, ?_, ⟨_, rfl⟩, hW, hsame.mono (by decide) (by decide)⟩
                    · show Sq p e below m T48 154 #[iv p1, iv p2, iv p3, iv 7, rv w_STANDARD_delays_elements_0, rv b3, rv b40, iv 1, rv w_TRANSIENT, .unset, .unset, .unset, .unset] [] _
                      refine XS.aload X48.here hx rfl (hb hby at_154) rfl rfl ?_
                      refine XS.aload X48.here hx rfl (hb hby at_156) rfl rfl ?_
                      show Sq p e below m T48 158 #[iv p1, iv p2, iv p3, iv 7, rv w_STANDARD_delays_elements_0, rv b3, rv b40, iv 1, rv w_TRANSIENT, .unset, .unset, .unset, .unset] [.ref w_TRANSIENT, .ref b40] _
                      refine XS.iloadN X48.here hx rfl (hb hby at_158) rfl ?_
                      show Sq p e below m T48 159 #[iv p1, iv p2, iv p3, iv 7, rv w_STANDARD_delays_elements_0, rv b3, rv b40, iv 1, rv w_TRANSIENT, .unset, .unset, .unset, .unset] [.int p3, .ref w_TRANSIENT, .ref b40] _
                      refine st50.trans ?_
                      show Sq p e below m T50 162 #[iv p1, iv p2, iv p3, iv 7, rv w_STANDARD_delays_elements_0, rv b3, rv b40, iv 1, rv w_TRANSIENT, .unset, .unset, .unset, .unset] [.ref w_FAILED] _
                      refine XS.astore X50.here hx rfl (hb hby at_162) rfl rfl rfl ?_
                      refine XS.iloadN X50.here hx rfl (hb hby at_164) rfl ?_
                      show Sq p e below m T50 165 #[iv p1, iv p2, iv p3, iv 7, rv w_STANDARD_delays_elements_0, rv b3, rv b40, iv 1, rv w_TRANSIENT, rv w_FAILED, .unset, .unset, .unset] [.int 7] _
                      refine XS.i2l X50.here hx rfl (hb hby at_165) rfl ?_
                      show Sq p e below m T50 166 #[iv p1, iv p2, iv p3, iv 7, rv w_STANDARD_delays_elements_0, rv b3, rv b40, iv 1, rv w_TRANSIENT, rv w_FAILED, .unset, .unset, .unset] [.long ((7 : Int32).toInt64)] _
                      rw [show ((7 : Int32).toInt64) = (7 : Int64) from by decide]
                      show Sq p e below m T50 166 #[iv p1, iv p2, iv p3, iv 7, rv w_STANDARD_delays_elements_0, rv b3, rv b40, iv 1, rv w_TRANSIENT, rv w_FAILED, .unset, .unset, .unset] [.long 7] _
                      refine XS.iloadN X50.here hx rfl (hb hby at_166) rfl ?_
                      refine XS.i2l X50.here hx rfl (hb hby at_167) rfl ?_
                      show Sq p e below m T50 168 #[iv p1, iv p2, iv p3, iv 7, rv w_STANDARD_delays_elements_0, rv b3, rv b40, iv 1, rv w_TRANSIENT, rv w_FAILED, .unset, .unset, .unset] [.long (p3.toInt64), .long 7] _
                      refine XS.lsub X50.here hx rfl (hb hby at_168) rfl ?_
                      refine XS.lstore X50.here hx rfl (hb hby at_169) rfl rfl ?_
                      show Sq p e below m T50 171 #[iv p1, iv p2, iv p3, iv 7, rv w_STANDARD_delays_elements_0, rv b3, rv b40, iv 1, rv w_TRANSIENT, rv w_FAILED, .val (.long ((7 : Int64) - (p3.toInt64))), .second, .unset] [] _
                      refine XS.iload X50.here hx rfl (hb hby at_171) rfl ?_
                      refine XS.ifYes X50.here hx rfl (pc0 := 173) (pc' := 184) rfl (hb hby at_173) rfl ((if0 _ _).trans (feq (by decide)).2) (by decide) (by decide) ?_
                      show Sq p e below m T50 184 #[iv p1, iv p2, iv p3, iv 7, rv w_STANDARD_delays_elements_0, rv b3, rv b40, iv 1, rv w_TRANSIENT, rv w_FAILED, .val (.long ((7 : Int64) - (p3.toInt64))), .second, .unset] [] _
                      refine XS.lload X50.here hx rfl (hb hby at_184) rfl ?_
                      refine XS.lconst X50.here hx rfl (hb hby at_186) ?_
                      show Sq p e below m T50 187 #[iv p1, iv p2, iv p3, iv 7, rv w_STANDARD_delays_elements_0, rv b3, rv b40, iv 1, rv w_TRANSIENT, rv w_FAILED, .val (.long ((7 : Int64) - (p3.toInt64))), .second, .unset] [.long 1, .long ((7 : Int64) - (p3.toInt64))] _
                      refine XS.lcmp X50.here hx rfl (hb hby at_187) rfl ?_
                      refine XS.ifYes X50.here hx rfl (pc0 := 188) (pc' := 199) rfl (hb hby at_188) rfl ((if0 _ _).trans (tlt (own_lt (k := (7 : Int32)) (by decide) hrk)).1) (by decide) (by decide) ?_
                      show Sq p e below m T50 199 #[iv p1, iv p2, iv p3, iv 7, rv w_STANDARD_delays_elements_0, rv b3, rv b40, iv 1, rv w_TRANSIENT, rv w_FAILED, .val (.long ((7 : Int64) - (p3.toInt64))), .second, .unset] [] _
                      refine st51 _ ?_
                      show Sq p e below m T51 202 #[iv p1, iv p2, iv p3, iv 7, rv w_STANDARD_delays_elements_0, rv b3, rv b40, iv 1, rv w_TRANSIENT, rv w_FAILED, .val (.long ((7 : Int64) - (p3.toInt64))), .second, .unset] [.ref w_FAILED] _
                      refine XS.astore X51.here hx rfl (hb hby at_202) rfl rfl rfl ?_
                      refine XS.aload X51.here hx rfl (hb hby at_204) rfl rfl ?_
                      show Sq p e below m T51 206 #[iv p1, iv p2, iv p3, iv 7, rv w_STANDARD_delays_elements_0, rv b3, rv b40, iv 1, rv w_TRANSIENT, rv w_FAILED, .val (.long ((7 : Int64) - (p3.toInt64))), .second, rv w_FAILED] [.ref w_FAILED] _
                      refine XS.aload X51.here hx rfl (hb hby at_206) rfl rfl ?_
                      show Sq p e below m T51 208 #[iv p1, iv p2, iv p3, iv 7, rv w_STANDARD_delays_elements_0, rv b3, rv b40, iv 1, rv w_TRANSIENT, rv w_FAILED, .val (.long ((7 : Int64) - (p3.toInt64))), .second, rv w_FAILED] [.ref w_FAILED, .ref w_FAILED] _
                      refine Jvm.RoadKit.acmp (g := (mkF m 208 #[iv p1, iv p2, iv p3, iv 7, rv w_STANDARD_delays_elements_0, rv b3, rv b40, iv 1, rv w_TRANSIENT, rv w_FAILED, .val (.long ((7 : Int64) - (p3.toInt64))), .second, rv w_FAILED] [.ref w_FAILED, .ref w_FAILED])) X51 hx rfl rfl rfl (pc0 := 208) (pc' := 211) (same := true) rfl (hb hby at_208) rfl (decide_eq_true rfl) (by decide) (by decide) ?_
                      show Sq p e below m T51 211 #[iv p1, iv p2, iv p3, iv 7, rv w_STANDARD_delays_elements_0, rv b3, rv b40, iv 1, rv w_TRANSIENT, rv w_FAILED, .val (.long ((7 : Int64) - (p3.toInt64))), .second, rv w_FAILED] [] _
                      refine XS.iconst X51.here hx rfl (hb hby at_211) ?_
                      refine XS.goto X51.here hx rfl (pc0 := 212) (pc' := 216) rfl (hb hby at_212) (by decide) (by decide) ?_
                      show Sq p e below m T51 216 #[iv p1, iv p2, iv p3, iv 7, rv w_STANDARD_delays_elements_0, rv b3, rv b40, iv 1, rv w_TRANSIENT, rv w_FAILED, .val (.long ((7 : Int64) - (p3.toInt64))), .second, rv w_FAILED] [.int 1] _
                      exact retN X51 hx (t := .boolean) Bd.returns (by simp) (hb hby at_216) hr
                    · show Q_rm0 Z p1 p2 p3 (7 : Int32) w_STANDARD w_STANDARD_delays w_STANDARD_delays_elements w_STANDARD_delays_elements_0 w_TRANSIENT w_FAILED w_DATA w_PENDING w_STANDARD_delays_elements_1 w_STANDARD_delays_elements_2 w_STANDARD_delays_elements_3 w_STANDARD_delays_elements_4 w_DEF w_ELIST w_EMPTY w_ELIST_elements kdef kel k5 w_MIR h0 n0 _ T51.heap _
                      rw [e51]
                      exact ⟨rfl, N50⟩
set_option maxRecDepth 65536 in
set_option maxHeartbeats 40000000 in
theorem comes_1 {Post : Tables → Env → Array Value → State → Outcome → State → Prop} (hpost : ∀ tb e args s v u, (limb_1_1.after args s (.returned v) u = true ∧ limb_1_2.after args s (.returned v) u = true ∧ True) → FrameEnd s (.returned v) u (Jvm.fieldLocs frame_1_writes args s ++ Jvm.arrayLocs frame_1_arrays args s ++ Jvm.staticLocs frame_1_statics s) 24 128 → Post tb e args s (.returned v) u) :
    ArmFor flags0 classFile x code maxLocals ret World_1 tables_1 room_1 Calls_1 rest_1 Pre_1 Post := by
  intro l hfl _ _ p e ha hc hk s m args below hf hA hF happ hP
  obtain ⟨hcalls, hrest, hpre⟩ := hP
  obtain ⟨-, -, -, hnamed, -, -, -, hat⟩ := (Spec.applies_iff hf).mp happ
  obtain ⟨hg, hn⟩ := and_e (Cond.before_iff.mp (show (Jvm.Cond.and given_1 narrow_1).before args s = true from hpre))
  obtain ⟨gc, gr0⟩ := and_e hg
  obtain ⟨ga0, gr1⟩ := and_e gr0
  obtain ⟨ga1, gr2⟩ := and_e gr1
  obtain ⟨w0, w1, w2, rfl⟩ : ∃ w0 w1 w2 : Value, args = #[w0, w1, w2] := by
    have hs : args.size = 3 := by simpa [Cond.value, given_1] using gc
    obtain ⟨L⟩ := args
    match L, hs with
    | [w0, w1, w2], _ => exact ⟨w0, w1, w2, rfl⟩
  have hw := fun d (hd : d ∈ tables_1) => atoms_spec (ws := Jvm.Cond.code x code maxLocals ret :: tables_1) hat d (List.mem_cons_of_mem _ hd)
  have W := fun (i : Nat) {d : Jvm.Cond} (h : tables_1[i]? = some d) => hw d (List.mem_of_getElem? h)
  obtain ⟨hsets, hown0⟩ := atoms_of _ (rest_1_c_eq ▸ (show rest_1_c.before _ s = true from hrest))
  obtain ⟨i0, ei0⟩ := is_v ga0
  obtain rfl : w0 = (.int i0) := Option.some.inj ei0
  obtain ⟨i1, ei1⟩ := is_v ga1
  obtain rfl : w1 = (.int i1) := Option.some.inj ei1
  obtain ⟨i2, ei2⟩ := is_v gr2
  obtain rfl : w2 = (.int i2) := Option.some.inj ei2
  obtain ⟨c0, cr0⟩ := and_e hn
  obtain ⟨c1, cr1⟩ := and_e cr0
  obtain ⟨c2, cr2⟩ := and_e cr1
  obtain ⟨c3, cr3⟩ := and_e cr2
  obtain ⟨c4, cr4⟩ := and_e cr3
  obtain ⟨c5, cr5⟩ := and_e cr4
  obtain ⟨c6, cr6⟩ := and_e cr5
  obtain ⟨c7, cr7⟩ := and_e cr6
  obtain ⟨c8, cr8⟩ := and_e cr7
  obtain ⟨c9, cr9⟩ := and_e cr8
  obtain ⟨c10, cr10⟩ := and_e cr9
  obtain ⟨c11, cr11⟩ := and_e cr10
  obtain ⟨c12, cr12⟩ := and_e cr11
  obtain ⟨c13, cr13⟩ := and_e cr12
  have c14 := cr13
  obtain ⟨w_STANDARD, ev_w_STANDARD⟩ := exa_v c0
  have S_w_STANDARD := Sta.start ev_w_STANDARD (Or.inr ⟨(W 1 rfl), (W 2 rfl)⟩)
  have E_w_STANDARD := Exa.start ev_w_STANDARD c0
  obtain ⟨w_STANDARD_delays, ev_w_STANDARD_delays⟩ := exa_v c1
  have F_w_STANDARD_delays := own_fldR ev_w_STANDARD ev_w_STANDARD_delays
  have E_w_STANDARD_delays := Exa.start ev_w_STANDARD_delays c1
  obtain ⟨w_STANDARD_delays_elements, ev_w_STANDARD_delays_elements⟩ := arr_v c2
  have F_w_STANDARD_delays_elements := own_fldR ev_w_STANDARD_delays ev_w_STANDARD_delays_elements
  obtain ⟨cl_w_STANDARD_delays_elements, Ar_w_STANDARD_delays_elements⟩ := Arr.start ev_w_STANDARD_delays_elements c2
  have len_w_STANDARD_delays_elements := own_len ev_w_STANDARD_delays_elements Ar_w_STANDARD_delays_elements c3
  obtain ⟨w_STANDARD_delays_elements_0, ev_w_STANDARD_delays_elements_0⟩ := exa_v c4
  have E_w_STANDARD_delays_elements_0 := Exa.start ev_w_STANDARD_delays_elements_0 c4
  obtain ⟨w_TRANSIENT, ev_w_TRANSIENT⟩ := exa_v c5
  have S_w_TRANSIENT := Sta.start ev_w_TRANSIENT (Or.inr ⟨(W 91 rfl), (W 92 rfl)⟩)
  have E_w_TRANSIENT := Exa.start ev_w_TRANSIENT c5
  obtain ⟨w_FAILED, ev_w_FAILED⟩ := exa_v c6
  have S_w_FAILED := Sta.start ev_w_FAILED (Or.inr ⟨(W 113 rfl), (W 114 rfl)⟩)
  have E_w_FAILED := Exa.start ev_w_FAILED c6
  obtain ⟨w_DATA, ev_w_DATA⟩ := exa_v c7
  have S_w_DATA := Sta.start ev_w_DATA (Or.inr ⟨(W 91 rfl), (W 209 rfl)⟩)
  have E_w_DATA := Exa.start ev_w_DATA c7
  have ev_w_DATA_ordinal := eqv_i (Term.int_eval (0 : Int32)) c8
  have F_w_DATA_ordinal := own_fldR ev_w_DATA ev_w_DATA_ordinal
  have ev_w_TRANSIENT_ordinal := eqv_i (Term.int_eval (1 : Int32)) c9
  have F_w_TRANSIENT_ordinal := own_fldR ev_w_TRANSIENT ev_w_TRANSIENT_ordinal
  obtain ⟨w_PENDING, ev_w_PENDING⟩ := exa_v c10
  have S_w_PENDING := Sta.start ev_w_PENDING (Or.inr ⟨(W 113 rfl), (W 236 rfl)⟩)
  have E_w_PENDING := Exa.start ev_w_PENDING c10
  obtain ⟨w_STANDARD_delays_elements_1, ev_w_STANDARD_delays_elements_1⟩ := exa_v c11
  have E_w_STANDARD_delays_elements_1 := Exa.start ev_w_STANDARD_delays_elements_1 c11
  obtain ⟨w_STANDARD_delays_elements_2, ev_w_STANDARD_delays_elements_2⟩ := exa_v c12
  have E_w_STANDARD_delays_elements_2 := Exa.start ev_w_STANDARD_delays_elements_2 c12
  obtain ⟨w_STANDARD_delays_elements_3, ev_w_STANDARD_delays_elements_3⟩ := exa_v c13
  have E_w_STANDARD_delays_elements_3 := Exa.start ev_w_STANDARD_delays_elements_3 c13
  obtain ⟨w_STANDARD_delays_elements_4, ev_w_STANDARD_delays_elements_4⟩ := exa_v c14
  have E_w_STANDARD_delays_elements_4 := Exa.start ev_w_STANDARD_delays_elements_4 c14
  obtain ⟨w_DEF, ev_w_DEF⟩ := exa_v (Cond.before_iff.mp (hsets _ (List.mem_of_getElem? (i := 7) rfl)))
  have S_w_DEF := Sta.start ev_w_DEF (Or.inr ⟨(W 26 rfl), (hsets _ (List.mem_of_getElem? (i := 2) rfl))⟩)
  have E_w_DEF := Exa.start ev_w_DEF (Cond.before_iff.mp (hsets _ (List.mem_of_getElem? (i := 7) rfl)))
  obtain ⟨w_ELIST, ev_w_ELIST⟩ := exa_v (Cond.before_iff.mp (hsets _ (List.mem_of_getElem? (i := 11) rfl)))
  have S_w_ELIST := Sta.start ev_w_ELIST (Or.inl (hsets _ (List.mem_of_getElem? (i := 10) rfl)))
  have E_w_ELIST := Exa.start ev_w_ELIST (Cond.before_iff.mp (hsets _ (List.mem_of_getElem? (i := 11) rfl)))
  obtain ⟨w_EMPTY, ev_w_EMPTY⟩ := exa_v (Cond.before_iff.mp (hsets _ (List.mem_of_getElem? (i := 18) rfl)))
  have S_w_EMPTY := Sta.start ev_w_EMPTY (Or.inl (hsets _ (List.mem_of_getElem? (i := 17) rfl)))
  have E_w_EMPTY := Exa.start ev_w_EMPTY (Cond.before_iff.mp (hsets _ (List.mem_of_getElem? (i := 18) rfl)))
  obtain ⟨cl_w_DEF, Ar_w_DEF⟩ := Arr.start ev_w_DEF (Cond.before_iff.mp (hsets _ (List.mem_of_getElem? (i := 6) rfl)))
  obtain ⟨w_ELIST_elements, ev_w_ELIST_elements⟩ := arr_v (Cond.before_iff.mp (hsets _ (List.mem_of_getElem? (i := 12) rfl)))
  have F_w_ELIST_elements := own_fldR ev_w_ELIST ev_w_ELIST_elements
  obtain ⟨cl_w_ELIST_elements, Ar_w_ELIST_elements⟩ := Arr.start ev_w_ELIST_elements (Cond.before_iff.mp (hsets _ (List.mem_of_getElem? (i := 12) rfl)))
  have E_w_ELIST_elements := Exa.start ev_w_ELIST_elements (Cond.before_iff.mp (hsets _ (List.mem_of_getElem? (i := 13) rfl)))
  have len_w_DEF := own_len ev_w_DEF Ar_w_DEF (Cond.before_iff.mp (hsets _ (List.mem_of_getElem? (i := 8) rfl)))
  have len_w_ELIST_elements := own_len ev_w_ELIST_elements Ar_w_ELIST_elements (Cond.before_iff.mp (hsets _ (List.mem_of_getElem? (i := 14) rfl)))
  obtain ⟨kdef, V_w_DEF⟩ := own_arvE (d := .null) Ar_w_DEF len_w_DEF
  obtain ⟨kel, V_w_ELE⟩ := own_arvE (d := .null) Ar_w_ELIST_elements len_w_ELIST_elements
  obtain ⟨k5, V_5⟩ := own_arv5 Ar_w_STANDARD_delays_elements len_w_STANDARD_delays_elements (elem_in ev_w_STANDARD_delays_elements_0 ev_w_STANDARD_delays_elements (Term.int_eval (0 : Int32)) Ar_w_STANDARD_delays_elements.1).2 (elem_in ev_w_STANDARD_delays_elements_1 ev_w_STANDARD_delays_elements (Term.int_eval (1 : Int32)) Ar_w_STANDARD_delays_elements.1).2 (elem_in ev_w_STANDARD_delays_elements_2 ev_w_STANDARD_delays_elements (Term.int_eval (2 : Int32)) Ar_w_STANDARD_delays_elements.1).2 (elem_in ev_w_STANDARD_delays_elements_3 ev_w_STANDARD_delays_elements (Term.int_eval (3 : Int32)) Ar_w_STANDARD_delays_elements.1).2 (elem_in ev_w_STANDARD_delays_elements_4 ev_w_STANDARD_delays_elements (Term.int_eval (4 : Int32)) Ar_w_STANDARD_delays_elements.1).2
  obtain ⟨mc_, mk_, w_MIR, hm1, hm2, hm3, -⟩ := hcalls.1
  have Mo : Mirr s "[Ljava/lang/Object;" w_MIR := ⟨mc_, mk_, hm1, hm2, hm3⟩
  have nek := own_ne F_w_DATA_ordinal F_w_TRANSIENT_ordinal (by decide)
  obtain ⟨n_, hn_⟩ : ∃ z, (i0 &&& (7 : Int32)) = z := ⟨_, rfl⟩
  obtain ⟨n, o, h1, h2, h3, _, L, rfl, ⟨rfl, N⟩, hq⟩ := rm0 l s _ hw tables_1 i0 i1 i2 n_ w_STANDARD w_STANDARD_delays w_STANDARD_delays_elements w_STANDARD_delays_elements_0 w_TRANSIENT w_FAILED w_DATA w_PENDING w_STANDARD_delays_elements_1 w_STANDARD_delays_elements_2 w_STANDARD_delays_elements_3 w_STANDARD_delays_elements_4 w_DEF w_ELIST w_EMPTY w_ELIST_elements kdef kel k5 w_MIR s.heap s.heap.size (Old.start s) S_w_STANDARD E_w_STANDARD F_w_STANDARD_delays E_w_STANDARD_delays F_w_STANDARD_delays_elements E_w_STANDARD_delays_elements_0 S_w_TRANSIENT E_w_TRANSIENT S_w_FAILED E_w_FAILED S_w_DATA E_w_DATA S_w_PENDING E_w_PENDING E_w_STANDARD_delays_elements_1 E_w_STANDARD_delays_elements_2 E_w_STANDARD_delays_elements_3 E_w_STANDARD_delays_elements_4 S_w_DEF E_w_DEF S_w_ELIST E_w_ELIST S_w_EMPTY E_w_EMPTY F_w_ELIST_elements E_w_ELIST_elements V_w_DEF V_w_ELE V_5 Mo nek hn_ (own_n7 hn_) p e ha hc hk s m _ below hf ((Spec.applies_iff_loose hf).mp happ).1 ⟨rfl, State.Warmed39.refl s, rfl⟩ trivial
  refine ⟨n, _, h1, h2, h3, hpost _ _ _ _ _ _ ⟨Cond.after_iff.mpr rfl, Cond.after_iff.mpr (eq_i res_at (Term.int_eval (1)) rfl), trivial⟩ ⟨hq.1, hq.2.1, (hq.2.2.sift fun y hy => Or.inr (N y hy)).mono (by decide) (by decide)⟩⟩
theorem main_1_1 : Claimed_1_1 := comes_1 fun _ _ _ _ _ _ h hF => ⟨h.1, hF⟩
theorem main_1_2 : Claimed_1_2 := comes_1 fun _ _ _ _ _ _ h hF => ⟨h.2.1, hF⟩
end Jvm.Pilot.@@N@@
namespace Jvm.Pilot.@@N@@
open Jvm Jvm.ClassFile Sem Op Lib Jvm.Free Jvm.Stand Jvm.Pilot.@@N@@.Jvm.D
/-! MADE BY PROGRAM (witnessworld.py) out of the Statement's table words and the real class files: 35 classes; the members and pool entries that the words name. The judged class is class 1, her method 1. -/
namespace start1
open Jvm.ClassFile
def u (s : String) : CpInfo := .utf8 (stringToUtf16 s)
/-- a pool by its gaps: so many unusable entries, then the entry; so many at the end -/
def gap : Nat → List CpInfo → List CpInfo
  | 0, r => r
  | n + 1, r => .unusable :: gap n r
def poolList (es : List (Nat × CpInfo)) (last : Nat) : List CpInfo := es.foldr (fun e r => gap e.1 (e.2 :: r)) (gap last [])
def pool (es : List (Nat × CpInfo)) (last : Nat) : Array CpInfo := ⟨poolList es last⟩
def fileOf (pool : Array CpInfo) (this : Nat) (attrs : Array Attribute := #[]) (ms : Array MethodInfo := #[]) (fl : Nat := 33) (sup : Nat := 0) (ifs : Array Nat := #[]) (fds : Array FieldInfo := #[]) : ClassFile where
  minorVersion := 0
  majorVersion := 65
  constantPool := pool
  accessFlags := fl
  thisClass := this
  superClass := sup
  interfaces := ifs
  fields := fds
  methods := ms
  attributes := attrs
def plain (name : String) (sup : Option ClassId) : Class where
  name := name
  kind := .ordinary
  loader := none
  accessFlags := 33
  super := sup
  interfaces := #[]
  cf := none
  fields := #[]
  methods := #[]
  instanceTypes := #[]
  staticTypes := #[]
  resolved := #[]
  callSites := []
  init := .initialized
  statics := none
  mirror := none

def pool0 : Array CpInfo := pool [(5, u "<init>"), (0, u "()V"), (1, .class_ 10), (1, u "java/lang/Object"), (0, u "getClass"), (0, u "()Ljava/lang/Class;")] 111

def k0c0 : Code := { maxStack := 0, maxLocals := 1, code := object_method_1_code, exceptionTable := #[], attributes := #[] }
def k0m0 : Method := { name := "<init>", desc := "()V", sig := { parameters := [], returnType := none }, accessFlags := 1, code := some k0c0 }
def k0m1 : Method := { name := "getClass", desc := "()Ljava/lang/Class;", sig := { parameters := [], returnType := some (.object "java/lang/Class") }, accessFlags := 273, code := none }
/-- java/lang/Object -/
def k0 : Class := { plain "java/lang/Object" none with
  accessFlags := 33
  interfaces := #[]
  cf := some (fileOf pool0 8 #[] #[{ accessFlags := 1, nameIndex := 5, descriptorIndex := 6, attributes := #[] }, { accessFlags := 273, nameIndex := 11, descriptorIndex := 12, attributes := #[] }] 33 0 #[] #[])
  fields := #[]
  methods := #[k0m0, k0m1]
  instanceTypes := #[]
  staticTypes := #[]
  resolved := Array.replicate 124 none
  statics := none }

def pool1 : Array CpInfo := pool [(2, .class_ 4), (0, .nameAndType 5 6), (0, u "java/lang/Object"), (0, u "<init>"), (0, u "()V"), (0, .fieldref 8 9), (0, .class_ 10), (0, .nameAndType 11 12), (0, u "com/example/savitri/savitri/store/RedriveSchedule"), (0, u "STANDARD"), (0, u "Lcom/example/savitri/savitri/store/RedriveSchedule;"), (0, .methodref 8 14), (0, .nameAndType 15 16), (0, u "delayAfter"), (0, u "(I)Ljava/time/Duration;"), (0, .class_ 18), (0, u "java/util/ArrayList"), (0, .methodref 17 3), (0, .methodref 17 21), (0, .nameAndType 22 23), (0, u "add"), (0, u "(Ljava/lang/Object;)Z"), (0, .methodref 8 25), (0, .nameAndType 5 26), (0, u "(Ljava/util/List;)V"), (0, .fieldref 28 29), (0, .class_ 30), (0, .nameAndType 31 32), (0, u "com/example/savitri/savitri/client/FailureKind"), (0, u "TRANSIENT"), (0, u "Lcom/example/savitri/savitri/client/FailureKind;"), (0, .fieldref 28 34), (0, .nameAndType 35 32), (0, u "DATA"), (0, .methodref 8 37), (0, .nameAndType 38 39), (0, u "statusAfter"), (0, u "(Lcom/example/savitri/savitri/client/FailureKind;I)Lcom/example/savitri/savitri/store/DeadLetterStatus;"), (0, .fieldref 41 42), (0, .class_ 43), (0, .nameAndType 44 45), (0, u "com/example/savitri/savitri/store/DeadLetterStatus"), (0, u "FAILED"), (0, u "Lcom/example/savitri/savitri/store/DeadLetterStatus;"), (0, .fieldref 41 47), (0, .nameAndType 48 45), (0, u "PENDING"), (0, .class_ 50), (0, u "com/example/savitri/savitri/store/RedriveScheduleStatusAfterPinLaw"), (2, u "law"), (0, u "(III)Z")] 5

def k1m0 : Method := { name := "<init>", desc := "()V", sig := { parameters := [], returnType := none }, accessFlags := 1, code := none }
def k1c1 : Code := { maxStack := 4, maxLocals := 13, code := code, exceptionTable := #[], attributes := #[] }
def k1m1 : Method := { name := "law", desc := "(III)Z", sig := { parameters := [.int, .int, .int], returnType := some .boolean }, accessFlags := 9, code := some k1c1 }
/-- com/example/savitri/savitri/store/RedriveScheduleStatusAfterPinLaw -/
def k1 : Class := { plain "com/example/savitri/savitri/store/RedriveScheduleStatusAfterPinLaw" (some 0) with
  accessFlags := 49
  interfaces := #[]
  cf := some (fileOf pool1 49 #[] #[{ accessFlags := 1, nameIndex := 5, descriptorIndex := 6, attributes := #[] }, { accessFlags := 9, nameIndex := 53, descriptorIndex := 54, attributes := #[] }] 49 2 #[] #[])
  fields := #[]
  methods := #[k1m0, k1m1]
  instanceTypes := #[]
  staticTypes := #[]
  resolved := Array.replicate 60 none
  statics := none }

def pool2 : Array CpInfo := pool [(1, .methodref 2 3), (0, .class_ 4), (0, .nameAndType 5 6), (0, u "java/lang/Object"), (0, u "<init>"), (0, u "()V"), (0, .class_ 8), (0, u "java/lang/Record")] 13

def k2c0 : Code := { maxStack := 1, maxLocals := 1, code := jdk_30_method_1_code, exceptionTable := #[], attributes := #[] }
def k2m0 : Method := { name := "<init>", desc := "()V", sig := { parameters := [], returnType := none }, accessFlags := 4, code := some k2c0 }
/-- java/lang/Record -/
def k2 : Class := { plain "java/lang/Record" (some 0) with
  accessFlags := 1057
  interfaces := #[]
  cf := some (fileOf pool2 7 #[] #[{ accessFlags := 4, nameIndex := 5, descriptorIndex := 6, attributes := #[] }] 1057 2 #[] #[])
  fields := #[]
  methods := #[k2m0]
  instanceTypes := #[]
  staticTypes := #[]
  resolved := Array.replicate 22 none
  statics := none }

def pool3 : Array CpInfo := pool [(1, .methodref 2 3), (0, .class_ 4), (0, .nameAndType 5 6), (0, u "java/lang/Record"), (0, u "<init>"), (0, u "()V"), (0, .interfaceMethodref 8 9), (0, .class_ 10), (0, .nameAndType 11 12), (0, u "java/util/List"), (0, u "copyOf"), (0, u "(Ljava/util/Collection;)Ljava/util/List;"), (0, .fieldref 14 15), (0, .class_ 16), (0, .nameAndType 17 18), (0, u "com/example/savitri/savitri/store/RedriveSchedule"), (0, u "delays"), (0, u "Ljava/util/List;"), (0, .interfaceMethodref 8 20), (0, .nameAndType 21 22), (0, u "size"), (0, u "()I"), (0, .fieldref 24 25), (0, .class_ 26), (0, .nameAndType 27 28), (0, u "com/example/savitri/savitri/client/FailureKind"), (0, u "TRANSIENT"), (0, u "Lcom/example/savitri/savitri/client/FailureKind;"), (0, .methodref 14 30), (0, .nameAndType 31 22), (0, u "redrives"), (0, .fieldref 33 34), (0, .class_ 35), (0, .nameAndType 36 37), (0, u "com/example/savitri/savitri/store/DeadLetterStatus"), (0, u "PENDING"), (0, u "Lcom/example/savitri/savitri/store/DeadLetterStatus;"), (0, .fieldref 33 39), (0, .nameAndType 40 37), (0, u "FAILED"), (0, .interfaceMethodref 8 42), (0, .nameAndType 43 44), (0, u "get"), (0, u "(I)Ljava/lang/Object;"), (0, .class_ 46), (0, u "java/time/Duration"), (32, u "(Ljava/util/List;)V"), (2, u "STANDARD"), (0, u "Lcom/example/savitri/savitri/store/RedriveSchedule;"), (6, u "statusAfter"), (0, u "(Lcom/example/savitri/savitri/client/FailureKind;I)Lcom/example/savitri/savitri/store/DeadLetterStatus;"), (1, u "delayAfter"), (0, u "(I)Ljava/time/Duration;")] 24

def k3c0 : Code := { maxStack := 2, maxLocals := 2, code := prog_17_method_1_code, exceptionTable := #[], attributes := #[] }
def k3m0 : Method := { name := "<init>", desc := "(Ljava/util/List;)V", sig := { parameters := [(.object "java/util/List")], returnType := none }, accessFlags := 1, code := some k3c0 }
def k3c1 : Code := { maxStack := 1, maxLocals := 1, code := prog_17_method_2_code, exceptionTable := #[], attributes := #[] }
def k3m1 : Method := { name := "redrives", desc := "()I", sig := { parameters := [], returnType := some .int }, accessFlags := 1, code := some k3c1 }
def k3c2 : Code := { maxStack := 2, maxLocals := 4, code := prog_17_method_3_code, exceptionTable := #[], attributes := #[] }
def k3m2 : Method := { name := "statusAfter", desc := "(Lcom/example/savitri/savitri/client/FailureKind;I)Lcom/example/savitri/savitri/store/DeadLetterStatus;", sig := { parameters := [(.object "com/example/savitri/savitri/client/FailureKind"), .int], returnType := some (.object "com/example/savitri/savitri/store/DeadLetterStatus") }, accessFlags := 1, code := some k3c2 }
def k3c3 : Code := { maxStack := 2, maxLocals := 2, code := prog_17_method_4_code, exceptionTable := #[], attributes := #[] }
def k3m3 : Method := { name := "delayAfter", desc := "(I)Ljava/time/Duration;", sig := { parameters := [.int], returnType := some (.object "java/time/Duration") }, accessFlags := 1, code := some k3c3 }
/-- com/example/savitri/savitri/store/RedriveSchedule -/
def k3 : Class := { plain "com/example/savitri/savitri/store/RedriveSchedule" (some 2) with
  accessFlags := 49
  interfaces := #[]
  cf := some (fileOf pool3 14 #[] #[{ accessFlags := 1, nameIndex := 5, descriptorIndex := 79, attributes := #[] }, { accessFlags := 1, nameIndex := 31, descriptorIndex := 22, attributes := #[] }, { accessFlags := 1, nameIndex := 90, descriptorIndex := 91, attributes := #[] }, { accessFlags := 1, nameIndex := 93, descriptorIndex := 94, attributes := #[] }] 49 2 #[] #[{ accessFlags := 18, nameIndex := 17, descriptorIndex := 18, attributes := #[] }, { accessFlags := 25, nameIndex := 82, descriptorIndex := 83, attributes := #[] }])
  fields := #[{ name := "delays", type := (.object "java/util/List"), accessFlags := 18, slot := 0, constantValue := 0 }, { name := "STANDARD", type := (.object "com/example/savitri/savitri/store/RedriveSchedule"), accessFlags := 25, slot := 0, constantValue := 0 }]
  methods := #[k3m0, k3m1, k3m2, k3m3]
  instanceTypes := #[(.object "java/util/List")]
  staticTypes := #[(.object "com/example/savitri/savitri/store/RedriveSchedule")]
  resolved := Array.replicate 119 none
  statics := some 0 }

def pool4 : Array CpInfo := pool [(8, .class_ 10), (1, u "java/lang/Iterable"), (24, .class_ 36), (0, u "java/lang/Object")] 25

/-- java/lang/Iterable -/
def k4 : Class := { plain "java/lang/Iterable" (some 0) with
  accessFlags := 1537
  interfaces := #[]
  cf := some (fileOf pool4 8 #[] #[] 1537 35 #[] #[])
  fields := #[]
  methods := #[]
  instanceTypes := #[]
  staticTypes := #[]
  resolved := Array.replicate 62 none
  statics := none }

def pool5 : Array CpInfo := pool [(10, .class_ 12), (1, u "java/util/Collection"), (0, u "toArray"), (16, u "()Z"), (29, .class_ 61), (0, u "java/lang/Object"), (0, .class_ 63), (0, u "java/lang/Iterable"), (2, u "isEmpty"), (3, u "()[Ljava/lang/Object;")] 44

def k5m0 : Method := { name := "isEmpty", desc := "()Z", sig := { parameters := [], returnType := some .boolean }, accessFlags := 1025, code := none }
def k5m1 : Method := { name := "toArray", desc := "()[Ljava/lang/Object;", sig := { parameters := [], returnType := some (.array (.object "java/lang/Object")) }, accessFlags := 1025, code := none }
/-- java/util/Collection -/
def k5 : Class := { plain "java/util/Collection" (some 0) with
  accessFlags := 1537
  interfaces := #[4]
  cf := some (fileOf pool5 10 #[] #[{ accessFlags := 1025, nameIndex := 66, descriptorIndex := 30, attributes := #[] }, { accessFlags := 1025, nameIndex := 13, descriptorIndex := 70, attributes := #[] }] 1537 60 #[62] #[])
  fields := #[]
  methods := #[k5m0, k5m1]
  instanceTypes := #[]
  staticTypes := #[]
  resolved := Array.replicate 115 none
  statics := none }

def pool6 : Array CpInfo := pool [(8, .class_ 10), (1, u "java/util/SequencedCollection"), (15, .class_ 27), (0, u "java/lang/Object"), (0, .class_ 29), (0, u "java/util/Collection")] 27

/-- java/util/SequencedCollection -/
def k6 : Class := { plain "java/util/SequencedCollection" (some 0) with
  accessFlags := 1537
  interfaces := #[5]
  cf := some (fileOf pool6 8 #[] #[] 1537 26 #[28] #[])
  fields := #[]
  methods := #[]
  instanceTypes := #[]
  staticTypes := #[]
  resolved := Array.replicate 57 none
  statics := none }

def pool7 : Array CpInfo := pool [(8, .class_ 10), (1, u "java/util/List"), (20, u "(Ljava/lang/Object;)V"), (16, u "<init>"), (26, u "get"), (0, u "(I)Ljava/lang/Object;"), (2, u "size"), (0, u "()I"), (7, u "of"), (1, .fieldref 91 92), (0, .class_ 93), (0, .nameAndType 94 95), (0, u "java/util/ImmutableCollections"), (0, u "EMPTY_LIST"), (0, u "Ljava/util/ImmutableCollections$ListN;"), (0, .class_ 97), (0, u "java/util/ImmutableCollections$List12"), (0, .methodref 96 99), (0, .nameAndType 48 31), (0, .methodref 96 101), (0, .nameAndType 48 102), (0, u "(Ljava/lang/Object;Ljava/lang/Object;)V"), (0, .class_ 104), (0, u "java/lang/Object"), (3, u "([Ljava/lang/Object;)Ljava/util/List;"), (0, .methodref 91 110), (0, .nameAndType 111 108), (0, u "listFromArray"), (0, .methodref 91 113), (0, .nameAndType 114 115), (0, u "listCopy"), (0, u "(Ljava/util/Collection;)Ljava/util/List;"), (3, u "()Ljava/util/List;"), (0, .class_ 121), (0, u "java/util/SequencedCollection"), (112, u "copyOf")] 16

def k7m0 : Method := { name := "size", desc := "()I", sig := { parameters := [], returnType := some .int }, accessFlags := 1025, code := none }
def k7m1 : Method := { name := "get", desc := "(I)Ljava/lang/Object;", sig := { parameters := [.int], returnType := some (.object "java/lang/Object") }, accessFlags := 1025, code := none }
def k7c2 : Code := { maxStack := 1, maxLocals := 0, code := jdk_40_method_36_code, exceptionTable := #[], attributes := #[] }
def k7m2 : Method := { name := "of", desc := "()Ljava/util/List;", sig := { parameters := [], returnType := some (.object "java/util/List") }, accessFlags := 9, code := some k7c2 }
def k7c3 : Code := { maxStack := 5, maxLocals := 2, code := jdk_40_method_47_code, exceptionTable := #[], attributes := #[] }
def k7m3 : Method := { name := "of", desc := "([Ljava/lang/Object;)Ljava/util/List;", sig := { parameters := [(.array (.object "java/lang/Object"))], returnType := some (.object "java/util/List") }, accessFlags := 137, code := some k7c3 }
def k7c4 : Code := { maxStack := 1, maxLocals := 1, code := jdk_40_method_48_code, exceptionTable := #[], attributes := #[] }
def k7m4 : Method := { name := "copyOf", desc := "(Ljava/util/Collection;)Ljava/util/List;", sig := { parameters := [(.object "java/util/Collection")], returnType := some (.object "java/util/List") }, accessFlags := 9, code := some k7c4 }
/-- java/util/List -/
def k7 : Class := { plain "java/util/List" (some 0) with
  accessFlags := 1537
  interfaces := #[6]
  cf := some (fileOf pool7 8 #[] #[{ accessFlags := 1025, nameIndex := 79, descriptorIndex := 80, attributes := #[] }, { accessFlags := 1025, nameIndex := 75, descriptorIndex := 76, attributes := #[] }, { accessFlags := 9, nameIndex := 88, descriptorIndex := 119, attributes := #[] }, { accessFlags := 137, nameIndex := 88, descriptorIndex := 108, attributes := #[] }, { accessFlags := 9, nameIndex := 234, descriptorIndex := 115, attributes := #[] }] 1537 103 #[120] #[])
  fields := #[]
  methods := #[k7m0, k7m1, k7m2, k7m3, k7m4]
  instanceTypes := #[]
  staticTypes := #[]
  resolved := Array.replicate 251 none
  statics := none }

def pool8 : Array CpInfo := pool [(1, .methodref 2 3), (0, .class_ 4), (0, .nameAndType 5 6), (0, u "java/lang/Object"), (0, u "<init>"), (0, u "()V"), (1, .class_ 10), (1, u "java/util/AbstractCollection"), (66, .class_ 78), (0, u "java/util/Collection")] 81

def k8c0 : Code := { maxStack := 1, maxLocals := 1, code := jdk_22_method_1_code, exceptionTable := #[], attributes := #[] }
def k8m0 : Method := { name := "<init>", desc := "()V", sig := { parameters := [], returnType := none }, accessFlags := 4, code := some k8c0 }
/-- java/util/AbstractCollection -/
def k8 : Class := { plain "java/util/AbstractCollection" (some 0) with
  accessFlags := 1057
  interfaces := #[5]
  cf := some (fileOf pool8 8 #[] #[{ accessFlags := 4, nameIndex := 5, descriptorIndex := 6, attributes := #[] }] 1057 2 #[77] #[])
  fields := #[]
  methods := #[k8m0]
  instanceTypes := #[]
  staticTypes := #[]
  resolved := Array.replicate 160 none
  statics := none }

def pool9 : Array CpInfo := pool [(1, .methodref 2 3), (0, .class_ 4), (0, .nameAndType 5 6), (0, u "java/util/AbstractCollection"), (0, u "<init>"), (0, u "()V"), (1, .class_ 10), (1, u "java/util/ImmutableCollections"), (2, .class_ 14), (0, u "java/util/ImmutableCollections$AbstractImmutableCollection")] 41

def k9c0 : Code := { maxStack := 1, maxLocals := 1, code := jdk_47_method_1_code, exceptionTable := #[], attributes := #[] }
def k9m0 : Method := { name := "<init>", desc := "()V", sig := { parameters := [], returnType := none }, accessFlags := 0, code := some k9c0 }
/-- java/util/ImmutableCollections$AbstractImmutableCollection -/
def k9 : Class := { plain "java/util/ImmutableCollections$AbstractImmutableCollection" (some 8) with
  accessFlags := 1056
  interfaces := #[]
  cf := some (fileOf pool9 13 #[.nestHost 8] #[{ accessFlags := 0, nameIndex := 5, descriptorIndex := 6, attributes := #[] }] 1056 2 #[] #[])
  fields := #[]
  methods := #[k9m0]
  instanceTypes := #[]
  staticTypes := #[]
  resolved := Array.replicate 56 none
  statics := none }

def pool10 : Array CpInfo := pool [(1, .class_ 2), (0, u "java/util/RandomAccess"), (0, .class_ 4), (0, u "java/lang/Object")] 2

/-- java/util/RandomAccess -/
def k10 : Class := { plain "java/util/RandomAccess" (some 0) with
  accessFlags := 1537
  interfaces := #[]
  cf := some (fileOf pool10 1 #[] #[] 1537 3 #[] #[])
  fields := #[]
  methods := #[]
  instanceTypes := #[]
  staticTypes := #[]
  resolved := Array.replicate 7 none
  statics := none }

def pool11 : Array CpInfo := pool [(1, .methodref 2 3), (0, .class_ 4), (0, .nameAndType 5 6), (0, u "java/util/ImmutableCollections$AbstractImmutableCollection"), (0, u "<init>"), (0, u "()V"), (1, .class_ 10), (1, u "java/util/ImmutableCollections"), (3, .class_ 16), (1, u "java/util/ImmutableCollections$AbstractImmutableList"), (60, .class_ 78), (0, u "java/util/List"), (45, .class_ 125), (0, u "java/util/RandomAccess")] 70

def k11c0 : Code := { maxStack := 1, maxLocals := 1, code := jdk_46_method_1_code, exceptionTable := #[], attributes := #[] }
def k11m0 : Method := { name := "<init>", desc := "()V", sig := { parameters := [], returnType := none }, accessFlags := 0, code := some k11c0 }
/-- java/util/ImmutableCollections$AbstractImmutableList -/
def k11 : Class := { plain "java/util/ImmutableCollections$AbstractImmutableList" (some 9) with
  accessFlags := 1056
  interfaces := #[7, 10]
  cf := some (fileOf pool11 14 #[.nestHost 8] #[{ accessFlags := 0, nameIndex := 5, descriptorIndex := 6, attributes := #[] }] 1056 2 #[77, 124] #[])
  fields := #[]
  methods := #[k11m0]
  instanceTypes := #[]
  staticTypes := #[]
  resolved := Array.replicate 196 none
  statics := none }

def pool12 : Array CpInfo := pool [(1, .class_ 2), (0, u "java/io/Serializable"), (0, .class_ 4), (0, u "java/lang/Object")] 2

/-- java/io/Serializable -/
def k12 : Class := { plain "java/io/Serializable" (some 0) with
  accessFlags := 1537
  interfaces := #[]
  cf := some (fileOf pool12 1 #[] #[] 1537 3 #[] #[])
  fields := #[]
  methods := #[]
  instanceTypes := #[]
  staticTypes := #[]
  resolved := Array.replicate 7 none
  statics := none }

def pool13 : Array CpInfo := pool [(1, .methodref 2 3), (0, .class_ 4), (0, .nameAndType 5 6), (0, u "java/util/ImmutableCollections$AbstractImmutableList"), (0, u "<init>"), (0, u "()V"), (0, .fieldref 8 9), (0, .class_ 10), (0, .nameAndType 11 12), (0, u "java/util/ImmutableCollections$ListN"), (0, u "elements"), (0, u "[Ljava/lang/Object;"), (0, .fieldref 8 14), (0, .nameAndType 15 16), (0, u "allowNulls"), (0, u "Z"), (42, .class_ 60), (0, u "java/io/Serializable"), (4, u "([Ljava/lang/Object;Z)V"), (11, u "size"), (0, u "()I"), (0, u "get"), (0, u "(I)Ljava/lang/Object;"), (33, .class_ 115), (0, u "java/util/ImmutableCollections")] 3

def k13c0 : Code := { maxStack := 2, maxLocals := 3, code := jdk_45_method_1_code, exceptionTable := #[], attributes := #[] }
def k13m0 : Method := { name := "<init>", desc := "([Ljava/lang/Object;Z)V", sig := { parameters := [(.array (.object "java/lang/Object")), .boolean], returnType := none }, accessFlags := 2, code := some k13c0 }
def k13c1 : Code := { maxStack := 1, maxLocals := 1, code := jdk_45_method_3_code, exceptionTable := #[], attributes := #[] }
def k13m1 : Method := { name := "size", desc := "()I", sig := { parameters := [], returnType := some .int }, accessFlags := 1, code := some k13c1 }
def k13c2 : Code := { maxStack := 2, maxLocals := 2, code := jdk_45_method_4_code, exceptionTable := #[], attributes := #[] }
def k13m2 : Method := { name := "get", desc := "(I)Ljava/lang/Object;", sig := { parameters := [.int], returnType := some (.object "java/lang/Object") }, accessFlags := 1, code := some k13c2 }
/-- java/util/ImmutableCollections$ListN -/
def k13 : Class := { plain "java/util/ImmutableCollections$ListN" (some 11) with
  accessFlags := 48
  interfaces := #[12]
  cf := some (fileOf pool13 8 #[.nestHost 114] #[{ accessFlags := 2, nameIndex := 5, descriptorIndex := 65, attributes := #[] }, { accessFlags := 1, nameIndex := 77, descriptorIndex := 78, attributes := #[] }, { accessFlags := 1, nameIndex := 79, descriptorIndex := 80, attributes := #[] }] 48 2 #[59] #[{ accessFlags := 18, nameIndex := 11, descriptorIndex := 12, attributes := #[] }, { accessFlags := 18, nameIndex := 15, descriptorIndex := 16, attributes := #[] }])
  fields := #[{ name := "elements", type := (.array (.object "java/lang/Object")), accessFlags := 18, slot := 0, constantValue := 0 }, { name := "allowNulls", type := .boolean, accessFlags := 18, slot := 1, constantValue := 0 }]
  methods := #[k13m0, k13m1, k13m2]
  instanceTypes := #[(.array (.object "java/lang/Object")), .boolean]
  staticTypes := #[]
  resolved := Array.replicate 119 none
  statics := none }

def pool14 : Array CpInfo := pool [(1, .class_ 2), (0, u "java/time/temporal/TemporalAmount"), (0, .class_ 4), (0, u "java/lang/Object")] 11

/-- java/time/temporal/TemporalAmount -/
def k14 : Class := { plain "java/time/temporal/TemporalAmount" (some 0) with
  accessFlags := 1537
  interfaces := #[]
  cf := some (fileOf pool14 1 #[] #[] 1537 3 #[] #[])
  fields := #[]
  methods := #[]
  instanceTypes := #[]
  staticTypes := #[]
  resolved := Array.replicate 16 none
  statics := none }

def pool15 : Array CpInfo := pool [(1, .class_ 2), (0, u "java/lang/Comparable"), (0, .class_ 4), (0, u "java/lang/Object")] 7

/-- java/lang/Comparable -/
def k15 : Class := { plain "java/lang/Comparable" (some 0) with
  accessFlags := 1537
  interfaces := #[]
  cf := some (fileOf pool15 1 #[] #[] 1537 3 #[] #[])
  fields := #[]
  methods := #[]
  instanceTypes := #[]
  staticTypes := #[]
  resolved := Array.replicate 12 none
  statics := none }

def pool16 : Array CpInfo := pool [(11, .class_ 13), (1, u "java/time/Duration"), (20, u "ZERO"), (0, u "Ljava/time/Duration;"), (13, .class_ 51), (1, u "java/time/temporal/TemporalAmount"), (27, .class_ 81), (1, u "java/time/Duration$Lazy"), (35, u "seconds"), (101, .class_ 220), (0, u "java/lang/Object"), (2, u "J"), (2, u "nanos"), (0, u "I"), (11, .class_ 241), (1, u "java/time/Duration$DurationUnits"), (27, .class_ 271), (1, u "java/time/Duration$1"), (91, u "BI_NANOS_PER_SECOND"), (0, u "Ljava/math/BigInteger;"), (120, .class_ 486), (0, u "java/lang/Comparable"), (0, .class_ 488), (0, u "java/io/Serializable"), (0, u "serialVersionUID")] 166

/-- java/time/Duration -/
def k16 : Class := { plain "java/time/Duration" (some 0) with
  accessFlags := 49
  interfaces := #[14, 15, 12]
  cf := some (fileOf pool16 11 #[.nestMembers #[269, 239, 79]] #[] 49 219 #[49, 485, 487] #[{ accessFlags := 25, nameIndex := 34, descriptorIndex := 35, attributes := #[] }, { accessFlags := 26, nameIndex := 489, descriptorIndex := 223, attributes := #[] }, { accessFlags := 26, nameIndex := 363, descriptorIndex := 364, attributes := #[] }, { accessFlags := 18, nameIndex := 117, descriptorIndex := 223, attributes := #[] }, { accessFlags := 18, nameIndex := 226, descriptorIndex := 227, attributes := #[] }])
  fields := #[{ name := "ZERO", type := (.object "java/time/Duration"), accessFlags := 25, slot := 0, constantValue := 0 }, { name := "serialVersionUID", type := .long, accessFlags := 26, slot := 1, constantValue := 0 }, { name := "BI_NANOS_PER_SECOND", type := (.object "java/math/BigInteger"), accessFlags := 26, slot := 2, constantValue := 0 }, { name := "seconds", type := .long, accessFlags := 18, slot := 0, constantValue := 0 }, { name := "nanos", type := .int, accessFlags := 18, slot := 1, constantValue := 0 }]
  methods := #[]
  instanceTypes := #[.long, .int]
  staticTypes := #[(.object "java/time/Duration"), .long, (.object "java/math/BigInteger")]
  resolved := Array.replicate 656 none
  statics := none }

def pool17 : Array CpInfo := pool [(1, .methodref 2 3), (0, .class_ 4), (0, .nameAndType 5 6), (0, u "java/util/AbstractCollection"), (0, u "<init>"), (0, u "()V"), (0, .fieldref 8 9), (0, .class_ 10), (0, .nameAndType 11 12), (0, u "java/util/AbstractList"), (0, u "modCount"), (0, u "I"), (64, .class_ 78), (0, u "java/util/AbstractList$Itr"), (3, .class_ 83), (0, u "java/util/AbstractList$ListItr"), (9, .class_ 94), (0, u "java/util/AbstractList$RandomAccessSubList"), (3, .class_ 99), (0, u "java/util/AbstractList$SubList"), (33, .class_ 134), (0, u "java/util/List"), (73, .class_ 209), (0, u "java/util/AbstractList$SubList$1"), (0, .class_ 211), (0, u "java/util/AbstractList$RandomAccessSpliterator")] 6

def k17c0 : Code := { maxStack := 2, maxLocals := 1, code := jdk_39_method_1_code, exceptionTable := #[], attributes := #[] }
def k17m0 : Method := { name := "<init>", desc := "()V", sig := { parameters := [], returnType := none }, accessFlags := 4, code := some k17c0 }
/-- java/util/AbstractList -/
def k17 : Class := { plain "java/util/AbstractList" (some 8) with
  accessFlags := 1057
  interfaces := #[7]
  cf := some (fileOf pool17 8 #[.nestMembers #[93, 98, 208, 210, 82, 77]] #[{ accessFlags := 4, nameIndex := 5, descriptorIndex := 6, attributes := #[] }] 1057 2 #[133] #[{ accessFlags := 132, nameIndex := 11, descriptorIndex := 12, attributes := #[] }])
  fields := #[{ name := "modCount", type := .int, accessFlags := 132, slot := 0, constantValue := 0 }]
  methods := #[k17m0]
  instanceTypes := #[.int]
  staticTypes := #[]
  resolved := Array.replicate 218 none
  statics := none }

def pool18 : Array CpInfo := pool [(1, .class_ 2), (0, u "java/lang/Cloneable"), (0, .class_ 4), (0, u "java/lang/Object")] 2

/-- java/lang/Cloneable -/
def k18 : Class := { plain "java/lang/Cloneable" (some 0) with
  accessFlags := 1537
  interfaces := #[]
  cf := some (fileOf pool18 1 #[] #[] 1537 3 #[] #[])
  fields := #[]
  methods := #[]
  instanceTypes := #[]
  staticTypes := #[]
  resolved := Array.replicate 7 none
  statics := none }

def pool19 : Array CpInfo := pool [(1, .methodref 2 3), (0, .class_ 4), (0, .nameAndType 5 6), (0, u "java/util/AbstractList"), (0, u "<init>"), (0, u "()V"), (0, .class_ 8), (0, u "java/lang/Object"), (0, .fieldref 10 11), (0, .class_ 12), (0, .nameAndType 13 14), (0, u "java/util/ArrayList"), (0, u "elementData"), (0, u "[Ljava/lang/Object;"), (2, u "EMPTY_ELEMENTDATA"), (21, .fieldref 10 40), (0, .nameAndType 41 14), (0, u "DEFAULTCAPACITY_EMPTY_ELEMENTDATA"), (4, u "toArray"), (0, u "()[Ljava/lang/Object;"), (0, .fieldref 10 49), (0, .nameAndType 50 51), (0, u "size"), (0, u "I"), (6, .class_ 60), (1, u "java/util/Arrays"), (0, u "copyOf"), (1, .fieldref 10 64), (0, .nameAndType 65 51), (0, u "modCount"), (0, .methodref 58 67), (0, .nameAndType 61 68), (0, u "([Ljava/lang/Object;I)[Ljava/lang/Object;"), (0, .methodref 10 70), (0, .nameAndType 71 72), (0, u "grow"), (0, u "(I)[Ljava/lang/Object;"), (6, .methodref 80 81), (0, .class_ 82), (0, .nameAndType 83 84), (0, u "java/lang/Math"), (0, u "max"), (0, u "(II)I"), (11, u "(Ljava/lang/Object;)Z"), (32, .methodref 10 130), (0, .nameAndType 71 47), (0, .methodref 10 132), (0, .nameAndType 133 134), (0, u "add"), (0, u "(Ljava/lang/Object;[Ljava/lang/Object;I)V"), (13, .class_ 149), (0, u "java/util/List"), (23, u "()Z"), (88, .class_ 263), (0, u "java/util/ArrayList$ListItr"), (3, .class_ 268), (0, u "java/util/ArrayList$Itr"), (7, .class_ 277), (0, u "java/util/ArrayList$SubList"), (12, .class_ 291), (0, u "java/util/ArrayList$ArrayListSpliterator"), (37, .class_ 330), (0, u "java/util/RandomAccess"), (0, .class_ 332), (0, u "java/lang/Cloneable"), (0, .class_ 334), (0, u "java/io/Serializable"), (0, u "serialVersionUID"), (0, u "J"), (3, u "DEFAULT_CAPACITY"), (22, u "isEmpty"), (136, .class_ 501), (0, u "java/util/ArrayList$SubList$2"), (0, .class_ 503), (0, u "java/util/ArrayList$SubList$1")] 5

def k19c0 : Code := { maxStack := 2, maxLocals := 1, code := jdk_38_method_2_code, exceptionTable := #[], attributes := #[] }
def k19m0 : Method := { name := "<init>", desc := "()V", sig := { parameters := [], returnType := none }, accessFlags := 1, code := some k19c0 }
def k19c1 : Code := { maxStack := 4, maxLocals := 4, code := jdk_38_method_6_code, exceptionTable := #[], attributes := #[] }
def k19m1 : Method := { name := "grow", desc := "(I)[Ljava/lang/Object;", sig := { parameters := [.int], returnType := some (.array (.object "java/lang/Object")) }, accessFlags := 2, code := some k19c1 }
def k19c2 : Code := { maxStack := 3, maxLocals := 1, code := jdk_38_method_7_code, exceptionTable := #[], attributes := #[] }
def k19m2 : Method := { name := "grow", desc := "()[Ljava/lang/Object;", sig := { parameters := [], returnType := some (.array (.object "java/lang/Object")) }, accessFlags := 2, code := some k19c2 }
def k19c3 : Code := { maxStack := 1, maxLocals := 1, code := jdk_38_method_9_code, exceptionTable := #[], attributes := #[] }
def k19m3 : Method := { name := "isEmpty", desc := "()Z", sig := { parameters := [], returnType := some .boolean }, accessFlags := 1, code := some k19c3 }
def k19c4 : Code := { maxStack := 2, maxLocals := 1, code := jdk_38_method_16_code, exceptionTable := #[], attributes := #[] }
def k19m4 : Method := { name := "toArray", desc := "()[Ljava/lang/Object;", sig := { parameters := [], returnType := some (.array (.object "java/lang/Object")) }, accessFlags := 1, code := some k19c4 }
def k19c5 : Code := { maxStack := 3, maxLocals := 4, code := jdk_38_method_24_code, exceptionTable := #[], attributes := #[] }
def k19m5 : Method := { name := "add", desc := "(Ljava/lang/Object;[Ljava/lang/Object;I)V", sig := { parameters := [(.object "java/lang/Object"), (.array (.object "java/lang/Object")), .int], returnType := none }, accessFlags := 2, code := some k19c5 }
def k19c6 : Code := { maxStack := 4, maxLocals := 2, code := jdk_38_method_25_code, exceptionTable := #[], attributes := #[] }
def k19m6 : Method := { name := "add", desc := "(Ljava/lang/Object;)Z", sig := { parameters := [(.object "java/lang/Object")], returnType := some .boolean }, accessFlags := 1, code := some k19c6 }
/-- java/util/ArrayList -/
def k19 : Class := { plain "java/util/ArrayList" (some 17) with
  accessFlags := 33
  interfaces := #[7, 10, 18, 12]
  cf := some (fileOf pool19 10 #[.nestMembers #[290, 276, 500, 502, 262, 267]] #[{ accessFlags := 1, nameIndex := 5, descriptorIndex := 6, attributes := #[] }, { accessFlags := 2, nameIndex := 71, descriptorIndex := 72, attributes := #[] }, { accessFlags := 2, nameIndex := 71, descriptorIndex := 47, attributes := #[] }, { accessFlags := 1, nameIndex := 363, descriptorIndex := 173, attributes := #[] }, { accessFlags := 1, nameIndex := 46, descriptorIndex := 47, attributes := #[] }, { accessFlags := 2, nameIndex := 133, descriptorIndex := 134, attributes := #[] }, { accessFlags := 1, nameIndex := 133, descriptorIndex := 96, attributes := #[] }] 33 2 #[148, 329, 331, 333] #[{ accessFlags := 26, nameIndex := 335, descriptorIndex := 336, attributes := #[] }, { accessFlags := 26, nameIndex := 340, descriptorIndex := 51, attributes := #[] }, { accessFlags := 26, nameIndex := 17, descriptorIndex := 14, attributes := #[] }, { accessFlags := 26, nameIndex := 41, descriptorIndex := 14, attributes := #[] }, { accessFlags := 128, nameIndex := 13, descriptorIndex := 14, attributes := #[] }, { accessFlags := 2, nameIndex := 50, descriptorIndex := 51, attributes := #[] }])
  fields := #[{ name := "serialVersionUID", type := .long, accessFlags := 26, slot := 0, constantValue := 0 }, { name := "DEFAULT_CAPACITY", type := .int, accessFlags := 26, slot := 1, constantValue := 0 }, { name := "EMPTY_ELEMENTDATA", type := (.array (.object "java/lang/Object")), accessFlags := 26, slot := 2, constantValue := 0 }, { name := "DEFAULTCAPACITY_EMPTY_ELEMENTDATA", type := (.array (.object "java/lang/Object")), accessFlags := 26, slot := 3, constantValue := 0 }, { name := "elementData", type := (.array (.object "java/lang/Object")), accessFlags := 128, slot := 1, constantValue := 0 }, { name := "size", type := .int, accessFlags := 2, slot := 2, constantValue := 0 }]
  methods := #[k19m0, k19m1, k19m2, k19m3, k19m4, k19m5, k19m6]
  instanceTypes := #[.int, (.array (.object "java/lang/Object")), .int]
  staticTypes := #[.long, .int, (.array (.object "java/lang/Object")), (.array (.object "java/lang/Object"))]
  resolved := Array.replicate 509 none
  statics := some 1 }

def pool20 : Array CpInfo := pool [(2, .class_ 4), (1, u "java/lang/Object"), (0, u "<init>"), (0, u "()V"), (3, .class_ 11), (0, u "java/util/ImmutableCollections$List12"), (0, .class_ 13), (0, u "java/util/ImmutableCollections$ListN"), (3, u "Z"), (0, .class_ 19), (0, u "java/util/List"), (0, .interfaceMethodref 21 22), (0, .class_ 23), (0, .nameAndType 24 25), (0, u "java/util/Collection"), (0, u "isEmpty"), (0, u "()Z"), (0, .interfaceMethodref 18 27), (0, .nameAndType 28 29), (0, u "of"), (0, u "()Ljava/util/List;"), (0, .interfaceMethodref 21 31), (0, .nameAndType 32 33), (0, u "toArray"), (0, u "()[Ljava/lang/Object;"), (0, .interfaceMethodref 18 35), (0, .nameAndType 28 36), (0, u "([Ljava/lang/Object;)Ljava/util/List;"), (0, .methodref 38 39), (0, .class_ 40), (0, .nameAndType 41 42), (0, u "java/util/Objects"), (0, u "requireNonNull"), (0, u "(Ljava/lang/Object;)Ljava/lang/Object;"), (0, .methodref 12 44), (0, .nameAndType 5 45), (0, u "([Ljava/lang/Object;Z)V"), (1, .class_ 49), (1, u "java/util/ImmutableCollections"), (0, u "$assertionsDisabled"), (5, u "[Ljava/lang/Object;"), (5, u "EMPTY_LIST"), (0, u "Ljava/util/ImmutableCollections$ListN;"), (8, u "EMPTY_LIST_NULLS"), (22, u "SALT32L"), (0, u "J"), (2, u "REVERSE"), (6, u "archivedObjects"), (2, u "EMPTY"), (0, u "Ljava/lang/Object;"), (0, .class_ 112), (0, u "java/util/ImmutableCollections$SetN"), (5, u "EMPTY_SET"), (0, u "Ljava/util/ImmutableCollections$SetN;"), (0, .class_ 121), (0, u "java/util/ImmutableCollections$MapN"), (3, u "EMPTY_MAP"), (0, u "Ljava/util/ImmutableCollections$MapN;"), (4, u "EXPAND_FACTOR"), (0, u "I"), (9, u "listCopy"), (0, u "(Ljava/util/Collection;)Ljava/util/List;"), (7, u "listFromArray"), (17, .class_ 170), (0, u "java/util/ImmutableCollections$MapN$MapNIterator"), (0, .class_ 172), (0, u "java/util/ImmutableCollections$MapN$1"), (0, .class_ 174), (0, u "java/util/ImmutableCollections$Map1"), (0, .class_ 176), (0, u "java/util/ImmutableCollections$AbstractImmutableMap"), (0, .class_ 178), (0, u "java/util/ImmutableCollections$SetN$SetNIterator"), (0, .class_ 180), (0, u "java/util/ImmutableCollections$Set12"), (0, .class_ 182), (0, u "java/util/ImmutableCollections$Set12$1"), (0, .class_ 184), (0, u "java/util/ImmutableCollections$AbstractImmutableSet"), (0, .class_ 186), (0, u "java/util/ImmutableCollections$SubList"), (0, .class_ 188), (0, u "java/util/ImmutableCollections$ListItr"), (0, .class_ 190), (0, u "java/util/ImmutableCollections$AbstractImmutableList"), (0, .class_ 192), (0, u "java/util/ImmutableCollections$AbstractImmutableCollection"), (0, .class_ 194), (0, u "java/util/ImmutableCollections$Access"), (0, .class_ 196), (0, u "java/util/ImmutableCollections$Access$1")] 16

def k20m0 : Method := { name := "<init>", desc := "()V", sig := { parameters := [], returnType := none }, accessFlags := 2, code := none }
def k20c1 : Code := { maxStack := 1, maxLocals := 2, code := jdk_56_method_3_code, exceptionTable := #[], attributes := #[] }
def k20m1 : Method := { name := "listCopy", desc := "(Ljava/util/Collection;)Ljava/util/List;", sig := { parameters := [(.object "java/util/Collection")], returnType := some (.object "java/util/List") }, accessFlags := 8, code := some k20c1 }
def k20c2 : Code := { maxStack := 4, maxLocals := 3, code := jdk_56_method_4_code, exceptionTable := #[], attributes := #[] }
def k20m2 : Method := { name := "listFromArray", desc := "([Ljava/lang/Object;)Ljava/util/List;", sig := { parameters := [(.array (.object "java/lang/Object"))], returnType := some (.object "java/util/List") }, accessFlags := 136, code := some k20c2 }
/-- java/util/ImmutableCollections -/
def k20 : Class := { plain "java/util/ImmutableCollections" (some 0) with
  accessFlags := 32
  interfaces := #[]
  cf := some (fileOf pool20 47 #[.nestMembers #[120, 169, 171, 173, 175, 111, 177, 179, 181, 183, 12, 10, 185, 187, 189, 191, 193, 195]] #[{ accessFlags := 2, nameIndex := 5, descriptorIndex := 6, attributes := #[] }, { accessFlags := 8, nameIndex := 142, descriptorIndex := 143, attributes := #[] }, { accessFlags := 136, nameIndex := 151, descriptorIndex := 36, attributes := #[] }] 32 2 #[] #[{ accessFlags := 26, nameIndex := 95, descriptorIndex := 96, attributes := #[] }, { accessFlags := 26, nameIndex := 99, descriptorIndex := 17, attributes := #[] }, { accessFlags := 10, nameIndex := 106, descriptorIndex := 56, attributes := #[] }, { accessFlags := 26, nameIndex := 109, descriptorIndex := 110, attributes := #[] }, { accessFlags := 24, nameIndex := 62, descriptorIndex := 63, attributes := #[] }, { accessFlags := 24, nameIndex := 72, descriptorIndex := 63, attributes := #[] }, { accessFlags := 24, nameIndex := 118, descriptorIndex := 119, attributes := #[] }, { accessFlags := 24, nameIndex := 125, descriptorIndex := 126, attributes := #[] }, { accessFlags := 24, nameIndex := 131, descriptorIndex := 132, attributes := #[] }, { accessFlags := 4120, nameIndex := 50, descriptorIndex := 17, attributes := #[] }])
  fields := #[{ name := "SALT32L", type := .long, accessFlags := 26, slot := 0, constantValue := 0 }, { name := "REVERSE", type := .boolean, accessFlags := 26, slot := 1, constantValue := 0 }, { name := "archivedObjects", type := (.array (.object "java/lang/Object")), accessFlags := 10, slot := 2, constantValue := 0 }, { name := "EMPTY", type := (.object "java/lang/Object"), accessFlags := 26, slot := 3, constantValue := 0 }, { name := "EMPTY_LIST", type := (.object "java/util/ImmutableCollections$ListN"), accessFlags := 24, slot := 4, constantValue := 0 }, { name := "EMPTY_LIST_NULLS", type := (.object "java/util/ImmutableCollections$ListN"), accessFlags := 24, slot := 5, constantValue := 0 }, { name := "EMPTY_SET", type := (.object "java/util/ImmutableCollections$SetN"), accessFlags := 24, slot := 6, constantValue := 0 }, { name := "EMPTY_MAP", type := (.object "java/util/ImmutableCollections$MapN"), accessFlags := 24, slot := 7, constantValue := 0 }, { name := "EXPAND_FACTOR", type := .int, accessFlags := 24, slot := 8, constantValue := 0 }, { name := "$assertionsDisabled", type := .boolean, accessFlags := 4120, slot := 9, constantValue := 0 }]
  methods := #[k20m0, k20m1, k20m2]
  instanceTypes := #[]
  staticTypes := #[.long, .boolean, (.array (.object "java/lang/Object")), (.object "java/lang/Object"), (.object "java/util/ImmutableCollections$ListN"), (.object "java/util/ImmutableCollections$ListN"), (.object "java/util/ImmutableCollections$SetN"), (.object "java/util/ImmutableCollections$MapN"), .int, .boolean]
  resolved := Array.replicate 213 none
  statics := some 2 }

def pool21 : Array CpInfo := pool [(1, .methodref 2 3), (0, .class_ 4), (0, .nameAndType 5 6), (0, u "java/util/ImmutableCollections$AbstractImmutableList"), (0, u "<init>"), (0, u "()V"), (0, .methodref 8 9), (0, .class_ 10), (0, .nameAndType 11 12), (0, u "java/util/Objects"), (0, u "requireNonNull"), (0, u "(Ljava/lang/Object;)Ljava/lang/Object;"), (0, .fieldref 14 15), (0, .class_ 16), (0, .nameAndType 17 18), (0, u "java/util/ImmutableCollections$List12"), (0, u "e0"), (0, u "Ljava/lang/Object;"), (0, .fieldref 20 21), (0, .class_ 22), (0, .nameAndType 23 18), (0, u "java/util/ImmutableCollections"), (0, u "EMPTY"), (0, .fieldref 14 25), (0, .nameAndType 26 18), (0, u "e1"), (24, u "size"), (0, u "()I"), (17, .class_ 71), (0, u "java/io/Serializable"), (4, u "(Ljava/lang/Object;)V"), (8, u "(Ljava/lang/Object;Ljava/lang/Object;)V")] 39

def k21c0 : Code := { maxStack := 2, maxLocals := 2, code := jdk_44_method_1_code, exceptionTable := #[], attributes := #[] }
def k21m0 : Method := { name := "<init>", desc := "(Ljava/lang/Object;)V", sig := { parameters := [(.object "java/lang/Object")], returnType := none }, accessFlags := 0, code := some k21c0 }
def k21c1 : Code := { maxStack := 2, maxLocals := 3, code := jdk_44_method_2_code, exceptionTable := #[], attributes := #[] }
def k21m1 : Method := { name := "<init>", desc := "(Ljava/lang/Object;Ljava/lang/Object;)V", sig := { parameters := [(.object "java/lang/Object"), (.object "java/lang/Object")], returnType := none }, accessFlags := 0, code := some k21c1 }
def k21c2 : Code := { maxStack := 2, maxLocals := 1, code := jdk_44_method_3_code, exceptionTable := #[], attributes := #[] }
def k21m2 : Method := { name := "size", desc := "()I", sig := { parameters := [], returnType := some .int }, accessFlags := 1, code := some k21c2 }
/-- java/util/ImmutableCollections$List12 -/
def k21 : Class := { plain "java/util/ImmutableCollections$List12" (some 11) with
  accessFlags := 48
  interfaces := #[12]
  cf := some (fileOf pool21 14 #[.nestHost 20] #[{ accessFlags := 0, nameIndex := 5, descriptorIndex := 76, attributes := #[] }, { accessFlags := 0, nameIndex := 5, descriptorIndex := 85, attributes := #[] }, { accessFlags := 1, nameIndex := 51, descriptorIndex := 52, attributes := #[] }] 48 2 #[70] #[{ accessFlags := 18, nameIndex := 17, descriptorIndex := 18, attributes := #[] }, { accessFlags := 18, nameIndex := 26, descriptorIndex := 18, attributes := #[] }])
  fields := #[{ name := "e0", type := (.object "java/lang/Object"), accessFlags := 18, slot := 0, constantValue := 0 }, { name := "e1", type := (.object "java/lang/Object"), accessFlags := 18, slot := 1, constantValue := 0 }]
  methods := #[k21m0, k21m1, k21m2]
  instanceTypes := #[(.object "java/lang/Object"), (.object "java/lang/Object")]
  staticTypes := #[]
  resolved := Array.replicate 125 none
  statics := none }

def pool22 : Array CpInfo := pool [(1, .class_ 2), (0, u "java/lang/constant/Constable"), (0, .class_ 4), (0, u "java/lang/Object")] 6

/-- java/lang/constant/Constable -/
def k22 : Class := { plain "java/lang/constant/Constable" (some 0) with
  accessFlags := 1537
  interfaces := #[]
  cf := some (fileOf pool22 1 #[] #[] 1537 3 #[] #[])
  fields := #[]
  methods := #[]
  instanceTypes := #[]
  staticTypes := #[]
  resolved := Array.replicate 11 none
  statics := none }

def pool23 : Array CpInfo := pool [(2, .class_ 4), (1, u "java/lang/Enum"), (0, u "name"), (0, u "Ljava/lang/String;"), (2, u "ordinal"), (0, u "I"), (1, .class_ 14), (1, u "java/lang/Object"), (4, u "hash"), (86, .class_ 108), (1, u "java/lang/Enum$EnumDesc"), (2, .class_ 112), (0, u "java/lang/constant/Constable"), (0, .class_ 114), (0, u "java/lang/Comparable"), (0, .class_ 116), (0, u "java/io/Serializable")] 87

/-- java/lang/Enum -/
def k23 : Class := { plain "java/lang/Enum" (some 0) with
  accessFlags := 1057
  interfaces := #[22, 15, 12]
  cf := some (fileOf pool23 2 #[.nestMembers #[106]] #[] 1057 12 #[111, 113, 115] #[{ accessFlags := 18, nameIndex := 5, descriptorIndex := 6, attributes := #[] }, { accessFlags := 18, nameIndex := 9, descriptorIndex := 10, attributes := #[] }, { accessFlags := 2, nameIndex := 19, descriptorIndex := 10, attributes := #[] }])
  fields := #[{ name := "name", type := (.object "java/lang/String"), accessFlags := 18, slot := 0, constantValue := 0 }, { name := "ordinal", type := .int, accessFlags := 18, slot := 1, constantValue := 0 }, { name := "hash", type := .int, accessFlags := 2, slot := 2, constantValue := 0 }]
  methods := #[]
  instanceTypes := #[(.object "java/lang/String"), .int, .int]
  staticTypes := #[]
  resolved := Array.replicate 204 none
  statics := none }

def pool24 : Array CpInfo := pool [(1, .class_ 2), (0, u "com/example/savitri/savitri/client/FailureKind"), (2, u "DATA"), (0, u "Lcom/example/savitri/savitri/client/FailureKind;"), (2, u "TRANSIENT"), (2, u "$VALUES"), (0, u "[Lcom/example/savitri/savitri/client/FailureKind;"), (6, .class_ 22), (1, u "java/lang/Enum")] 24

/-- com/example/savitri/savitri/client/FailureKind -/
def k24 : Class := { plain "com/example/savitri/savitri/client/FailureKind" (some 23) with
  accessFlags := 16433
  interfaces := #[]
  cf := some (fileOf pool24 1 #[] #[] 16433 20 #[] #[{ accessFlags := 16409, nameIndex := 5, descriptorIndex := 6, attributes := #[] }, { accessFlags := 16409, nameIndex := 9, descriptorIndex := 6, attributes := #[] }, { accessFlags := 4122, nameIndex := 12, descriptorIndex := 13, attributes := #[] }])
  fields := #[{ name := "DATA", type := (.object "com/example/savitri/savitri/client/FailureKind"), accessFlags := 16409, slot := 0, constantValue := 0 }, { name := "TRANSIENT", type := (.object "com/example/savitri/savitri/client/FailureKind"), accessFlags := 16409, slot := 1, constantValue := 0 }, { name := "$VALUES", type := (.array (.object "com/example/savitri/savitri/client/FailureKind")), accessFlags := 4122, slot := 2, constantValue := 0 }]
  methods := #[]
  instanceTypes := #[(.object "java/lang/String"), .int, .int]
  staticTypes := #[(.object "com/example/savitri/savitri/client/FailureKind"), (.object "com/example/savitri/savitri/client/FailureKind"), (.array (.object "com/example/savitri/savitri/client/FailureKind"))]
  resolved := Array.replicate 47 none
  statics := some 3 }

def pool25 : Array CpInfo := pool [(1, .class_ 2), (0, u "com/example/savitri/savitri/store/DeadLetterStatus"), (2, u "PENDING"), (0, u "Lcom/example/savitri/savitri/store/DeadLetterStatus;"), (2, u "PROCESSING"), (2, u "COMPLETED"), (2, u "FAILED"), (2, u "SKIPPED"), (2, u "$VALUES"), (0, u "[Lcom/example/savitri/savitri/store/DeadLetterStatus;"), (6, .class_ 31), (1, u "java/lang/Enum")] 27

/-- com/example/savitri/savitri/store/DeadLetterStatus -/
def k25 : Class := { plain "com/example/savitri/savitri/store/DeadLetterStatus" (some 23) with
  accessFlags := 16433
  interfaces := #[]
  cf := some (fileOf pool25 1 #[] #[] 16433 29 #[] #[{ accessFlags := 16409, nameIndex := 5, descriptorIndex := 6, attributes := #[] }, { accessFlags := 16409, nameIndex := 9, descriptorIndex := 6, attributes := #[] }, { accessFlags := 16409, nameIndex := 12, descriptorIndex := 6, attributes := #[] }, { accessFlags := 16409, nameIndex := 15, descriptorIndex := 6, attributes := #[] }, { accessFlags := 16409, nameIndex := 18, descriptorIndex := 6, attributes := #[] }, { accessFlags := 4122, nameIndex := 21, descriptorIndex := 22, attributes := #[] }])
  fields := #[{ name := "PENDING", type := (.object "com/example/savitri/savitri/store/DeadLetterStatus"), accessFlags := 16409, slot := 0, constantValue := 0 }, { name := "PROCESSING", type := (.object "com/example/savitri/savitri/store/DeadLetterStatus"), accessFlags := 16409, slot := 1, constantValue := 0 }, { name := "COMPLETED", type := (.object "com/example/savitri/savitri/store/DeadLetterStatus"), accessFlags := 16409, slot := 2, constantValue := 0 }, { name := "FAILED", type := (.object "com/example/savitri/savitri/store/DeadLetterStatus"), accessFlags := 16409, slot := 3, constantValue := 0 }, { name := "SKIPPED", type := (.object "com/example/savitri/savitri/store/DeadLetterStatus"), accessFlags := 16409, slot := 4, constantValue := 0 }, { name := "$VALUES", type := (.array (.object "com/example/savitri/savitri/store/DeadLetterStatus")), accessFlags := 4122, slot := 5, constantValue := 0 }]
  methods := #[]
  instanceTypes := #[(.object "java/lang/String"), .int, .int]
  staticTypes := #[(.object "com/example/savitri/savitri/store/DeadLetterStatus"), (.object "com/example/savitri/savitri/store/DeadLetterStatus"), (.object "com/example/savitri/savitri/store/DeadLetterStatus"), (.object "com/example/savitri/savitri/store/DeadLetterStatus"), (.object "com/example/savitri/savitri/store/DeadLetterStatus"), (.array (.object "com/example/savitri/savitri/store/DeadLetterStatus"))]
  resolved := Array.replicate 59 none
  statics := some 4 }

def pool26 : Array CpInfo := pool [(1, .class_ 2), (0, u "java/lang/Math"), (1, .class_ 6), (1, u "java/lang/Object"), (0, u "<init>"), (0, u "()V"), (89, .class_ 100), (1, u "java/lang/Math$RandomNumberGeneratorHolder"), (71, u "negativeZeroFloatBits"), (0, u "J"), (2, u "negativeZeroDoubleBits"), (21, u "max"), (2, u "min"), (43, u "$assertionsDisabled"), (0, u "Z"), (88, u "(II)I"), (2, u "twoToTheDoubleScaleDown"), (0, u "D"), (4, u "twoToTheDoubleScaleUp"), (9, u "E"), (3, u "PI"), (2, u "TAU"), (2, u "DEGREES_TO_RADIANS"), (0, u "RADIANS_TO_DEGREES")] 94

def k26m0 : Method := { name := "<init>", desc := "()V", sig := { parameters := [], returnType := none }, accessFlags := 2, code := none }
def k26c1 : Code := { maxStack := 2, maxLocals := 2, code := jdk_29_method_65_code, exceptionTable := #[], attributes := #[] }
def k26m1 : Method := { name := "max", desc := "(II)I", sig := { parameters := [.int, .int], returnType := some .int }, accessFlags := 9, code := some k26c1 }
def k26c2 : Code := { maxStack := 2, maxLocals := 2, code := jdk_29_method_69_code, exceptionTable := #[], attributes := #[] }
def k26m2 : Method := { name := "min", desc := "(II)I", sig := { parameters := [.int, .int], returnType := some .int }, accessFlags := 9, code := some k26c2 }
/-- java/lang/Math -/
def k26 : Class := { plain "java/lang/Math" (some 0) with
  accessFlags := 49
  interfaces := #[]
  cf := some (fileOf pool26 1 #[.nestMembers #[98]] #[{ accessFlags := 2, nameIndex := 7, descriptorIndex := 8, attributes := #[] }, { accessFlags := 9, nameIndex := 198, descriptorIndex := 335, attributes := #[] }, { accessFlags := 9, nameIndex := 201, descriptorIndex := 335, attributes := #[] }] 49 4 #[] #[{ accessFlags := 25, nameIndex := 354, descriptorIndex := 339, attributes := #[] }, { accessFlags := 25, nameIndex := 358, descriptorIndex := 339, attributes := #[] }, { accessFlags := 25, nameIndex := 361, descriptorIndex := 339, attributes := #[] }, { accessFlags := 26, nameIndex := 364, descriptorIndex := 339, attributes := #[] }, { accessFlags := 26, nameIndex := 365, descriptorIndex := 339, attributes := #[] }, { accessFlags := 26, nameIndex := 172, descriptorIndex := 173, attributes := #[] }, { accessFlags := 26, nameIndex := 176, descriptorIndex := 173, attributes := #[] }, { accessFlags := 8, nameIndex := 344, descriptorIndex := 339, attributes := #[] }, { accessFlags := 8, nameIndex := 338, descriptorIndex := 339, attributes := #[] }, { accessFlags := 4120, nameIndex := 245, descriptorIndex := 246, attributes := #[] }])
  fields := #[{ name := "E", type := .double, accessFlags := 25, slot := 0, constantValue := 0 }, { name := "PI", type := .double, accessFlags := 25, slot := 1, constantValue := 0 }, { name := "TAU", type := .double, accessFlags := 25, slot := 2, constantValue := 0 }, { name := "DEGREES_TO_RADIANS", type := .double, accessFlags := 26, slot := 3, constantValue := 0 }, { name := "RADIANS_TO_DEGREES", type := .double, accessFlags := 26, slot := 4, constantValue := 0 }, { name := "negativeZeroFloatBits", type := .long, accessFlags := 26, slot := 5, constantValue := 0 }, { name := "negativeZeroDoubleBits", type := .long, accessFlags := 26, slot := 6, constantValue := 0 }, { name := "twoToTheDoubleScaleUp", type := .double, accessFlags := 8, slot := 7, constantValue := 0 }, { name := "twoToTheDoubleScaleDown", type := .double, accessFlags := 8, slot := 8, constantValue := 0 }, { name := "$assertionsDisabled", type := .boolean, accessFlags := 4120, slot := 9, constantValue := 0 }]
  methods := #[k26m0, k26m1, k26m2]
  instanceTypes := #[]
  staticTypes := #[.double, .double, .double, .double, .double, .long, .long, .double, .double, .boolean]
  resolved := Array.replicate 460 none
  statics := none }

def pool27 : Array CpInfo := pool [(2, .class_ 4), (1, u "java/lang/Object"), (0, u "<init>"), (0, u "()V"), (7, .class_ 16), (1, u "java/util/Arrays"), (57, .class_ 76), (1, u "java/util/Arrays$NaturalOrder"), (9, .methodref 2 87), (0, .nameAndType 88 89), (0, u "getClass"), (0, u "()Ljava/lang/Class;"), (20, .class_ 111), (0, u "[Ljava/lang/Object;"), (1, .class_ 115), (1, u "java/util/Arrays$LegacyMergeSort"), (1, u "Z"), (32, .methodref 151 152), (0, .class_ 153), (0, .nameAndType 154 155), (0, u "java/lang/System"), (0, u "arraycopy"), (0, u "(Ljava/lang/Object;ILjava/lang/Object;II)V"), (144, .methodref 14 301), (0, .nameAndType 302 303), (0, u "copyOf"), (0, u "([Ljava/lang/Object;ILjava/lang/Class;)[Ljava/lang/Object;"), (0, .methodref 305 306), (0, .class_ 307), (0, .nameAndType 308 309), (0, u "java/lang/Math"), (0, u "min"), (0, u "(II)I"), (65, .class_ 376), (0, u "java/util/Arrays$ArrayList"), (68, u "$assertionsDisabled"), (269, u "MIN_ARRAY_SORT_GRAN"), (0, u "I"), (2, u "INSERTIONSORT_THRESHOLD"), (140, u "([Ljava/lang/Object;I)[Ljava/lang/Object;"), (114, .class_ 976), (0, u "java/util/Arrays$ArrayItr")] 52

def k27m0 : Method := { name := "<init>", desc := "()V", sig := { parameters := [], returnType := none }, accessFlags := 2, code := none }
def k27c1 : Code := { maxStack := 3, maxLocals := 2, code := jdk_65_method_119_code, exceptionTable := #[], attributes := #[] }
def k27m1 : Method := { name := "copyOf", desc := "([Ljava/lang/Object;I)[Ljava/lang/Object;", sig := { parameters := [(.array (.object "java/lang/Object")), .int], returnType := some (.array (.object "java/lang/Object")) }, accessFlags := 9, code := some k27c1 }
def k27c2 : Code := { maxStack := 6, maxLocals := 4, code := jdk_65_method_120_code, exceptionTable := #[], attributes := #[] }
def k27m2 : Method := { name := "copyOf", desc := "([Ljava/lang/Object;ILjava/lang/Class;)[Ljava/lang/Object;", sig := { parameters := [(.array (.object "java/lang/Object")), .int, (.object "java/lang/Class")], returnType := some (.array (.object "java/lang/Object")) }, accessFlags := 9, code := some k27c2 }
/-- java/util/Arrays -/
def k27 : Class := { plain "java/util/Arrays" (some 0) with
  accessFlags := 49
  interfaces := #[]
  cf := some (fileOf pool27 14 #[.nestMembers #[975, 375, 113, 74]] #[{ accessFlags := 2, nameIndex := 5, descriptorIndex := 6, attributes := #[] }, { accessFlags := 9, nameIndex := 302, descriptorIndex := 860, attributes := #[] }, { accessFlags := 9, nameIndex := 302, descriptorIndex := 303, attributes := #[] }] 49 2 #[] #[{ accessFlags := 26, nameIndex := 715, descriptorIndex := 716, attributes := #[] }, { accessFlags := 26, nameIndex := 719, descriptorIndex := 716, attributes := #[] }, { accessFlags := 4120, nameIndex := 445, descriptorIndex := 117, attributes := #[] }])
  fields := #[{ name := "MIN_ARRAY_SORT_GRAN", type := .int, accessFlags := 26, slot := 0, constantValue := 0 }, { name := "INSERTIONSORT_THRESHOLD", type := .int, accessFlags := 26, slot := 1, constantValue := 0 }, { name := "$assertionsDisabled", type := .boolean, accessFlags := 4120, slot := 2, constantValue := 0 }]
  methods := #[k27m0, k27m1, k27m2]
  instanceTypes := #[]
  staticTypes := #[.int, .int, .boolean]
  resolved := Array.replicate 1029 none
  statics := none }

def pool28 : Array CpInfo := pool [(2, .class_ 4), (1, u "java/lang/Object"), (0, u "<init>"), (0, u "()V"), (1, .class_ 10), (1, u "java/lang/System"), (0, u "allowSecurityManager"), (0, u "I"), (16, u "cons"), (0, u "Ljava/io/Console;"), (77, .class_ 110), (1, u "java/lang/System$CallersHolder"), (43, u "initialErrStream"), (0, u "Ljava/io/PrintStream;"), (19, u "security"), (0, u "Ljava/lang/SecurityManager;"), (31, .class_ 209), (0, u "java/lang/System$1"), (7, u "props"), (0, u "Ljava/util/Properties;"), (2, u "lineSeparator"), (0, u "Ljava/lang/String;"), (96, .class_ 321), (1, u "java/lang/System$LoggerFinder"), (5, .class_ 328), (0, u "java/lang/System$Logger"), (67, u "err"), (2, u "out"), (91, u "notSupportedJnuEncoding"), (15, u "in"), (17, u "initialIn"), (0, u "Ljava/io/InputStream;"), (35, u "bootLayer"), (0, u "Ljava/lang/ModuleLayer;"), (99, .class_ 664), (0, u "java/lang/System$2"), (9, u "NEVER"), (2, u "MAYBE"), (49, u "arraycopy"), (0, u "(Ljava/lang/Object;ILjava/lang/Object;II)V"), (72, .class_ 802), (0, u "java/lang/System$Logger$Level")] 31

def k28m0 : Method := { name := "<init>", desc := "()V", sig := { parameters := [], returnType := none }, accessFlags := 2, code := none }
def k28m1 : Method := { name := "arraycopy", desc := "(Ljava/lang/Object;ILjava/lang/Object;II)V", sig := { parameters := [(.object "java/lang/Object"), .int, (.object "java/lang/Object"), .int, .int], returnType := none }, accessFlags := 265, code := none }
/-- java/lang/System -/
def k28 : Class := { plain "java/lang/System" (some 0) with
  accessFlags := 49
  interfaces := #[]
  cf := some (fileOf pool28 8 #[.nestMembers #[319, 327, 801, 108, 663, 208]] #[{ accessFlags := 2, nameIndex := 5, descriptorIndex := 6, attributes := #[] }, { accessFlags := 265, nameIndex := 727, descriptorIndex := 728, attributes := #[] }] 49 2 #[] #[{ accessFlags := 25, nameIndex := 507, descriptorIndex := 526, attributes := #[] }, { accessFlags := 25, nameIndex := 399, descriptorIndex := 155, attributes := #[] }, { accessFlags := 25, nameIndex := 396, descriptorIndex := 155, attributes := #[] }, { accessFlags := 10, nameIndex := 525, descriptorIndex := 526, attributes := #[] }, { accessFlags := 26, nameIndex := 674, descriptorIndex := 12, attributes := #[] }, { accessFlags := 26, nameIndex := 677, descriptorIndex := 12, attributes := #[] }, { accessFlags := 10, nameIndex := 11, descriptorIndex := 12, attributes := #[] }, { accessFlags := 74, nameIndex := 175, descriptorIndex := 176, attributes := #[] }, { accessFlags := 10, nameIndex := 491, descriptorIndex := 222, attributes := #[] }, { accessFlags := 74, nameIndex := 29, descriptorIndex := 30, attributes := #[] }, { accessFlags := 74, nameIndex := 154, descriptorIndex := 155, attributes := #[] }, { accessFlags := 10, nameIndex := 217, descriptorIndex := 218, attributes := #[] }, { accessFlags := 10, nameIndex := 221, descriptorIndex := 222, attributes := #[] }, { accessFlags := 8, nameIndex := 562, descriptorIndex := 563, attributes := #[] }])
  fields := #[{ name := "in", type := (.object "java/io/InputStream"), accessFlags := 25, slot := 0, constantValue := 0 }, { name := "out", type := (.object "java/io/PrintStream"), accessFlags := 25, slot := 1, constantValue := 0 }, { name := "err", type := (.object "java/io/PrintStream"), accessFlags := 25, slot := 2, constantValue := 0 }, { name := "initialIn", type := (.object "java/io/InputStream"), accessFlags := 10, slot := 3, constantValue := 0 }, { name := "NEVER", type := .int, accessFlags := 26, slot := 4, constantValue := 0 }, { name := "MAYBE", type := .int, accessFlags := 26, slot := 5, constantValue := 0 }, { name := "allowSecurityManager", type := .int, accessFlags := 10, slot := 6, constantValue := 0 }, { name := "security", type := (.object "java/lang/SecurityManager"), accessFlags := 74, slot := 7, constantValue := 0 }, { name := "notSupportedJnuEncoding", type := (.object "java/lang/String"), accessFlags := 10, slot := 8, constantValue := 0 }, { name := "cons", type := (.object "java/io/Console"), accessFlags := 74, slot := 9, constantValue := 0 }, { name := "initialErrStream", type := (.object "java/io/PrintStream"), accessFlags := 74, slot := 10, constantValue := 0 }, { name := "props", type := (.object "java/util/Properties"), accessFlags := 10, slot := 11, constantValue := 0 }, { name := "lineSeparator", type := (.object "java/lang/String"), accessFlags := 10, slot := 12, constantValue := 0 }, { name := "bootLayer", type := (.object "java/lang/ModuleLayer"), accessFlags := 8, slot := 13, constantValue := 0 }]
  methods := #[k28m0, k28m1]
  instanceTypes := #[]
  staticTypes := #[(.object "java/io/InputStream"), (.object "java/io/PrintStream"), (.object "java/io/PrintStream"), (.object "java/io/InputStream"), .int, .int, .int, (.object "java/lang/SecurityManager"), (.object "java/lang/String"), (.object "java/io/Console"), (.object "java/io/PrintStream"), (.object "java/util/Properties"), (.object "java/lang/String"), (.object "java/lang/ModuleLayer")]
  resolved := Array.replicate 834 none
  statics := none }

def pool29 : Array CpInfo := pool [(2, .class_ 4), (1, u "java/lang/Object"), (0, u "<init>"), (0, u "()V"), (35, .class_ 44), (1, u "java/util/Objects"), (0, u "requireNonNull"), (0, u "(Ljava/lang/Object;)Ljava/lang/Object;")] 137

def k29m0 : Method := { name := "<init>", desc := "()V", sig := { parameters := [], returnType := none }, accessFlags := 2, code := none }
def k29c1 : Code := { maxStack := 2, maxLocals := 1, code := jdk_31_method_10_code, exceptionTable := #[], attributes := #[] }
def k29m1 : Method := { name := "requireNonNull", desc := "(Ljava/lang/Object;)Ljava/lang/Object;", sig := { parameters := [(.object "java/lang/Object")], returnType := some (.object "java/lang/Object") }, accessFlags := 9, code := some k29c1 }
/-- java/util/Objects -/
def k29 : Class := { plain "java/util/Objects" (some 0) with
  accessFlags := 49
  interfaces := #[]
  cf := some (fileOf pool29 42 #[] #[{ accessFlags := 2, nameIndex := 5, descriptorIndex := 6, attributes := #[] }, { accessFlags := 9, nameIndex := 45, descriptorIndex := 46, attributes := #[] }] 49 2 #[] #[])
  fields := #[]
  methods := #[k29m0, k29m1]
  instanceTypes := #[]
  staticTypes := #[]
  resolved := Array.replicate 184 none
  statics := none }

/-- the primitive byte -/
def k30 : Class := { plain "byte" none with kind := .primitive 'B', accessFlags := 0x411 }
/-- [B -/
def k31 : Class := { plain "[B" (some 0) with kind := .array 30 .byte, interfaces := #[18, 12], accessFlags := 1041 }

/-- the primitive int -/
def k32 : Class := { plain "int" none with kind := .primitive 'I', accessFlags := 0x411 }
/-- [I -/
def k33 : Class := { plain "[I" (some 0) with kind := .array 32 .int, interfaces := #[18, 12], accessFlags := 1041 }

/-- [Ljava/lang/Object; -/
def k34 : Class := { plain "[Ljava/lang/Object;" (some 0) with kind := .array 0 (.object "java/lang/Object"), interfaces := #[18, 12], accessFlags := 1041, mirror := some 5 }

def heap : Heap := #[{ cls := 3, slots := #[.ref 10], vm := .statics 3 },
  { cls := 19, slots := #[.long 0, .int 0, .ref 17, .ref 18], vm := .statics 19 },
  { cls := 20, slots := #[.long 0, .int 0, .null, .ref 12, .ref 11, .null, .null, .null, .int 0, .int 1], vm := .statics 20 },
  { cls := 24, slots := #[.ref 13, .ref 14, .null], vm := .statics 24 },
  { cls := 25, slots := #[.ref 16, .null, .null, .ref 15, .null, .null], vm := .statics 25 },
  { cls := 0, slots := #[], vm := .mirror 34 },
  { cls := 34, slots := #[.ref 8, .ref 8, .ref 8, .ref 8, .ref 8], vm := .none },
  { cls := 34, slots := #[], vm := .none },
  { cls := 16, slots := #[.long 1, .int 0], vm := .none },
  { cls := 13, slots := #[.ref 6, .int 0], vm := .none },
  { cls := 3, slots := #[.ref 9], vm := .none },
  { cls := 13, slots := #[.ref 7, .int 0], vm := .none },
  { cls := 0, slots := #[], vm := .none },
  { cls := 24, slots := #[.null, .int 0, .int 0], vm := .none },
  { cls := 24, slots := #[.null, .int 1, .int 0], vm := .none },
  { cls := 25, slots := #[.null, .int 0, .int 0], vm := .none },
  { cls := 25, slots := #[.null, .int 1, .int 0], vm := .none },
  { cls := 34, slots := #[], vm := .none },
  { cls := 34, slots := #[], vm := .none }]
def classes : Array Class := #[k0, k1, k2, k3, k4, k5, k6, k7, k8, k9, k10, k11, k12, k13, k14, k15, k16, k17, k18, k19, k20, k21, k22, k23, k24, k25, k26, k27, k28, k29, k30, k31, k32, k33, k34]
def interned : List (Array UInt16 × Addr) := []
def slotsUsed : Nat := 48
def theMethod : MethodId := ⟨1, 1⟩
def args0 : Array Value := #[.int 5, .int 3, .int 1]
def aboutOver (below : List Frame) : State where
  vm := { classes := classes, interned := interned.toArray }
  heap := heap
  slotsUsed := slotsUsed
  threads := #[{ frames := .invoking theMethod args0 :: below }]
def below0 : List Frame := [.native { method := ⟨0, 0⟩, args := #[] }]
def about1 : State := aboutOver below0
def p0 : Program := .bare "" "" ""
def e0 : Env := launch0.env 0 0 0
theorem w_frames : about1.frames = Frame.invoking theMethod args0 :: below0 := rfl
set_option maxRecDepth 65536 in
theorem w_args : argsFit about1.vm theMethod args0 = true := by decide +kernel
set_option maxRecDepth 65536 in
theorem w_heap : heapFits about1 = true := by decide +kernel
set_option maxRecDepth 65536 in
theorem w_runnable : about1.curStatus? = some .runnable := by decide +kernel
set_option maxRecDepth 65536 in
theorem w_alone : about1.alone = true := by decide +kernel
set_option maxRecDepth 65536 in
theorem w_named : about1.methodNamed? x = some theMethod := by decide +kernel
set_option maxRecDepth 65536 in
theorem w_hears : about1.hears theMethod below0 = true := by decide +kernel
set_option maxRecDepth 65536 in
theorem w_ripe : about1.ripe theMethod args0 below0 = true := by decide +kernel
theorem w_running : about1.status = .running := rfl
set_option maxRecDepth 65536 in
theorem w_room : about1.hasRoom e0.platform room_1 = true :=
  launch0.hasRoom_least _ room_1 (by decide +kernel) (by decide +kernel) (by decide +kernel) (by decide +kernel) (by decide +kernel) (by decide +kernel)
theorem allAtoms_all (ts : List Jvm.Cond) (a : Array Jvm.Value) (st : Jvm.State) : (allAtoms ts).before a st = ts.all (fun c => c.before a st) := by
  induction ts with
  | nil => rfl
  | cons c t ih =>
    show (Jvm.Cond.and c (allAtoms t)).before a st = _
    rw [Jvm.Cond.before_and, ih, List.all_cons]
def words1 : List Jvm.Cond := Jvm.Cond.code x code maxLocals ret :: tables_1
/-- a 'code' word, met by the world's own term for the bytes: nothing is compared byte by byte -/
theorem code_word {y : MethodName} {bytes : ByteArray} {mx : Nat} {rt : Option FieldType} {a : Array Value} {s : State} {m : MethodId} {meth : Method} {c : Code} (h1 : s.methodNamed? y = some m) (h2 : s.vm.method? m = some meth) (h3 : meth.code = some c) (h4 : c.code = bytes)
    (h5 : (c.maxLocals == mx && c.exceptionTable.isEmpty && decide (c.maxStack ≤ mostOperands) && decide (meth.sig.returnType = rt) && !meth.locks && decide (parseMethodDescriptor y.desc = some meth.sig)) = true) : (Jvm.Cond.code y bytes mx rt).before a s = true := by
  simp only [Bool.and_eq_true, beq_iff_eq, Bool.not_eq_true', decide_eq_true_eq] at h5
  obtain ⟨⟨⟨⟨⟨g1, g2⟩, g3⟩, g4⟩, g5⟩, g6⟩ := h5
  simp [Cond.before, Cond.holds, Cond.value, h1, h2, h3, h4, g1, g2, g3, g4, g5, g6]
def isCode : Jvm.Cond → Bool
  | .code _ _ _ _ => true
  | _ => false
theorem all_split {L : List Jvm.Cond} {P : Jvm.Cond → Bool} (h1 : L.all (fun c => isCode c || P c) = true) (h2 : ∀ c ∈ L.filter isCode, P c = true) : L.all P = true := by
  refine List.all_eq_true.mpr fun c hc => ?_
  have h := List.all_eq_true.mp h1 c hc
  rcases Bool.eq_false_or_eq_true (isCode c) with hi | hi
  · exact h2 c (List.mem_filter.mpr ⟨hc, hi⟩)
  · simpa [hi] using h
set_option maxRecDepth 65536 in
theorem w_c0 : (Jvm.Cond.code x code maxLocals ret).before args0 about1 = true := code_word (m := ⟨1, 1⟩) (meth := k1m1) (c := k1c1) (by decide +kernel) rfl rfl rfl (by decide +kernel)
set_option maxRecDepth 65536 in
theorem w_c1 : (Jvm.Cond.code ({ cls := "com/example/savitri/savitri/store/RedriveSchedule", name := "delayAfter", desc := "(I)Ljava/time/Duration;" } : Jvm.MethodName) prog_17_method_4_code (2 : Nat) (Option.some (Jvm.ClassFile.FieldType.object "java/time/Duration"))).before args0 about1 = true := code_word (m := ⟨3, 3⟩) (meth := k3m3) (c := k3c3) (by decide +kernel) rfl rfl rfl (by decide +kernel)
set_option maxRecDepth 65536 in
theorem w_c2 : (Jvm.Cond.code ({ cls := "java/util/ImmutableCollections$ListN", name := "get", desc := "(I)Ljava/lang/Object;" } : Jvm.MethodName) jdk_45_method_4_code (2 : Nat) (Option.some (Jvm.ClassFile.FieldType.object "java/lang/Object"))).before args0 about1 = true := code_word (m := ⟨13, 2⟩) (meth := k13m2) (c := k13c2) (by decide +kernel) rfl rfl rfl (by decide +kernel)
set_option maxRecDepth 65536 in
theorem w_c3 : (Jvm.Cond.code ({ cls := "java/util/ArrayList", name := "<init>", desc := "()V" } : Jvm.MethodName) jdk_38_method_2_code (1 : Nat) (Option.none : Option Jvm.ClassFile.FieldType)).before args0 about1 = true := code_word (m := ⟨19, 0⟩) (meth := k19m0) (c := k19c0) (by decide +kernel) rfl rfl rfl (by decide +kernel)
set_option maxRecDepth 65536 in
theorem w_c4 : (Jvm.Cond.code ({ cls := "java/util/AbstractList", name := "<init>", desc := "()V" } : Jvm.MethodName) jdk_39_method_1_code (1 : Nat) (Option.none : Option Jvm.ClassFile.FieldType)).before args0 about1 = true := code_word (m := ⟨17, 0⟩) (meth := k17m0) (c := k17c0) (by decide +kernel) rfl rfl rfl (by decide +kernel)
set_option maxRecDepth 65536 in
theorem w_c5 : (Jvm.Cond.code ({ cls := "java/util/AbstractCollection", name := "<init>", desc := "()V" } : Jvm.MethodName) jdk_22_method_1_code (1 : Nat) (Option.none : Option Jvm.ClassFile.FieldType)).before args0 about1 = true := code_word (m := ⟨8, 0⟩) (meth := k8m0) (c := k8c0) (by decide +kernel) rfl rfl rfl (by decide +kernel)
set_option maxRecDepth 65536 in
theorem w_c6 : (Jvm.Cond.code ({ cls := "java/lang/Object", name := "<init>", desc := "()V" } : Jvm.MethodName) object_method_1_code (1 : Nat) (Option.none : Option Jvm.ClassFile.FieldType)).before args0 about1 = true := code_word (m := ⟨0, 0⟩) (meth := k0m0) (c := k0c0) (by decide +kernel) rfl rfl rfl (by decide +kernel)
set_option maxRecDepth 65536 in
theorem w_c7 : (Jvm.Cond.code ({ cls := "com/example/savitri/savitri/store/RedriveSchedule", name := "<init>", desc := "(Ljava/util/List;)V" } : Jvm.MethodName) prog_17_method_1_code (2 : Nat) (Option.none : Option Jvm.ClassFile.FieldType)).before args0 about1 = true := code_word (m := ⟨3, 0⟩) (meth := k3m0) (c := k3c0) (by decide +kernel) rfl rfl rfl (by decide +kernel)
set_option maxRecDepth 65536 in
theorem w_c8 : (Jvm.Cond.code ({ cls := "java/lang/Record", name := "<init>", desc := "()V" } : Jvm.MethodName) jdk_30_method_1_code (1 : Nat) (Option.none : Option Jvm.ClassFile.FieldType)).before args0 about1 = true := code_word (m := ⟨2, 0⟩) (meth := k2m0) (c := k2c0) (by decide +kernel) rfl rfl rfl (by decide +kernel)
set_option maxRecDepth 65536 in
theorem w_c9 : (Jvm.Cond.code ({ cls := "java/util/List", name := "copyOf", desc := "(Ljava/util/Collection;)Ljava/util/List;" } : Jvm.MethodName) jdk_40_method_48_code (1 : Nat) (Option.some (Jvm.ClassFile.FieldType.object "java/util/List"))).before args0 about1 = true := code_word (m := ⟨7, 4⟩) (meth := k7m4) (c := k7c4) (by decide +kernel) rfl rfl rfl (by decide +kernel)
set_option maxRecDepth 65536 in
theorem w_c10 : (Jvm.Cond.code ({ cls := "java/util/ImmutableCollections", name := "listCopy", desc := "(Ljava/util/Collection;)Ljava/util/List;" } : Jvm.MethodName) jdk_56_method_3_code (2 : Nat) (Option.some (Jvm.ClassFile.FieldType.object "java/util/List"))).before args0 about1 = true := code_word (m := ⟨20, 1⟩) (meth := k20m1) (c := k20c1) (by decide +kernel) rfl rfl rfl (by decide +kernel)
set_option maxRecDepth 65536 in
theorem w_c11 : (Jvm.Cond.code ({ cls := "java/util/ArrayList", name := "isEmpty", desc := "()Z" } : Jvm.MethodName) jdk_38_method_9_code (1 : Nat) (Option.some Jvm.ClassFile.FieldType.boolean)).before args0 about1 = true := code_word (m := ⟨19, 3⟩) (meth := k19m3) (c := k19c3) (by decide +kernel) rfl rfl rfl (by decide +kernel)
set_option maxRecDepth 65536 in
theorem w_c12 : (Jvm.Cond.code ({ cls := "java/util/List", name := "of", desc := "()Ljava/util/List;" } : Jvm.MethodName) jdk_40_method_36_code (0 : Nat) (Option.some (Jvm.ClassFile.FieldType.object "java/util/List"))).before args0 about1 = true := code_word (m := ⟨7, 2⟩) (meth := k7m2) (c := k7c2) (by decide +kernel) rfl rfl rfl (by decide +kernel)
set_option maxRecDepth 65536 in
theorem w_c13 : (Jvm.Cond.code ({ cls := "com/example/savitri/savitri/store/RedriveSchedule", name := "statusAfter", desc := "(Lcom/example/savitri/savitri/client/FailureKind;I)Lcom/example/savitri/savitri/store/DeadLetterStatus;" } : Jvm.MethodName) prog_17_method_3_code (4 : Nat) (Option.some (Jvm.ClassFile.FieldType.object "com/example/savitri/savitri/store/DeadLetterStatus"))).before args0 about1 = true := code_word (m := ⟨3, 2⟩) (meth := k3m2) (c := k3c2) (by decide +kernel) rfl rfl rfl (by decide +kernel)
set_option maxRecDepth 65536 in
theorem w_c14 : (Jvm.Cond.code ({ cls := "com/example/savitri/savitri/store/RedriveSchedule", name := "redrives", desc := "()I" } : Jvm.MethodName) prog_17_method_2_code (1 : Nat) (Option.some Jvm.ClassFile.FieldType.int)).before args0 about1 = true := code_word (m := ⟨3, 1⟩) (meth := k3m1) (c := k3c1) (by decide +kernel) rfl rfl rfl (by decide +kernel)
set_option maxRecDepth 65536 in
theorem w_c15 : (Jvm.Cond.code ({ cls := "java/util/ImmutableCollections$ListN", name := "size", desc := "()I" } : Jvm.MethodName) jdk_45_method_3_code (1 : Nat) (Option.some Jvm.ClassFile.FieldType.int)).before args0 about1 = true := code_word (m := ⟨13, 1⟩) (meth := k13m1) (c := k13c1) (by decide +kernel) rfl rfl rfl (by decide +kernel)
set_option maxRecDepth 65536 in
theorem w_c16 : (Jvm.Cond.code ({ cls := "java/util/ArrayList", name := "add", desc := "(Ljava/lang/Object;)Z" } : Jvm.MethodName) jdk_38_method_25_code (2 : Nat) (Option.some Jvm.ClassFile.FieldType.boolean)).before args0 about1 = true := code_word (m := ⟨19, 6⟩) (meth := k19m6) (c := k19c6) (by decide +kernel) rfl rfl rfl (by decide +kernel)
set_option maxRecDepth 65536 in
theorem w_c17 : (Jvm.Cond.code ({ cls := "java/util/ArrayList", name := "add", desc := "(Ljava/lang/Object;[Ljava/lang/Object;I)V" } : Jvm.MethodName) jdk_38_method_24_code (4 : Nat) (Option.none : Option Jvm.ClassFile.FieldType)).before args0 about1 = true := code_word (m := ⟨19, 5⟩) (meth := k19m5) (c := k19c5) (by decide +kernel) rfl rfl rfl (by decide +kernel)
set_option maxRecDepth 65536 in
theorem w_c18 : (Jvm.Cond.code ({ cls := "java/util/ArrayList", name := "grow", desc := "()[Ljava/lang/Object;" } : Jvm.MethodName) jdk_38_method_7_code (1 : Nat) (Option.some (Jvm.ClassFile.FieldType.array (Jvm.ClassFile.FieldType.object "java/lang/Object")))).before args0 about1 = true := code_word (m := ⟨19, 2⟩) (meth := k19m2) (c := k19c2) (by decide +kernel) rfl rfl rfl (by decide +kernel)
set_option maxRecDepth 65536 in
theorem w_c19 : (Jvm.Cond.code ({ cls := "java/util/ArrayList", name := "grow", desc := "(I)[Ljava/lang/Object;" } : Jvm.MethodName) jdk_38_method_6_code (4 : Nat) (Option.some (Jvm.ClassFile.FieldType.array (Jvm.ClassFile.FieldType.object "java/lang/Object")))).before args0 about1 = true := code_word (m := ⟨19, 1⟩) (meth := k19m1) (c := k19c1) (by decide +kernel) rfl rfl rfl (by decide +kernel)
set_option maxRecDepth 65536 in
theorem w_c20 : (Jvm.Cond.code ({ cls := "java/lang/Math", name := "max", desc := "(II)I" } : Jvm.MethodName) jdk_29_method_65_code (2 : Nat) (Option.some Jvm.ClassFile.FieldType.int)).before args0 about1 = true := code_word (m := ⟨26, 1⟩) (meth := k26m1) (c := k26c1) (by decide +kernel) rfl rfl rfl (by decide +kernel)
set_option maxRecDepth 65536 in
theorem w_c21 : (Jvm.Cond.code ({ cls := "java/util/ArrayList", name := "toArray", desc := "()[Ljava/lang/Object;" } : Jvm.MethodName) jdk_38_method_16_code (1 : Nat) (Option.some (Jvm.ClassFile.FieldType.array (Jvm.ClassFile.FieldType.object "java/lang/Object")))).before args0 about1 = true := code_word (m := ⟨19, 4⟩) (meth := k19m4) (c := k19c4) (by decide +kernel) rfl rfl rfl (by decide +kernel)
set_option maxRecDepth 65536 in
theorem w_c22 : (Jvm.Cond.code ({ cls := "java/util/Arrays", name := "copyOf", desc := "([Ljava/lang/Object;I)[Ljava/lang/Object;" } : Jvm.MethodName) jdk_65_method_119_code (2 : Nat) (Option.some (Jvm.ClassFile.FieldType.array (Jvm.ClassFile.FieldType.object "java/lang/Object")))).before args0 about1 = true := code_word (m := ⟨27, 1⟩) (meth := k27m1) (c := k27c1) (by decide +kernel) rfl rfl rfl (by decide +kernel)
set_option maxRecDepth 65536 in
theorem w_c23 : (Jvm.Cond.code ({ cls := "java/util/Arrays", name := "copyOf", desc := "([Ljava/lang/Object;ILjava/lang/Class;)[Ljava/lang/Object;" } : Jvm.MethodName) jdk_65_method_120_code (4 : Nat) (Option.some (Jvm.ClassFile.FieldType.array (Jvm.ClassFile.FieldType.object "java/lang/Object")))).before args0 about1 = true := code_word (m := ⟨27, 2⟩) (meth := k27m2) (c := k27c2) (by decide +kernel) rfl rfl rfl (by decide +kernel)
set_option maxRecDepth 65536 in
theorem w_c24 : (Jvm.Cond.code ({ cls := "java/lang/Math", name := "min", desc := "(II)I" } : Jvm.MethodName) jdk_29_method_69_code (2 : Nat) (Option.some Jvm.ClassFile.FieldType.int)).before args0 about1 = true := code_word (m := ⟨26, 2⟩) (meth := k26m2) (c := k26c2) (by decide +kernel) rfl rfl rfl (by decide +kernel)
set_option maxRecDepth 65536 in
theorem w_c25 : (Jvm.Cond.code ({ cls := "java/util/List", name := "of", desc := "([Ljava/lang/Object;)Ljava/util/List;" } : Jvm.MethodName) jdk_40_method_47_code (2 : Nat) (Option.some (Jvm.ClassFile.FieldType.object "java/util/List"))).before args0 about1 = true := code_word (m := ⟨7, 3⟩) (meth := k7m3) (c := k7c3) (by decide +kernel) rfl rfl rfl (by decide +kernel)
set_option maxRecDepth 65536 in
theorem w_c26 : (Jvm.Cond.code ({ cls := "java/util/ImmutableCollections$List12", name := "<init>", desc := "(Ljava/lang/Object;)V" } : Jvm.MethodName) jdk_44_method_1_code (2 : Nat) (Option.none : Option Jvm.ClassFile.FieldType)).before args0 about1 = true := code_word (m := ⟨21, 0⟩) (meth := k21m0) (c := k21c0) (by decide +kernel) rfl rfl rfl (by decide +kernel)
set_option maxRecDepth 65536 in
theorem w_c27 : (Jvm.Cond.code ({ cls := "java/util/ImmutableCollections$AbstractImmutableList", name := "<init>", desc := "()V" } : Jvm.MethodName) jdk_46_method_1_code (1 : Nat) (Option.none : Option Jvm.ClassFile.FieldType)).before args0 about1 = true := code_word (m := ⟨11, 0⟩) (meth := k11m0) (c := k11c0) (by decide +kernel) rfl rfl rfl (by decide +kernel)
set_option maxRecDepth 65536 in
theorem w_c28 : (Jvm.Cond.code ({ cls := "java/util/ImmutableCollections$AbstractImmutableCollection", name := "<init>", desc := "()V" } : Jvm.MethodName) jdk_47_method_1_code (1 : Nat) (Option.none : Option Jvm.ClassFile.FieldType)).before args0 about1 = true := code_word (m := ⟨9, 0⟩) (meth := k9m0) (c := k9c0) (by decide +kernel) rfl rfl rfl (by decide +kernel)
set_option maxRecDepth 65536 in
theorem w_c29 : (Jvm.Cond.code ({ cls := "java/util/Objects", name := "requireNonNull", desc := "(Ljava/lang/Object;)Ljava/lang/Object;" } : Jvm.MethodName) jdk_31_method_10_code (1 : Nat) (Option.some (Jvm.ClassFile.FieldType.object "java/lang/Object"))).before args0 about1 = true := code_word (m := ⟨29, 1⟩) (meth := k29m1) (c := k29c1) (by decide +kernel) rfl rfl rfl (by decide +kernel)
set_option maxRecDepth 65536 in
theorem w_c30 : (Jvm.Cond.code ({ cls := "java/util/ImmutableCollections", name := "listFromArray", desc := "([Ljava/lang/Object;)Ljava/util/List;" } : Jvm.MethodName) jdk_56_method_4_code (3 : Nat) (Option.some (Jvm.ClassFile.FieldType.object "java/util/List"))).before args0 about1 = true := code_word (m := ⟨20, 2⟩) (meth := k20m2) (c := k20c2) (by decide +kernel) rfl rfl rfl (by decide +kernel)
set_option maxRecDepth 65536 in
theorem w_c31 : (Jvm.Cond.code ({ cls := "java/util/ImmutableCollections$ListN", name := "<init>", desc := "([Ljava/lang/Object;Z)V" } : Jvm.MethodName) jdk_45_method_1_code (3 : Nat) (Option.none : Option Jvm.ClassFile.FieldType)).before args0 about1 = true := code_word (m := ⟨13, 0⟩) (meth := k13m0) (c := k13c0) (by decide +kernel) rfl rfl rfl (by decide +kernel)
set_option maxRecDepth 65536 in
theorem w_c32 : (Jvm.Cond.code ({ cls := "java/util/ImmutableCollections$List12", name := "<init>", desc := "(Ljava/lang/Object;Ljava/lang/Object;)V" } : Jvm.MethodName) jdk_44_method_2_code (3 : Nat) (Option.none : Option Jvm.ClassFile.FieldType)).before args0 about1 = true := code_word (m := ⟨21, 1⟩) (meth := k21m1) (c := k21c1) (by decide +kernel) rfl rfl rfl (by decide +kernel)
set_option maxRecDepth 65536 in
theorem w_c33 : (Jvm.Cond.code ({ cls := "java/util/ImmutableCollections$List12", name := "size", desc := "()I" } : Jvm.MethodName) jdk_44_method_3_code (1 : Nat) (Option.some Jvm.ClassFile.FieldType.int)).before args0 about1 = true := code_word (m := ⟨21, 2⟩) (meth := k21m2) (c := k21c2) (by decide +kernel) rfl rfl rfl (by decide +kernel)
def codes1 : List Jvm.Cond := [Jvm.Cond.code x code maxLocals ret, Jvm.Cond.code ({ cls := "com/example/savitri/savitri/store/RedriveSchedule", name := "delayAfter", desc := "(I)Ljava/time/Duration;" } : Jvm.MethodName) prog_17_method_4_code (2 : Nat) (Option.some (Jvm.ClassFile.FieldType.object "java/time/Duration")), Jvm.Cond.code ({ cls := "java/util/ImmutableCollections$ListN", name := "get", desc := "(I)Ljava/lang/Object;" } : Jvm.MethodName) jdk_45_method_4_code (2 : Nat) (Option.some (Jvm.ClassFile.FieldType.object "java/lang/Object")), Jvm.Cond.code ({ cls := "java/util/ArrayList", name := "<init>", desc := "()V" } : Jvm.MethodName) jdk_38_method_2_code (1 : Nat) (Option.none : Option Jvm.ClassFile.FieldType), Jvm.Cond.code ({ cls := "java/util/AbstractList", name := "<init>", desc := "()V" } : Jvm.MethodName) jdk_39_method_1_code (1 : Nat) (Option.none : Option Jvm.ClassFile.FieldType), Jvm.Cond.code ({ cls := "java/util/AbstractCollection", name := "<init>", desc := "()V" } : Jvm.MethodName) jdk_22_method_1_code (1 : Nat) (Option.none : Option Jvm.ClassFile.FieldType), Jvm.Cond.code ({ cls := "java/lang/Object", name := "<init>", desc := "()V" } : Jvm.MethodName) object_method_1_code (1 : Nat) (Option.none : Option Jvm.ClassFile.FieldType), Jvm.Cond.code ({ cls := "com/example/savitri/savitri/store/RedriveSchedule", name := "<init>", desc := "(Ljava/util/List;)V" } : Jvm.MethodName) prog_17_method_1_code (2 : Nat) (Option.none : Option Jvm.ClassFile.FieldType), Jvm.Cond.code ({ cls := "java/lang/Record", name := "<init>", desc := "()V" } : Jvm.MethodName) jdk_30_method_1_code (1 : Nat) (Option.none : Option Jvm.ClassFile.FieldType), Jvm.Cond.code ({ cls := "java/util/List", name := "copyOf", desc := "(Ljava/util/Collection;)Ljava/util/List;" } : Jvm.MethodName) jdk_40_method_48_code (1 : Nat) (Option.some (Jvm.ClassFile.FieldType.object "java/util/List")), Jvm.Cond.code ({ cls := "java/util/ImmutableCollections", name := "listCopy", desc := "(Ljava/util/Collection;)Ljava/util/List;" } : Jvm.MethodName) jdk_56_method_3_code (2 : Nat) (Option.some (Jvm.ClassFile.FieldType.object "java/util/List")), Jvm.Cond.code ({ cls := "java/util/ArrayList", name := "isEmpty", desc := "()Z" } : Jvm.MethodName) jdk_38_method_9_code (1 : Nat) (Option.some Jvm.ClassFile.FieldType.boolean), Jvm.Cond.code ({ cls := "java/util/List", name := "of", desc := "()Ljava/util/List;" } : Jvm.MethodName) jdk_40_method_36_code (0 : Nat) (Option.some (Jvm.ClassFile.FieldType.object "java/util/List")), Jvm.Cond.code ({ cls := "com/example/savitri/savitri/store/RedriveSchedule", name := "statusAfter", desc := "(Lcom/example/savitri/savitri/client/FailureKind;I)Lcom/example/savitri/savitri/store/DeadLetterStatus;" } : Jvm.MethodName) prog_17_method_3_code (4 : Nat) (Option.some (Jvm.ClassFile.FieldType.object "com/example/savitri/savitri/store/DeadLetterStatus")), Jvm.Cond.code ({ cls := "com/example/savitri/savitri/store/RedriveSchedule", name := "redrives", desc := "()I" } : Jvm.MethodName) prog_17_method_2_code (1 : Nat) (Option.some Jvm.ClassFile.FieldType.int), Jvm.Cond.code ({ cls := "java/util/ImmutableCollections$ListN", name := "size", desc := "()I" } : Jvm.MethodName) jdk_45_method_3_code (1 : Nat) (Option.some Jvm.ClassFile.FieldType.int), Jvm.Cond.code ({ cls := "java/util/ArrayList", name := "add", desc := "(Ljava/lang/Object;)Z" } : Jvm.MethodName) jdk_38_method_25_code (2 : Nat) (Option.some Jvm.ClassFile.FieldType.boolean), Jvm.Cond.code ({ cls := "java/util/ArrayList", name := "add", desc := "(Ljava/lang/Object;[Ljava/lang/Object;I)V" } : Jvm.MethodName) jdk_38_method_24_code (4 : Nat) (Option.none : Option Jvm.ClassFile.FieldType), Jvm.Cond.code ({ cls := "java/util/ArrayList", name := "grow", desc := "()[Ljava/lang/Object;" } : Jvm.MethodName) jdk_38_method_7_code (1 : Nat) (Option.some (Jvm.ClassFile.FieldType.array (Jvm.ClassFile.FieldType.object "java/lang/Object"))), Jvm.Cond.code ({ cls := "java/util/ArrayList", name := "grow", desc := "(I)[Ljava/lang/Object;" } : Jvm.MethodName) jdk_38_method_6_code (4 : Nat) (Option.some (Jvm.ClassFile.FieldType.array (Jvm.ClassFile.FieldType.object "java/lang/Object"))), Jvm.Cond.code ({ cls := "java/lang/Math", name := "max", desc := "(II)I" } : Jvm.MethodName) jdk_29_method_65_code (2 : Nat) (Option.some Jvm.ClassFile.FieldType.int), Jvm.Cond.code ({ cls := "java/util/ArrayList", name := "toArray", desc := "()[Ljava/lang/Object;" } : Jvm.MethodName) jdk_38_method_16_code (1 : Nat) (Option.some (Jvm.ClassFile.FieldType.array (Jvm.ClassFile.FieldType.object "java/lang/Object"))), Jvm.Cond.code ({ cls := "java/util/Arrays", name := "copyOf", desc := "([Ljava/lang/Object;I)[Ljava/lang/Object;" } : Jvm.MethodName) jdk_65_method_119_code (2 : Nat) (Option.some (Jvm.ClassFile.FieldType.array (Jvm.ClassFile.FieldType.object "java/lang/Object"))), Jvm.Cond.code ({ cls := "java/util/Arrays", name := "copyOf", desc := "([Ljava/lang/Object;ILjava/lang/Class;)[Ljava/lang/Object;" } : Jvm.MethodName) jdk_65_method_120_code (4 : Nat) (Option.some (Jvm.ClassFile.FieldType.array (Jvm.ClassFile.FieldType.object "java/lang/Object"))), Jvm.Cond.code ({ cls := "java/lang/Math", name := "min", desc := "(II)I" } : Jvm.MethodName) jdk_29_method_69_code (2 : Nat) (Option.some Jvm.ClassFile.FieldType.int), Jvm.Cond.code ({ cls := "java/util/List", name := "of", desc := "([Ljava/lang/Object;)Ljava/util/List;" } : Jvm.MethodName) jdk_40_method_47_code (2 : Nat) (Option.some (Jvm.ClassFile.FieldType.object "java/util/List")), Jvm.Cond.code ({ cls := "java/util/ImmutableCollections$List12", name := "<init>", desc := "(Ljava/lang/Object;)V" } : Jvm.MethodName) jdk_44_method_1_code (2 : Nat) (Option.none : Option Jvm.ClassFile.FieldType), Jvm.Cond.code ({ cls := "java/util/ImmutableCollections$AbstractImmutableList", name := "<init>", desc := "()V" } : Jvm.MethodName) jdk_46_method_1_code (1 : Nat) (Option.none : Option Jvm.ClassFile.FieldType), Jvm.Cond.code ({ cls := "java/util/ImmutableCollections$AbstractImmutableCollection", name := "<init>", desc := "()V" } : Jvm.MethodName) jdk_47_method_1_code (1 : Nat) (Option.none : Option Jvm.ClassFile.FieldType), Jvm.Cond.code ({ cls := "java/util/Objects", name := "requireNonNull", desc := "(Ljava/lang/Object;)Ljava/lang/Object;" } : Jvm.MethodName) jdk_31_method_10_code (1 : Nat) (Option.some (Jvm.ClassFile.FieldType.object "java/lang/Object")), Jvm.Cond.code ({ cls := "java/util/ImmutableCollections", name := "listFromArray", desc := "([Ljava/lang/Object;)Ljava/util/List;" } : Jvm.MethodName) jdk_56_method_4_code (3 : Nat) (Option.some (Jvm.ClassFile.FieldType.object "java/util/List")), Jvm.Cond.code ({ cls := "java/util/ImmutableCollections$ListN", name := "<init>", desc := "([Ljava/lang/Object;Z)V" } : Jvm.MethodName) jdk_45_method_1_code (3 : Nat) (Option.none : Option Jvm.ClassFile.FieldType), Jvm.Cond.code ({ cls := "java/util/ImmutableCollections$List12", name := "<init>", desc := "(Ljava/lang/Object;Ljava/lang/Object;)V" } : Jvm.MethodName) jdk_44_method_2_code (3 : Nat) (Option.none : Option Jvm.ClassFile.FieldType), Jvm.Cond.code ({ cls := "java/util/ImmutableCollections$List12", name := "size", desc := "()I" } : Jvm.MethodName) jdk_44_method_3_code (1 : Nat) (Option.some Jvm.ClassFile.FieldType.int)]
set_option maxRecDepth 65536 in
theorem codes_eq : words1.filter isCode = codes1 := rfl
theorem w_codes : ∀ c ∈ words1.filter isCode, c.before args0 about1 = true := by
  rw [codes_eq]
  intro c hc
  simp only [codes1, List.mem_cons, List.not_mem_nil, or_false] at hc
  rcases hc with rfl | rfl | rfl | rfl | rfl | rfl | rfl | rfl | rfl | rfl | rfl | rfl | rfl | rfl | rfl | rfl | rfl | rfl | rfl | rfl | rfl | rfl | rfl | rfl | rfl | rfl | rfl | rfl | rfl | rfl | rfl | rfl | rfl | rfl
  · exact w_c0
  · exact w_c1
  · exact w_c2
  · exact w_c3
  · exact w_c4
  · exact w_c5
  · exact w_c6
  · exact w_c7
  · exact w_c8
  · exact w_c9
  · exact w_c10
  · exact w_c11
  · exact w_c12
  · exact w_c13
  · exact w_c14
  · exact w_c15
  · exact w_c16
  · exact w_c17
  · exact w_c18
  · exact w_c19
  · exact w_c20
  · exact w_c21
  · exact w_c22
  · exact w_c23
  · exact w_c24
  · exact w_c25
  · exact w_c26
  · exact w_c27
  · exact w_c28
  · exact w_c29
  · exact w_c30
  · exact w_c31
  · exact w_c32
  · exact w_c33
set_option maxRecDepth 65536 in
theorem w_t1 : (words1.take 24).all (fun c => isCode c || c.before args0 about1) = true := by decide +kernel
set_option maxRecDepth 65536 in
theorem w_t2 : ((words1.drop 24).take 24).all (fun c => isCode c || c.before args0 about1) = true := by decide +kernel
set_option maxRecDepth 65536 in
theorem w_t3 : (((words1.drop 24).drop 24).take 24).all (fun c => isCode c || c.before args0 about1) = true := by decide +kernel
set_option maxRecDepth 65536 in
theorem w_t4 : ((((words1.drop 24).drop 24).drop 24).take 24).all (fun c => isCode c || c.before args0 about1) = true := by decide +kernel
set_option maxRecDepth 65536 in
theorem w_t5 : (((((words1.drop 24).drop 24).drop 24).drop 24).take 24).all (fun c => isCode c || c.before args0 about1) = true := by decide +kernel
set_option maxRecDepth 65536 in
theorem w_t6 : ((((((words1.drop 24).drop 24).drop 24).drop 24).drop 24).take 24).all (fun c => isCode c || c.before args0 about1) = true := by decide +kernel
set_option maxRecDepth 65536 in
theorem w_t7 : (((((((words1.drop 24).drop 24).drop 24).drop 24).drop 24).drop 24).take 24).all (fun c => isCode c || c.before args0 about1) = true := by decide +kernel
set_option maxRecDepth 65536 in
theorem w_t8 : ((((((((words1.drop 24).drop 24).drop 24).drop 24).drop 24).drop 24).drop 24).take 24).all (fun c => isCode c || c.before args0 about1) = true := by decide +kernel
set_option maxRecDepth 65536 in
theorem w_t9 : (((((((((words1.drop 24).drop 24).drop 24).drop 24).drop 24).drop 24).drop 24).drop 24).take 24).all (fun c => isCode c || c.before args0 about1) = true := by decide +kernel
set_option maxRecDepth 65536 in
theorem w_t10 : (((((((((words1.drop 24).drop 24).drop 24).drop 24).drop 24).drop 24).drop 24).drop 24).drop 24).all (fun c => isCode c || c.before args0 about1) = true := by decide +kernel
theorem w_tables : (allAtoms (Jvm.Cond.code x code maxLocals ret :: tables_1)).before args0 about1 = true := by
  rw [allAtoms_all]
  show words1.all (fun c => c.before args0 about1) = true
  refine all_split ?_ w_codes
  rw [← List.take_append_drop 24 words1, List.all_append, w_t1, ← List.take_append_drop 24 (words1.drop 24), List.all_append, w_t2, ← List.take_append_drop 24 ((words1.drop 24).drop 24), List.all_append, w_t3, ← List.take_append_drop 24 (((words1.drop 24).drop 24).drop 24), List.all_append, w_t4, ← List.take_append_drop 24 ((((words1.drop 24).drop 24).drop 24).drop 24), List.all_append, w_t5, ← List.take_append_drop 24 (((((words1.drop 24).drop 24).drop 24).drop 24).drop 24), List.all_append, w_t6, ← List.take_append_drop 24 ((((((words1.drop 24).drop 24).drop 24).drop 24).drop 24).drop 24), List.all_append, w_t7, ← List.take_append_drop 24 (((((((words1.drop 24).drop 24).drop 24).drop 24).drop 24).drop 24).drop 24), List.all_append, w_t8, ← List.take_append_drop 24 ((((((((words1.drop 24).drop 24).drop 24).drop 24).drop 24).drop 24).drop 24).drop 24), List.all_append, w_t9, w_t10]
  rfl
set_option maxRecDepth 65536 in
theorem w_rest : rest_1_c.before args0 about1 = true := by decide +kernel
set_option maxRecDepth 65536 in
theorem w_case : (Jvm.Cond.and given_1 narrow_1).before args0 about1 = true := by decide +kernel
theorem w_applies : (headSpec (Jvm.Cond.code x code maxLocals ret :: tables_1) room_1).applies x e0.platform about1 = true :=
  (Spec.applies_iff w_frames).mpr ⟨w_running, w_runnable, w_alone, w_named, w_hears, w_ripe, w_room, w_tables⟩
theorem atStart : AtStart classFile x code maxLocals ret World_1 tables_1 room_1 Calls_1 rest_1 Pre_1 launch0 p0 e0 about1 theMethod args0 below0 :=
  ⟨lists_1, trivial, launch0.admits_env _ _ _, launch0.least_env, fairChoices_fair.cas, fairChoices_fair.clock, w_frames, w_args, w_heap, w_applies, ⟨⟨34, k34, 5, by decide +kernel, rfl, rfl, _, rfl, rfl⟩, trivial⟩, w_rest, w_case⟩
end start1
theorem witness_1 : WitnessClaimed_1 := ⟨start1.p0, start1.e0, start1.about1, start1.theMethod, start1.args0, start1.below0, start1.atStart⟩
end Jvm.Pilot.@@N@@
