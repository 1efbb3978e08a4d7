import JvmDerived
import JvmDerived.Pilot.@@N@@Statement
import JvmDerived.Pilot.@@N@@Code
set_option linter.unusedVariables false
set_option linter.unusedSimpArgs false
namespace Jvm.RoadKit
open Sem ClassFile Op Lib Jvm.Stand Jvm.Free Jvm.LawKit
section New
variable {p : Program} {l : Launch} {e : Env} {R : Room} {s : State} {m : MethodId} {args : Array Value} {below : List Frame} {meth : Method} {c : Code} {T : State} {locs : List Loc} {cells slots : Nat}
theorem retI (X : Stand p l e R s m args below meth c T locs cells slots) (hx : p.tables.exec = Jvm.exec) {pc : Nat} {Ls : Array Slot} {z : Int32} {rest : List Value} (hret : meth.sig.returnType = some .int) (hd : decode c.code pc = .ok (.ireturn, 1)) {fs : List Frame}
    (hl : ∀ (f : JFrame) (acts : List Action), f.method = m → f.locked = none → f.entered = [] → (doReturn e (T.setTop f) acts (some (.int z))).1 = T.setFrames fs) : Steps p.tables e below (T.setTop (mkF m pc Ls (.int z :: rest))) (T.setFrames fs) := by
  have hm' : T.vm.method? m = some meth := X.method'
  have hn : narrow .int (.int z) = .int z := rfl
  show Steps p.tables e below (T.setTop { method := m, pc := pc, locals := Ls, stack := _ :: rest, locked := none }) _
  jvm_step X.here [X.here.top, hx, hd, hm', hret, hn]
  first | (intro acts; rw [hl _ acts rfl rfl rfl]) | rw [hl _ _ rfl rfl rfl]
  exact Steps.refl _
abbrev Sq (p : Program) (e : Env) (below : List Frame) (m : MethodId) (T : State) (pc : Nat) (L : Array Slot) (S : List Value) (t : State) : Prop := Steps p.tables e below (T.setTop (mkF m pc L S)) t
abbrev Ctr (l : Launch) (Z : State) (y : MethodName) (b : ByteArray) (ml : Nat) (rt : Option FieldType) (ws : List Cond) (rm : Room) (as' : Array Value) (h0 : Heap) (Q : Option Value → Heap → List Loc → Prop) : Prop :=
  MetFree l y (head1 (Cond.code y b ml rt :: ws) rm) (fun a U => a = as' ∧ Z.Warmed39 U.vm ∧ U.heap = h0) (fun _ _ _ _ _ => True) (fun _ U o U' => ∃ v L, o = .returned v ∧ Q v U'.heap L ∧ FrameEnd U o U' L rm.cells rm.slots)
theorem own_sz {Z : State} {n0 : Nat} {h : Heap} (O : Old Z n0 h) : n0 ≤ h.size := O.1 ▸ O.2.1
theorem own_selpriv {Z s : State} {a0 args : Array Value} {y : MethodName} {n : Nat} (hZ : Z.Warmed39 s.vm) (wi : (Cond.instantiable y.cls n).before a0 Z = true) (wm : (Cond.instanceMethod y).before a0 Z = true) (wp : (Cond.privateMethod y).before a0 Z = true) (hy : y.cls ≠ "java/lang/invoke/MethodHandle" ∧ y.cls ≠ "java/lang/invoke/VarHandle") : (Cond.selects y.cls y y).before args s = true := by
  obtain ⟨c, k, h1, h2, -, h4, -⟩ := Cond.instantiable_spec (mv (args := args) hZ wi)
  have hk : k.isInterface = false := by cases h : k.isInterface <;> simp_all
  exact selects_self_of_private h1 h2 hk (Cond.privateMethod_at (mvP hZ wp (args := args))) (mv hZ wm) hy
theorem own_fldinj {Z : State} {h : Heap} {a : Addr} {C n d : String} {v w : Value} (F : Fld Z h a C n d v) (G : Fld Z h a C n d w) : v = w := by
  obtain ⟨c1, cf, k, i, f, h1, h2, -, -, -, -, h3⟩ := F
  obtain ⟨c2, cf2, k2, i2, f2, g1, g2, -, -, -, -, g3⟩ := G
  cases h1.symm.trans g1
  cases h2.symm.trans g2
  exact Option.some.inj (h3.symm.trans g3)
theorem own_ne {Z : State} {h : Heap} {a b : Addr} {C n d : String} {v w : Value} (F : Fld Z h a C n d v) (G : Fld Z h b C n d w) (q : v ≠ w) : a ≠ b := fun e => by
  subst e; exact q (own_fldinj F G)
theorem own_static {s : State} {args : Array Value} {C f d K : String} (h : (Cond.exactly (Term.static C f d) K).value args s none s [] = some true) (hi : (Cond.initializedFor C f d).before args s = true ∨ ((Cond.initialized C).before args s = true ∧ (Cond.laysStatic C f d).before args s = true)) :
    ∃ w, Sta s s.heap C f d (.ref w) ∧ Exa s s.heap w K ∧ (Term.static C f d).eval args s none [] s = some (.ref w) := by
  obtain ⟨w, ev⟩ := exa_v h
  exact ⟨w, Sta.start ev hi, Exa.start ev h, ev⟩
theorem own_field {s : State} {args : Array Value} {t : Term} {w : Addr} {O f d : String} {n : Int32} (ev : t.eval args s none [] s = some (.ref w)) (h : (Cond.eq (Term.field t O f d) (Term.int n)).value args s none s [] = some true) : Fld s s.heap w O f d (.int n) := by
  have q := eqv_i (Term.int_eval n) h
  rw [fld_at ev] at q
  exact Fld.start q
theorem own_fldR {s : State} {args : Array Value} {t : Term} {w : Addr} {O f d : String} {v : Value} (ev : t.eval args s none [] s = some (.ref w)) (h : (Term.field t O f d).eval args s none [] s = some v) : Fld s s.heap w O f d v := Fld.start ((fld_at ev).symm.trans h)
theorem own_eqR {s : State} {args : Array Value} {a b : Term} {y : Addr} (hb : b.eval args s none [] s = some (.ref y)) (h : (Cond.eq a b).value args s none s [] = some true) : a.eval args s none [] s = some (.ref y) :=
  Cond.eq_refs (by simp [Cond.holds, h]) hb rfl
theorem own_len {s : State} {args : Array Value} {t : Term} {a : Addr} {c : Cell} {ty : FieldType} {n : Int32} (ev : t.eval args s none [] s = some (.ref a)) (A : Arr s s.heap a c ty) (h : (Cond.eq (Term.length t) (Term.int n)).value args s none s [] = some true) :
    c.slots.size < 2 ^ 31 ∧ c.slots.size.toInt32 = n := by
  have q := eqv_i (Term.int_eval n) h
  have f := A.fin (Vm.Alike.refl _)
  simp [Term.eval, ev, f] at q
  exact ⟨by simpa using q.1, q.2⟩
def own_max (a b : Int32) : Int32 := if a < b then b else a
def own_min (a b : Int32) : Int32 := if b < a then b else a
theorem own_maxI (a b : Int32) : (a.toInt < b.toInt → (own_max a b).toInt = b.toInt) ∧ (b.toInt ≤ a.toInt → (own_max a b).toInt = a.toInt) := by
  unfold own_max
  by_cases h : a < b
  · rw [if_pos h]; rw [Int32.lt_iff_toInt_lt] at h; omega
  · rw [if_neg h]; rw [Int32.lt_iff_toInt_lt] at h; omega
theorem own_minI (a b : Int32) : (b.toInt < a.toInt → (own_min a b).toInt = b.toInt) ∧ (a.toInt ≤ b.toInt → (own_min a b).toInt = a.toInt) := by
  unfold own_min
  by_cases h : b < a
  · rw [if_pos h]; rw [Int32.lt_iff_toInt_lt] at h; omega
  · rw [if_neg h]; rw [Int32.lt_iff_toInt_lt] at h; omega
theorem own_max2 (b : Int32) : ¬ (own_max (2 : Int32) b < (2 : Int32)) := by
  have h := own_maxI 2 b
  have e : (2 : Int32).toInt = 2 := by decide
  rw [Int32.lt_iff_toInt_lt]
  omega
theorem own_pos {b : Int32} (h : ¬ (b < (2 : Int32))) : (0 : Int32) < b := by
  have e : (2 : Int32).toInt = 2 := by decide
  have e0 : (0 : Int32).toInt = 0 := by decide
  rw [Int32.lt_iff_toInt_lt] at h ⊢
  omega
theorem own_L {b : Int32} (h : ¬ (b < (2 : Int32))) : (3 : Int32) < ((2 : Int32) * (own_min (16 : Int32) (own_min (16384 : Int32) b))) ∧ ((2 : Int32) * (own_min (16 : Int32) (own_min (16384 : Int32) b))).toNatClampNeg ≤ 32 := by
  have e2 : (2 : Int32).toInt = 2 := by decide
  have e3 : (3 : Int32).toInt = 3 := by decide
  have e16 : (16 : Int32).toInt = 16 := by decide
  have eb : (16384 : Int32).toInt = 16384 := by decide
  have h1 := own_minI 16384 b
  have h2 := own_minI 16 (own_min 16384 b)
  have h3 := c_imul 2 (own_min 16 (own_min 16384 b))
  have h4 := rng32 ((2 : Int32) * (own_min (16 : Int32) (own_min (16384 : Int32) b)))
  rw [Int32.lt_iff_toInt_lt] at h ⊢
  rw [e2] at h3
  refine ⟨by omega, ?_⟩
  show ((2 : Int32) * (own_min (16 : Int32) (own_min (16384 : Int32) b))).toInt.toNat ≤ 32
  omega
theorem own_nz {n : Int32} (h : (3 : Int32) < n) : ¬ (n = (0 : Int32)) := fun e => by subst e; exact absurd h (by decide)
theorem own_nn {n : Int32} (h : (3 : Int32) < n) : ¬ (n < (0 : Int32)) := by
  have e3 : (3 : Int32).toInt = 3 := by decide
  have e0 : (0 : Int32).toInt = 0 := by decide
  rw [Int32.lt_iff_toInt_lt] at h ⊢
  omega
theorem own_lt2 {n : Int32} (h : (3 : Int32) < n) : (2 : Int32) < n := by
  have e3 : (3 : Int32).toInt = 3 := by decide
  have e0 : (2 : Int32).toInt = 2 := by decide
  rw [Int32.lt_iff_toInt_lt] at h ⊢
  omega
theorem own_in {n k : Int32} (h : (3 : Int32) < n) (h0 : ¬ k < 0) (h3 : ¬ (3 : Int32) < k) : ¬ k < 0 ∧ k < n := by
  refine ⟨h0, ?_⟩
  rw [Int32.lt_iff_toInt_lt] at h h3 ⊢
  omega
theorem own_arv0 {s : State} {a : Addr} {c : Cell} (A : Arr s s.heap a c .int) (h : c.slots.size < 2 ^ 31 ∧ c.slots.size.toInt32 = (0 : Int32)) : ∃ k, Arv s s.heap a k .int (0 : Int32) [] (.int (0 : Int32)) := by
  have e : c.slots.size = 0 := by
    have q := len_toInt h.1
    rw [h.2] at q
    have : (0 : Int32).toInt = 0 := by decide
    omega
  exact ⟨_, c, A, rfl, e, by decide, fun k hk => by omega, fun k hk => by omega⟩
end New
end Jvm.RoadKit
namespace Jvm.Pilot.@@N@@
open Jvm Jvm.ClassFile Sem Op Lib Jvm.Free Jvm.Stand Jvm.LawKit Jvm.RoadKit Bundle Jvm.Pilot.@@N@@.Jvm.D
theorem d1_0 : decode jdk_29_method_65_code 0 = .ok (.iload_n 0, 1) := by decide +kernel
theorem d1_1 : decode jdk_29_method_65_code 1 = .ok (.iload_n 1, 1) := by decide +kernel
theorem d1_2 : decode jdk_29_method_65_code 2 = .ok (.if_icmp .lt 7, 3) := by decide +kernel
theorem d1_9 : decode jdk_29_method_65_code 9 = .ok (.iload_n 1, 1) := by decide +kernel
theorem d1_10 : decode jdk_29_method_65_code 10 = .ok (.ireturn, 1) := by decide +kernel
theorem d1_5 : decode jdk_29_method_65_code 5 = .ok (.iload_n 0, 1) := by decide +kernel
theorem d1_6 : decode jdk_29_method_65_code 6 = .ok (.goto 4, 3) := by decide +kernel
def Q_max (Z : State) (a : Int32) (b : Int32) (h0 : Heap) (n0 : Nat) (v : Option Value) (h : Heap) (L : List Loc) : Prop := v = some (.int (own_max a b)) ∧ Fr n0 L ∧ h = h0
theorem ef_0 (m : MethodId) (x0 : Int32) (x1 : Int32) : entryFrame m #[(.int x0), (.int x1)] 2 = mkF m 0 #[.val (.int x0), .val (.int x1)] [] := by first | (simp [entryFrame, mkF, argsToLocals, Value.category]; done) | rfl
abbrev y_0 : MethodName := ⟨"java/lang/Math", "max", "(II)I"⟩
set_option maxRecDepth 65536 in
set_option maxHeartbeats 40000000 in
theorem max_0 (l : Launch) (Z : State) (a0 : Array Value) (hw : ∀ d ∈ tables_1, d.before a0 Z = true) (ws : List Jvm.Cond) (a : Int32) (b : Int32) (h0 : Heap) (n0 : Nat) (O : Old Z n0 h0) (hc2 : a < b) :
    Ctr l Z y_0 jdk_29_method_65_code 2 (some .int) ws ({ frames := 0, cells := 0, slots := 0, locals := 0 } : Room) #[(.int a), (.int b)] h0 (Q_max Z a b h0 n0) := by
  refine MetFree.of_bodySF (Jvm.Free.JP.mathPlain rfl (by decide +kernel)) hisR ?_
  intro p e s m args below meth c s₁ Bd hml0 hP hK
  obtain ⟨rfl, hZ, hh⟩ := hP
  have W := fun (i : Nat) {d : Jvm.Cond} (h : tables_1[i]? = some d) => hw d (List.mem_of_getElem? h)
  have hx := Bd.exec
  have hby := Bd.bytes
  have hml : c.maxLocals = 2 := hml0
  have hown : s.vm.findClass "java/lang/Math" = some m.cls := findClass_of_methodNamed Bd.named
  have hnm := (name_of_methodNamed Bd.named Bd.method).1
  have X0 : Stand p l e ({ frames := 0, cells := 0, slots := 0, locals := 0 } : Room) s m #[(.int a), (.int b)] below meth c s₁ [] 0 0 := Stand.of_body Bd
  have e0 : s₁.heap = h0 := by rw [← hh, Bd.state]; rfl
  have N0 := Fr.nil n0
  have pre0 : ∀ t, Steps p.tables e below (s₁.setTop (mkF m 0 #[.val (.int a), .val (.int b)] [])) t → Steps p.tables e below (s₁.setTop (entryFrame m #[(.int a), (.int b)] 2)) t := fun t kk_ => castTop (ef_0 m a b) kk_
  obtain ⟨fs, hr, hrun, hended, hW, hsame⟩ := X0.leave (v := some (.int b)) (fun h => by rw [Bd.returns] at h; cases h)
  refine ⟨_, _, pre0 _ ?_, hrun, hended, _, _, rfl, ?_, ⟨_, rfl⟩, hW, hsame.mono (by decide) (by decide)⟩
  · show Sq p e below m s₁ 0 #[iv a, iv b] [] _
    refine XS.iloadN X0.here hx rfl (hb hby d1_0) rfl ?_
    refine XS.iloadN X0.here hx rfl (hb hby d1_1) rfl ?_
    show Sq p e below m s₁ 2 #[iv a, iv b] [.int b, .int a] _
    refine XS.icmpYes X0.here hx rfl (pc0 := 2) (pc' := 9) rfl (hb hby d1_2) rfl (tlt hc2).1 (by decide) (by decide) ?_
    refine XS.iloadN X0.here hx rfl (hb hby d1_9) rfl ?_
    show Sq p e below m s₁ 10 #[iv a, iv b] [.int b] _
    exact retI X0 hx Bd.returns (hb hby d1_10) hr
  · show Q_max Z a b h0 n0 _ s₁.heap _
    rw [e0]
    exact ⟨(by rw [own_max, if_pos hc2]), N0, rfl⟩
set_option maxRecDepth 65536 in
set_option maxHeartbeats 40000000 in
theorem max_1 (l : Launch) (Z : State) (a0 : Array Value) (hw : ∀ d ∈ tables_1, d.before a0 Z = true) (ws : List Jvm.Cond) (a : Int32) (b : Int32) (h0 : Heap) (n0 : Nat) (O : Old Z n0 h0) (hc2 : ¬ (a < b)) :
    Ctr l Z y_0 jdk_29_method_65_code 2 (some .int) ws ({ frames := 0, cells := 0, slots := 0, locals := 0 } : Room) #[(.int a), (.int b)] h0 (Q_max Z a b h0 n0) := by
  refine MetFree.of_bodySF (Jvm.Free.JP.mathPlain rfl (by decide +kernel)) hisR ?_
  intro p e s m args below meth c s₁ Bd hml0 hP hK
  obtain ⟨rfl, hZ, hh⟩ := hP
  have W := fun (i : Nat) {d : Jvm.Cond} (h : tables_1[i]? = some d) => hw d (List.mem_of_getElem? h)
  have hx := Bd.exec
  have hby := Bd.bytes
  have hml : c.maxLocals = 2 := hml0
  have hown : s.vm.findClass "java/lang/Math" = some m.cls := findClass_of_methodNamed Bd.named
  have hnm := (name_of_methodNamed Bd.named Bd.method).1
  have X0 : Stand p l e ({ frames := 0, cells := 0, slots := 0, locals := 0 } : Room) s m #[(.int a), (.int b)] below meth c s₁ [] 0 0 := Stand.of_body Bd
  have e0 : s₁.heap = h0 := by rw [← hh, Bd.state]; rfl
  have N0 := Fr.nil n0
  have pre0 : ∀ t, Steps p.tables e below (s₁.setTop (mkF m 0 #[.val (.int a), .val (.int b)] [])) t → Steps p.tables e below (s₁.setTop (entryFrame m #[(.int a), (.int b)] 2)) t := fun t kk_ => castTop (ef_0 m a b) kk_
  obtain ⟨fs, hr, hrun, hended, hW, hsame⟩ := X0.leave (v := some (.int a)) (fun h => by rw [Bd.returns] at h; cases h)
  refine ⟨_, _, pre0 _ ?_, hrun, hended, _, _, rfl, ?_, ⟨_, rfl⟩, hW, hsame.mono (by decide) (by decide)⟩
  · show Sq p e below m s₁ 0 #[iv a, iv b] [] _
    refine XS.iloadN X0.here hx rfl (hb hby d1_0) rfl ?_
    refine XS.iloadN X0.here hx rfl (hb hby d1_1) rfl ?_
    show Sq p e below m s₁ 2 #[iv a, iv b] [.int b, .int a] _
    refine XS.icmpNo X0.here hx rfl (hb hby d1_2) rfl (flt hc2).1 ?_
    refine XS.iloadN X0.here hx rfl (hb hby d1_5) rfl ?_
    show Sq p e below m s₁ 6 #[iv a, iv b] [.int a] _
    refine XS.goto X0.here hx rfl (pc0 := 6) (pc' := 10) rfl (hb hby d1_6) (by decide) (by decide) ?_
    show Sq p e below m s₁ 10 #[iv a, iv b] [.int a] _
    exact retI X0 hx Bd.returns (hb hby d1_10) hr
  · show Q_max Z a b h0 n0 _ s₁.heap _
    rw [e0]
    exact ⟨(by rw [own_max, if_neg hc2]), N0, rfl⟩
set_option maxRecDepth 65536 in
theorem max (l : Launch) (Z : State) (a0 : Array Value) (hw : ∀ d ∈ tables_1, d.before a0 Z = true) (ws : List Jvm.Cond) (a : Int32) (b : Int32) (h0 : Heap) (n0 : Nat) (O : Old Z n0 h0) :
    Ctr l Z y_0 jdk_29_method_65_code 2 (some .int) ws ({ frames := 0, cells := 0, slots := 0, locals := 0 } : Room) #[(.int a), (.int b)] h0 (Q_max Z a b h0 n0) := by
  by_cases hc2 : a < b
  · exact max_0 l Z a0 hw ws a b h0 n0 O hc2
  · exact max_1 l Z a0 hw ws a b h0 n0 O hc2
theorem d7_0 : decode jdk_29_method_69_code 0 = .ok (.iload_n 0, 1) := by decide +kernel
theorem d7_1 : decode jdk_29_method_69_code 1 = .ok (.iload_n 1, 1) := by decide +kernel
theorem d7_2 : decode jdk_29_method_69_code 2 = .ok (.if_icmp .gt 7, 3) := by decide +kernel
theorem d7_9 : decode jdk_29_method_69_code 9 = .ok (.iload_n 1, 1) := by decide +kernel
theorem d7_10 : decode jdk_29_method_69_code 10 = .ok (.ireturn, 1) := by decide +kernel
theorem d7_5 : decode jdk_29_method_69_code 5 = .ok (.iload_n 0, 1) := by decide +kernel
theorem d7_6 : decode jdk_29_method_69_code 6 = .ok (.goto 4, 3) := by decide +kernel
def Q_min (Z : State) (a : Int32) (b : Int32) (h0 : Heap) (n0 : Nat) (v : Option Value) (h : Heap) (L : List Loc) : Prop := v = some (.int (own_min a b)) ∧ Fr n0 L ∧ h = h0
theorem ef_1 (m : MethodId) (x0 : Int32) (x1 : Int32) : entryFrame m #[(.int x0), (.int x1)] 2 = mkF m 0 #[.val (.int x0), .val (.int x1)] [] := by first | (simp [entryFrame, mkF, argsToLocals, Value.category]; done) | rfl
abbrev y_1 : MethodName := ⟨"java/lang/Math", "min", "(II)I"⟩
set_option maxRecDepth 65536 in
set_option maxHeartbeats 40000000 in
theorem min_0 (l : Launch) (Z : State) (a0 : Array Value) (hw : ∀ d ∈ tables_1, d.before a0 Z = true) (ws : List Jvm.Cond) (a : Int32) (b : Int32) (h0 : Heap) (n0 : Nat) (O : Old Z n0 h0) (hc2 : b < a) :
    Ctr l Z y_1 jdk_29_method_69_code 2 (some .int) ws ({ frames := 0, cells := 0, slots := 0, locals := 0 } : Room) #[(.int a), (.int b)] h0 (Q_min Z a b h0 n0) := by
  refine MetFree.of_bodySF (Jvm.Free.JP.mathPlain rfl (by decide +kernel)) hisR ?_
  intro p e s m args below meth c s₁ Bd hml0 hP hK
  obtain ⟨rfl, hZ, hh⟩ := hP
  have W := fun (i : Nat) {d : Jvm.Cond} (h : tables_1[i]? = some d) => hw d (List.mem_of_getElem? h)
  have hx := Bd.exec
  have hby := Bd.bytes
  have hml : c.maxLocals = 2 := hml0
  have hown : s.vm.findClass "java/lang/Math" = some m.cls := findClass_of_methodNamed Bd.named
  have hnm := (name_of_methodNamed Bd.named Bd.method).1
  have X0 : Stand p l e ({ frames := 0, cells := 0, slots := 0, locals := 0 } : Room) s m #[(.int a), (.int b)] below meth c s₁ [] 0 0 := Stand.of_body Bd
  have e0 : s₁.heap = h0 := by rw [← hh, Bd.state]; rfl
  have N0 := Fr.nil n0
  have pre0 : ∀ t, Steps p.tables e below (s₁.setTop (mkF m 0 #[.val (.int a), .val (.int b)] [])) t → Steps p.tables e below (s₁.setTop (entryFrame m #[(.int a), (.int b)] 2)) t := fun t kk_ => castTop (ef_1 m a b) kk_
  obtain ⟨fs, hr, hrun, hended, hW, hsame⟩ := X0.leave (v := some (.int b)) (fun h => by rw [Bd.returns] at h; cases h)
  refine ⟨_, _, pre0 _ ?_, hrun, hended, _, _, rfl, ?_, ⟨_, rfl⟩, hW, hsame.mono (by decide) (by decide)⟩
  · show Sq p e below m s₁ 0 #[iv a, iv b] [] _
    refine XS.iloadN X0.here hx rfl (hb hby d7_0) rfl ?_
    refine XS.iloadN X0.here hx rfl (hb hby d7_1) rfl ?_
    show Sq p e below m s₁ 2 #[iv a, iv b] [.int b, .int a] _
    refine XS.icmpYes X0.here hx rfl (pc0 := 2) (pc' := 9) rfl (hb hby d7_2) rfl (tlt hc2).2.2.1 (by decide) (by decide) ?_
    refine XS.iloadN X0.here hx rfl (hb hby d7_9) rfl ?_
    show Sq p e below m s₁ 10 #[iv a, iv b] [.int b] _
    exact retI X0 hx Bd.returns (hb hby d7_10) hr
  · show Q_min Z a b h0 n0 _ s₁.heap _
    rw [e0]
    exact ⟨(by rw [own_min, if_pos hc2]), N0, rfl⟩
set_option maxRecDepth 65536 in
set_option maxHeartbeats 40000000 in
theorem min_1 (l : Launch) (Z : State) (a0 : Array Value) (hw : ∀ d ∈ tables_1, d.before a0 Z = true) (ws : List Jvm.Cond) (a : Int32) (b : Int32) (h0 : Heap) (n0 : Nat) (O : Old Z n0 h0) (hc2 : ¬ (b < a)) :
    Ctr l Z y_1 jdk_29_method_69_code 2 (some .int) ws ({ frames := 0, cells := 0, slots := 0, locals := 0 } : Room) #[(.int a), (.int b)] h0 (Q_min Z a b h0 n0) := by
  refine MetFree.of_bodySF (Jvm.Free.JP.mathPlain rfl (by decide +kernel)) hisR ?_
  intro p e s m args below meth c s₁ Bd hml0 hP hK
  obtain ⟨rfl, hZ, hh⟩ := hP
  have W := fun (i : Nat) {d : Jvm.Cond} (h : tables_1[i]? = some d) => hw d (List.mem_of_getElem? h)
  have hx := Bd.exec
  have hby := Bd.bytes
  have hml : c.maxLocals = 2 := hml0
  have hown : s.vm.findClass "java/lang/Math" = some m.cls := findClass_of_methodNamed Bd.named
  have hnm := (name_of_methodNamed Bd.named Bd.method).1
  have X0 : Stand p l e ({ frames := 0, cells := 0, slots := 0, locals := 0 } : Room) s m #[(.int a), (.int b)] below meth c s₁ [] 0 0 := Stand.of_body Bd
  have e0 : s₁.heap = h0 := by rw [← hh, Bd.state]; rfl
  have N0 := Fr.nil n0
  have pre0 : ∀ t, Steps p.tables e below (s₁.setTop (mkF m 0 #[.val (.int a), .val (.int b)] [])) t → Steps p.tables e below (s₁.setTop (entryFrame m #[(.int a), (.int b)] 2)) t := fun t kk_ => castTop (ef_1 m a b) kk_
  obtain ⟨fs, hr, hrun, hended, hW, hsame⟩ := X0.leave (v := some (.int a)) (fun h => by rw [Bd.returns] at h; cases h)
  refine ⟨_, _, pre0 _ ?_, hrun, hended, _, _, rfl, ?_, ⟨_, rfl⟩, hW, hsame.mono (by decide) (by decide)⟩
  · show Sq p e below m s₁ 0 #[iv a, iv b] [] _
    refine XS.iloadN X0.here hx rfl (hb hby d7_0) rfl ?_
    refine XS.iloadN X0.here hx rfl (hb hby d7_1) rfl ?_
    show Sq p e below m s₁ 2 #[iv a, iv b] [.int b, .int a] _
    refine XS.icmpNo X0.here hx rfl (hb hby d7_2) rfl (flt hc2).2.2.1 ?_
    refine XS.iloadN X0.here hx rfl (hb hby d7_5) rfl ?_
    show Sq p e below m s₁ 6 #[iv a, iv b] [.int a] _
    refine XS.goto X0.here hx rfl (pc0 := 6) (pc' := 10) rfl (hb hby d7_6) (by decide) (by decide) ?_
    show Sq p e below m s₁ 10 #[iv a, iv b] [.int a] _
    exact retI X0 hx Bd.returns (hb hby d7_10) hr
  · show Q_min Z a b h0 n0 _ s₁.heap _
    rw [e0]
    exact ⟨(by rw [own_min, if_neg hc2]), N0, rfl⟩
set_option maxRecDepth 65536 in
theorem min (l : Launch) (Z : State) (a0 : Array Value) (hw : ∀ d ∈ tables_1, d.before a0 Z = true) (ws : List Jvm.Cond) (a : Int32) (b : Int32) (h0 : Heap) (n0 : Nat) (O : Old Z n0 h0) :
    Ctr l Z y_1 jdk_29_method_69_code 2 (some .int) ws ({ frames := 0, cells := 0, slots := 0, locals := 0 } : Room) #[(.int a), (.int b)] h0 (Q_min Z a b h0 n0) := by
  by_cases hc2 : b < a
  · exact min_0 l Z a0 hw ws a b h0 n0 O hc2
  · exact min_1 l Z a0 hw ws a b h0 n0 O hc2
def Q_max16 (Z : State) (h0 : Heap) (n0 : Nat) (v : Option Value) (h : Heap) (L : List Loc) : Prop := v = some (.int (16 : Int32)) ∧ Fr n0 L ∧ h = h0
theorem ef_2 (m : MethodId) (x0 : Int32) (x1 : Int32) : entryFrame m #[(.int x0), (.int x1)] 2 = mkF m 0 #[.val (.int x0), .val (.int x1)] [] := by first | (simp [entryFrame, mkF, argsToLocals, Value.category]; done) | rfl
set_option maxRecDepth 65536 in
set_option maxHeartbeats 40000000 in
theorem max16 (l : Launch) (Z : State) (a0 : Array Value) (hw : ∀ d ∈ tables_1, d.before a0 Z = true) (ws : List Jvm.Cond) (h0 : Heap) (n0 : Nat) (O : Old Z n0 h0) :
    Ctr l Z y_0 jdk_29_method_65_code 2 (some .int) ws ({ frames := 0, cells := 0, slots := 0, locals := 0 } : Room) #[(.int (16 : Int32)), (.int (0 : Int32))] h0 (Q_max16 Z  h0 n0) := by
  refine MetFree.of_bodySF (Jvm.Free.JP.mathPlain rfl (by decide +kernel)) hisR ?_
  intro p e s m args below meth c s₁ Bd hml0 hP hK
  obtain ⟨rfl, hZ, hh⟩ := hP
  have W := fun (i : Nat) {d : Jvm.Cond} (h : tables_1[i]? = some d) => hw d (List.mem_of_getElem? h)
  have hx := Bd.exec
  have hby := Bd.bytes
  have hml : c.maxLocals = 2 := hml0
  have hown : s.vm.findClass "java/lang/Math" = some m.cls := findClass_of_methodNamed Bd.named
  have hnm := (name_of_methodNamed Bd.named Bd.method).1
  have X0 : Stand p l e ({ frames := 0, cells := 0, slots := 0, locals := 0 } : Room) s m #[(.int (16 : Int32)), (.int (0 : Int32))] below meth c s₁ [] 0 0 := Stand.of_body Bd
  have e0 : s₁.heap = h0 := by rw [← hh, Bd.state]; rfl
  have N0 := Fr.nil n0
  have pre0 : ∀ t, Steps p.tables e below (s₁.setTop (mkF m 0 #[.val (.int (16 : Int32)), .val (.int (0 : Int32))] [])) t → Steps p.tables e below (s₁.setTop (entryFrame m #[(.int (16 : Int32)), (.int (0 : Int32))] 2)) t := fun t kk_ => castTop (ef_2 m (16 : Int32) (0 : Int32)) kk_
  obtain ⟨fs, hr, hrun, hended, hW, hsame⟩ := X0.leave (v := some (.int (16 : Int32))) (fun h => by rw [Bd.returns] at h; cases h)
  refine ⟨_, _, pre0 _ ?_, hrun, hended, _, _, rfl, ?_, ⟨_, rfl⟩, hW, hsame.mono (by decide) (by decide)⟩
  · show Sq p e below m s₁ 0 #[iv 16, iv 0] [] _
    refine XS.iloadN X0.here hx rfl (hb hby d1_0) rfl ?_
    refine XS.iloadN X0.here hx rfl (hb hby d1_1) rfl ?_
    show Sq p e below m s₁ 2 #[iv 16, iv 0] [.int 0, .int 16] _
    refine XS.icmpNo X0.here hx rfl (hb hby d1_2) rfl (flt (by decide)).1 ?_
    refine XS.iloadN X0.here hx rfl (hb hby d1_5) rfl ?_
    show Sq p e below m s₁ 6 #[iv 16, iv 0] [.int 16] _
    refine XS.goto X0.here hx rfl (pc0 := 6) (pc' := 10) rfl (hb hby d1_6) (by decide) (by decide) ?_
    show Sq p e below m s₁ 10 #[iv 16, iv 0] [.int 16] _
    exact retI X0 hx Bd.returns (hb hby d1_10) hr
  · show Q_max16 Z  h0 n0 _ s₁.heap _
    rw [e0]
    exact ⟨rfl, N0, rfl⟩
def Q_min0 (Z : State) (b : Int32) (h0 : Heap) (n0 : Nat) (v : Option Value) (h : Heap) (L : List Loc) : Prop := v = some (.int (0 : Int32)) ∧ Fr n0 L ∧ h = h0
theorem ef_3 (m : MethodId) (x0 : Int32) (x1 : Int32) : entryFrame m #[(.int x0), (.int x1)] 2 = mkF m 0 #[.val (.int x0), .val (.int x1)] [] := by first | (simp [entryFrame, mkF, argsToLocals, Value.category]; done) | rfl
set_option maxRecDepth 65536 in
set_option maxHeartbeats 40000000 in
theorem min0 (l : Launch) (Z : State) (a0 : Array Value) (hw : ∀ d ∈ tables_1, d.before a0 Z = true) (ws : List Jvm.Cond) (b : Int32) (h0 : Heap) (n0 : Nat) (O : Old Z n0 h0) (hb0 : ¬ (b < (0 : Int32))) :
    Ctr l Z y_1 jdk_29_method_69_code 2 (some .int) ws ({ frames := 0, cells := 0, slots := 0, locals := 0 } : Room) #[(.int (0 : Int32)), (.int b)] h0 (Q_min0 Z b h0 n0) := by
  refine MetFree.of_bodySF (Jvm.Free.JP.mathPlain rfl (by decide +kernel)) hisR ?_
  intro p e s m args below meth c s₁ Bd hml0 hP hK
  obtain ⟨rfl, hZ, hh⟩ := hP
  have W := fun (i : Nat) {d : Jvm.Cond} (h : tables_1[i]? = some d) => hw d (List.mem_of_getElem? h)
  have hx := Bd.exec
  have hby := Bd.bytes
  have hml : c.maxLocals = 2 := hml0
  have hown : s.vm.findClass "java/lang/Math" = some m.cls := findClass_of_methodNamed Bd.named
  have hnm := (name_of_methodNamed Bd.named Bd.method).1
  have X0 : Stand p l e ({ frames := 0, cells := 0, slots := 0, locals := 0 } : Room) s m #[(.int (0 : Int32)), (.int b)] below meth c s₁ [] 0 0 := Stand.of_body Bd
  have e0 : s₁.heap = h0 := by rw [← hh, Bd.state]; rfl
  have N0 := Fr.nil n0
  have pre0 : ∀ t, Steps p.tables e below (s₁.setTop (mkF m 0 #[.val (.int (0 : Int32)), .val (.int b)] [])) t → Steps p.tables e below (s₁.setTop (entryFrame m #[(.int (0 : Int32)), (.int b)] 2)) t := fun t kk_ => castTop (ef_3 m (0 : Int32) b) kk_
  obtain ⟨fs, hr, hrun, hended, hW, hsame⟩ := X0.leave (v := some (.int (0 : Int32))) (fun h => by rw [Bd.returns] at h; cases h)
  refine ⟨_, _, pre0 _ ?_, hrun, hended, _, _, rfl, ?_, ⟨_, rfl⟩, hW, hsame.mono (by decide) (by decide)⟩
  · show Sq p e below m s₁ 0 #[iv 0, iv b] [] _
    refine XS.iloadN X0.here hx rfl (hb hby d7_0) rfl ?_
    refine XS.iloadN X0.here hx rfl (hb hby d7_1) rfl ?_
    show Sq p e below m s₁ 2 #[iv 0, iv b] [.int b, .int 0] _
    refine XS.icmpNo X0.here hx rfl (hb hby d7_2) rfl (flt hb0).2.2.1 ?_
    refine XS.iloadN X0.here hx rfl (hb hby d7_5) rfl ?_
    show Sq p e below m s₁ 6 #[iv 0, iv b] [.int 0] _
    refine XS.goto X0.here hx rfl (pc0 := 6) (pc' := 10) rfl (hb hby d7_6) (by decide) (by decide) ?_
    show Sq p e below m s₁ 10 #[iv 0, iv b] [.int 0] _
    exact retI X0 hx Bd.returns (hb hby d7_10) hr
  · show Q_min0 Z b h0 n0 _ s₁.heap _
    rw [e0]
    exact ⟨rfl, N0, rfl⟩
theorem d2_0 : decode prog_7_method_1_code 0 = .ok (.aload_n 0, 1) := by decide +kernel
theorem d2_1 : decode prog_7_method_1_code 1 = .ok (.invokespecial 3, 3) := by decide +kernel
theorem d2_4 : decode prog_7_method_1_code 4 = .ok (.aload_n 0, 1) := by decide +kernel
theorem d2_5 : decode prog_7_method_1_code 5 = .ok (.iload_n 1, 1) := by decide +kernel
theorem d2_6 : decode prog_7_method_1_code 6 = .ok (.putfield 9, 3) := by decide +kernel
theorem d2_9 : decode prog_7_method_1_code 9 = .ok (.aload_n 0, 1) := by decide +kernel
theorem d2_10 : decode prog_7_method_1_code 10 = .ok (.getstatic 13, 3) := by decide +kernel
theorem d2_13 : decode prog_7_method_1_code 13 = .ok (.putfield 17, 3) := by decide +kernel
theorem d2_16 : decode prog_7_method_1_code 16 = .ok (.return_, 1) := by decide +kernel
def Q_sinit (Z : State) (a : Addr) (bd : Int32) (ne_ : Addr) (h0 : Heap) (n0 : Nat) (v : Option Value) (h : Heap) (L : List Loc) : Prop := v = none ∧ Fr n0 L ∧ Keep h0 h [a] ∧ Fld Z h a "com/example/dodder/dodder/engine/BoundedStack" "bound" "I" (.int bd) ∧ Fld Z h a "com/example/dodder/dodder/engine/BoundedStack" "segment" "[I" (.ref ne_) ∧ Fld Z h a "com/example/dodder/dodder/engine/BoundedStack" "used" "I" (.int (0 : Int32)) ∧ Fld Z h a "com/example/dodder/dodder/engine/BoundedStack" "index" "I" (.int (0 : Int32)) ∧ Fld Z h a "com/example/dodder/dodder/engine/BoundedStack" "segments" "[[I" .null
theorem ef_4 (m : MethodId) (x0 : Addr) (x1 : Int32) : entryFrame m #[(.ref x0), (.int x1)] 2 = mkF m 0 #[.val (.ref x0), .val (.int x1)] [] := by first | (simp [entryFrame, mkF, argsToLocals, Value.category]; done) | rfl
theorem pn_0 : plainName "com/example/dodder/dodder/engine/BoundedStack" = true := by first | (simp [plainName, overriddenIn]; done) | decide +kernel
abbrev y_2 : MethodName := ⟨"com/example/dodder/dodder/engine/BoundedStack", "<init>", "(I)V"⟩
set_option maxRecDepth 65536 in
set_option maxHeartbeats 40000000 in
theorem sinit (l : Launch) (Z : State) (a0 : Array Value) (hw : ∀ d ∈ tables_1, d.before a0 Z = true) (ws : List Jvm.Cond) (a : Addr) (bd : Int32) (ne_ : Addr) (h0 : Heap) (n0 : Nat) (O : Old Z n0 h0) (Ea : Exa Z h0 a "com/example/dodder/dodder/engine/BoundedStack") (Fb : Fld Z h0 a "com/example/dodder/dodder/engine/BoundedStack" "bound" "I" (.int (0 : Int32))) (Fs : Fld Z h0 a "com/example/dodder/dodder/engine/BoundedStack" "segment" "[I" .null) (Fu : Fld Z h0 a "com/example/dodder/dodder/engine/BoundedStack" "used" "I" (.int (0 : Int32))) (Fi : Fld Z h0 a "com/example/dodder/dodder/engine/BoundedStack" "index" "I" (.int (0 : Int32))) (Fg : Fld Z h0 a "com/example/dodder/dodder/engine/BoundedStack" "segments" "[[I" .null) (ga : n0 ≤ a) (Sn : Sta Z Z.heap "com/example/dodder/dodder/engine/BoundedStack" "NO_ENTRIES" "[I" (.ref ne_)) :
    Ctr l Z y_2 prog_7_method_1_code 2 none ws ({ frames := 1, cells := 0, slots := 0, locals := 12 } : Room) #[(.ref a), (.int bd)] h0 (Q_sinit Z a bd ne_ h0 n0) := by
  refine MetFree.of_bodySF (plainFor_of_name pn_0) hisR ?_
  intro p e s m args below meth c s₁ Bd hml0 hP hK
  obtain ⟨rfl, hZ, hh⟩ := hP
  have W := fun (i : Nat) {d : Jvm.Cond} (h : tables_1[i]? = some d) => hw d (List.mem_of_getElem? h)
  have hx := Bd.exec
  have hby := Bd.bytes
  have hml : c.maxLocals = 2 := hml0
  have hown : s.vm.findClass "com/example/dodder/dodder/engine/BoundedStack" = some m.cls := findClass_of_methodNamed Bd.named
  have hnm := (name_of_methodNamed Bd.named Bd.method).1
  have X0 : Stand p l e ({ frames := 1, cells := 0, slots := 0, locals := 12 } : Room) s m #[(.ref a), (.int bd)] below meth c s₁ [] 0 0 := Stand.of_body Bd
  have e0 : s₁.heap = h0 := by rw [← hh, Bd.state]; rfl
  have N0 := Fr.nil n0
  have pre0 : ∀ t, Steps p.tables e below (s₁.setTop (mkF m 0 #[.val (.ref a), .val (.int bd)] [])) t → Steps p.tables e below (s₁.setTop (entryFrame m #[(.ref a), (.int bd)] 2)) t := fun t kk_ => castTop (ef_4 m a bd) kk_
  have K0 := Keep.refl h0 [a]
  obtain ⟨T1, X1, e1, st1⟩ := initO X0 hx hZ hown (W 10 rfl) (W 11 rfl) (W 12 rfl) e0 (g := (mkF m 1 #[rv a, iv bd] [.ref a])) rfl (by rw [hml]; rfl) rfl (hb hby d2_1) (by decide) (W := 0) (by show 2 * 0 + _ ≤ _; exact Nat.le_of_eq rfl) (by decide)
  obtain ⟨T2, h2, X2, e2, W2, st2⟩ := putF X1 hx hZ hown (host := "") (Or.inl (W 13 rfl)) Via.refl e1 Fb Ea (Or.inr ⟨(W 14 rfl), rfl, hnm⟩) (W 5 rfl) (ty := .int) (by decide) rfl rfl (g := (mkF m 6 #[rv a, iv bd] [.int bd, .ref a])) rfl rfl (hb hby d2_6)
  have Fz2 := Fb.same W2
  have Ea := Ea.wr W2
  have Fs := Fs.other W2 (Or.inr (slot_ne (Or.inl (W 18 rfl)) (Or.inr (W 14 rfl)) (by decide) (t := (.array .int)) (t' := .int) (by decide) (by decide)))
  have Fu := Fu.other W2 (Or.inr (slot_ne (Or.inl (W 25 rfl)) (Or.inr (W 14 rfl)) (by decide) (t := .int) (t' := .int) (by decide) (by decide)))
  have Fi := Fi.other W2 (Or.inr (slot_ne (Or.inl (W 36 rfl)) (Or.inr (W 14 rfl)) (by decide) (t := .int) (t' := .int) (by decide) (by decide)))
  have Fg := Fg.other W2 (Or.inr (slot_ne (Or.inl (W 52 rfl)) (Or.inr (W 14 rfl)) (by decide) (t := (.array (.array .int))) (t' := .int) (by decide) (by decide)))
  have O3 := O.wr W2 ga
  have K4 := K0.wr W2 (Or.inl (List.mem_of_getElem? (i := 0) rfl))
  have N5 := Fr.snoc X2 N0 ga
  obtain ⟨T6, X6, e6, st6⟩ := getS2 X2 hx hZ hown (host := "") (Or.inl (W 15 rfl)) Via.refl e2 (Sn.ext O3.2) (g := (mkF m 10 #[rv a, iv bd] [.ref a])) rfl (hb hby d2_10)
  obtain ⟨T7, h7, X7, e7, W7, st7⟩ := putF X6 hx hZ hown (host := "") (Or.inl (W 17 rfl)) Via.refl e6 Fs Ea (Or.inl (W 18 rfl)) (W 5 rfl) (ty := (.array .int)) (by decide) rfl rfl (g := (mkF m 13 #[rv a, iv bd] [.ref ne_, .ref a])) rfl rfl (hb hby d2_13)
  have Fz7 := Fs.same W7
  have Fu := Fu.other W7 (Or.inr (slot_ne (Or.inl (W 25 rfl)) (Or.inl (W 18 rfl)) (by decide) (t := .int) (t' := (.array .int)) (by decide) (by decide)))
  have Fi := Fi.other W7 (Or.inr (slot_ne (Or.inl (W 36 rfl)) (Or.inl (W 18 rfl)) (by decide) (t := .int) (t' := (.array .int)) (by decide) (by decide)))
  have Fg := Fg.other W7 (Or.inr (slot_ne (Or.inl (W 52 rfl)) (Or.inl (W 18 rfl)) (by decide) (t := (.array (.array .int))) (t' := (.array .int)) (by decide) (by decide)))
  have Fz2 := Fz2.other W7 (Or.inr (slot_ne (Or.inr (W 14 rfl)) (Or.inl (W 18 rfl)) (by decide) (t := .int) (t' := (.array .int)) (by decide) (by decide)))
  have K9 := K4.wr W7 (Or.inl (List.mem_of_getElem? (i := 0) rfl))
  have N10 := Fr.snoc X7 N5 ga
  obtain ⟨fs, hr, hrun, hended, hW, hsame⟩ := X7.leave (v := none) (fun _ => rfl)
  refine ⟨_, _, pre0 _ ?_, hrun, hended, _, _, rfl, ?_, ⟨_, rfl⟩, hW, hsame.mono (by decide) (by decide)⟩
  · show Sq p e below m s₁ 0 #[rv a, iv bd] [] _
    refine XS.aloadN X0.here hx rfl (hb hby d2_0) rfl rfl ?_
    show Sq p e below m s₁ 1 #[rv a, iv bd] [.ref a] _
    refine st1 _ ?_
    show Sq p e below m T1 4 #[rv a, iv bd] [] _
    refine XS.aloadN X1.here hx rfl (hb hby d2_4) rfl rfl ?_
    refine XS.iloadN X1.here hx rfl (hb hby d2_5) rfl ?_
    show Sq p e below m T1 6 #[rv a, iv bd] [.int bd, .ref a] _
    refine st2 _ ?_
    show Sq p e below m T2 9 #[rv a, iv bd] [] _
    refine XS.aloadN X2.here hx rfl (hb hby d2_9) rfl rfl ?_
    show Sq p e below m T2 10 #[rv a, iv bd] [.ref a] _
    refine st6 _ ?_
    show Sq p e below m T6 13 #[rv a, iv bd] [.ref ne_, .ref a] _
    refine st7 _ ?_
    show Sq p e below m T7 16 #[rv a, iv bd] [] _
    exact X7.returnOut hx Bd.returns (hb hby d2_16) hr
  · show Q_sinit Z a bd ne_ h0 n0 _ T7.heap _
    rw [e7]
    exact ⟨rfl, N10, K9, Fz2, Fz7, Fu, Fi, Fg⟩
theorem d6_0 : decode prog_7_method_7_code 0 = .ok (.aload_n 0, 1) := by decide +kernel
theorem d6_1 : decode prog_7_method_7_code 1 = .ok (.getfield 27, 3) := by decide +kernel
theorem d6_4 : decode prog_7_method_7_code 4 = .ok (.sipush 16384, 3) := by decide +kernel
theorem d6_7 : decode prog_7_method_7_code 7 = .ok (.imul, 1) := by decide +kernel
theorem d6_8 : decode prog_7_method_7_code 8 = .ok (.aload_n 0, 1) := by decide +kernel
theorem d6_9 : decode prog_7_method_7_code 9 = .ok (.getfield 20, 3) := by decide +kernel
theorem d6_12 : decode prog_7_method_7_code 12 = .ok (.iconst 2, 1) := by decide +kernel
theorem d6_13 : decode prog_7_method_7_code 13 = .ok (.idiv, 1) := by decide +kernel
theorem d6_14 : decode prog_7_method_7_code 14 = .ok (.iadd, 1) := by decide +kernel
theorem d6_15 : decode prog_7_method_7_code 15 = .ok (.ireturn, 1) := by decide +kernel
def Q_size0 (Z : State) (a : Addr) (h0 : Heap) (n0 : Nat) (v : Option Value) (h : Heap) (L : List Loc) : Prop := v = some (.int (0 : Int32)) ∧ Fr n0 L ∧ h = h0
theorem ef_5 (m : MethodId) (x0 : Addr) : entryFrame m #[(.ref x0)] 1 = mkF m 0 #[.val (.ref x0)] [] := by first | (simp [entryFrame, mkF, argsToLocals, Value.category]; done) | rfl
abbrev y_3 : MethodName := ⟨"com/example/dodder/dodder/engine/BoundedStack", "size", "()I"⟩
set_option maxRecDepth 65536 in
set_option maxHeartbeats 40000000 in
theorem size0 (l : Launch) (Z : State) (a0 : Array Value) (hw : ∀ d ∈ tables_1, d.before a0 Z = true) (ws : List Jvm.Cond) (a : Addr) (h0 : Heap) (n0 : Nat) (O : Old Z n0 h0) (Fi : Fld Z h0 a "com/example/dodder/dodder/engine/BoundedStack" "index" "I" (.int (0 : Int32))) (Fu : Fld Z h0 a "com/example/dodder/dodder/engine/BoundedStack" "used" "I" (.int (0 : Int32))) :
    Ctr l Z y_3 prog_7_method_7_code 1 (some .int) ws ({ frames := 0, cells := 0, slots := 0, locals := 0 } : Room) #[(.ref a)] h0 (Q_size0 Z a h0 n0) := by
  refine MetFree.of_bodySF (plainFor_of_name pn_0) hisR ?_
  intro p e s m args below meth c s₁ Bd hml0 hP hK
  obtain ⟨rfl, hZ, hh⟩ := hP
  have W := fun (i : Nat) {d : Jvm.Cond} (h : tables_1[i]? = some d) => hw d (List.mem_of_getElem? h)
  have hx := Bd.exec
  have hby := Bd.bytes
  have hml : c.maxLocals = 1 := hml0
  have hown : s.vm.findClass "com/example/dodder/dodder/engine/BoundedStack" = some m.cls := findClass_of_methodNamed Bd.named
  have hnm := (name_of_methodNamed Bd.named Bd.method).1
  have X0 : Stand p l e ({ frames := 0, cells := 0, slots := 0, locals := 0 } : Room) s m #[(.ref a)] below meth c s₁ [] 0 0 := Stand.of_body Bd
  have e0 : s₁.heap = h0 := by rw [← hh, Bd.state]; rfl
  have N0 := Fr.nil n0
  have pre0 : ∀ t, Steps p.tables e below (s₁.setTop (mkF m 0 #[.val (.ref a)] [])) t → Steps p.tables e below (s₁.setTop (entryFrame m #[(.ref a)] 1)) t := fun t kk_ => castTop (ef_5 m a) kk_
  obtain ⟨T1, X1, e1, st1⟩ := getF X0 hx hZ hown (host := "") (Or.inl (W 35 rfl)) Via.refl e0 Fi (g := (mkF m 1 #[rv a] [.ref a])) rfl rfl (hb hby d6_1)
  obtain ⟨T2, X2, e2, st2⟩ := getF X1 hx hZ hown (host := "") (Or.inl (W 24 rfl)) Via.refl e1 Fu (g := (mkF m 9 #[rv a] [.ref a, .int 0])) rfl rfl (hb hby d6_9)
  obtain ⟨fs, hr, hrun, hended, hW, hsame⟩ := X2.leave (v := some (.int (0 : Int32))) (fun h => by rw [Bd.returns] at h; cases h)
  refine ⟨_, _, pre0 _ ?_, hrun, hended, _, _, rfl, ?_, ⟨_, rfl⟩, hW, hsame.mono (by decide) (by decide)⟩
  · show Sq p e below m s₁ 0 #[rv a] [] _
    refine XS.aloadN X0.here hx rfl (hb hby d6_0) rfl rfl ?_
    show Sq p e below m s₁ 1 #[rv a] [.ref a] _
    refine st1 _ ?_
    show Sq p e below m T1 4 #[rv a] [.int 0] _
    refine XS.sipush X1.here hx rfl (hb hby d6_4) ?_
    refine XS.imul X1.here hx rfl (hb hby d6_7) rfl ?_
    show Sq p e below m T1 8 #[rv a] [.int ((0 : Int32) * (16384 : Int32))] _
    rw [show ((0 : Int32) * (16384 : Int32)) = (0 : Int32) from by decide]
    show Sq p e below m T1 8 #[rv a] [.int 0] _
    refine XS.aloadN X1.here hx rfl (hb hby d6_8) rfl rfl ?_
    show Sq p e below m T1 9 #[rv a] [.ref a, .int 0] _
    refine st2 _ ?_
    show Sq p e below m T2 12 #[rv a] [.int 0, .int 0] _
    refine XS.iconst X2.here hx rfl (hb hby d6_12) ?_
    show Sq p e below m T2 13 #[rv a] [.int 2, .int 0, .int 0] _
    refine XS.idiv X2.here hx rfl (hb hby d6_13) rfl (by decide : ¬ ((2 : Int32) = (0 : Int32))) ?_
    show Sq p e below m T2 14 #[rv a] [.int ((0 : Int32) / (2 : Int32)), .int 0] _
    rw [show ((0 : Int32) / (2 : Int32)) = (0 : Int32) from by decide]
    show Sq p e below m T2 14 #[rv a] [.int 0, .int 0] _
    refine XS.iadd X2.here hx rfl (hb hby d6_14) rfl ?_
    show Sq p e below m T2 15 #[rv a] [.int ((0 : Int32) + (0 : Int32))] _
    rw [show ((0 : Int32) + (0 : Int32)) = (0 : Int32) from by decide]
    show Sq p e below m T2 15 #[rv a] [.int 0] _
    exact retI X2 hx Bd.returns (hb hby d6_15) hr
  · show Q_size0 Z a h0 n0 _ T2.heap _
    rw [e2]
    exact ⟨rfl, N0, rfl⟩
def Q_size1 (Z : State) (a : Addr) (h0 : Heap) (n0 : Nat) (v : Option Value) (h : Heap) (L : List Loc) : Prop := v = some (.int (1 : Int32)) ∧ Fr n0 L ∧ h = h0
set_option maxRecDepth 65536 in
set_option maxHeartbeats 40000000 in
theorem size1 (l : Launch) (Z : State) (a0 : Array Value) (hw : ∀ d ∈ tables_1, d.before a0 Z = true) (ws : List Jvm.Cond) (a : Addr) (h0 : Heap) (n0 : Nat) (O : Old Z n0 h0) (Fi : Fld Z h0 a "com/example/dodder/dodder/engine/BoundedStack" "index" "I" (.int (0 : Int32))) (Fu : Fld Z h0 a "com/example/dodder/dodder/engine/BoundedStack" "used" "I" (.int (2 : Int32))) :
    Ctr l Z y_3 prog_7_method_7_code 1 (some .int) ws ({ frames := 0, cells := 0, slots := 0, locals := 0 } : Room) #[(.ref a)] h0 (Q_size1 Z a h0 n0) := by
  refine MetFree.of_bodySF (plainFor_of_name pn_0) hisR ?_
  intro p e s m args below meth c s₁ Bd hml0 hP hK
  obtain ⟨rfl, hZ, hh⟩ := hP
  have W := fun (i : Nat) {d : Jvm.Cond} (h : tables_1[i]? = some d) => hw d (List.mem_of_getElem? h)
  have hx := Bd.exec
  have hby := Bd.bytes
  have hml : c.maxLocals = 1 := hml0
  have hown : s.vm.findClass "com/example/dodder/dodder/engine/BoundedStack" = some m.cls := findClass_of_methodNamed Bd.named
  have hnm := (name_of_methodNamed Bd.named Bd.method).1
  have X0 : Stand p l e ({ frames := 0, cells := 0, slots := 0, locals := 0 } : Room) s m #[(.ref a)] below meth c s₁ [] 0 0 := Stand.of_body Bd
  have e0 : s₁.heap = h0 := by rw [← hh, Bd.state]; rfl
  have N0 := Fr.nil n0
  have pre0 : ∀ t, Steps p.tables e below (s₁.setTop (mkF m 0 #[.val (.ref a)] [])) t → Steps p.tables e below (s₁.setTop (entryFrame m #[(.ref a)] 1)) t := fun t kk_ => castTop (ef_5 m a) kk_
  obtain ⟨T1, X1, e1, st1⟩ := getF X0 hx hZ hown (host := "") (Or.inl (W 35 rfl)) Via.refl e0 Fi (g := (mkF m 1 #[rv a] [.ref a])) rfl rfl (hb hby d6_1)
  obtain ⟨T2, X2, e2, st2⟩ := getF X1 hx hZ hown (host := "") (Or.inl (W 24 rfl)) Via.refl e1 Fu (g := (mkF m 9 #[rv a] [.ref a, .int 0])) rfl rfl (hb hby d6_9)
  obtain ⟨fs, hr, hrun, hended, hW, hsame⟩ := X2.leave (v := some (.int (1 : Int32))) (fun h => by rw [Bd.returns] at h; cases h)
  refine ⟨_, _, pre0 _ ?_, hrun, hended, _, _, rfl, ?_, ⟨_, rfl⟩, hW, hsame.mono (by decide) (by decide)⟩
  · show Sq p e below m s₁ 0 #[rv a] [] _
    refine XS.aloadN X0.here hx rfl (hb hby d6_0) rfl rfl ?_
    show Sq p e below m s₁ 1 #[rv a] [.ref a] _
    refine st1 _ ?_
    show Sq p e below m T1 4 #[rv a] [.int 0] _
    refine XS.sipush X1.here hx rfl (hb hby d6_4) ?_
    refine XS.imul X1.here hx rfl (hb hby d6_7) rfl ?_
    show Sq p e below m T1 8 #[rv a] [.int ((0 : Int32) * (16384 : Int32))] _
    rw [show ((0 : Int32) * (16384 : Int32)) = (0 : Int32) from by decide]
    show Sq p e below m T1 8 #[rv a] [.int 0] _
    refine XS.aloadN X1.here hx rfl (hb hby d6_8) rfl rfl ?_
    show Sq p e below m T1 9 #[rv a] [.ref a, .int 0] _
    refine st2 _ ?_
    show Sq p e below m T2 12 #[rv a] [.int 2, .int 0] _
    refine XS.iconst X2.here hx rfl (hb hby d6_12) ?_
    show Sq p e below m T2 13 #[rv a] [.int 2, .int 2, .int 0] _
    refine XS.idiv X2.here hx rfl (hb hby d6_13) rfl (by decide : ¬ ((2 : Int32) = (0 : Int32))) ?_
    show Sq p e below m T2 14 #[rv a] [.int ((2 : Int32) / (2 : Int32)), .int 0] _
    rw [show ((2 : Int32) / (2 : Int32)) = (1 : Int32) from by decide]
    show Sq p e below m T2 14 #[rv a] [.int 1, .int 0] _
    refine XS.iadd X2.here hx rfl (hb hby d6_14) rfl ?_
    show Sq p e below m T2 15 #[rv a] [.int ((0 : Int32) + (1 : Int32))] _
    rw [show ((0 : Int32) + (1 : Int32)) = (1 : Int32) from by decide]
    show Sq p e below m T2 15 #[rv a] [.int 1] _
    exact retI X2 hx Bd.returns (hb hby d6_15) hr
  · show Q_size1 Z a h0 n0 _ T2.heap _
    rw [e2]
    exact ⟨rfl, N0, rfl⟩
theorem d8_0 : decode jdk_65_method_123_code 0 = .ok (.iload_n 1, 1) := by decide +kernel
theorem d8_1 : decode jdk_65_method_123_code 1 = .ok (.aload_n 0, 1) := by decide +kernel
theorem d8_2 : decode jdk_65_method_123_code 2 = .ok (.arraylength, 1) := by decide +kernel
theorem d8_3 : decode jdk_65_method_123_code 3 = .ok (.if_icmp .ne 11, 3) := by decide +kernel
theorem d8_14 : decode jdk_65_method_123_code 14 = .ok (.iload_n 1, 1) := by decide +kernel
theorem d8_15 : decode jdk_65_method_123_code 15 = .ok (.newarray .int, 2) := by decide +kernel
theorem d8_17 : decode jdk_65_method_123_code 17 = .ok (.astore_n 2, 1) := by decide +kernel
theorem d8_18 : decode jdk_65_method_123_code 18 = .ok (.aload_n 0, 1) := by decide +kernel
theorem d8_19 : decode jdk_65_method_123_code 19 = .ok (.iconst 0, 1) := by decide +kernel
theorem d8_20 : decode jdk_65_method_123_code 20 = .ok (.aload_n 2, 1) := by decide +kernel
theorem d8_21 : decode jdk_65_method_123_code 21 = .ok (.iconst 0, 1) := by decide +kernel
theorem d8_22 : decode jdk_65_method_123_code 22 = .ok (.aload_n 0, 1) := by decide +kernel
theorem d8_23 : decode jdk_65_method_123_code 23 = .ok (.arraylength, 1) := by decide +kernel
theorem d8_24 : decode jdk_65_method_123_code 24 = .ok (.iload_n 1, 1) := by decide +kernel
theorem d8_25 : decode jdk_65_method_123_code 25 = .ok (.invokestatic 304, 3) := by decide +kernel
theorem pd_0 : parseMethodDescriptor "(II)I" = some ⟨[.int, .int], some .int⟩ := by decide +kernel
theorem d8_28 : decode jdk_65_method_123_code 28 = .ok (.invokestatic 150, 3) := by decide +kernel
theorem d8_31 : decode jdk_65_method_123_code 31 = .ok (.aload_n 2, 1) := by decide +kernel
theorem d8_32 : decode jdk_65_method_123_code 32 = .ok (.areturn, 1) := by decide +kernel
def Q_copy0 (Z : State) (s0 : Addr) (ks : ClassId) (n : Int32) (vs0 : List Value) (d0 : Value) (h0 : Heap) (n0 : Nat) (v : Option Value) (h : Heap) (L : List Loc) : Prop := ∃ b : Addr, ∃ kb : ClassId, v = some (.ref b) ∧ Fr n0 L ∧ Keep h0 h [] ∧ h0.size ≤ b ∧ Arv Z h b kb .int n [(.int (0 : Int32)), (.int (0 : Int32)), (.int (0 : Int32)), (.int (0 : Int32))] (.int (0 : Int32)) ∧ Exa Z h b "[I"
theorem ef_6 (m : MethodId) (x0 : Addr) (x1 : Int32) : entryFrame m #[(.ref x0), (.int x1)] 3 = mkF m 0 #[.val (.ref x0), .val (.int x1), .unset] [] := by first | (simp [entryFrame, mkF, argsToLocals, Value.category]; done) | rfl
theorem pn_1 : plainName "java/util/Arrays" = true := by first | (simp [plainName, overriddenIn]; done) | decide +kernel
abbrev y_4 : MethodName := ⟨"java/util/Arrays", "copyOf", "([II)[I"⟩
set_option maxRecDepth 65536 in
set_option maxHeartbeats 40000000 in
theorem copy0 (l : Launch) (Z : State) (a0 : Array Value) (hw : ∀ d ∈ tables_1, d.before a0 Z = true) (ws : List Jvm.Cond) (s0 : Addr) (ks : ClassId) (n : Int32) (vs0 : List Value) (d0 : Value) (h0 : Heap) (n0 : Nat) (O : Old Z n0 h0) (Vs : Arv Z h0 s0 ks .int (0 : Int32) vs0 d0) (hn : (3 : Int32) < n) (hn2 : n.toNatClampNeg ≤ 32) :
    Ctr l Z y_4 jdk_65_method_123_code 3 (some (.array .int)) ws ({ frames := 1, cells := 1, slots := 32, locals := 18 } : Room) #[(.ref s0), (.int n)] h0 (Q_copy0 Z s0 ks n vs0 d0 h0 n0) := by
  refine MetFree.of_bodySF (plainFor_of_name pn_1) hisR ?_
  intro p e s m args below meth c s₁ Bd hml0 hP hK
  obtain ⟨rfl, hZ, hh⟩ := hP
  have W := fun (i : Nat) {d : Jvm.Cond} (h : tables_1[i]? = some d) => hw d (List.mem_of_getElem? h)
  have hx := Bd.exec
  have hby := Bd.bytes
  have hml : c.maxLocals = 3 := hml0
  have hown : s.vm.findClass "java/util/Arrays" = some m.cls := findClass_of_methodNamed Bd.named
  have hnm := (name_of_methodNamed Bd.named Bd.method).1
  have X0 : Stand p l e ({ frames := 1, cells := 1, slots := 32, locals := 18 } : Room) s m #[(.ref s0), (.int n)] below meth c s₁ [] 0 0 := Stand.of_body Bd
  have e0 : s₁.heap = h0 := by rw [← hh, Bd.state]; rfl
  have N0 := Fr.nil n0
  have pre0 : ∀ t, Steps p.tables e below (s₁.setTop (mkF m 0 #[.val (.ref s0), .val (.int n), .unset] [])) t → Steps p.tables e below (s₁.setTop (entryFrame m #[(.ref s0), (.int n)] 3)) t := fun t kk_ => castTop (ef_6 m s0 n) kk_
  have K0 := Keep.refl h0 []
  obtain ⟨cl1, Ar1, -, S1, Ng1, -, -⟩ := id Vs
  have st1 := X0.arraylength hx (by rw [e0]; exact Ar1.1) (State.isArrayOf_alike hZ.alike Ar1.2.1) (g := (mkF m 2 #[rv s0, iv n, .unset] [.ref s0, .int n])) rfl rfl (hb hby d8_2)
  rw [len_of S1 Ng1] at st1
  obtain ⟨T2, h2, k2, X2, e2, E2, A2, A2x, st2⟩ := newPE X0 hx hZ (W 45 rfl) e0 (g := (mkF m 15 #[rv s0, iv n, .unset] [.int n])) rfl (hb hby d8_15) rfl (own_nn hn : ¬ n < 0) (cap := 32) hn2 (by decide) (by decide) (by decide) (ad := "[I") (by decide)
  obtain ⟨b2, g2⟩ : ∃ z, z = h0.size := ⟨_, rfl⟩
  rw [← g2] at A2 A2x st2
  have g_b2 : n0 ≤ b2 := Nat.le_trans (own_sz O) (Nat.le_of_eq g2.symm)
  have sz_b2 : h0.size ≤ b2 := Nat.le_trans K0.1 (Nat.le_of_eq g2.symm)
  have Vs := Vs.ext E2
  have O3 := O.ext E2
  have K4 := K0.ext E2
  have V2 : Arv Z h2 b2 k2 .int n [(.int (0 : Int32)), (.int (0 : Int32)), (.int (0 : Int32)), (.int (0 : Int32))] (.int (0 : Int32)) := (Arv.new A2 (own_nn hn : ¬ n < 0)).pad (pad_rep [] (.int (0 : Int32)) 4)
  obtain ⟨cl5, Ar5, -, S5, Ng5, -, -⟩ := id Vs
  have st5 := X2.arraylength hx (by rw [e2]; exact Ar5.1) (State.isArrayOf_alike hZ.alike Ar5.2.1) (g := (mkF m 23 #[rv s0, iv n, rv b2] [.ref s0, .int 0, .ref b2, .int 0, .ref s0])) rfl rfl (hb hby d8_23)
  rw [len_of S5 Ng5] at st5
  obtain ⟨_, _, ⟨T6, L6, k6, n6⟩, -, X6, ⟨Lc6, hQ6, l6, y6, z6⟩, st6⟩ := Jvm.LawKit.callS X2 hx (y := y_1) hown (mvT hZ (W 46 rfl)) (mvT hZ (W 39 rfl)) (mvT hZ (W 2 rfl)) (mvT hZ (W 40 rfl)) (by decide) (backOf (W := 4) (min0 l Z a0 hw [] n h2 n0 O3 (own_nn hn : ¬ (n < (0 : Int32)))) hZ (W 40 rfl) (W 2 rfl) (by decide) (by decide)) (g := (mkF m 25 #[rv s0, iv n, rv b2] [.int n, .int 0, .int 0, .ref b2, .int 0, .ref s0])) rfl (by rw [hml]; rfl) (argsL := [.int 0, .int n]) (rest := [.int 0, .ref b2, .int 0, .ref s0]) (lenOf pd_0 rfl) rfl (by show 2 * 0 + _ ≤ _; exact Nat.le_of_eq rfl) (hb hby d8_25) (fun _ _ => ⟨rfl, e2, (by decide : 1 + 0 ≤ _), (by decide : 32 + 0 ≤ _)⟩)
  dsimp only [Pt.U, Pt.locs, Pt.cells, Pt.slots] at X6 l6 y6 z6 st6 hQ6
  subst l6 y6 z6
  obtain ⟨h6, e6⟩ : ∃ z, T6.heap = z := ⟨_, rfl⟩
  rw [e6] at hQ6
  obtain ⟨rfl, N6q, p6_0⟩ := hQ6
  have N6 := Fr.app N0 N6q
  rw [p6_0] at e6
  obtain ⟨T7, h7, L7, X7, e7, N7, K7q, V7, st7⟩ := cpA X6 hx hZ hown (W 47 rfl) (W 50 rfl) (W 48 rfl) (W 49 rfl) e6 (us := []) Vs V2 (Or.inl ⟨rfl, rfl⟩) (by decide) (by decide) (by decide) (Nat.zero_le _) (Nat.zero_le _) rfl (by decide) N6 g_b2 (g := (mkF m 28 #[rv s0, iv n, rv b2] [.int 0, .int 0, .ref b2, .int 0, .ref s0])) rfl (by rw [hml]; rfl) rfl (hb hby d8_28) (by decide) (W := 0) (by show 2 * 0 + _ ≤ _; exact Nat.le_of_eq rfl) (by decide)
  have V7 : Arv Z h7 b2 k2 .int n [(.int (0 : Int32)), (.int (0 : Int32)), (.int (0 : Int32)), (.int (0 : Int32))] (.int (0 : Int32)) := V7
  have A2x := A2x.keep K7q
  have K9 := K4.trans K7q (allS (Or.inr sz_b2) all0)
  obtain ⟨fs, hr, hrun, hended, hW, hsame⟩ := X7.leave (v := some (.ref b2)) (fun h => by rw [Bd.returns] at h; cases h)
  refine ⟨_, _, pre0 _ ?_, hrun, hended, _, _, rfl, ?_, ⟨_, rfl⟩, hW, hsame.mono (by decide) (by decide)⟩
  · show Sq p e below m s₁ 0 #[rv s0, iv n, .unset] [] _
    refine XS.iloadN X0.here hx rfl (hb hby d8_0) rfl ?_
    refine XS.aloadN X0.here hx rfl (hb hby d8_1) rfl rfl ?_
    show Sq p e below m s₁ 2 #[rv s0, iv n, .unset] [.ref s0, .int n] _
    refine st1 _ ?_
    show Sq p e below m s₁ 3 #[rv s0, iv n, .unset] [.int 0, .int n] _
    refine XS.icmpYes X0.here hx rfl (pc0 := 3) (pc' := 14) rfl (hb hby d8_3) rfl (feq (own_nz hn : ¬ (n = (0 : Int32)))).2 (by decide) (by decide) ?_
    refine XS.iloadN X0.here hx rfl (hb hby d8_14) rfl ?_
    show Sq p e below m s₁ 15 #[rv s0, iv n, .unset] [.int n] _
    refine st2 _ ?_
    show Sq p e below m T2 17 #[rv s0, iv n, .unset] [.ref b2] _
    refine XS.astoreN X2.here hx rfl (hb hby d8_17) rfl rfl rfl ?_
    refine XS.aloadN X2.here hx rfl (hb hby d8_18) rfl rfl ?_
    show Sq p e below m T2 19 #[rv s0, iv n, rv b2] [.ref s0] _
    refine XS.iconst X2.here hx rfl (hb hby d8_19) ?_
    refine XS.aloadN X2.here hx rfl (hb hby d8_20) rfl rfl ?_
    show Sq p e below m T2 21 #[rv s0, iv n, rv b2] [.ref b2, .int 0, .ref s0] _
    refine XS.iconst X2.here hx rfl (hb hby d8_21) ?_
    refine XS.aloadN X2.here hx rfl (hb hby d8_22) rfl rfl ?_
    show Sq p e below m T2 23 #[rv s0, iv n, rv b2] [.ref s0, .int 0, .ref b2, .int 0, .ref s0] _
    refine st5 _ ?_
    show Sq p e below m T2 24 #[rv s0, iv n, rv b2] [.int 0, .int 0, .ref b2, .int 0, .ref s0] _
    refine XS.iloadN X2.here hx rfl (hb hby d8_24) rfl ?_
    show Sq p e below m T2 25 #[rv s0, iv n, rv b2] [.int n, .int 0, .int 0, .ref b2, .int 0, .ref s0] _
    refine st6 _ ?_
    show Sq p e below m T6 28 #[rv s0, iv n, rv b2] [.int 0, .int 0, .ref b2, .int 0, .ref s0] _
    refine st7 _ ?_
    show Sq p e below m T7 31 #[rv s0, iv n, rv b2] [] _
    refine XS.aloadN X7.here hx rfl (hb hby d8_31) rfl rfl ?_
    show Sq p e below m T7 32 #[rv s0, iv n, rv b2] [.ref b2] _
    jvm_step X7.here [X7.here.top, hx, (hb hby d8_32), X7.method', Bd.returns, Value.isRef, FieldType.isReference]
    first | (intro acts; rw [hr _ acts rfl rfl rfl]) | rw [hr _ _ rfl rfl rfl]
    exact Steps.refl _
  · show Q_copy0 Z s0 ks n vs0 d0 h0 n0 _ T7.heap _
    rw [e7]
    exact ⟨b2, k2, rfl, N7, K9, sz_b2, V7, A2x⟩
theorem d5_0 : decode prog_7_method_9_code 0 = .ok (.aload_n 0, 1) := by decide +kernel
theorem d5_1 : decode prog_7_method_9_code 1 = .ok (.invokevirtual 34, 3) := by decide +kernel
theorem pd_1 : parseMethodDescriptor "()I" = some ⟨[], some .int⟩ := by decide +kernel
theorem d5_4 : decode prog_7_method_9_code 4 = .ok (.istore_n 1, 1) := by decide +kernel
theorem d5_5 : decode prog_7_method_9_code 5 = .ok (.iload_n 1, 1) := by decide +kernel
theorem d5_6 : decode prog_7_method_9_code 6 = .ok (.aload_n 0, 1) := by decide +kernel
theorem d5_7 : decode prog_7_method_9_code 7 = .ok (.getfield 9, 3) := by decide +kernel
theorem d5_10 : decode prog_7_method_9_code 10 = .ok (.if_icmp .ge 7, 3) := by decide +kernel
theorem d5_13 : decode prog_7_method_9_code 13 = .ok (.iconst 1, 1) := by decide +kernel
theorem d5_14 : decode prog_7_method_9_code 14 = .ok (.goto 4, 3) := by decide +kernel
theorem d5_18 : decode prog_7_method_9_code 18 = .ok (.istore_n 2, 1) := by decide +kernel
theorem d5_19 : decode prog_7_method_9_code 19 = .ok (.iload_n 2, 1) := by decide +kernel
theorem d5_20 : decode prog_7_method_9_code 20 = .ok (.ifCond .eq 88, 3) := by decide +kernel
theorem d5_23 : decode prog_7_method_9_code 23 = .ok (.aload_n 0, 1) := by decide +kernel
theorem d5_24 : decode prog_7_method_9_code 24 = .ok (.getfield 27, 3) := by decide +kernel
theorem d5_27 : decode prog_7_method_9_code 27 = .ok (.ifCond .ne 81, 3) := by decide +kernel
theorem d5_30 : decode prog_7_method_9_code 30 = .ok (.iload_n 1, 1) := by decide +kernel
theorem d5_31 : decode prog_7_method_9_code 31 = .ok (.sipush 16384, 3) := by decide +kernel
theorem d5_34 : decode prog_7_method_9_code 34 = .ok (.if_icmp .ge 74, 3) := by decide +kernel
theorem d5_37 : decode prog_7_method_9_code 37 = .ok (.bipush 16, 2) := by decide +kernel
theorem d5_39 : decode prog_7_method_9_code 39 = .ok (.iconst 2, 1) := by decide +kernel
theorem d5_40 : decode prog_7_method_9_code 40 = .ok (.iload_n 1, 1) := by decide +kernel
theorem d5_41 : decode prog_7_method_9_code 41 = .ok (.imul, 1) := by decide +kernel
theorem d5_42 : decode prog_7_method_9_code 42 = .ok (.invokestatic 38, 3) := by decide +kernel
theorem d5_45 : decode prog_7_method_9_code 45 = .ok (.sipush 16384, 3) := by decide +kernel
theorem d5_48 : decode prog_7_method_9_code 48 = .ok (.aload_n 0, 1) := by decide +kernel
theorem d5_49 : decode prog_7_method_9_code 49 = .ok (.getfield 9, 3) := by decide +kernel
theorem d5_52 : decode prog_7_method_9_code 52 = .ok (.invokestatic 44, 3) := by decide +kernel
theorem d5_55 : decode prog_7_method_9_code 55 = .ok (.invokestatic 44, 3) := by decide +kernel
theorem d5_58 : decode prog_7_method_9_code 58 = .ok (.istore_n 3, 1) := by decide +kernel
theorem d5_59 : decode prog_7_method_9_code 59 = .ok (.aload_n 0, 1) := by decide +kernel
theorem d5_60 : decode prog_7_method_9_code 60 = .ok (.aload_n 0, 1) := by decide +kernel
theorem d5_61 : decode prog_7_method_9_code 61 = .ok (.getfield 17, 3) := by decide +kernel
theorem d5_64 : decode prog_7_method_9_code 64 = .ok (.iconst 2, 1) := by decide +kernel
theorem d5_65 : decode prog_7_method_9_code 65 = .ok (.iload_n 3, 1) := by decide +kernel
theorem d5_66 : decode prog_7_method_9_code 66 = .ok (.imul, 1) := by decide +kernel
theorem d5_67 : decode prog_7_method_9_code 67 = .ok (.invokestatic 47, 3) := by decide +kernel
theorem pd_2 : parseMethodDescriptor "([II)[I" = some ⟨[(.array .int), .int], some (.array .int)⟩ := by decide +kernel
theorem d5_70 : decode prog_7_method_9_code 70 = .ok (.putfield 17, 3) := by decide +kernel
theorem d5_73 : decode prog_7_method_9_code 73 = .ok (.aload_n 0, 1) := by decide +kernel
theorem d5_74 : decode prog_7_method_9_code 74 = .ok (.getfield 30, 3) := by decide +kernel
theorem d5_77 : decode prog_7_method_9_code 77 = .ok (.ifnonnull 18, 3) := by decide +kernel
theorem d5_80 : decode prog_7_method_9_code 80 = .ok (.aload_n 0, 1) := by decide +kernel
theorem d5_81 : decode prog_7_method_9_code 81 = .ok (.iconst 1, 1) := by decide +kernel
theorem d5_82 : decode prog_7_method_9_code 82 = .ok (.anewarray 53, 3) := by decide +kernel
theorem d5_85 : decode prog_7_method_9_code 85 = .ok (.dup, 1) := by decide +kernel
theorem d5_86 : decode prog_7_method_9_code 86 = .ok (.iconst 0, 1) := by decide +kernel
theorem d5_87 : decode prog_7_method_9_code 87 = .ok (.aload_n 0, 1) := by decide +kernel
theorem d5_88 : decode prog_7_method_9_code 88 = .ok (.getfield 17, 3) := by decide +kernel
theorem d5_91 : decode prog_7_method_9_code 91 = .ok (.aastore, 1) := by decide +kernel
theorem d5_92 : decode prog_7_method_9_code 92 = .ok (.putfield 30, 3) := by decide +kernel
theorem d5_95 : decode prog_7_method_9_code 95 = .ok (.aload_n 0, 1) := by decide +kernel
theorem d5_96 : decode prog_7_method_9_code 96 = .ok (.getfield 30, 3) := by decide +kernel
theorem d5_99 : decode prog_7_method_9_code 99 = .ok (.iconst 0, 1) := by decide +kernel
theorem d5_100 : decode prog_7_method_9_code 100 = .ok (.aload_n 0, 1) := by decide +kernel
theorem d5_101 : decode prog_7_method_9_code 101 = .ok (.getfield 17, 3) := by decide +kernel
theorem d5_104 : decode prog_7_method_9_code 104 = .ok (.aastore, 1) := by decide +kernel
theorem d5_105 : decode prog_7_method_9_code 105 = .ok (.goto 104, 3) := by decide +kernel
theorem d5_209 : decode prog_7_method_9_code 209 = .ok (.iload_n 2, 1) := by decide +kernel
theorem d5_210 : decode prog_7_method_9_code 210 = .ok (.ireturn, 1) := by decide +kernel
def Q_room0 (Z : State) (a : Addr) (bd : Int32) (s0 : Addr) (ks : ClassId) (vs0 : List Value) (d0 : Value) (h0 : Heap) (n0 : Nat) (v : Option Value) (h : Heap) (L : List Loc) : Prop := ∃ b : Addr, ∃ kb : ClassId, ∃ g : Addr, v = some (.int (1 : Int32)) ∧ Fr n0 L ∧ Keep h0 h [a] ∧ h0.size ≤ b ∧ h0.size ≤ g ∧ Arv Z h b kb .int ((2 : Int32) * (own_min (16 : Int32) (own_min (16384 : Int32) bd))) [(.int (0 : Int32)), (.int (0 : Int32)), (.int (0 : Int32)), (.int (0 : Int32))] (.int (0 : Int32)) ∧ Fld Z h a "com/example/dodder/dodder/engine/BoundedStack" "bound" "I" (.int bd) ∧ Fld Z h a "com/example/dodder/dodder/engine/BoundedStack" "segment" "[I" (.ref b) ∧ Fld Z h a "com/example/dodder/dodder/engine/BoundedStack" "used" "I" (.int (0 : Int32)) ∧ Fld Z h a "com/example/dodder/dodder/engine/BoundedStack" "index" "I" (.int (0 : Int32)) ∧ Fld Z h a "com/example/dodder/dodder/engine/BoundedStack" "segments" "[[I" (.ref g)
theorem ef_7 (m : MethodId) (x0 : Addr) : entryFrame m #[(.ref x0)] 4 = mkF m 0 #[.val (.ref x0), .unset, .unset, .unset] [] := by first | (simp [entryFrame, mkF, argsToLocals, Value.category]; done) | rfl
abbrev y_5 : MethodName := ⟨"com/example/dodder/dodder/engine/BoundedStack", "makeRoom", "()Z"⟩
set_option maxRecDepth 65536 in
set_option maxHeartbeats 40000000 in
theorem room0 (l : Launch) (Z : State) (a0 : Array Value) (hw : ∀ d ∈ tables_1, d.before a0 Z = true) (ws : List Jvm.Cond) (a : Addr) (bd : Int32) (s0 : Addr) (ks : ClassId) (vs0 : List Value) (d0 : Value) (h0 : Heap) (n0 : Nat) (O : Old Z n0 h0) (Ea : Exa Z h0 a "com/example/dodder/dodder/engine/BoundedStack") (Fb : Fld Z h0 a "com/example/dodder/dodder/engine/BoundedStack" "bound" "I" (.int bd)) (Fs : Fld Z h0 a "com/example/dodder/dodder/engine/BoundedStack" "segment" "[I" (.ref s0)) (Fu : Fld Z h0 a "com/example/dodder/dodder/engine/BoundedStack" "used" "I" (.int (0 : Int32))) (Fi : Fld Z h0 a "com/example/dodder/dodder/engine/BoundedStack" "index" "I" (.int (0 : Int32))) (Fg : Fld Z h0 a "com/example/dodder/dodder/engine/BoundedStack" "segments" "[[I" .null) (ga : n0 ≤ a) (Vs : Arv Z Z.heap s0 ks .int (0 : Int32) vs0 d0) (hb1 : ¬ (bd < (2 : Int32))) :
    Ctr l Z y_5 prog_7_method_9_code 4 (some .boolean) ws ({ frames := 2, cells := 2, slots := 33, locals := 33 } : Room) #[(.ref a)] h0 (Q_room0 Z a bd s0 ks vs0 d0 h0 n0) := by
  refine MetFree.of_bodySF (plainFor_of_name pn_0) hisR ?_
  intro p e s m args below meth c s₁ Bd hml0 hP hK
  obtain ⟨rfl, hZ, hh⟩ := hP
  have W := fun (i : Nat) {d : Jvm.Cond} (h : tables_1[i]? = some d) => hw d (List.mem_of_getElem? h)
  have hx := Bd.exec
  have hby := Bd.bytes
  have hml : c.maxLocals = 4 := hml0
  have hown : s.vm.findClass "com/example/dodder/dodder/engine/BoundedStack" = some m.cls := findClass_of_methodNamed Bd.named
  have hnm := (name_of_methodNamed Bd.named Bd.method).1
  have X0 : Stand p l e ({ frames := 2, cells := 2, slots := 33, locals := 33 } : Room) s m #[(.ref a)] below meth c s₁ [] 0 0 := Stand.of_body Bd
  have e0 : s₁.heap = h0 := by rw [← hh, Bd.state]; rfl
  have N0 := Fr.nil n0
  have pre0 : ∀ t, Steps p.tables e below (s₁.setTop (mkF m 0 #[.val (.ref a), .unset, .unset, .unset] [])) t → Steps p.tables e below (s₁.setTop (entryFrame m #[(.ref a)] 4)) t := fun t kk_ => castTop (ef_7 m a) kk_
  have K0 := Keep.refl h0 [a]
  obtain ⟨cq1, kq1, q1a, q1b, q1c⟩ := isOf hZ e0 Ea
  obtain ⟨_, _, ⟨T1, L1, k1, n1⟩, -, X1, ⟨Lc1, hQ1, l1, y1, z1⟩, st1⟩ := X0.virtualBack hx (y := y_3) (z := y_3) hown (mvT hZ (W 30 rfl)) (mvT hZ (W 31 rfl)) (notFace_of_selects (args := #[]) (mvT hZ (W 33 rfl))) (mvT hZ (W 33 rfl)) (mvT hZ (W 32 rfl)) (by decide) (backOf (W := 0) (size0 l Z a0 hw [] a h0 n0 O Fi Fu) hZ (W 34 rfl) (W 6 rfl) (by decide) (by decide)) q1a q1c (g := (mkF m 1 #[rv a, .unset, .unset, .unset] [.ref a])) rfl (by rw [hml]; rfl) (Steps.refl _) (argsL := []) (rest := []) (lenOf pd_1 rfl) rfl (by show 2 * 0 + _ ≤ _; exact Nat.le_of_eq rfl) (hb hby d5_1) (fun _ _ => ⟨rfl, e0, (by decide : 0 + 0 ≤ _), (by decide : 0 + 0 ≤ _)⟩)
  dsimp only [Pt.U, Pt.locs, Pt.cells, Pt.slots] at X1 l1 y1 z1 st1 hQ1
  subst l1 y1 z1
  obtain ⟨h1, e1⟩ : ∃ z, T1.heap = z := ⟨_, rfl⟩
  rw [e1] at hQ1
  obtain ⟨rfl, N1q, p1_0⟩ := hQ1
  have N1 := Fr.app N0 N1q
  rw [p1_0] at e1
  obtain ⟨T2, X2, e2, st2⟩ := getF X1 hx hZ hown (host := "") (Or.inl (W 13 rfl)) Via.refl e1 Fb (g := (mkF m 7 #[rv a, iv 0, .unset, .unset] [.ref a, .int 0])) rfl rfl (hb hby d5_7)
  obtain ⟨T3, X3, e3, st3⟩ := getF X2 hx hZ hown (host := "") (Or.inl (W 35 rfl)) Via.refl e2 Fi (g := (mkF m 24 #[rv a, iv 0, iv 1, .unset] [.ref a])) rfl rfl (hb hby d5_24)
  obtain ⟨_, _, ⟨T4, L4, k4, n4⟩, -, X4, ⟨Lc4, hQ4, l4, y4, z4⟩, st4⟩ := Jvm.LawKit.callS X3 hx (y := y_0) hown (mvT hZ (W 37 rfl)) (mvT hZ (W 1 rfl)) (mvT hZ (W 2 rfl)) (mvT hZ (W 3 rfl)) (by decide) (backOf (W := 0) (max16 l Z a0 hw []  h0 n0 O ) hZ (W 3 rfl) (W 2 rfl) (by decide) (by decide)) (g := (mkF m 42 #[rv a, iv 0, iv 1, .unset] [.int 0, .int 16])) rfl (by rw [hml]; rfl) (argsL := [.int 16, .int 0]) (rest := []) (lenOf pd_0 rfl) rfl (by show 2 * 0 + _ ≤ _; exact Nat.le_of_eq rfl) (hb hby d5_42) (fun _ _ => ⟨rfl, e3, (by decide : 0 + 0 ≤ _), (by decide : 0 + 0 ≤ _)⟩)
  dsimp only [Pt.U, Pt.locs, Pt.cells, Pt.slots] at X4 l4 y4 z4 st4 hQ4
  subst l4 y4 z4
  obtain ⟨h4, e4⟩ : ∃ z, T4.heap = z := ⟨_, rfl⟩
  rw [e4] at hQ4
  obtain ⟨rfl, N4q, p4_0⟩ := hQ4
  have N4 := Fr.app N1 N4q
  rw [p4_0] at e4
  obtain ⟨T5, X5, e5, st5⟩ := getF X4 hx hZ hown (host := "") (Or.inl (W 13 rfl)) Via.refl e4 Fb (g := (mkF m 49 #[rv a, iv 0, iv 1, .unset] [.ref a, .int 16384, .int 16])) rfl rfl (hb hby d5_49)
  obtain ⟨_, _, ⟨T6, L6, k6, n6⟩, -, X6, ⟨Lc6, hQ6, l6, y6, z6⟩, st6⟩ := Jvm.LawKit.callS X5 hx (y := y_1) hown (mvT hZ (W 38 rfl)) (mvT hZ (W 39 rfl)) (mvT hZ (W 2 rfl)) (mvT hZ (W 40 rfl)) (by decide) (backOf (W := 1) (min l Z a0 hw [] (16384 : Int32) bd h0 n0 O ) hZ (W 40 rfl) (W 2 rfl) (by decide) (by decide)) (g := (mkF m 52 #[rv a, iv 0, iv 1, .unset] [.int bd, .int 16384, .int 16])) rfl (by rw [hml]; rfl) (argsL := [.int 16384, .int bd]) (rest := [.int 16]) (lenOf pd_0 rfl) rfl (by show 2 * 0 + _ ≤ _; exact Nat.le_of_eq rfl) (hb hby d5_52) (fun _ _ => ⟨rfl, e5, (by decide : 0 + 0 ≤ _), (by decide : 0 + 0 ≤ _)⟩)
  dsimp only [Pt.U, Pt.locs, Pt.cells, Pt.slots] at X6 l6 y6 z6 st6 hQ6
  subst l6 y6 z6
  obtain ⟨h6, e6⟩ : ∃ z, T6.heap = z := ⟨_, rfl⟩
  rw [e6] at hQ6
  obtain ⟨rfl, N6q, p6_0⟩ := hQ6
  have N6 := Fr.app N4 N6q
  rw [p6_0] at e6
  obtain ⟨_, _, ⟨T7, L7, k7, n7⟩, -, X7, ⟨Lc7, hQ7, l7, y7, z7⟩, st7⟩ := Jvm.LawKit.callS X6 hx (y := y_1) hown (mvT hZ (W 38 rfl)) (mvT hZ (W 39 rfl)) (mvT hZ (W 2 rfl)) (mvT hZ (W 40 rfl)) (by decide) (backOf (W := 0) (min l Z a0 hw [] (16 : Int32) (own_min (16384 : Int32) bd) h0 n0 O ) hZ (W 40 rfl) (W 2 rfl) (by decide) (by decide)) (g := (mkF m 55 #[rv a, iv 0, iv 1, .unset] [.int (own_min (16384 : Int32) bd), .int 16])) rfl (by rw [hml]; rfl) (argsL := [.int 16, .int (own_min (16384 : Int32) bd)]) (rest := []) (lenOf pd_0 rfl) rfl (by show 2 * 0 + _ ≤ _; exact Nat.le_of_eq rfl) (hb hby d5_55) (fun _ _ => ⟨rfl, e6, (by decide : 0 + 0 ≤ _), (by decide : 0 + 0 ≤ _)⟩)
  dsimp only [Pt.U, Pt.locs, Pt.cells, Pt.slots] at X7 l7 y7 z7 st7 hQ7
  subst l7 y7 z7
  obtain ⟨h7, e7⟩ : ∃ z, T7.heap = z := ⟨_, rfl⟩
  rw [e7] at hQ7
  obtain ⟨rfl, N7q, p7_0⟩ := hQ7
  have N7 := Fr.app N6 N7q
  rw [p7_0] at e7
  obtain ⟨T8, X8, e8, st8⟩ := getF X7 hx hZ hown (host := "") (Or.inl (W 17 rfl)) Via.refl e7 Fs (g := (mkF m 61 #[rv a, iv 0, iv 1, iv (own_min (16 : Int32) (own_min (16384 : Int32) bd))] [.ref a, .ref a])) rfl rfl (hb hby d5_61)
  obtain ⟨_, _, ⟨T9, L9, k9, n9⟩, -, X9, ⟨Lc9, hQ9, l9, y9, z9⟩, st9⟩ := Jvm.LawKit.callS X8 hx (y := y_4) hown (mvT hZ (W 41 rfl)) (mvT hZ (W 42 rfl)) (mvT hZ (W 43 rfl)) (mvT hZ (W 44 rfl)) (by decide) (backOf (W := 1) (copy0 l Z a0 hw [] s0 ks ((2 : Int32) * (own_min (16 : Int32) (own_min (16384 : Int32) bd))) vs0 d0 h0 n0 O (Vs.ext O.2) (own_L hb1).1 (own_L hb1).2) hZ (W 44 rfl) (W 43 rfl) (by decide) (by decide)) (g := (mkF m 67 #[rv a, iv 0, iv 1, iv (own_min (16 : Int32) (own_min (16384 : Int32) bd))] [.int ((2 : Int32) * (own_min (16 : Int32) (own_min (16384 : Int32) bd))), .ref s0, .ref a])) rfl (by rw [hml]; rfl) (argsL := [.ref s0, .int ((2 : Int32) * (own_min (16 : Int32) (own_min (16384 : Int32) bd)))]) (rest := [.ref a]) (lenOf pd_2 rfl) rfl (by show 2 * 0 + _ ≤ _; exact Nat.le_of_eq rfl) (hb hby d5_67) (fun _ _ => ⟨rfl, e8, (by decide : 0 + 1 ≤ _), (by decide : 0 + 32 ≤ _)⟩)
  dsimp only [Pt.U, Pt.locs, Pt.cells, Pt.slots] at X9 l9 y9 z9 st9 hQ9
  subst l9 y9 z9
  obtain ⟨h9, e9⟩ : ∃ z, T9.heap = z := ⟨_, rfl⟩
  rw [e9] at hQ9
  obtain ⟨b9b, b9kb, rfl, N9q, p9_0, p9_1, p9_2, p9_3⟩ := hQ9
  have N9 := Fr.app N7 N9q
  have sz_b9b : h0.size ≤ b9b := Nat.le_trans K0.1 p9_1
  have ne_a_b9b : a ≠ b9b := Nat.ne_of_lt (Nat.lt_of_lt_of_le Ea.lt p9_1)
  have Ea := Ea.keep p9_0
  have Fb := Fb.keep p9_0 nin0
  have Fs := Fs.keep p9_0 nin0
  have Fu := Fu.keep p9_0 nin0
  have Fi := Fi.keep p9_0 nin0
  have Fg := Fg.keep p9_0 nin0
  have O10 := O.keep p9_0 all0
  have K11 := K0.trans p9_0 all0
  obtain ⟨T12, h12, X12, e12, W12, st12⟩ := putF X9 hx hZ hown (host := "") (Or.inl (W 17 rfl)) Via.refl e9 Fs Ea (Or.inl (W 18 rfl)) (W 5 rfl) (ty := (.array .int)) (by decide) rfl rfl (g := (mkF m 70 #[rv a, iv 0, iv 1, iv (own_min (16 : Int32) (own_min (16384 : Int32) bd))] [.ref b9b, .ref a])) rfl rfl (hb hby d5_70)
  have Fz12 := Fs.same W12
  have Ea := Ea.wr W12
  have Fb := Fb.other W12 (Or.inr (slot_ne (Or.inr (W 14 rfl)) (Or.inl (W 18 rfl)) (by decide) (t := .int) (t' := (.array .int)) (by decide) (by decide)))
  have Fu := Fu.other W12 (Or.inr (slot_ne (Or.inl (W 25 rfl)) (Or.inl (W 18 rfl)) (by decide) (t := .int) (t' := (.array .int)) (by decide) (by decide)))
  have Fi := Fi.other W12 (Or.inr (slot_ne (Or.inl (W 36 rfl)) (Or.inl (W 18 rfl)) (by decide) (t := .int) (t' := (.array .int)) (by decide) (by decide)))
  have Fg := Fg.other W12 (Or.inr (slot_ne (Or.inl (W 52 rfl)) (Or.inl (W 18 rfl)) (by decide) (t := (.array (.array .int))) (t' := (.array .int)) (by decide) (by decide)))
  have p9_2 := p9_2.other W12 (Ne.symm ne_a_b9b)
  have p9_3 := p9_3.wr W12
  have O13 := O10.wr W12 ga
  have K14 := K11.wr W12 (Or.inl (List.mem_of_getElem? (i := 0) rfl))
  have N15 := Fr.snoc X12 N9 ga
  obtain ⟨T16, X16, e16, st16⟩ := getF X12 hx hZ hown (host := "") (Or.inl (W 51 rfl)) Via.refl e12 Fg (g := (mkF m 74 #[rv a, iv 0, iv 1, iv (own_min (16 : Int32) (own_min (16384 : Int32) bd))] [.ref a])) rfl rfl (hb hby d5_74)
  obtain ⟨T17, h17, k17, X17, e17, E17, A17, A17x, Ov17, st17⟩ := newRA X16 hx hZ hown (ty := .int) (by decide) (W 53 rfl) (W 54 rfl) e16 (g := (mkF m 82 #[rv a, iv 0, iv 1, iv (own_min (16 : Int32) (own_min (16384 : Int32) bd))] [.int 1, .ref a])) rfl (hb hby d5_82) rfl (by decide) (cap := 1) (by decide) (by decide) (by decide) (by decide) (ad := "[[I") (by decide)
  obtain ⟨b17, g17⟩ : ∃ z, z = h12.size := ⟨_, rfl⟩
  rw [← g17] at A17 A17x st17
  have g_b17 : n0 ≤ b17 := Nat.le_trans (own_sz O13) (Nat.le_of_eq g17.symm)
  have sz_b17 : h0.size ≤ b17 := Nat.le_trans K14.1 (Nat.le_of_eq g17.symm)
  have ne_a_b17 : a ≠ b17 := Nat.ne_of_lt (Nat.lt_of_lt_of_le Ea.lt (Nat.le_of_eq g17.symm))
  have ne_b9b_b17 : b9b ≠ b17 := Nat.ne_of_lt (Nat.lt_of_lt_of_le p9_3.lt (Nat.le_of_eq g17.symm))
  have Ea := Ea.ext E17
  have Fb := Fb.ext E17
  have Fu := Fu.ext E17
  have Fi := Fi.ext E17
  have Fg := Fg.ext E17
  have p9_2 := p9_2.ext E17
  have p9_3 := p9_3.ext E17
  have Fz12 := Fz12.ext E17
  have K19 := K14.ext E17
  have V17 : Arv Z h17 b17 k17 (.array .int) (1 : Int32) [.null] .null := (Arv.new A17 (by decide)).pad (pad_rep [] .null 1)
  obtain ⟨T20, X20, e20, st20⟩ := getF X17 hx hZ hown (host := "") (Or.inl (W 17 rfl)) Via.refl e17 Fz12 (g := (mkF m 88 #[rv a, iv 0, iv 1, iv (own_min (16 : Int32) (own_min (16384 : Int32) bd))] [.ref a, .int 0, .ref b17, .ref b17, .ref a])) rfl rfl (hb hby d5_88)
  obtain ⟨cl21, Ar21, q21, S21, Ng21, Hh21, Gg21⟩ := id V17
  obtain ⟨T21, h21, X21, e21, W21, st21⟩ := stR X20 hx hZ e20 Ar21 (j := (0 : Int32)) (inb_of S21 (by decide)) rfl (Sto.ofVA Ar21 q21 Ov17 (Ins.self p9_3)) (g := (mkF m 91 #[rv a, iv 0, iv 1, iv (own_min (16 : Int32) (own_min (16384 : Int32) bd))] [.ref b9b, .int 0, .ref b17, .ref b17, .ref a])) rfl rfl (hb hby d5_91)
  have V21 : Arv Z h21 b17 k17 (.array .int) (1 : Int32) [(.ref b9b)] .null := Arv.set Ar21 q21 S21 Ng21 Hh21 Gg21 rfl W21 0 rfl (Nat.le_of_ble_eq_true rfl)
  have Ea := Ea.wr W21
  have Fb := Fb.other W21 (Or.inl ne_a_b17)
  have Fu := Fu.other W21 (Or.inl ne_a_b17)
  have Fi := Fi.other W21 (Or.inl ne_a_b17)
  have Fg := Fg.other W21 (Or.inl ne_a_b17)
  have p9_2 := p9_2.other W21 ne_b9b_b17
  have p9_3 := p9_3.wr W21
  have Fz12 := Fz12.other W21 (Or.inl ne_a_b17)
  have K23 := K19.wr W21 (Or.inr sz_b17)
  have N24 := Fr.snoc X21 N15 g_b17
  obtain ⟨T25, h25, X25, e25, W25, st25⟩ := putF X21 hx hZ hown (host := "") (Or.inl (W 51 rfl)) Via.refl e21 Fg Ea (Or.inl (W 52 rfl)) (W 5 rfl) (ty := (.array (.array .int))) (by decide) rfl rfl (g := (mkF m 92 #[rv a, iv 0, iv 1, iv (own_min (16 : Int32) (own_min (16384 : Int32) bd))] [.ref b17, .ref a])) rfl rfl (hb hby d5_92)
  have Fz25 := Fg.same W25
  have Fb := Fb.other W25 (Or.inr (slot_ne (Or.inr (W 14 rfl)) (Or.inl (W 52 rfl)) (by decide) (t := .int) (t' := (.array (.array .int))) (by decide) (by decide)))
  have Fu := Fu.other W25 (Or.inr (slot_ne (Or.inl (W 25 rfl)) (Or.inl (W 52 rfl)) (by decide) (t := .int) (t' := (.array (.array .int))) (by decide) (by decide)))
  have Fi := Fi.other W25 (Or.inr (slot_ne (Or.inl (W 36 rfl)) (Or.inl (W 52 rfl)) (by decide) (t := .int) (t' := (.array (.array .int))) (by decide) (by decide)))
  have p9_2 := p9_2.other W25 (Ne.symm ne_a_b9b)
  have p9_3 := p9_3.wr W25
  have Fz12 := Fz12.other W25 (Or.inr (slot_ne (Or.inl (W 18 rfl)) (Or.inl (W 52 rfl)) (by decide) (t := (.array .int)) (t' := (.array (.array .int))) (by decide) (by decide)))
  have V21 := V21.other W25 (Ne.symm ne_a_b17)
  have K27 := K23.wr W25 (Or.inl (List.mem_of_getElem? (i := 0) rfl))
  have N28 := Fr.snoc X25 N24 ga
  obtain ⟨T29, X29, e29, st29⟩ := getF X25 hx hZ hown (host := "") (Or.inl (W 51 rfl)) Via.refl e25 Fz25 (g := (mkF m 96 #[rv a, iv 0, iv 1, iv (own_min (16 : Int32) (own_min (16384 : Int32) bd))] [.ref a])) rfl rfl (hb hby d5_96)
  obtain ⟨T30, X30, e30, st30⟩ := getF X29 hx hZ hown (host := "") (Or.inl (W 17 rfl)) Via.refl e29 Fz12 (g := (mkF m 101 #[rv a, iv 0, iv 1, iv (own_min (16 : Int32) (own_min (16384 : Int32) bd))] [.ref a, .int 0, .ref b17])) rfl rfl (hb hby d5_101)
  obtain ⟨cl31, Ar31, q31, S31, Ng31, Hh31, Gg31⟩ := id V21
  obtain ⟨T31, h31, X31, e31, W31, st31⟩ := stR X30 hx hZ e30 Ar31 (j := (0 : Int32)) (inb_of S31 (by decide)) rfl (Sto.ofVA Ar31 q31 Ov17 (Ins.self p9_3)) (g := (mkF m 104 #[rv a, iv 0, iv 1, iv (own_min (16 : Int32) (own_min (16384 : Int32) bd))] [.ref b9b, .int 0, .ref b17])) rfl rfl (hb hby d5_104)
  have Fb := Fb.other W31 (Or.inl ne_a_b17)
  have Fu := Fu.other W31 (Or.inl ne_a_b17)
  have Fi := Fi.other W31 (Or.inl ne_a_b17)
  have p9_2 := p9_2.other W31 ne_b9b_b17
  have Fz12 := Fz12.other W31 (Or.inl ne_a_b17)
  have Fz25 := Fz25.other W31 (Or.inl ne_a_b17)
  have K33 := K27.wr W31 (Or.inr sz_b17)
  have N34 := Fr.snoc X31 N28 g_b17
  obtain ⟨fs, hr, hrun, hended, hW, hsame⟩ := X31.leave (v := some (.int (1 : Int32))) (fun h => by rw [Bd.returns] at h; cases h)
  refine ⟨_, _, pre0 _ ?_, hrun, hended, _, _, rfl, ?_, ⟨_, rfl⟩, hW, hsame.mono (by decide) (by decide)⟩
  · show Sq p e below m s₁ 0 #[rv a, .unset, .unset, .unset] [] _
    refine XS.aloadN X0.here hx rfl (hb hby d5_0) rfl rfl ?_
    show Sq p e below m s₁ 1 #[rv a, .unset, .unset, .unset] [.ref a] _
    refine st1.trans ?_
    show Sq p e below m T1 4 #[rv a, .unset, .unset, .unset] [.int 0] _
    refine XS.istoreN X1.here hx rfl (hb hby d5_4) rfl rfl ?_
    refine XS.iloadN X1.here hx rfl (hb hby d5_5) rfl ?_
    show Sq p e below m T1 6 #[rv a, iv 0, .unset, .unset] [.int 0] _
    refine XS.aloadN X1.here hx rfl (hb hby d5_6) rfl rfl ?_
    show Sq p e below m T1 7 #[rv a, iv 0, .unset, .unset] [.ref a, .int 0] _
    refine st2 _ ?_
    show Sq p e below m T2 10 #[rv a, iv 0, .unset, .unset] [.int bd, .int 0] _
    refine XS.icmpNo X2.here hx rfl (hb hby d5_10) rfl (tlt (own_pos hb1 : (0 : Int32) < bd)).2.1 ?_
    refine XS.iconst X2.here hx rfl (hb hby d5_13) ?_
    show Sq p e below m T2 14 #[rv a, iv 0, .unset, .unset] [.int 1] _
    refine XS.goto X2.here hx rfl (pc0 := 14) (pc' := 18) rfl (hb hby d5_14) (by decide) (by decide) ?_
    refine XS.istoreN X2.here hx rfl (hb hby d5_18) rfl rfl ?_
    show Sq p e below m T2 19 #[rv a, iv 0, iv 1, .unset] [] _
    refine XS.iloadN X2.here hx rfl (hb hby d5_19) rfl ?_
    refine XS.ifNo X2.here hx rfl (hb hby d5_20) rfl ((if0 _ _).trans (feq (by decide)).1) ?_
    show Sq p e below m T2 23 #[rv a, iv 0, iv 1, .unset] [] _
    refine XS.aloadN X2.here hx rfl (hb hby d5_23) rfl rfl ?_
    show Sq p e below m T2 24 #[rv a, iv 0, iv 1, .unset] [.ref a] _
    refine st3 _ ?_
    show Sq p e below m T3 27 #[rv a, iv 0, iv 1, .unset] [.int 0] _
    refine XS.ifNo X3.here hx rfl (hb hby d5_27) rfl ((if0 _ _).trans (teq (rfl : (0 : Int32) = (0 : Int32))).2) ?_
    refine XS.iloadN X3.here hx rfl (hb hby d5_30) rfl ?_
    show Sq p e below m T3 31 #[rv a, iv 0, iv 1, .unset] [.int 0] _
    refine XS.sipush X3.here hx rfl (hb hby d5_31) ?_
    refine XS.icmpNo X3.here hx rfl (hb hby d5_34) rfl (tlt (by decide)).2.1 ?_
    show Sq p e below m T3 37 #[rv a, iv 0, iv 1, .unset] [] _
    refine XS.bipush X3.here hx rfl (hb hby d5_37) ?_
    refine XS.iconst X3.here hx rfl (hb hby d5_39) ?_
    show Sq p e below m T3 40 #[rv a, iv 0, iv 1, .unset] [.int 2, .int 16] _
    refine XS.iloadN X3.here hx rfl (hb hby d5_40) rfl ?_
    refine XS.imul X3.here hx rfl (hb hby d5_41) rfl ?_
    show Sq p e below m T3 42 #[rv a, iv 0, iv 1, .unset] [.int ((2 : Int32) * (0 : Int32)), .int 16] _
    rw [show ((2 : Int32) * (0 : Int32)) = (0 : Int32) from by decide]
    show Sq p e below m T3 42 #[rv a, iv 0, iv 1, .unset] [.int 0, .int 16] _
    refine st4 _ ?_
    show Sq p e below m T4 45 #[rv a, iv 0, iv 1, .unset] [.int 16] _
    refine XS.sipush X4.here hx rfl (hb hby d5_45) ?_
    refine XS.aloadN X4.here hx rfl (hb hby d5_48) rfl rfl ?_
    show Sq p e below m T4 49 #[rv a, iv 0, iv 1, .unset] [.ref a, .int 16384, .int 16] _
    refine st5 _ ?_
    show Sq p e below m T5 52 #[rv a, iv 0, iv 1, .unset] [.int bd, .int 16384, .int 16] _
    refine st6 _ ?_
    show Sq p e below m T6 55 #[rv a, iv 0, iv 1, .unset] [.int (own_min (16384 : Int32) bd), .int 16] _
    refine st7 _ ?_
    show Sq p e below m T7 58 #[rv a, iv 0, iv 1, .unset] [.int (own_min (16 : Int32) (own_min (16384 : Int32) bd))] _
    refine XS.istoreN X7.here hx rfl (hb hby d5_58) rfl rfl ?_
    refine XS.aloadN X7.here hx rfl (hb hby d5_59) rfl rfl ?_
    show Sq p e below m T7 60 #[rv a, iv 0, iv 1, iv (own_min (16 : Int32) (own_min (16384 : Int32) bd))] [.ref a] _
    refine XS.aloadN X7.here hx rfl (hb hby d5_60) rfl rfl ?_
    show Sq p e below m T7 61 #[rv a, iv 0, iv 1, iv (own_min (16 : Int32) (own_min (16384 : Int32) bd))] [.ref a, .ref a] _
    refine st8 _ ?_
    show Sq p e below m T8 64 #[rv a, iv 0, iv 1, iv (own_min (16 : Int32) (own_min (16384 : Int32) bd))] [.ref s0, .ref a] _
    refine XS.iconst X8.here hx rfl (hb hby d5_64) ?_
    refine XS.iloadN X8.here hx rfl (hb hby d5_65) rfl ?_
    show Sq p e below m T8 66 #[rv a, iv 0, iv 1, iv (own_min (16 : Int32) (own_min (16384 : Int32) bd))] [.int (own_min (16 : Int32) (own_min (16384 : Int32) bd)), .int 2, .ref s0, .ref a] _
    refine XS.imul X8.here hx rfl (hb hby d5_66) rfl ?_
    show Sq p e below m T8 67 #[rv a, iv 0, iv 1, iv (own_min (16 : Int32) (own_min (16384 : Int32) bd))] [.int ((2 : Int32) * (own_min (16 : Int32) (own_min (16384 : Int32) bd))), .ref s0, .ref a] _
    refine st9 _ ?_
    show Sq p e below m T9 70 #[rv a, iv 0, iv 1, iv (own_min (16 : Int32) (own_min (16384 : Int32) bd))] [.ref b9b, .ref a] _
    refine st12 _ ?_
    show Sq p e below m T12 73 #[rv a, iv 0, iv 1, iv (own_min (16 : Int32) (own_min (16384 : Int32) bd))] [] _
    refine XS.aloadN X12.here hx rfl (hb hby d5_73) rfl rfl ?_
    show Sq p e below m T12 74 #[rv a, iv 0, iv 1, iv (own_min (16 : Int32) (own_min (16384 : Int32) bd))] [.ref a] _
    refine st16 _ ?_
    show Sq p e below m T16 77 #[rv a, iv 0, iv 1, iv (own_min (16 : Int32) (own_min (16384 : Int32) bd))] [.null] _
    refine XS.ifnonnullNo X16.here hx rfl (hb hby d5_77) rfl ?_
    refine XS.aloadN X16.here hx rfl (hb hby d5_80) rfl rfl ?_
    show Sq p e below m T16 81 #[rv a, iv 0, iv 1, iv (own_min (16 : Int32) (own_min (16384 : Int32) bd))] [.ref a] _
    refine XS.iconst X16.here hx rfl (hb hby d5_81) ?_
    show Sq p e below m T16 82 #[rv a, iv 0, iv 1, iv (own_min (16 : Int32) (own_min (16384 : Int32) bd))] [.int 1, .ref a] _
    refine st17 _ ?_
    show Sq p e below m T17 85 #[rv a, iv 0, iv 1, iv (own_min (16 : Int32) (own_min (16384 : Int32) bd))] [.ref b17, .ref a] _
    refine XS.dup X17.here hx rfl (hb hby d5_85) rfl rfl ?_
    refine XS.iconst X17.here hx rfl (hb hby d5_86) ?_
    show Sq p e below m T17 87 #[rv a, iv 0, iv 1, iv (own_min (16 : Int32) (own_min (16384 : Int32) bd))] [.int 0, .ref b17, .ref b17, .ref a] _
    refine XS.aloadN X17.here hx rfl (hb hby d5_87) rfl rfl ?_
    show Sq p e below m T17 88 #[rv a, iv 0, iv 1, iv (own_min (16 : Int32) (own_min (16384 : Int32) bd))] [.ref a, .int 0, .ref b17, .ref b17, .ref a] _
    refine st20 _ ?_
    show Sq p e below m T20 91 #[rv a, iv 0, iv 1, iv (own_min (16 : Int32) (own_min (16384 : Int32) bd))] [.ref b9b, .int 0, .ref b17, .ref b17, .ref a] _
    refine st21 _ ?_
    show Sq p e below m T21 92 #[rv a, iv 0, iv 1, iv (own_min (16 : Int32) (own_min (16384 : Int32) bd))] [.ref b17, .ref a] _
    refine st25 _ ?_
    show Sq p e below m T25 95 #[rv a, iv 0, iv 1, iv (own_min (16 : Int32) (own_min (16384 : Int32) bd))] [] _
    refine XS.aloadN X25.here hx rfl (hb hby d5_95) rfl rfl ?_
    show Sq p e below m T25 96 #[rv a, iv 0, iv 1, iv (own_min (16 : Int32) (own_min (16384 : Int32) bd))] [.ref a] _
    refine st29 _ ?_
    show Sq p e below m T29 99 #[rv a, iv 0, iv 1, iv (own_min (16 : Int32) (own_min (16384 : Int32) bd))] [.ref b17] _
    refine XS.iconst X29.here hx rfl (hb hby d5_99) ?_
    refine XS.aloadN X29.here hx rfl (hb hby d5_100) rfl rfl ?_
    show Sq p e below m T29 101 #[rv a, iv 0, iv 1, iv (own_min (16 : Int32) (own_min (16384 : Int32) bd))] [.ref a, .int 0, .ref b17] _
    refine st30 _ ?_
    show Sq p e below m T30 104 #[rv a, iv 0, iv 1, iv (own_min (16 : Int32) (own_min (16384 : Int32) bd))] [.ref b9b, .int 0, .ref b17] _
    refine st31 _ ?_
    show Sq p e below m T31 105 #[rv a, iv 0, iv 1, iv (own_min (16 : Int32) (own_min (16384 : Int32) bd))] [] _
    refine XS.goto X31.here hx rfl (pc0 := 105) (pc' := 209) rfl (hb hby d5_105) (by decide) (by decide) ?_
    refine XS.iloadN X31.here hx rfl (hb hby d5_209) rfl ?_
    show Sq p e below m T31 210 #[rv a, iv 0, iv 1, iv (own_min (16 : Int32) (own_min (16384 : Int32) bd))] [.int 1] _
    exact retN X31 hx (t := .boolean) Bd.returns (by simp) (hb hby d5_210) hr
  · show Q_room0 Z a bd s0 ks vs0 d0 h0 n0 _ T31.heap _
    rw [e31]
    exact ⟨b9b, b9kb, b17, rfl, N34, K33, sz_b9b, sz_b17, p9_2, Fb, Fz12, Fu, Fi, Fz25⟩
theorem d4_0 : decode prog_7_method_2_code 0 = .ok (.aload_n 0, 1) := by decide +kernel
theorem d4_1 : decode prog_7_method_2_code 1 = .ok (.getfield 20, 3) := by decide +kernel
theorem d4_4 : decode prog_7_method_2_code 4 = .ok (.aload_n 0, 1) := by decide +kernel
theorem d4_5 : decode prog_7_method_2_code 5 = .ok (.getfield 17, 3) := by decide +kernel
theorem d4_8 : decode prog_7_method_2_code 8 = .ok (.arraylength, 1) := by decide +kernel
theorem d4_9 : decode prog_7_method_2_code 9 = .ok (.if_icmp .lt 10, 3) := by decide +kernel
theorem d4_12 : decode prog_7_method_2_code 12 = .ok (.aload_n 0, 1) := by decide +kernel
theorem d4_13 : decode prog_7_method_2_code 13 = .ok (.invokevirtual 23, 3) := by decide +kernel
theorem pd_3 : parseMethodDescriptor "()Z" = some ⟨[], some .boolean⟩ := by decide +kernel
theorem d4_16 : decode prog_7_method_2_code 16 = .ok (.ifCond .eq 7, 3) := by decide +kernel
theorem d4_19 : decode prog_7_method_2_code 19 = .ok (.iconst 1, 1) := by decide +kernel
theorem d4_20 : decode prog_7_method_2_code 20 = .ok (.goto 4, 3) := by decide +kernel
theorem d4_24 : decode prog_7_method_2_code 24 = .ok (.istore_n 3, 1) := by decide +kernel
theorem d4_25 : decode prog_7_method_2_code 25 = .ok (.iload_n 3, 1) := by decide +kernel
theorem d4_26 : decode prog_7_method_2_code 26 = .ok (.ifCond .eq 35, 3) := by decide +kernel
theorem d4_29 : decode prog_7_method_2_code 29 = .ok (.aload_n 0, 1) := by decide +kernel
theorem d4_30 : decode prog_7_method_2_code 30 = .ok (.getfield 17, 3) := by decide +kernel
theorem d4_33 : decode prog_7_method_2_code 33 = .ok (.aload_n 0, 1) := by decide +kernel
theorem d4_34 : decode prog_7_method_2_code 34 = .ok (.getfield 20, 3) := by decide +kernel
theorem d4_37 : decode prog_7_method_2_code 37 = .ok (.iload_n 1, 1) := by decide +kernel
theorem d4_38 : decode prog_7_method_2_code 38 = .ok (.iastore, 1) := by decide +kernel
theorem d4_39 : decode prog_7_method_2_code 39 = .ok (.aload_n 0, 1) := by decide +kernel
theorem d4_40 : decode prog_7_method_2_code 40 = .ok (.getfield 17, 3) := by decide +kernel
theorem d4_43 : decode prog_7_method_2_code 43 = .ok (.aload_n 0, 1) := by decide +kernel
theorem d4_44 : decode prog_7_method_2_code 44 = .ok (.getfield 20, 3) := by decide +kernel
theorem d4_47 : decode prog_7_method_2_code 47 = .ok (.iconst 1, 1) := by decide +kernel
theorem d4_48 : decode prog_7_method_2_code 48 = .ok (.iadd, 1) := by decide +kernel
theorem d4_49 : decode prog_7_method_2_code 49 = .ok (.iload_n 2, 1) := by decide +kernel
theorem d4_50 : decode prog_7_method_2_code 50 = .ok (.iastore, 1) := by decide +kernel
theorem d4_51 : decode prog_7_method_2_code 51 = .ok (.aload_n 0, 1) := by decide +kernel
theorem d4_52 : decode prog_7_method_2_code 52 = .ok (.dup, 1) := by decide +kernel
theorem d4_53 : decode prog_7_method_2_code 53 = .ok (.getfield 20, 3) := by decide +kernel
theorem d4_56 : decode prog_7_method_2_code 56 = .ok (.iconst 2, 1) := by decide +kernel
theorem d4_57 : decode prog_7_method_2_code 57 = .ok (.iadd, 1) := by decide +kernel
theorem d4_58 : decode prog_7_method_2_code 58 = .ok (.putfield 20, 3) := by decide +kernel
theorem d4_61 : decode prog_7_method_2_code 61 = .ok (.iload_n 3, 1) := by decide +kernel
theorem d4_62 : decode prog_7_method_2_code 62 = .ok (.ireturn, 1) := by decide +kernel
def Q_push0 (Z : State) (a : Addr) (x1 : Int32) (y1 : Int32) (bd : Int32) (s0 : Addr) (ks : ClassId) (vs0 : List Value) (d0 : Value) (h0 : Heap) (n0 : Nat) (v : Option Value) (h : Heap) (L : List Loc) : Prop := ∃ b : Addr, ∃ kb : ClassId, ∃ g : Addr, v = some (.int (1 : Int32)) ∧ Fr n0 L ∧ Keep h0 h [a] ∧ h0.size ≤ b ∧ h0.size ≤ g ∧ Arv Z h b kb .int ((2 : Int32) * (own_min (16 : Int32) (own_min (16384 : Int32) bd))) [(.int x1), (.int y1), (.int (0 : Int32)), (.int (0 : Int32))] (.int (0 : Int32)) ∧ Fld Z h a "com/example/dodder/dodder/engine/BoundedStack" "bound" "I" (.int bd) ∧ Fld Z h a "com/example/dodder/dodder/engine/BoundedStack" "segment" "[I" (.ref b) ∧ Fld Z h a "com/example/dodder/dodder/engine/BoundedStack" "used" "I" (.int (2 : Int32)) ∧ Fld Z h a "com/example/dodder/dodder/engine/BoundedStack" "index" "I" (.int (0 : Int32)) ∧ Fld Z h a "com/example/dodder/dodder/engine/BoundedStack" "segments" "[[I" (.ref g)
theorem ef_8 (m : MethodId) (x0 : Addr) (x1 : Int32) (x2 : Int32) : entryFrame m #[(.ref x0), (.int x1), (.int x2)] 4 = mkF m 0 #[.val (.ref x0), .val (.int x1), .val (.int x2), .unset] [] := by first | (simp [entryFrame, mkF, argsToLocals, Value.category]; done) | rfl
abbrev y_6 : MethodName := ⟨"com/example/dodder/dodder/engine/BoundedStack", "push", "(II)Z"⟩
set_option maxRecDepth 65536 in
set_option maxHeartbeats 40000000 in
theorem push0 (l : Launch) (Z : State) (a0 : Array Value) (hw : ∀ d ∈ tables_1, d.before a0 Z = true) (ws : List Jvm.Cond) (a : Addr) (x1 : Int32) (y1 : Int32) (bd : Int32) (s0 : Addr) (ks : ClassId) (vs0 : List Value) (d0 : Value) (h0 : Heap) (n0 : Nat) (O : Old Z n0 h0) (Ea : Exa Z h0 a "com/example/dodder/dodder/engine/BoundedStack") (Fb : Fld Z h0 a "com/example/dodder/dodder/engine/BoundedStack" "bound" "I" (.int bd)) (Fs : Fld Z h0 a "com/example/dodder/dodder/engine/BoundedStack" "segment" "[I" (.ref s0)) (Fu : Fld Z h0 a "com/example/dodder/dodder/engine/BoundedStack" "used" "I" (.int (0 : Int32))) (Fi : Fld Z h0 a "com/example/dodder/dodder/engine/BoundedStack" "index" "I" (.int (0 : Int32))) (Fg : Fld Z h0 a "com/example/dodder/dodder/engine/BoundedStack" "segments" "[[I" .null) (ga : n0 ≤ a) (Vs : Arv Z Z.heap s0 ks .int (0 : Int32) vs0 d0) (hb1 : ¬ (bd < (2 : Int32))) :
    Ctr l Z y_6 prog_7_method_2_code 4 (some .boolean) ws ({ frames := 3, cells := 2, slots := 33, locals := 48 } : Room) #[(.ref a), (.int x1), (.int y1)] h0 (Q_push0 Z a x1 y1 bd s0 ks vs0 d0 h0 n0) := by
  refine MetFree.of_bodySF (plainFor_of_name pn_0) hisR ?_
  intro p e s m args below meth c s₁ Bd hml0 hP hK
  obtain ⟨rfl, hZ, hh⟩ := hP
  have W := fun (i : Nat) {d : Jvm.Cond} (h : tables_1[i]? = some d) => hw d (List.mem_of_getElem? h)
  have hx := Bd.exec
  have hby := Bd.bytes
  have hml : c.maxLocals = 4 := hml0
  have hown : s.vm.findClass "com/example/dodder/dodder/engine/BoundedStack" = some m.cls := findClass_of_methodNamed Bd.named
  have hnm := (name_of_methodNamed Bd.named Bd.method).1
  have X0 : Stand p l e ({ frames := 3, cells := 2, slots := 33, locals := 48 } : Room) s m #[(.ref a), (.int x1), (.int y1)] below meth c s₁ [] 0 0 := Stand.of_body Bd
  have e0 : s₁.heap = h0 := by rw [← hh, Bd.state]; rfl
  have N0 := Fr.nil n0
  have pre0 : ∀ t, Steps p.tables e below (s₁.setTop (mkF m 0 #[.val (.ref a), .val (.int x1), .val (.int y1), .unset] [])) t → Steps p.tables e below (s₁.setTop (entryFrame m #[(.ref a), (.int x1), (.int y1)] 4)) t := fun t kk_ => castTop (ef_8 m a x1 y1) kk_
  have K0 := Keep.refl h0 [a]
  obtain ⟨T1, X1, e1, st1⟩ := getF X0 hx hZ hown (host := "") (Or.inl (W 24 rfl)) Via.refl e0 Fu (g := (mkF m 1 #[rv a, iv x1, iv y1, .unset] [.ref a])) rfl rfl (hb hby d4_1)
  obtain ⟨T2, X2, e2, st2⟩ := getF X1 hx hZ hown (host := "") (Or.inl (W 17 rfl)) Via.refl e1 Fs (g := (mkF m 5 #[rv a, iv x1, iv y1, .unset] [.ref a, .int 0])) rfl rfl (hb hby d4_5)
  obtain ⟨cl3, Ar3, -, S3, Ng3, -, -⟩ := id (Vs.ext O.2)
  have st3 := X2.arraylength hx (by rw [e2]; exact Ar3.1) (State.isArrayOf_alike hZ.alike Ar3.2.1) (g := (mkF m 8 #[rv a, iv x1, iv y1, .unset] [.ref s0, .int 0])) rfl rfl (hb hby d4_8)
  rw [len_of S3 Ng3] at st3
  obtain ⟨cq4, q4, q4'⟩ := Ea.cell
  obtain ⟨_, _, ⟨T4, L4, k4, n4⟩, -, X4, ⟨Lc4, hQ4, l4, y4, z4⟩, st4⟩ := X2.privateBack hx (y := y_5) hown (mvT hZ (W 26 rfl)) (mvT hZ (W 27 rfl)) (own_selpriv hZ (W 5 rfl) (W 27 rfl) (W 28 rfl) (by decide)) (Cond.privateMethod_at (mvP hZ (W 28 rfl) (args := #[]))) (mvT hZ (W 29 rfl)) (by decide) (backOf (W := 0) (room0 l Z a0 hw [] a bd s0 ks vs0 d0 h0 n0 O Ea Fb Fs Fu Fi Fg ga Vs hb1) hZ (W 29 rfl) (W 6 rfl) (by decide) (by decide)) (g := (mkF m 13 #[rv a, iv x1, iv y1, .unset] [.ref a])) rfl (by rw [hml]; rfl) (Steps.refl _) (a := a) (by rw [e2]; exact q4) q4' (argsL := []) (rest := []) (lenOf pd_3 rfl) rfl (by show 2 * 0 + _ ≤ _; exact Nat.le_of_eq rfl) (hb hby d4_13) (fun _ _ => ⟨rfl, e2, (by decide : 0 + 2 ≤ _), (by decide : 0 + 33 ≤ _)⟩)
  dsimp only [Pt.U, Pt.locs, Pt.cells, Pt.slots] at X4 l4 y4 z4 st4 hQ4
  subst l4 y4 z4
  obtain ⟨h4, e4⟩ : ∃ z, T4.heap = z := ⟨_, rfl⟩
  rw [e4] at hQ4
  obtain ⟨b4b, b4kb, b4g, rfl, N4q, p4_0, p4_1, p4_2, p4_3, p4_4, p4_5, p4_6, p4_7, p4_8⟩ := hQ4
  have N4 := Fr.app N0 N4q
  have g_b4b : n0 ≤ b4b := Nat.le_trans (own_sz O) p4_1
  have sz_b4b : h0.size ≤ b4b := Nat.le_trans K0.1 p4_1
  have ne_a_b4b : a ≠ b4b := Nat.ne_of_lt (Nat.lt_of_lt_of_le Ea.lt p4_1)
  have sz_b4g : h0.size ≤ b4g := Nat.le_trans K0.1 p4_2
  have Ea := Ea.keep p4_0
  have K6 := K0.trans p4_0 (allS (Or.inl (List.mem_of_getElem? (i := 0) rfl)) all0)
  obtain ⟨T7, X7, e7, st7⟩ := getF X4 hx hZ hown (host := "") (Or.inl (W 17 rfl)) Via.refl e4 p4_5 (g := (mkF m 30 #[rv a, iv x1, iv y1, iv 1] [.ref a])) rfl rfl (hb hby d4_30)
  obtain ⟨T8, X8, e8, st8⟩ := getF X7 hx hZ hown (host := "") (Or.inl (W 24 rfl)) Via.refl e7 p4_6 (g := (mkF m 34 #[rv a, iv x1, iv y1, iv 1] [.ref a, .ref b4b])) rfl rfl (hb hby d4_34)
  obtain ⟨cl9, Ar9, q9, S9, Ng9, Hh9, Gg9⟩ := id p4_3
  obtain ⟨T9, h9, X9, e9, W9, st9⟩ := stI X8 hx hZ e8 Ar9 (j := (0 : Int32)) (inb_of S9 (own_in (own_L hb1).1 (by decide) (by decide))) (g := (mkF m 38 #[rv a, iv x1, iv y1, iv 1] [.int x1, .int 0, .ref b4b])) rfl rfl (hb hby d4_38)
  have V9 : Arv Z h9 b4b b4kb .int ((2 : Int32) * (own_min (16 : Int32) (own_min (16384 : Int32) bd))) [(.int x1), (.int (0 : Int32)), (.int (0 : Int32)), (.int (0 : Int32))] (.int (0 : Int32)) := Arv.set Ar9 q9 S9 Ng9 Hh9 Gg9 rfl W9 0 rfl (Nat.le_of_ble_eq_true rfl)
  have Ea := Ea.wr W9
  have p4_4 := p4_4.other W9 (Or.inl ne_a_b4b)
  have p4_5 := p4_5.other W9 (Or.inl ne_a_b4b)
  have p4_6 := p4_6.other W9 (Or.inl ne_a_b4b)
  have p4_7 := p4_7.other W9 (Or.inl ne_a_b4b)
  have p4_8 := p4_8.other W9 (Or.inl ne_a_b4b)
  have K11 := K6.wr W9 (Or.inr sz_b4b)
  have N12 := Fr.snoc X9 N4 g_b4b
  obtain ⟨T13, X13, e13, st13⟩ := getF X9 hx hZ hown (host := "") (Or.inl (W 17 rfl)) Via.refl e9 p4_5 (g := (mkF m 40 #[rv a, iv x1, iv y1, iv 1] [.ref a])) rfl rfl (hb hby d4_40)
  obtain ⟨T14, X14, e14, st14⟩ := getF X13 hx hZ hown (host := "") (Or.inl (W 24 rfl)) Via.refl e13 p4_6 (g := (mkF m 44 #[rv a, iv x1, iv y1, iv 1] [.ref a, .ref b4b])) rfl rfl (hb hby d4_44)
  obtain ⟨cl15, Ar15, q15, S15, Ng15, Hh15, Gg15⟩ := id V9
  obtain ⟨T15, h15, X15, e15, W15, st15⟩ := stI X14 hx hZ e14 Ar15 (j := (1 : Int32)) (inb_of S15 (own_in (own_L hb1).1 (by decide) (by decide))) (g := (mkF m 50 #[rv a, iv x1, iv y1, iv 1] [.int y1, .int 1, .ref b4b])) rfl rfl (hb hby d4_50)
  have V15 : Arv Z h15 b4b b4kb .int ((2 : Int32) * (own_min (16 : Int32) (own_min (16384 : Int32) bd))) [(.int x1), (.int y1), (.int (0 : Int32)), (.int (0 : Int32))] (.int (0 : Int32)) := Arv.set Ar15 q15 S15 Ng15 Hh15 Gg15 rfl W15 1 rfl (Nat.le_of_ble_eq_true rfl)
  have Ea := Ea.wr W15
  have p4_4 := p4_4.other W15 (Or.inl ne_a_b4b)
  have p4_5 := p4_5.other W15 (Or.inl ne_a_b4b)
  have p4_6 := p4_6.other W15 (Or.inl ne_a_b4b)
  have p4_7 := p4_7.other W15 (Or.inl ne_a_b4b)
  have p4_8 := p4_8.other W15 (Or.inl ne_a_b4b)
  have K17 := K11.wr W15 (Or.inr sz_b4b)
  have N18 := Fr.snoc X15 N12 g_b4b
  obtain ⟨T19, X19, e19, st19⟩ := getF X15 hx hZ hown (host := "") (Or.inl (W 24 rfl)) Via.refl e15 p4_6 (g := (mkF m 53 #[rv a, iv x1, iv y1, iv 1] [.ref a, .ref a])) rfl rfl (hb hby d4_53)
  obtain ⟨T20, h20, X20, e20, W20, st20⟩ := putF X19 hx hZ hown (host := "") (Or.inl (W 24 rfl)) Via.refl e19 p4_6 Ea (Or.inl (W 25 rfl)) (W 5 rfl) (ty := .int) (by decide) rfl rfl (g := (mkF m 58 #[rv a, iv x1, iv y1, iv 1] [.int 2, .ref a])) rfl rfl (hb hby d4_58)
  have Fz20 := p4_6.same W20
  have p4_4 := p4_4.other W20 (Or.inr (slot_ne (Or.inr (W 14 rfl)) (Or.inl (W 25 rfl)) (by decide) (t := .int) (t' := .int) (by decide) (by decide)))
  have p4_5 := p4_5.other W20 (Or.inr (slot_ne (Or.inl (W 18 rfl)) (Or.inl (W 25 rfl)) (by decide) (t := (.array .int)) (t' := .int) (by decide) (by decide)))
  have p4_7 := p4_7.other W20 (Or.inr (slot_ne (Or.inl (W 36 rfl)) (Or.inl (W 25 rfl)) (by decide) (t := .int) (t' := .int) (by decide) (by decide)))
  have p4_8 := p4_8.other W20 (Or.inr (slot_ne (Or.inl (W 52 rfl)) (Or.inl (W 25 rfl)) (by decide) (t := (.array (.array .int))) (t' := .int) (by decide) (by decide)))
  have V15 := V15.other W20 (Ne.symm ne_a_b4b)
  have K22 := K17.wr W20 (Or.inl (List.mem_of_getElem? (i := 0) rfl))
  have N23 := Fr.snoc X20 N18 ga
  obtain ⟨fs, hr, hrun, hended, hW, hsame⟩ := X20.leave (v := some (.int (1 : Int32))) (fun h => by rw [Bd.returns] at h; cases h)
  refine ⟨_, _, pre0 _ ?_, hrun, hended, _, _, rfl, ?_, ⟨_, rfl⟩, hW, hsame.mono (by decide) (by decide)⟩
  · show Sq p e below m s₁ 0 #[rv a, iv x1, iv y1, .unset] [] _
    refine XS.aloadN X0.here hx rfl (hb hby d4_0) rfl rfl ?_
    show Sq p e below m s₁ 1 #[rv a, iv x1, iv y1, .unset] [.ref a] _
    refine st1 _ ?_
    show Sq p e below m T1 4 #[rv a, iv x1, iv y1, .unset] [.int 0] _
    refine XS.aloadN X1.here hx rfl (hb hby d4_4) rfl rfl ?_
    show Sq p e below m T1 5 #[rv a, iv x1, iv y1, .unset] [.ref a, .int 0] _
    refine st2 _ ?_
    show Sq p e below m T2 8 #[rv a, iv x1, iv y1, .unset] [.ref s0, .int 0] _
    refine st3 _ ?_
    show Sq p e below m T2 9 #[rv a, iv x1, iv y1, .unset] [.int 0, .int 0] _
    refine XS.icmpNo X2.here hx rfl (hb hby d4_9) rfl (flt (by decide)).1 ?_
    refine XS.aloadN X2.here hx rfl (hb hby d4_12) rfl rfl ?_
    show Sq p e below m T2 13 #[rv a, iv x1, iv y1, .unset] [.ref a] _
    refine st4.trans ?_
    show Sq p e below m T4 16 #[rv a, iv x1, iv y1, .unset] [.int 1] _
    refine XS.ifNo X4.here hx rfl (hb hby d4_16) rfl ((if0 _ _).trans (feq (by decide)).1) ?_
    refine XS.iconst X4.here hx rfl (hb hby d4_19) ?_
    show Sq p e below m T4 20 #[rv a, iv x1, iv y1, .unset] [.int 1] _
    refine XS.goto X4.here hx rfl (pc0 := 20) (pc' := 24) rfl (hb hby d4_20) (by decide) (by decide) ?_
    refine XS.istoreN X4.here hx rfl (hb hby d4_24) rfl rfl ?_
    show Sq p e below m T4 25 #[rv a, iv x1, iv y1, iv 1] [] _
    refine XS.iloadN X4.here hx rfl (hb hby d4_25) rfl ?_
    refine XS.ifNo X4.here hx rfl (hb hby d4_26) rfl ((if0 _ _).trans (feq (by decide)).1) ?_
    show Sq p e below m T4 29 #[rv a, iv x1, iv y1, iv 1] [] _
    refine XS.aloadN X4.here hx rfl (hb hby d4_29) rfl rfl ?_
    show Sq p e below m T4 30 #[rv a, iv x1, iv y1, iv 1] [.ref a] _
    refine st7 _ ?_
    show Sq p e below m T7 33 #[rv a, iv x1, iv y1, iv 1] [.ref b4b] _
    refine XS.aloadN X7.here hx rfl (hb hby d4_33) rfl rfl ?_
    show Sq p e below m T7 34 #[rv a, iv x1, iv y1, iv 1] [.ref a, .ref b4b] _
    refine st8 _ ?_
    show Sq p e below m T8 37 #[rv a, iv x1, iv y1, iv 1] [.int 0, .ref b4b] _
    refine XS.iloadN X8.here hx rfl (hb hby d4_37) rfl ?_
    show Sq p e below m T8 38 #[rv a, iv x1, iv y1, iv 1] [.int x1, .int 0, .ref b4b] _
    refine st9 _ ?_
    show Sq p e below m T9 39 #[rv a, iv x1, iv y1, iv 1] [] _
    refine XS.aloadN X9.here hx rfl (hb hby d4_39) rfl rfl ?_
    show Sq p e below m T9 40 #[rv a, iv x1, iv y1, iv 1] [.ref a] _
    refine st13 _ ?_
    show Sq p e below m T13 43 #[rv a, iv x1, iv y1, iv 1] [.ref b4b] _
    refine XS.aloadN X13.here hx rfl (hb hby d4_43) rfl rfl ?_
    show Sq p e below m T13 44 #[rv a, iv x1, iv y1, iv 1] [.ref a, .ref b4b] _
    refine st14 _ ?_
    show Sq p e below m T14 47 #[rv a, iv x1, iv y1, iv 1] [.int 0, .ref b4b] _
    refine XS.iconst X14.here hx rfl (hb hby d4_47) ?_
    refine XS.iadd X14.here hx rfl (hb hby d4_48) rfl ?_
    show Sq p e below m T14 49 #[rv a, iv x1, iv y1, iv 1] [.int ((0 : Int32) + (1 : Int32)), .ref b4b] _
    rw [show ((0 : Int32) + (1 : Int32)) = (1 : Int32) from by decide]
    show Sq p e below m T14 49 #[rv a, iv x1, iv y1, iv 1] [.int 1, .ref b4b] _
    refine XS.iloadN X14.here hx rfl (hb hby d4_49) rfl ?_
    show Sq p e below m T14 50 #[rv a, iv x1, iv y1, iv 1] [.int y1, .int 1, .ref b4b] _
    refine st15 _ ?_
    show Sq p e below m T15 51 #[rv a, iv x1, iv y1, iv 1] [] _
    refine XS.aloadN X15.here hx rfl (hb hby d4_51) rfl rfl ?_
    refine XS.dup X15.here hx rfl (hb hby d4_52) rfl rfl ?_
    show Sq p e below m T15 53 #[rv a, iv x1, iv y1, iv 1] [.ref a, .ref a] _
    refine st19 _ ?_
    show Sq p e below m T19 56 #[rv a, iv x1, iv y1, iv 1] [.int 0, .ref a] _
    refine XS.iconst X19.here hx rfl (hb hby d4_56) ?_
    refine XS.iadd X19.here hx rfl (hb hby d4_57) rfl ?_
    show Sq p e below m T19 58 #[rv a, iv x1, iv y1, iv 1] [.int ((0 : Int32) + (2 : Int32)), .ref a] _
    rw [show ((0 : Int32) + (2 : Int32)) = (2 : Int32) from by decide]
    show Sq p e below m T19 58 #[rv a, iv x1, iv y1, iv 1] [.int 2, .ref a] _
    refine st20 _ ?_
    show Sq p e below m T20 61 #[rv a, iv x1, iv y1, iv 1] [] _
    refine XS.iloadN X20.here hx rfl (hb hby d4_61) rfl ?_
    show Sq p e below m T20 62 #[rv a, iv x1, iv y1, iv 1] [.int 1] _
    exact retN X20 hx (t := .boolean) Bd.returns (by simp) (hb hby d4_62) hr
  · show Q_push0 Z a x1 y1 bd s0 ks vs0 d0 h0 n0 _ T20.heap _
    rw [e20]
    exact ⟨b4b, b4kb, b4g, rfl, N23, K22, sz_b4b, sz_b4g, V15, p4_4, p4_5, Fz20, p4_7, p4_8⟩
def Q_push2 (Z : State) (a : Addr) (x1 : Int32) (y1 : Int32) (b : Addr) (kb : ClassId) (n : Int32) (w0 : Value) (w1 : Value) (w2 : Value) (w3 : Value) (h0 : Heap) (n0 : Nat) (v : Option Value) (h : Heap) (L : List Loc) : Prop := v = some (.int (1 : Int32)) ∧ Fr n0 L ∧ Keep h0 h [a, b] ∧ Fld Z h a "com/example/dodder/dodder/engine/BoundedStack" "segment" "[I" (.ref b) ∧ Fld Z h a "com/example/dodder/dodder/engine/BoundedStack" "used" "I" (.int (4 : Int32)) ∧ Fld Z h a "com/example/dodder/dodder/engine/BoundedStack" "index" "I" (.int (0 : Int32)) ∧ Arv Z h b kb .int n [w0, w1, (.int x1), (.int y1)] (.int (0 : Int32))
set_option maxRecDepth 65536 in
set_option maxHeartbeats 40000000 in
theorem push2 (l : Launch) (Z : State) (a0 : Array Value) (hw : ∀ d ∈ tables_1, d.before a0 Z = true) (ws : List Jvm.Cond) (a : Addr) (x1 : Int32) (y1 : Int32) (b : Addr) (kb : ClassId) (n : Int32) (w0 : Value) (w1 : Value) (w2 : Value) (w3 : Value) (h0 : Heap) (n0 : Nat) (O : Old Z n0 h0) (Ea : Exa Z h0 a "com/example/dodder/dodder/engine/BoundedStack") (Fs : Fld Z h0 a "com/example/dodder/dodder/engine/BoundedStack" "segment" "[I" (.ref b)) (Fu : Fld Z h0 a "com/example/dodder/dodder/engine/BoundedStack" "used" "I" (.int (2 : Int32))) (Fi : Fld Z h0 a "com/example/dodder/dodder/engine/BoundedStack" "index" "I" (.int (0 : Int32))) (Vb : Arv Z h0 b kb .int n [w0, w1, w2, w3] (.int (0 : Int32))) (ga : n0 ≤ a) (gb : n0 ≤ b) (nab : a ≠ b) (hL : (3 : Int32) < n) :
    Ctr l Z y_6 prog_7_method_2_code 4 (some .boolean) ws ({ frames := 0, cells := 0, slots := 0, locals := 0 } : Room) #[(.ref a), (.int x1), (.int y1)] h0 (Q_push2 Z a x1 y1 b kb n w0 w1 w2 w3 h0 n0) := by
  refine MetFree.of_bodySF (plainFor_of_name pn_0) hisR ?_
  intro p e s m args below meth c s₁ Bd hml0 hP hK
  obtain ⟨rfl, hZ, hh⟩ := hP
  have W := fun (i : Nat) {d : Jvm.Cond} (h : tables_1[i]? = some d) => hw d (List.mem_of_getElem? h)
  have hx := Bd.exec
  have hby := Bd.bytes
  have hml : c.maxLocals = 4 := hml0
  have hown : s.vm.findClass "com/example/dodder/dodder/engine/BoundedStack" = some m.cls := findClass_of_methodNamed Bd.named
  have hnm := (name_of_methodNamed Bd.named Bd.method).1
  have X0 : Stand p l e ({ frames := 0, cells := 0, slots := 0, locals := 0 } : Room) s m #[(.ref a), (.int x1), (.int y1)] below meth c s₁ [] 0 0 := Stand.of_body Bd
  have e0 : s₁.heap = h0 := by rw [← hh, Bd.state]; rfl
  have N0 := Fr.nil n0
  have pre0 : ∀ t, Steps p.tables e below (s₁.setTop (mkF m 0 #[.val (.ref a), .val (.int x1), .val (.int y1), .unset] [])) t → Steps p.tables e below (s₁.setTop (entryFrame m #[(.ref a), (.int x1), (.int y1)] 4)) t := fun t kk_ => castTop (ef_8 m a x1 y1) kk_
  have K0 := Keep.refl h0 [a, b]
  obtain ⟨T1, X1, e1, st1⟩ := getF X0 hx hZ hown (host := "") (Or.inl (W 24 rfl)) Via.refl e0 Fu (g := (mkF m 1 #[rv a, iv x1, iv y1, .unset] [.ref a])) rfl rfl (hb hby d4_1)
  obtain ⟨T2, X2, e2, st2⟩ := getF X1 hx hZ hown (host := "") (Or.inl (W 17 rfl)) Via.refl e1 Fs (g := (mkF m 5 #[rv a, iv x1, iv y1, .unset] [.ref a, .int 2])) rfl rfl (hb hby d4_5)
  obtain ⟨cl3, Ar3, -, S3, Ng3, -, -⟩ := id Vb
  have st3 := X2.arraylength hx (by rw [e2]; exact Ar3.1) (State.isArrayOf_alike hZ.alike Ar3.2.1) (g := (mkF m 8 #[rv a, iv x1, iv y1, .unset] [.ref b, .int 2])) rfl rfl (hb hby d4_8)
  rw [len_of S3 Ng3] at st3
  obtain ⟨T4, X4, e4, st4⟩ := getF X2 hx hZ hown (host := "") (Or.inl (W 17 rfl)) Via.refl e2 Fs (g := (mkF m 30 #[rv a, iv x1, iv y1, iv 1] [.ref a])) rfl rfl (hb hby d4_30)
  obtain ⟨T5, X5, e5, st5⟩ := getF X4 hx hZ hown (host := "") (Or.inl (W 24 rfl)) Via.refl e4 Fu (g := (mkF m 34 #[rv a, iv x1, iv y1, iv 1] [.ref a, .ref b])) rfl rfl (hb hby d4_34)
  obtain ⟨cl6, Ar6, q6, S6, Ng6, Hh6, Gg6⟩ := id Vb
  obtain ⟨T6, h6, X6, e6, W6, st6⟩ := stI X5 hx hZ e5 Ar6 (j := (2 : Int32)) (inb_of S6 (own_in hL (by decide) (by decide))) (g := (mkF m 38 #[rv a, iv x1, iv y1, iv 1] [.int x1, .int 2, .ref b])) rfl rfl (hb hby d4_38)
  have V6 : Arv Z h6 b kb .int n [w0, w1, (.int x1), w3] (.int (0 : Int32)) := Arv.set Ar6 q6 S6 Ng6 Hh6 Gg6 rfl W6 2 rfl (Nat.le_of_ble_eq_true rfl)
  have Ea := Ea.wr W6
  have Fs := Fs.other W6 (Or.inl nab)
  have Fu := Fu.other W6 (Or.inl nab)
  have Fi := Fi.other W6 (Or.inl nab)
  have K8 := K0.wr W6 (Or.inl (List.mem_of_getElem? (i := 1) rfl))
  have N9 := Fr.snoc X6 N0 gb
  obtain ⟨T10, X10, e10, st10⟩ := getF X6 hx hZ hown (host := "") (Or.inl (W 17 rfl)) Via.refl e6 Fs (g := (mkF m 40 #[rv a, iv x1, iv y1, iv 1] [.ref a])) rfl rfl (hb hby d4_40)
  obtain ⟨T11, X11, e11, st11⟩ := getF X10 hx hZ hown (host := "") (Or.inl (W 24 rfl)) Via.refl e10 Fu (g := (mkF m 44 #[rv a, iv x1, iv y1, iv 1] [.ref a, .ref b])) rfl rfl (hb hby d4_44)
  obtain ⟨cl12, Ar12, q12, S12, Ng12, Hh12, Gg12⟩ := id V6
  obtain ⟨T12, h12, X12, e12, W12, st12⟩ := stI X11 hx hZ e11 Ar12 (j := (3 : Int32)) (inb_of S12 (own_in hL (by decide) (by decide))) (g := (mkF m 50 #[rv a, iv x1, iv y1, iv 1] [.int y1, .int 3, .ref b])) rfl rfl (hb hby d4_50)
  have V12 : Arv Z h12 b kb .int n [w0, w1, (.int x1), (.int y1)] (.int (0 : Int32)) := Arv.set Ar12 q12 S12 Ng12 Hh12 Gg12 rfl W12 3 rfl (Nat.le_of_ble_eq_true rfl)
  have Ea := Ea.wr W12
  have Fs := Fs.other W12 (Or.inl nab)
  have Fu := Fu.other W12 (Or.inl nab)
  have Fi := Fi.other W12 (Or.inl nab)
  have K14 := K8.wr W12 (Or.inl (List.mem_of_getElem? (i := 1) rfl))
  have N15 := Fr.snoc X12 N9 gb
  obtain ⟨T16, X16, e16, st16⟩ := getF X12 hx hZ hown (host := "") (Or.inl (W 24 rfl)) Via.refl e12 Fu (g := (mkF m 53 #[rv a, iv x1, iv y1, iv 1] [.ref a, .ref a])) rfl rfl (hb hby d4_53)
  obtain ⟨T17, h17, X17, e17, W17, st17⟩ := putF X16 hx hZ hown (host := "") (Or.inl (W 24 rfl)) Via.refl e16 Fu Ea (Or.inl (W 25 rfl)) (W 5 rfl) (ty := .int) (by decide) rfl rfl (g := (mkF m 58 #[rv a, iv x1, iv y1, iv 1] [.int 4, .ref a])) rfl rfl (hb hby d4_58)
  have Fz17 := Fu.same W17
  have Fs := Fs.other W17 (Or.inr (slot_ne (Or.inl (W 18 rfl)) (Or.inl (W 25 rfl)) (by decide) (t := (.array .int)) (t' := .int) (by decide) (by decide)))
  have Fi := Fi.other W17 (Or.inr (slot_ne (Or.inl (W 36 rfl)) (Or.inl (W 25 rfl)) (by decide) (t := .int) (t' := .int) (by decide) (by decide)))
  have V12 := V12.other W17 (Ne.symm nab)
  have K19 := K14.wr W17 (Or.inl (List.mem_of_getElem? (i := 0) rfl))
  have N20 := Fr.snoc X17 N15 ga
  obtain ⟨fs, hr, hrun, hended, hW, hsame⟩ := X17.leave (v := some (.int (1 : Int32))) (fun h => by rw [Bd.returns] at h; cases h)
  refine ⟨_, _, pre0 _ ?_, hrun, hended, _, _, rfl, ?_, ⟨_, rfl⟩, hW, hsame.mono (by decide) (by decide)⟩
  · show Sq p e below m s₁ 0 #[rv a, iv x1, iv y1, .unset] [] _
    refine XS.aloadN X0.here hx rfl (hb hby d4_0) rfl rfl ?_
    show Sq p e below m s₁ 1 #[rv a, iv x1, iv y1, .unset] [.ref a] _
    refine st1 _ ?_
    show Sq p e below m T1 4 #[rv a, iv x1, iv y1, .unset] [.int 2] _
    refine XS.aloadN X1.here hx rfl (hb hby d4_4) rfl rfl ?_
    show Sq p e below m T1 5 #[rv a, iv x1, iv y1, .unset] [.ref a, .int 2] _
    refine st2 _ ?_
    show Sq p e below m T2 8 #[rv a, iv x1, iv y1, .unset] [.ref b, .int 2] _
    refine st3 _ ?_
    show Sq p e below m T2 9 #[rv a, iv x1, iv y1, .unset] [.int n, .int 2] _
    refine XS.icmpYes X2.here hx rfl (pc0 := 9) (pc' := 19) rfl (hb hby d4_9) rfl (tlt (own_lt2 hL : (2 : Int32) < n)).1 (by decide) (by decide) ?_
    refine XS.iconst X2.here hx rfl (hb hby d4_19) ?_
    show Sq p e below m T2 20 #[rv a, iv x1, iv y1, .unset] [.int 1] _
    refine XS.goto X2.here hx rfl (pc0 := 20) (pc' := 24) rfl (hb hby d4_20) (by decide) (by decide) ?_
    refine XS.istoreN X2.here hx rfl (hb hby d4_24) rfl rfl ?_
    show Sq p e below m T2 25 #[rv a, iv x1, iv y1, iv 1] [] _
    refine XS.iloadN X2.here hx rfl (hb hby d4_25) rfl ?_
    refine XS.ifNo X2.here hx rfl (hb hby d4_26) rfl ((if0 _ _).trans (feq (by decide)).1) ?_
    show Sq p e below m T2 29 #[rv a, iv x1, iv y1, iv 1] [] _
    refine XS.aloadN X2.here hx rfl (hb hby d4_29) rfl rfl ?_
    show Sq p e below m T2 30 #[rv a, iv x1, iv y1, iv 1] [.ref a] _
    refine st4 _ ?_
    show Sq p e below m T4 33 #[rv a, iv x1, iv y1, iv 1] [.ref b] _
    refine XS.aloadN X4.here hx rfl (hb hby d4_33) rfl rfl ?_
    show Sq p e below m T4 34 #[rv a, iv x1, iv y1, iv 1] [.ref a, .ref b] _
    refine st5 _ ?_
    show Sq p e below m T5 37 #[rv a, iv x1, iv y1, iv 1] [.int 2, .ref b] _
    refine XS.iloadN X5.here hx rfl (hb hby d4_37) rfl ?_
    show Sq p e below m T5 38 #[rv a, iv x1, iv y1, iv 1] [.int x1, .int 2, .ref b] _
    refine st6 _ ?_
    show Sq p e below m T6 39 #[rv a, iv x1, iv y1, iv 1] [] _
    refine XS.aloadN X6.here hx rfl (hb hby d4_39) rfl rfl ?_
    show Sq p e below m T6 40 #[rv a, iv x1, iv y1, iv 1] [.ref a] _
    refine st10 _ ?_
    show Sq p e below m T10 43 #[rv a, iv x1, iv y1, iv 1] [.ref b] _
    refine XS.aloadN X10.here hx rfl (hb hby d4_43) rfl rfl ?_
    show Sq p e below m T10 44 #[rv a, iv x1, iv y1, iv 1] [.ref a, .ref b] _
    refine st11 _ ?_
    show Sq p e below m T11 47 #[rv a, iv x1, iv y1, iv 1] [.int 2, .ref b] _
    refine XS.iconst X11.here hx rfl (hb hby d4_47) ?_
    refine XS.iadd X11.here hx rfl (hb hby d4_48) rfl ?_
    show Sq p e below m T11 49 #[rv a, iv x1, iv y1, iv 1] [.int ((2 : Int32) + (1 : Int32)), .ref b] _
    rw [show ((2 : Int32) + (1 : Int32)) = (3 : Int32) from by decide]
    show Sq p e below m T11 49 #[rv a, iv x1, iv y1, iv 1] [.int 3, .ref b] _
    refine XS.iloadN X11.here hx rfl (hb hby d4_49) rfl ?_
    show Sq p e below m T11 50 #[rv a, iv x1, iv y1, iv 1] [.int y1, .int 3, .ref b] _
    refine st12 _ ?_
    show Sq p e below m T12 51 #[rv a, iv x1, iv y1, iv 1] [] _
    refine XS.aloadN X12.here hx rfl (hb hby d4_51) rfl rfl ?_
    refine XS.dup X12.here hx rfl (hb hby d4_52) rfl rfl ?_
    show Sq p e below m T12 53 #[rv a, iv x1, iv y1, iv 1] [.ref a, .ref a] _
    refine st16 _ ?_
    show Sq p e below m T16 56 #[rv a, iv x1, iv y1, iv 1] [.int 2, .ref a] _
    refine XS.iconst X16.here hx rfl (hb hby d4_56) ?_
    refine XS.iadd X16.here hx rfl (hb hby d4_57) rfl ?_
    show Sq p e below m T16 58 #[rv a, iv x1, iv y1, iv 1] [.int ((2 : Int32) + (2 : Int32)), .ref a] _
    rw [show ((2 : Int32) + (2 : Int32)) = (4 : Int32) from by decide]
    show Sq p e below m T16 58 #[rv a, iv x1, iv y1, iv 1] [.int 4, .ref a] _
    refine st17 _ ?_
    show Sq p e below m T17 61 #[rv a, iv x1, iv y1, iv 1] [] _
    refine XS.iloadN X17.here hx rfl (hb hby d4_61) rfl ?_
    show Sq p e below m T17 62 #[rv a, iv x1, iv y1, iv 1] [.int 1] _
    exact retN X17 hx (t := .boolean) Bd.returns (by simp) (hb hby d4_62) hr
  · show Q_push2 Z a x1 y1 b kb n w0 w1 w2 w3 h0 n0 _ T17.heap _
    rw [e17]
    exact ⟨rfl, N20, K19, Fs, Fz17, Fi, V12⟩
theorem d9_0 : decode prog_7_method_3_code 0 = .ok (.aload_n 0, 1) := by decide +kernel
theorem d9_1 : decode prog_7_method_3_code 1 = .ok (.getfield 20, 3) := by decide +kernel
theorem d9_4 : decode prog_7_method_3_code 4 = .ok (.ifCond .ne 35, 3) := by decide +kernel
theorem d9_39 : decode prog_7_method_3_code 39 = .ok (.aload_n 0, 1) := by decide +kernel
theorem d9_40 : decode prog_7_method_3_code 40 = .ok (.dup, 1) := by decide +kernel
theorem d9_41 : decode prog_7_method_3_code 41 = .ok (.getfield 20, 3) := by decide +kernel
theorem d9_44 : decode prog_7_method_3_code 44 = .ok (.iconst 2, 1) := by decide +kernel
theorem d9_45 : decode prog_7_method_3_code 45 = .ok (.isub, 1) := by decide +kernel
theorem d9_46 : decode prog_7_method_3_code 46 = .ok (.putfield 20, 3) := by decide +kernel
theorem d9_49 : decode prog_7_method_3_code 49 = .ok (.return_, 1) := by decide +kernel
def Q_pop4 (Z : State) (a : Addr) (b : Addr) (h0 : Heap) (n0 : Nat) (v : Option Value) (h : Heap) (L : List Loc) : Prop := v = none ∧ Fr n0 L ∧ Keep h0 h [a] ∧ Fld Z h a "com/example/dodder/dodder/engine/BoundedStack" "segment" "[I" (.ref b) ∧ Fld Z h a "com/example/dodder/dodder/engine/BoundedStack" "used" "I" (.int (2 : Int32)) ∧ Fld Z h a "com/example/dodder/dodder/engine/BoundedStack" "index" "I" (.int (0 : Int32))
theorem ef_9 (m : MethodId) (x0 : Addr) : entryFrame m #[(.ref x0)] 1 = mkF m 0 #[.val (.ref x0)] [] := by first | (simp [entryFrame, mkF, argsToLocals, Value.category]; done) | rfl
abbrev y_7 : MethodName := ⟨"com/example/dodder/dodder/engine/BoundedStack", "pop", "()V"⟩
set_option maxRecDepth 65536 in
set_option maxHeartbeats 40000000 in
theorem pop4 (l : Launch) (Z : State) (a0 : Array Value) (hw : ∀ d ∈ tables_1, d.before a0 Z = true) (ws : List Jvm.Cond) (a : Addr) (b : Addr) (h0 : Heap) (n0 : Nat) (O : Old Z n0 h0) (Ea : Exa Z h0 a "com/example/dodder/dodder/engine/BoundedStack") (Fs : Fld Z h0 a "com/example/dodder/dodder/engine/BoundedStack" "segment" "[I" (.ref b)) (Fu : Fld Z h0 a "com/example/dodder/dodder/engine/BoundedStack" "used" "I" (.int (4 : Int32))) (Fi : Fld Z h0 a "com/example/dodder/dodder/engine/BoundedStack" "index" "I" (.int (0 : Int32))) (ga : n0 ≤ a) :
    Ctr l Z y_7 prog_7_method_3_code 1 none ws ({ frames := 0, cells := 0, slots := 0, locals := 0 } : Room) #[(.ref a)] h0 (Q_pop4 Z a b h0 n0) := by
  refine MetFree.of_bodySF (plainFor_of_name pn_0) hisR ?_
  intro p e s m args below meth c s₁ Bd hml0 hP hK
  obtain ⟨rfl, hZ, hh⟩ := hP
  have W := fun (i : Nat) {d : Jvm.Cond} (h : tables_1[i]? = some d) => hw d (List.mem_of_getElem? h)
  have hx := Bd.exec
  have hby := Bd.bytes
  have hml : c.maxLocals = 1 := hml0
  have hown : s.vm.findClass "com/example/dodder/dodder/engine/BoundedStack" = some m.cls := findClass_of_methodNamed Bd.named
  have hnm := (name_of_methodNamed Bd.named Bd.method).1
  have X0 : Stand p l e ({ frames := 0, cells := 0, slots := 0, locals := 0 } : Room) s m #[(.ref a)] below meth c s₁ [] 0 0 := Stand.of_body Bd
  have e0 : s₁.heap = h0 := by rw [← hh, Bd.state]; rfl
  have N0 := Fr.nil n0
  have pre0 : ∀ t, Steps p.tables e below (s₁.setTop (mkF m 0 #[.val (.ref a)] [])) t → Steps p.tables e below (s₁.setTop (entryFrame m #[(.ref a)] 1)) t := fun t kk_ => castTop (ef_9 m a) kk_
  have K0 := Keep.refl h0 [a]
  obtain ⟨T1, X1, e1, st1⟩ := getF X0 hx hZ hown (host := "") (Or.inl (W 24 rfl)) Via.refl e0 Fu (g := (mkF m 1 #[rv a] [.ref a])) rfl rfl (hb hby d9_1)
  obtain ⟨T2, X2, e2, st2⟩ := getF X1 hx hZ hown (host := "") (Or.inl (W 24 rfl)) Via.refl e1 Fu (g := (mkF m 41 #[rv a] [.ref a, .ref a])) rfl rfl (hb hby d9_41)
  obtain ⟨T3, h3, X3, e3, W3, st3⟩ := putF X2 hx hZ hown (host := "") (Or.inl (W 24 rfl)) Via.refl e2 Fu Ea (Or.inl (W 25 rfl)) (W 5 rfl) (ty := .int) (by decide) rfl rfl (g := (mkF m 46 #[rv a] [.int 2, .ref a])) rfl rfl (hb hby d9_46)
  have Fz3 := Fu.same W3
  have Fs := Fs.other W3 (Or.inr (slot_ne (Or.inl (W 18 rfl)) (Or.inl (W 25 rfl)) (by decide) (t := (.array .int)) (t' := .int) (by decide) (by decide)))
  have Fi := Fi.other W3 (Or.inr (slot_ne (Or.inl (W 36 rfl)) (Or.inl (W 25 rfl)) (by decide) (t := .int) (t' := .int) (by decide) (by decide)))
  have K5 := K0.wr W3 (Or.inl (List.mem_of_getElem? (i := 0) rfl))
  have N6 := Fr.snoc X3 N0 ga
  obtain ⟨fs, hr, hrun, hended, hW, hsame⟩ := X3.leave (v := none) (fun _ => rfl)
  refine ⟨_, _, pre0 _ ?_, hrun, hended, _, _, rfl, ?_, ⟨_, rfl⟩, hW, hsame.mono (by decide) (by decide)⟩
  · show Sq p e below m s₁ 0 #[rv a] [] _
    refine XS.aloadN X0.here hx rfl (hb hby d9_0) rfl rfl ?_
    show Sq p e below m s₁ 1 #[rv a] [.ref a] _
    refine st1 _ ?_
    show Sq p e below m T1 4 #[rv a] [.int 4] _
    refine XS.ifYes X1.here hx rfl (pc0 := 4) (pc' := 39) rfl (hb hby d9_4) rfl ((if0 _ _).trans (feq (by decide)).2) (by decide) (by decide) ?_
    refine XS.aloadN X1.here hx rfl (hb hby d9_39) rfl rfl ?_
    show Sq p e below m T1 40 #[rv a] [.ref a] _
    refine XS.dup X1.here hx rfl (hb hby d9_40) rfl rfl ?_
    show Sq p e below m T1 41 #[rv a] [.ref a, .ref a] _
    refine st2 _ ?_
    show Sq p e below m T2 44 #[rv a] [.int 4, .ref a] _
    refine XS.iconst X2.here hx rfl (hb hby d9_44) ?_
    refine XS.isub X2.here hx rfl (hb hby d9_45) rfl ?_
    show Sq p e below m T2 46 #[rv a] [.int ((4 : Int32) - (2 : Int32)), .ref a] _
    rw [show ((4 : Int32) - (2 : Int32)) = (2 : Int32) from by decide]
    show Sq p e below m T2 46 #[rv a] [.int 2, .ref a] _
    refine st3 _ ?_
    show Sq p e below m T3 49 #[rv a] [] _
    exact X3.returnOut hx Bd.returns (hb hby d9_49) hr
  · show Q_pop4 Z a b h0 n0 _ T3.heap _
    rw [e3]
    exact ⟨rfl, N6, K5, Fs, Fz3, Fi⟩
def Q_pop2 (Z : State) (a : Addr) (b : Addr) (h0 : Heap) (n0 : Nat) (v : Option Value) (h : Heap) (L : List Loc) : Prop := v = none ∧ Fr n0 L ∧ Keep h0 h [a] ∧ Fld Z h a "com/example/dodder/dodder/engine/BoundedStack" "segment" "[I" (.ref b) ∧ Fld Z h a "com/example/dodder/dodder/engine/BoundedStack" "used" "I" (.int (0 : Int32)) ∧ Fld Z h a "com/example/dodder/dodder/engine/BoundedStack" "index" "I" (.int (0 : Int32))
set_option maxRecDepth 65536 in
set_option maxHeartbeats 40000000 in
theorem pop2 (l : Launch) (Z : State) (a0 : Array Value) (hw : ∀ d ∈ tables_1, d.before a0 Z = true) (ws : List Jvm.Cond) (a : Addr) (b : Addr) (h0 : Heap) (n0 : Nat) (O : Old Z n0 h0) (Ea : Exa Z h0 a "com/example/dodder/dodder/engine/BoundedStack") (Fs : Fld Z h0 a "com/example/dodder/dodder/engine/BoundedStack" "segment" "[I" (.ref b)) (Fu : Fld Z h0 a "com/example/dodder/dodder/engine/BoundedStack" "used" "I" (.int (2 : Int32))) (Fi : Fld Z h0 a "com/example/dodder/dodder/engine/BoundedStack" "index" "I" (.int (0 : Int32))) (ga : n0 ≤ a) :
    Ctr l Z y_7 prog_7_method_3_code 1 none ws ({ frames := 0, cells := 0, slots := 0, locals := 0 } : Room) #[(.ref a)] h0 (Q_pop2 Z a b h0 n0) := by
  refine MetFree.of_bodySF (plainFor_of_name pn_0) hisR ?_
  intro p e s m args below meth c s₁ Bd hml0 hP hK
  obtain ⟨rfl, hZ, hh⟩ := hP
  have W := fun (i : Nat) {d : Jvm.Cond} (h : tables_1[i]? = some d) => hw d (List.mem_of_getElem? h)
  have hx := Bd.exec
  have hby := Bd.bytes
  have hml : c.maxLocals = 1 := hml0
  have hown : s.vm.findClass "com/example/dodder/dodder/engine/BoundedStack" = some m.cls := findClass_of_methodNamed Bd.named
  have hnm := (name_of_methodNamed Bd.named Bd.method).1
  have X0 : Stand p l e ({ frames := 0, cells := 0, slots := 0, locals := 0 } : Room) s m #[(.ref a)] below meth c s₁ [] 0 0 := Stand.of_body Bd
  have e0 : s₁.heap = h0 := by rw [← hh, Bd.state]; rfl
  have N0 := Fr.nil n0
  have pre0 : ∀ t, Steps p.tables e below (s₁.setTop (mkF m 0 #[.val (.ref a)] [])) t → Steps p.tables e below (s₁.setTop (entryFrame m #[(.ref a)] 1)) t := fun t kk_ => castTop (ef_9 m a) kk_
  have K0 := Keep.refl h0 [a]
  obtain ⟨T1, X1, e1, st1⟩ := getF X0 hx hZ hown (host := "") (Or.inl (W 24 rfl)) Via.refl e0 Fu (g := (mkF m 1 #[rv a] [.ref a])) rfl rfl (hb hby d9_1)
  obtain ⟨T2, X2, e2, st2⟩ := getF X1 hx hZ hown (host := "") (Or.inl (W 24 rfl)) Via.refl e1 Fu (g := (mkF m 41 #[rv a] [.ref a, .ref a])) rfl rfl (hb hby d9_41)
  obtain ⟨T3, h3, X3, e3, W3, st3⟩ := putF X2 hx hZ hown (host := "") (Or.inl (W 24 rfl)) Via.refl e2 Fu Ea (Or.inl (W 25 rfl)) (W 5 rfl) (ty := .int) (by decide) rfl rfl (g := (mkF m 46 #[rv a] [.int 0, .ref a])) rfl rfl (hb hby d9_46)
  have Fz3 := Fu.same W3
  have Fs := Fs.other W3 (Or.inr (slot_ne (Or.inl (W 18 rfl)) (Or.inl (W 25 rfl)) (by decide) (t := (.array .int)) (t' := .int) (by decide) (by decide)))
  have Fi := Fi.other W3 (Or.inr (slot_ne (Or.inl (W 36 rfl)) (Or.inl (W 25 rfl)) (by decide) (t := .int) (t' := .int) (by decide) (by decide)))
  have K5 := K0.wr W3 (Or.inl (List.mem_of_getElem? (i := 0) rfl))
  have N6 := Fr.snoc X3 N0 ga
  obtain ⟨fs, hr, hrun, hended, hW, hsame⟩ := X3.leave (v := none) (fun _ => rfl)
  refine ⟨_, _, pre0 _ ?_, hrun, hended, _, _, rfl, ?_, ⟨_, rfl⟩, hW, hsame.mono (by decide) (by decide)⟩
  · show Sq p e below m s₁ 0 #[rv a] [] _
    refine XS.aloadN X0.here hx rfl (hb hby d9_0) rfl rfl ?_
    show Sq p e below m s₁ 1 #[rv a] [.ref a] _
    refine st1 _ ?_
    show Sq p e below m T1 4 #[rv a] [.int 2] _
    refine XS.ifYes X1.here hx rfl (pc0 := 4) (pc' := 39) rfl (hb hby d9_4) rfl ((if0 _ _).trans (feq (by decide)).2) (by decide) (by decide) ?_
    refine XS.aloadN X1.here hx rfl (hb hby d9_39) rfl rfl ?_
    show Sq p e below m T1 40 #[rv a] [.ref a] _
    refine XS.dup X1.here hx rfl (hb hby d9_40) rfl rfl ?_
    show Sq p e below m T1 41 #[rv a] [.ref a, .ref a] _
    refine st2 _ ?_
    show Sq p e below m T2 44 #[rv a] [.int 2, .ref a] _
    refine XS.iconst X2.here hx rfl (hb hby d9_44) ?_
    refine XS.isub X2.here hx rfl (hb hby d9_45) rfl ?_
    show Sq p e below m T2 46 #[rv a] [.int ((2 : Int32) - (2 : Int32)), .ref a] _
    rw [show ((2 : Int32) - (2 : Int32)) = (0 : Int32) from by decide]
    show Sq p e below m T2 46 #[rv a] [.int 0, .ref a] _
    refine st3 _ ?_
    show Sq p e below m T3 49 #[rv a] [] _
    exact X3.returnOut hx Bd.returns (hb hby d9_49) hr
  · show Q_pop2 Z a b h0 n0 _ T3.heap _
    rw [e3]
    exact ⟨rfl, N6, K5, Fs, Fz3, Fi⟩
theorem d10_0 : decode prog_7_method_4_code 0 = .ok (.aload_n 0, 1) := by decide +kernel
theorem d10_1 : decode prog_7_method_4_code 1 = .ok (.getfield 17, 3) := by decide +kernel
theorem d10_4 : decode prog_7_method_4_code 4 = .ok (.aload_n 0, 1) := by decide +kernel
theorem d10_5 : decode prog_7_method_4_code 5 = .ok (.getfield 20, 3) := by decide +kernel
theorem d10_8 : decode prog_7_method_4_code 8 = .ok (.iaload, 1) := by decide +kernel
theorem d10_9 : decode prog_7_method_4_code 9 = .ok (.ireturn, 1) := by decide +kernel
def Q_pf2 (Z : State) (a : Addr) (b : Addr) (kb : ClassId) (n : Int32) (z : Int32) (w0 : Value) (w1 : Value) (w3 : Value) (h0 : Heap) (n0 : Nat) (v : Option Value) (h : Heap) (L : List Loc) : Prop := v = some (.int z) ∧ Fr n0 L ∧ h = h0
theorem ef_10 (m : MethodId) (x0 : Addr) : entryFrame m #[(.ref x0)] 1 = mkF m 0 #[.val (.ref x0)] [] := by first | (simp [entryFrame, mkF, argsToLocals, Value.category]; done) | rfl
abbrev y_8 : MethodName := ⟨"com/example/dodder/dodder/engine/BoundedStack", "poppedFirst", "()I"⟩
set_option maxRecDepth 65536 in
set_option maxHeartbeats 40000000 in
theorem pf2 (l : Launch) (Z : State) (a0 : Array Value) (hw : ∀ d ∈ tables_1, d.before a0 Z = true) (ws : List Jvm.Cond) (a : Addr) (b : Addr) (kb : ClassId) (n : Int32) (z : Int32) (w0 : Value) (w1 : Value) (w3 : Value) (h0 : Heap) (n0 : Nat) (O : Old Z n0 h0) (Fs : Fld Z h0 a "com/example/dodder/dodder/engine/BoundedStack" "segment" "[I" (.ref b)) (Fu : Fld Z h0 a "com/example/dodder/dodder/engine/BoundedStack" "used" "I" (.int (2 : Int32))) (Vb : Arv Z h0 b kb .int n [w0, w1, (.int z), w3] (.int (0 : Int32))) (hL : (3 : Int32) < n) :
    Ctr l Z y_8 prog_7_method_4_code 1 (some .int) ws ({ frames := 0, cells := 0, slots := 0, locals := 0 } : Room) #[(.ref a)] h0 (Q_pf2 Z a b kb n z w0 w1 w3 h0 n0) := by
  refine MetFree.of_bodySF (plainFor_of_name pn_0) hisR ?_
  intro p e s m args below meth c s₁ Bd hml0 hP hK
  obtain ⟨rfl, hZ, hh⟩ := hP
  have W := fun (i : Nat) {d : Jvm.Cond} (h : tables_1[i]? = some d) => hw d (List.mem_of_getElem? h)
  have hx := Bd.exec
  have hby := Bd.bytes
  have hml : c.maxLocals = 1 := hml0
  have hown : s.vm.findClass "com/example/dodder/dodder/engine/BoundedStack" = some m.cls := findClass_of_methodNamed Bd.named
  have hnm := (name_of_methodNamed Bd.named Bd.method).1
  have X0 : Stand p l e ({ frames := 0, cells := 0, slots := 0, locals := 0 } : Room) s m #[(.ref a)] below meth c s₁ [] 0 0 := Stand.of_body Bd
  have e0 : s₁.heap = h0 := by rw [← hh, Bd.state]; rfl
  have N0 := Fr.nil n0
  have pre0 : ∀ t, Steps p.tables e below (s₁.setTop (mkF m 0 #[.val (.ref a)] [])) t → Steps p.tables e below (s₁.setTop (entryFrame m #[(.ref a)] 1)) t := fun t kk_ => castTop (ef_10 m a) kk_
  obtain ⟨T1, X1, e1, st1⟩ := getF X0 hx hZ hown (host := "") (Or.inl (W 17 rfl)) Via.refl e0 Fs (g := (mkF m 1 #[rv a] [.ref a])) rfl rfl (hb hby d10_1)
  obtain ⟨T2, X2, e2, st2⟩ := getF X1 hx hZ hown (host := "") (Or.inl (W 24 rfl)) Via.refl e1 Fu (g := (mkF m 5 #[rv a] [.ref a, .ref b])) rfl rfl (hb hby d10_5)
  obtain ⟨cl3, Ar3, q3, S3, Ng3, Hh3, Gg3⟩ := id Vb
  have st3 := X2.iaload hx (j := (2 : Int32)) (v := (.int z)) (by rw [e2]; exact Ar3.1) (State.isArrayOf_alike hZ.alike Ar3.2.1) Ar3.2.2 (inb_of S3 (own_in hL (by decide) (by decide))) (Hh3.at (inb_of S3 (own_in hL (by decide) (by decide))) rfl) (g := (mkF m 8 #[rv a] [.int 2, .ref b])) rfl rfl (hb hby d10_8)
  obtain ⟨fs, hr, hrun, hended, hW, hsame⟩ := X2.leave (v := some (.int z)) (fun h => by rw [Bd.returns] at h; cases h)
  refine ⟨_, _, pre0 _ ?_, hrun, hended, _, _, rfl, ?_, ⟨_, rfl⟩, hW, hsame.mono (by decide) (by decide)⟩
  · show Sq p e below m s₁ 0 #[rv a] [] _
    refine XS.aloadN X0.here hx rfl (hb hby d10_0) rfl rfl ?_
    show Sq p e below m s₁ 1 #[rv a] [.ref a] _
    refine st1 _ ?_
    show Sq p e below m T1 4 #[rv a] [.ref b] _
    refine XS.aloadN X1.here hx rfl (hb hby d10_4) rfl rfl ?_
    show Sq p e below m T1 5 #[rv a] [.ref a, .ref b] _
    refine st2 _ ?_
    show Sq p e below m T2 8 #[rv a] [.int 2, .ref b] _
    refine st3 _ ?_
    show Sq p e below m T2 9 #[rv a] [.int z] _
    exact retI X2 hx Bd.returns (hb hby d10_9) hr
  · show Q_pf2 Z a b kb n z w0 w1 w3 h0 n0 _ T2.heap _
    rw [e2]
    exact ⟨rfl, N0, rfl⟩
theorem d11_0 : decode prog_7_method_5_code 0 = .ok (.aload_n 0, 1) := by decide +kernel
theorem d11_1 : decode prog_7_method_5_code 1 = .ok (.getfield 17, 3) := by decide +kernel
theorem d11_4 : decode prog_7_method_5_code 4 = .ok (.aload_n 0, 1) := by decide +kernel
theorem d11_5 : decode prog_7_method_5_code 5 = .ok (.getfield 20, 3) := by decide +kernel
theorem d11_8 : decode prog_7_method_5_code 8 = .ok (.iconst 1, 1) := by decide +kernel
theorem d11_9 : decode prog_7_method_5_code 9 = .ok (.iadd, 1) := by decide +kernel
theorem d11_10 : decode prog_7_method_5_code 10 = .ok (.iaload, 1) := by decide +kernel
theorem d11_11 : decode prog_7_method_5_code 11 = .ok (.ireturn, 1) := by decide +kernel
def Q_ps2 (Z : State) (a : Addr) (b : Addr) (kb : ClassId) (n : Int32) (z : Int32) (w0 : Value) (w1 : Value) (w2 : Value) (h0 : Heap) (n0 : Nat) (v : Option Value) (h : Heap) (L : List Loc) : Prop := v = some (.int z) ∧ Fr n0 L ∧ h = h0
theorem ef_11 (m : MethodId) (x0 : Addr) : entryFrame m #[(.ref x0)] 1 = mkF m 0 #[.val (.ref x0)] [] := by first | (simp [entryFrame, mkF, argsToLocals, Value.category]; done) | rfl
abbrev y_9 : MethodName := ⟨"com/example/dodder/dodder/engine/BoundedStack", "poppedSecond", "()I"⟩
set_option maxRecDepth 65536 in
set_option maxHeartbeats 40000000 in
theorem ps2 (l : Launch) (Z : State) (a0 : Array Value) (hw : ∀ d ∈ tables_1, d.before a0 Z = true) (ws : List Jvm.Cond) (a : Addr) (b : Addr) (kb : ClassId) (n : Int32) (z : Int32) (w0 : Value) (w1 : Value) (w2 : Value) (h0 : Heap) (n0 : Nat) (O : Old Z n0 h0) (Fs : Fld Z h0 a "com/example/dodder/dodder/engine/BoundedStack" "segment" "[I" (.ref b)) (Fu : Fld Z h0 a "com/example/dodder/dodder/engine/BoundedStack" "used" "I" (.int (2 : Int32))) (Vb : Arv Z h0 b kb .int n [w0, w1, w2, (.int z)] (.int (0 : Int32))) (hL : (3 : Int32) < n) :
    Ctr l Z y_9 prog_7_method_5_code 1 (some .int) ws ({ frames := 0, cells := 0, slots := 0, locals := 0 } : Room) #[(.ref a)] h0 (Q_ps2 Z a b kb n z w0 w1 w2 h0 n0) := by
  refine MetFree.of_bodySF (plainFor_of_name pn_0) hisR ?_
  intro p e s m args below meth c s₁ Bd hml0 hP hK
  obtain ⟨rfl, hZ, hh⟩ := hP
  have W := fun (i : Nat) {d : Jvm.Cond} (h : tables_1[i]? = some d) => hw d (List.mem_of_getElem? h)
  have hx := Bd.exec
  have hby := Bd.bytes
  have hml : c.maxLocals = 1 := hml0
  have hown : s.vm.findClass "com/example/dodder/dodder/engine/BoundedStack" = some m.cls := findClass_of_methodNamed Bd.named
  have hnm := (name_of_methodNamed Bd.named Bd.method).1
  have X0 : Stand p l e ({ frames := 0, cells := 0, slots := 0, locals := 0 } : Room) s m #[(.ref a)] below meth c s₁ [] 0 0 := Stand.of_body Bd
  have e0 : s₁.heap = h0 := by rw [← hh, Bd.state]; rfl
  have N0 := Fr.nil n0
  have pre0 : ∀ t, Steps p.tables e below (s₁.setTop (mkF m 0 #[.val (.ref a)] [])) t → Steps p.tables e below (s₁.setTop (entryFrame m #[(.ref a)] 1)) t := fun t kk_ => castTop (ef_11 m a) kk_
  obtain ⟨T1, X1, e1, st1⟩ := getF X0 hx hZ hown (host := "") (Or.inl (W 17 rfl)) Via.refl e0 Fs (g := (mkF m 1 #[rv a] [.ref a])) rfl rfl (hb hby d11_1)
  obtain ⟨T2, X2, e2, st2⟩ := getF X1 hx hZ hown (host := "") (Or.inl (W 24 rfl)) Via.refl e1 Fu (g := (mkF m 5 #[rv a] [.ref a, .ref b])) rfl rfl (hb hby d11_5)
  obtain ⟨cl3, Ar3, q3, S3, Ng3, Hh3, Gg3⟩ := id Vb
  have st3 := X2.iaload hx (j := (3 : Int32)) (v := (.int z)) (by rw [e2]; exact Ar3.1) (State.isArrayOf_alike hZ.alike Ar3.2.1) Ar3.2.2 (inb_of S3 (own_in hL (by decide) (by decide))) (Hh3.at (inb_of S3 (own_in hL (by decide) (by decide))) rfl) (g := (mkF m 10 #[rv a] [.int 3, .ref b])) rfl rfl (hb hby d11_10)
  obtain ⟨fs, hr, hrun, hended, hW, hsame⟩ := X2.leave (v := some (.int z)) (fun h => by rw [Bd.returns] at h; cases h)
  refine ⟨_, _, pre0 _ ?_, hrun, hended, _, _, rfl, ?_, ⟨_, rfl⟩, hW, hsame.mono (by decide) (by decide)⟩
  · show Sq p e below m s₁ 0 #[rv a] [] _
    refine XS.aloadN X0.here hx rfl (hb hby d11_0) rfl rfl ?_
    show Sq p e below m s₁ 1 #[rv a] [.ref a] _
    refine st1 _ ?_
    show Sq p e below m T1 4 #[rv a] [.ref b] _
    refine XS.aloadN X1.here hx rfl (hb hby d11_4) rfl rfl ?_
    show Sq p e below m T1 5 #[rv a] [.ref a, .ref b] _
    refine st2 _ ?_
    show Sq p e below m T2 8 #[rv a] [.int 2, .ref b] _
    refine XS.iconst X2.here hx rfl (hb hby d11_8) ?_
    refine XS.iadd X2.here hx rfl (hb hby d11_9) rfl ?_
    show Sq p e below m T2 10 #[rv a] [.int ((2 : Int32) + (1 : Int32)), .ref b] _
    rw [show ((2 : Int32) + (1 : Int32)) = (3 : Int32) from by decide]
    show Sq p e below m T2 10 #[rv a] [.int 3, .ref b] _
    refine st3 _ ?_
    show Sq p e below m T2 11 #[rv a] [.int z] _
    exact retI X2 hx Bd.returns (hb hby d11_11) hr
  · show Q_ps2 Z a b kb n z w0 w1 w2 h0 n0 _ T2.heap _
    rw [e2]
    exact ⟨rfl, N0, rfl⟩
def Q_pf0 (Z : State) (a : Addr) (b : Addr) (kb : ClassId) (n : Int32) (z : Int32) (w1 : Value) (w2 : Value) (w3 : Value) (h0 : Heap) (n0 : Nat) (v : Option Value) (h : Heap) (L : List Loc) : Prop := v = some (.int z) ∧ Fr n0 L ∧ h = h0
set_option maxRecDepth 65536 in
set_option maxHeartbeats 40000000 in
theorem pf0 (l : Launch) (Z : State) (a0 : Array Value) (hw : ∀ d ∈ tables_1, d.before a0 Z = true) (ws : List Jvm.Cond) (a : Addr) (b : Addr) (kb : ClassId) (n : Int32) (z : Int32) (w1 : Value) (w2 : Value) (w3 : Value) (h0 : Heap) (n0 : Nat) (O : Old Z n0 h0) (Fs : Fld Z h0 a "com/example/dodder/dodder/engine/BoundedStack" "segment" "[I" (.ref b)) (Fu : Fld Z h0 a "com/example/dodder/dodder/engine/BoundedStack" "used" "I" (.int (0 : Int32))) (Vb : Arv Z h0 b kb .int n [(.int z), w1, w2, w3] (.int (0 : Int32))) (hL : (3 : Int32) < n) :
    Ctr l Z y_8 prog_7_method_4_code 1 (some .int) ws ({ frames := 0, cells := 0, slots := 0, locals := 0 } : Room) #[(.ref a)] h0 (Q_pf0 Z a b kb n z w1 w2 w3 h0 n0) := by
  refine MetFree.of_bodySF (plainFor_of_name pn_0) hisR ?_
  intro p e s m args below meth c s₁ Bd hml0 hP hK
  obtain ⟨rfl, hZ, hh⟩ := hP
  have W := fun (i : Nat) {d : Jvm.Cond} (h : tables_1[i]? = some d) => hw d (List.mem_of_getElem? h)
  have hx := Bd.exec
  have hby := Bd.bytes
  have hml : c.maxLocals = 1 := hml0
  have hown : s.vm.findClass "com/example/dodder/dodder/engine/BoundedStack" = some m.cls := findClass_of_methodNamed Bd.named
  have hnm := (name_of_methodNamed Bd.named Bd.method).1
  have X0 : Stand p l e ({ frames := 0, cells := 0, slots := 0, locals := 0 } : Room) s m #[(.ref a)] below meth c s₁ [] 0 0 := Stand.of_body Bd
  have e0 : s₁.heap = h0 := by rw [← hh, Bd.state]; rfl
  have N0 := Fr.nil n0
  have pre0 : ∀ t, Steps p.tables e below (s₁.setTop (mkF m 0 #[.val (.ref a)] [])) t → Steps p.tables e below (s₁.setTop (entryFrame m #[(.ref a)] 1)) t := fun t kk_ => castTop (ef_10 m a) kk_
  obtain ⟨T1, X1, e1, st1⟩ := getF X0 hx hZ hown (host := "") (Or.inl (W 17 rfl)) Via.refl e0 Fs (g := (mkF m 1 #[rv a] [.ref a])) rfl rfl (hb hby d10_1)
  obtain ⟨T2, X2, e2, st2⟩ := getF X1 hx hZ hown (host := "") (Or.inl (W 24 rfl)) Via.refl e1 Fu (g := (mkF m 5 #[rv a] [.ref a, .ref b])) rfl rfl (hb hby d10_5)
  obtain ⟨cl3, Ar3, q3, S3, Ng3, Hh3, Gg3⟩ := id Vb
  have st3 := X2.iaload hx (j := (0 : Int32)) (v := (.int z)) (by rw [e2]; exact Ar3.1) (State.isArrayOf_alike hZ.alike Ar3.2.1) Ar3.2.2 (inb_of S3 (own_in hL (by decide) (by decide))) (Hh3.at (inb_of S3 (own_in hL (by decide) (by decide))) rfl) (g := (mkF m 8 #[rv a] [.int 0, .ref b])) rfl rfl (hb hby d10_8)
  obtain ⟨fs, hr, hrun, hended, hW, hsame⟩ := X2.leave (v := some (.int z)) (fun h => by rw [Bd.returns] at h; cases h)
  refine ⟨_, _, pre0 _ ?_, hrun, hended, _, _, rfl, ?_, ⟨_, rfl⟩, hW, hsame.mono (by decide) (by decide)⟩
  · show Sq p e below m s₁ 0 #[rv a] [] _
    refine XS.aloadN X0.here hx rfl (hb hby d10_0) rfl rfl ?_
    show Sq p e below m s₁ 1 #[rv a] [.ref a] _
    refine st1 _ ?_
    show Sq p e below m T1 4 #[rv a] [.ref b] _
    refine XS.aloadN X1.here hx rfl (hb hby d10_4) rfl rfl ?_
    show Sq p e below m T1 5 #[rv a] [.ref a, .ref b] _
    refine st2 _ ?_
    show Sq p e below m T2 8 #[rv a] [.int 0, .ref b] _
    refine st3 _ ?_
    show Sq p e below m T2 9 #[rv a] [.int z] _
    exact retI X2 hx Bd.returns (hb hby d10_9) hr
  · show Q_pf0 Z a b kb n z w1 w2 w3 h0 n0 _ T2.heap _
    rw [e2]
    exact ⟨rfl, N0, rfl⟩
def Q_ps0 (Z : State) (a : Addr) (b : Addr) (kb : ClassId) (n : Int32) (z : Int32) (w0 : Value) (w2 : Value) (w3 : Value) (h0 : Heap) (n0 : Nat) (v : Option Value) (h : Heap) (L : List Loc) : Prop := v = some (.int z) ∧ Fr n0 L ∧ h = h0
set_option maxRecDepth 65536 in
set_option maxHeartbeats 40000000 in
theorem ps0 (l : Launch) (Z : State) (a0 : Array Value) (hw : ∀ d ∈ tables_1, d.before a0 Z = true) (ws : List Jvm.Cond) (a : Addr) (b : Addr) (kb : ClassId) (n : Int32) (z : Int32) (w0 : Value) (w2 : Value) (w3 : Value) (h0 : Heap) (n0 : Nat) (O : Old Z n0 h0) (Fs : Fld Z h0 a "com/example/dodder/dodder/engine/BoundedStack" "segment" "[I" (.ref b)) (Fu : Fld Z h0 a "com/example/dodder/dodder/engine/BoundedStack" "used" "I" (.int (0 : Int32))) (Vb : Arv Z h0 b kb .int n [w0, (.int z), w2, w3] (.int (0 : Int32))) (hL : (3 : Int32) < n) :
    Ctr l Z y_9 prog_7_method_5_code 1 (some .int) ws ({ frames := 0, cells := 0, slots := 0, locals := 0 } : Room) #[(.ref a)] h0 (Q_ps0 Z a b kb n z w0 w2 w3 h0 n0) := by
  refine MetFree.of_bodySF (plainFor_of_name pn_0) hisR ?_
  intro p e s m args below meth c s₁ Bd hml0 hP hK
  obtain ⟨rfl, hZ, hh⟩ := hP
  have W := fun (i : Nat) {d : Jvm.Cond} (h : tables_1[i]? = some d) => hw d (List.mem_of_getElem? h)
  have hx := Bd.exec
  have hby := Bd.bytes
  have hml : c.maxLocals = 1 := hml0
  have hown : s.vm.findClass "com/example/dodder/dodder/engine/BoundedStack" = some m.cls := findClass_of_methodNamed Bd.named
  have hnm := (name_of_methodNamed Bd.named Bd.method).1
  have X0 : Stand p l e ({ frames := 0, cells := 0, slots := 0, locals := 0 } : Room) s m #[(.ref a)] below meth c s₁ [] 0 0 := Stand.of_body Bd
  have e0 : s₁.heap = h0 := by rw [← hh, Bd.state]; rfl
  have N0 := Fr.nil n0
  have pre0 : ∀ t, Steps p.tables e below (s₁.setTop (mkF m 0 #[.val (.ref a)] [])) t → Steps p.tables e below (s₁.setTop (entryFrame m #[(.ref a)] 1)) t := fun t kk_ => castTop (ef_11 m a) kk_
  obtain ⟨T1, X1, e1, st1⟩ := getF X0 hx hZ hown (host := "") (Or.inl (W 17 rfl)) Via.refl e0 Fs (g := (mkF m 1 #[rv a] [.ref a])) rfl rfl (hb hby d11_1)
  obtain ⟨T2, X2, e2, st2⟩ := getF X1 hx hZ hown (host := "") (Or.inl (W 24 rfl)) Via.refl e1 Fu (g := (mkF m 5 #[rv a] [.ref a, .ref b])) rfl rfl (hb hby d11_5)
  obtain ⟨cl3, Ar3, q3, S3, Ng3, Hh3, Gg3⟩ := id Vb
  have st3 := X2.iaload hx (j := (1 : Int32)) (v := (.int z)) (by rw [e2]; exact Ar3.1) (State.isArrayOf_alike hZ.alike Ar3.2.1) Ar3.2.2 (inb_of S3 (own_in hL (by decide) (by decide))) (Hh3.at (inb_of S3 (own_in hL (by decide) (by decide))) rfl) (g := (mkF m 10 #[rv a] [.int 1, .ref b])) rfl rfl (hb hby d11_10)
  obtain ⟨fs, hr, hrun, hended, hW, hsame⟩ := X2.leave (v := some (.int z)) (fun h => by rw [Bd.returns] at h; cases h)
  refine ⟨_, _, pre0 _ ?_, hrun, hended, _, _, rfl, ?_, ⟨_, rfl⟩, hW, hsame.mono (by decide) (by decide)⟩
  · show Sq p e below m s₁ 0 #[rv a] [] _
    refine XS.aloadN X0.here hx rfl (hb hby d11_0) rfl rfl ?_
    show Sq p e below m s₁ 1 #[rv a] [.ref a] _
    refine st1 _ ?_
    show Sq p e below m T1 4 #[rv a] [.ref b] _
    refine XS.aloadN X1.here hx rfl (hb hby d11_4) rfl rfl ?_
    show Sq p e below m T1 5 #[rv a] [.ref a, .ref b] _
    refine st2 _ ?_
    show Sq p e below m T2 8 #[rv a] [.int 0, .ref b] _
    refine XS.iconst X2.here hx rfl (hb hby d11_8) ?_
    refine XS.iadd X2.here hx rfl (hb hby d11_9) rfl ?_
    show Sq p e below m T2 10 #[rv a] [.int ((0 : Int32) + (1 : Int32)), .ref b] _
    rw [show ((0 : Int32) + (1 : Int32)) = (1 : Int32) from by decide]
    show Sq p e below m T2 10 #[rv a] [.int 1, .ref b] _
    refine st3 _ ?_
    show Sq p e below m T2 11 #[rv a] [.int z] _
    exact retI X2 hx Bd.returns (hb hby d11_11) hr
  · show Q_ps0 Z a b kb n z w0 w2 w3 h0 n0 _ T2.heap _
    rw [e2]
    exact ⟨rfl, N0, rfl⟩
theorem pd_4 : parseMethodDescriptor "(I)V" = some ⟨[.int], none⟩ := by decide +kernel
theorem pd_5 : parseMethodDescriptor "(II)Z" = some ⟨[.int, .int], some .boolean⟩ := by decide +kernel
theorem pd_6 : parseMethodDescriptor "()V" = some ⟨[], none⟩ := by decide +kernel
def Q_rm0 (Z : State) (p1 : Int32) (p2 : Int32) (p3 : Int32) (p4 : Int32) (p5 : Int32) (w_NO_ENTRIES : Addr) (ks : ClassId) (h0 : Heap) (n0 : Nat) (v : Option Value) (h : Heap) (L : List Loc) : Prop := v = some (.int (1 : Int32)) ∧ Fr n0 L
theorem ef_12 (m : MethodId) (x0 : Int32) (x1 : Int32) (x2 : Int32) (x3 : Int32) (x4 : Int32) : entryFrame m #[(.int x0), (.int x1), (.int x2), (.int x3), (.int x4)] maxLocals = mkF m 0 #[.val (.int x0), .val (.int x1), .val (.int x2), .val (.int x3), .val (.int x4), .unset, .unset, .unset, .unset, .unset, .unset, .unset, .unset, .unset, .unset] [] := by first | (simp [entryFrame, mkF, argsToLocals, Value.category, maxLocals]; done) | rfl
theorem pn_2 : plainName "com/example/dodder/dodder/engine/BoundedStackPopPinLaw" = true := by first | (simp [plainName, overriddenIn]; done) | decide +kernel
set_option maxRecDepth 65536 in
set_option maxHeartbeats 40000000 in
theorem rm0 (l : Launch) (Z : State) (a0 : Array Value) (hw : ∀ d ∈ tables_1, d.before a0 Z = true) (ws : List Jvm.Cond) (p1 : Int32) (p2 : Int32) (p3 : Int32) (p4 : Int32) (p5 : Int32) (w_NO_ENTRIES : Addr) (ks : ClassId) (h0 : Heap) (n0 : Nat) (O : Old Z n0 h0) (S_w_NO_ENTRIES : Sta Z Z.heap "com/example/dodder/dodder/engine/BoundedStack" "NO_ENTRIES" "[I" (.ref w_NO_ENTRIES)) (E_w_NO_ENTRIES : Exa Z Z.heap w_NO_ENTRIES "[I") (Vs : Arv Z Z.heap w_NO_ENTRIES ks .int (0 : Int32) [] (.int (0 : Int32))) :
    Ctr l Z x code maxLocals ret ws room_1 #[(.int p1), (.int p2), (.int p3), (.int p4), (.int p5)] h0 (Q_rm0 Z p1 p2 p3 p4 p5 w_NO_ENTRIES ks h0 n0) := by
  refine MetFree.of_bodySF (plainFor_of_name pn_2) hisR ?_
  intro p e s m args below meth c s₁ Bd hml0 hP hK
  obtain ⟨rfl, hZ, hh⟩ := hP
  have W := fun (i : Nat) {d : Jvm.Cond} (h : tables_1[i]? = some d) => hw d (List.mem_of_getElem? h)
  have hx := Bd.exec
  have hby := Bd.bytes
  have hml : c.maxLocals = 15 := hml0
  have hown : s.vm.findClass "com/example/dodder/dodder/engine/BoundedStackPopPinLaw" = some m.cls := findClass_of_methodNamed Bd.named
  have hnm := (name_of_methodNamed Bd.named Bd.method).1
  have X0 : Stand p l e room_1 s m #[(.int p1), (.int p2), (.int p3), (.int p4), (.int p5)] below meth c s₁ [] 0 0 := Stand.of_body Bd
  have e0 : s₁.heap = h0 := by rw [← hh, Bd.state]; rfl
  have N0 := Fr.nil n0
  have pre0 : ∀ t, Steps p.tables e below (s₁.setTop (mkF m 0 #[.val (.int p1), .val (.int p2), .val (.int p3), .val (.int p4), .val (.int p5), .unset, .unset, .unset, .unset, .unset, .unset, .unset, .unset, .unset, .unset] [])) t → Steps p.tables e below (s₁.setTop (entryFrame m #[(.int p1), (.int p2), (.int p3), (.int p4), (.int p5)] maxLocals)) t := fun t kk_ => castTop (ef_12 m p1 p2 p3 p4 p5) kk_
  obtain ⟨_, _, ⟨T1, L1, k1, n1⟩, -, X1, ⟨Lc1, hQ1, l1, y1, z1⟩, st1⟩ := Jvm.LawKit.callS X0 hx (y := y_0) hown (mvT hZ (W 0 rfl)) (mvT hZ (W 1 rfl)) (mvT hZ (W 2 rfl)) (mvT hZ (W 3 rfl)) (by decide) (backOf (W := 0) (max l Z a0 hw [] (2 : Int32) p1 h0 n0 O ) hZ (W 3 rfl) (W 2 rfl) (by decide) (by decide)) (g := (mkF m 2 #[iv p1, iv p2, iv p3, iv p4, iv p5, .unset, .unset, .unset, .unset, .unset, .unset, .unset, .unset, .unset, .unset] [.int p1, .int 2])) rfl (by rw [hml]; rfl) (argsL := [.int 2, .int p1]) (rest := []) (lenOf pd_0 rfl) rfl (by show 2 * 0 + _ ≤ _; exact Nat.le_of_eq rfl) (hb hby at_2) (fun _ _ => ⟨rfl, e0, (by decide : 0 + 0 ≤ _), (by decide : 0 + 0 ≤ _)⟩)
  dsimp only [Pt.U, Pt.locs, Pt.cells, Pt.slots] at X1 l1 y1 z1 st1 hQ1
  subst l1 y1 z1
  obtain ⟨h1, e1⟩ : ∃ z, T1.heap = z := ⟨_, rfl⟩
  rw [e1] at hQ1
  obtain ⟨rfl, N1q, p1_0⟩ := hQ1
  have N1 := Fr.app N0 N1q
  rw [p1_0] at e1
  obtain ⟨T2, h2, X2, e2, E2, A2, D2, -, st2⟩ := newO X1 hx hZ hown (W 4 rfl) (W 5 rfl) (W 6 rfl) e1 (g := (mkF m 7 #[iv p1, iv p2, iv p3, iv p4, iv p5, iv (own_max (2 : Int32) p1), .unset, .unset, .unset, .unset, .unset, .unset, .unset, .unset, .unset] [])) rfl (hb hby at_7) (by decide) (by decide)
  obtain ⟨b2, g2⟩ : ∃ z, z = h0.size := ⟨_, rfl⟩
  rw [← g2] at A2 D2 st2
  have g_b2 : n0 ≤ b2 := Nat.le_trans (own_sz O) (Nat.le_of_eq g2.symm)
  have O3 := O.ext E2
  have Fz5 : Fld Z h2 b2 "com/example/dodder/dodder/engine/BoundedStack" "bound" "I" (.int (0 : Int32)) := D2 (Or.inr (W 14 rfl)) (ty := .int) (by decide)
  have Fz6 : Fld Z h2 b2 "com/example/dodder/dodder/engine/BoundedStack" "segment" "[I" .null := D2 (Or.inl (W 18 rfl)) (ty := (.array .int)) (by decide)
  have Fz7 : Fld Z h2 b2 "com/example/dodder/dodder/engine/BoundedStack" "used" "I" (.int (0 : Int32)) := D2 (Or.inl (W 25 rfl)) (ty := .int) (by decide)
  have Fz8 : Fld Z h2 b2 "com/example/dodder/dodder/engine/BoundedStack" "index" "I" (.int (0 : Int32)) := D2 (Or.inl (W 36 rfl)) (ty := .int) (by decide)
  have Fz9 : Fld Z h2 b2 "com/example/dodder/dodder/engine/BoundedStack" "segments" "[[I" .null := D2 (Or.inl (W 52 rfl)) (ty := (.array (.array .int))) (by decide)
  obtain ⟨_, _, ⟨T10, L10, k10, n10⟩, -, X10, ⟨Lc10, hQ10, l10, y10, z10⟩, st10⟩ := X2.specialBack hx (y := y_2) rfl hown (mvT hZ (W 7 rfl)) (mvT hZ (W 8 rfl)) (mvT hZ (W 9 rfl)) (by decide) (backOf (W := 1) (sinit l Z a0 hw [] b2 (own_max (2 : Int32) p1) w_NO_ENTRIES h2 n0 O3 A2 Fz5 Fz6 Fz7 Fz8 Fz9 g_b2 S_w_NO_ENTRIES) hZ (W 9 rfl) (W 6 rfl) (by decide) (by decide)) (g := (mkF m 13 #[iv p1, iv p2, iv p3, iv p4, iv p5, iv (own_max (2 : Int32) p1), .unset, .unset, .unset, .unset, .unset, .unset, .unset, .unset, .unset] [.int (own_max (2 : Int32) p1), .ref b2, .ref b2])) rfl (by rw [hml]; rfl) (Steps.refl _) (a := b2) (argsL := [.int (own_max (2 : Int32) p1)]) (rest := [.ref b2]) (lenOf pd_4 rfl) rfl (by show 2 * 0 + _ ≤ _; exact Nat.le_of_eq rfl) (hb hby at_13) (fun _ _ => ⟨rfl, e2, (by decide : 1 + 0 ≤ _), (by decide : 5 + 0 ≤ _)⟩)
  dsimp only [Pt.U, Pt.locs, Pt.cells, Pt.slots] at X10 l10 y10 z10 st10 hQ10
  subst l10 y10 z10
  obtain ⟨h10, e10⟩ : ∃ z, T10.heap = z := ⟨_, rfl⟩
  rw [e10] at hQ10
  obtain ⟨rfl, N10q, p10_0, p10_1, p10_2, p10_3, p10_4, p10_5⟩ := hQ10
  have N10 := Fr.app N1 N10q
  have A2 := A2.keep p10_0
  have O11 := O3.keep p10_0 (allS g_b2 all0)
  obtain ⟨cq13, kq13, q13a, q13b, q13c⟩ := isOf hZ e10 A2
  obtain ⟨_, _, ⟨T13, L13, k13, n13⟩, -, X13, ⟨Lc13, hQ13, l13, y13, z13⟩, st13⟩ := X10.virtualBack hx (y := y_6) (z := y_6) hown (mvT hZ (W 19 rfl)) (mvT hZ (W 20 rfl)) (notFace_of_selects (args := #[]) (mvT hZ (W 22 rfl))) (mvT hZ (W 22 rfl)) (mvT hZ (W 21 rfl)) (by decide) (backOf (W := 0) (push0 l Z a0 hw [] b2 p2 p3 (own_max (2 : Int32) p1) w_NO_ENTRIES ks [] (.int (0 : Int32)) h10 n0 O11 A2 p10_1 p10_2 p10_3 p10_4 p10_5 g_b2 Vs (own_max2 p1)) hZ (W 23 rfl) (W 6 rfl) (by decide) (by decide)) q13a q13c (g := (mkF m 22 #[iv p1, iv p2, iv p3, iv p4, iv p5, iv (own_max (2 : Int32) p1), rv b2, .unset, .unset, .unset, .unset, .unset, .unset, .unset, .unset] [.int p3, .int p2, .ref b2])) rfl (by rw [hml]; rfl) (Steps.refl _) (argsL := [.int p2, .int p3]) (rest := []) (lenOf pd_5 rfl) rfl (by show 2 * 0 + _ ≤ _; exact Nat.le_of_eq rfl) (hb hby at_22) (fun _ _ => ⟨rfl, e10, (by decide : 1 + 2 ≤ _), (by decide : 5 + 33 ≤ _)⟩)
  dsimp only [Pt.U, Pt.locs, Pt.cells, Pt.slots] at X13 l13 y13 z13 st13 hQ13
  subst l13 y13 z13
  obtain ⟨h13, e13⟩ : ∃ z, T13.heap = z := ⟨_, rfl⟩
  rw [e13] at hQ13
  obtain ⟨b13b, b13kb, b13g, rfl, N13q, p13_0, p13_1, p13_2, p13_3, p13_4, p13_5, p13_6, p13_7, p13_8⟩ := hQ13
  have N13 := Fr.app N10 N13q
  have g_b13b : n0 ≤ b13b := Nat.le_trans (own_sz O11) p13_1
  have ne_b2_b13b : b2 ≠ b13b := Nat.ne_of_lt (Nat.lt_of_lt_of_le A2.lt p13_1)
  have A2 := A2.keep p13_0
  have O14 := O11.keep p13_0 (allS g_b2 all0)
  obtain ⟨cq16, kq16, q16a, q16b, q16c⟩ := isOf hZ e13 A2
  obtain ⟨_, _, ⟨T16, L16, k16, n16⟩, -, X16, ⟨Lc16, hQ16, l16, y16, z16⟩, st16⟩ := X13.virtualBack hx (y := y_6) (z := y_6) hown (mvT hZ (W 19 rfl)) (mvT hZ (W 20 rfl)) (notFace_of_selects (args := #[]) (mvT hZ (W 22 rfl))) (mvT hZ (W 22 rfl)) (mvT hZ (W 21 rfl)) (by decide) (backOf (W := 0) (push2 l Z a0 hw [] b2 p4 p5 b13b b13kb ((2 : Int32) * (own_min (16 : Int32) (own_min (16384 : Int32) (own_max (2 : Int32) p1)))) (.int p2) (.int p3) (.int (0 : Int32)) (.int (0 : Int32)) h13 n0 O14 A2 p13_5 p13_6 p13_7 p13_3 g_b2 g_b13b ne_b2_b13b (own_L (own_max2 p1)).1) hZ (W 23 rfl) (W 6 rfl) (by decide) (by decide)) q16a q16c (g := (mkF m 32 #[iv p1, iv p2, iv p3, iv p4, iv p5, iv (own_max (2 : Int32) p1), rv b2, iv 1, .unset, .unset, .unset, .unset, .unset, .unset, .unset] [.int p5, .int p4, .ref b2])) rfl (by rw [hml]; rfl) (Steps.refl _) (argsL := [.int p4, .int p5]) (rest := []) (lenOf pd_5 rfl) rfl (by show 2 * 0 + _ ≤ _; exact Nat.le_of_eq rfl) (hb hby at_32) (fun _ _ => ⟨rfl, e13, (by decide : 3 + 0 ≤ _), (by decide : 38 + 0 ≤ _)⟩)
  dsimp only [Pt.U, Pt.locs, Pt.cells, Pt.slots] at X16 l16 y16 z16 st16 hQ16
  subst l16 y16 z16
  obtain ⟨h16, e16⟩ : ∃ z, T16.heap = z := ⟨_, rfl⟩
  rw [e16] at hQ16
  obtain ⟨rfl, N16q, p16_0, p16_1, p16_2, p16_3, p16_4⟩ := hQ16
  have N16 := Fr.app N13 N16q
  have A2 := A2.keep p16_0
  have O17 := O14.keep p16_0 (allS g_b2 (allS g_b13b all0))
  obtain ⟨cq19, kq19, q19a, q19b, q19c⟩ := isOf hZ e16 A2
  obtain ⟨_, _, ⟨T19, L19, k19, n19⟩, -, X19, ⟨Lc19, hQ19, l19, y19, z19⟩, st19⟩ := X16.virtualBack hx (y := y_7) (z := y_7) hown (mvT hZ (W 56 rfl)) (mvT hZ (W 57 rfl)) (notFace_of_selects (args := #[]) (mvT hZ (W 59 rfl))) (mvT hZ (W 59 rfl)) (mvT hZ (W 58 rfl)) (by decide) (backOf (W := 0) (pop4 l Z a0 hw [] b2 b13b h16 n0 O17 A2 p16_1 p16_2 p16_3 g_b2) hZ (W 60 rfl) (W 6 rfl) (by decide) (by decide)) q19a q19c (g := (mkF m 51 #[iv p1, iv p2, iv p3, iv p4, iv p5, iv (own_max (2 : Int32) p1), rv b2, iv 1, iv 1, .unset, .unset, .unset, .unset, .unset, .unset] [.ref b2])) rfl (by rw [hml]; rfl) (Steps.refl _) (argsL := []) (rest := []) (lenOf pd_6 rfl) rfl (by show 2 * 0 + _ ≤ _; exact Nat.le_of_eq rfl) (hb hby at_51) (fun _ _ => ⟨rfl, e16, (by decide : 3 + 0 ≤ _), (by decide : 38 + 0 ≤ _)⟩)
  dsimp only [Pt.U, Pt.locs, Pt.cells, Pt.slots] at X19 l19 y19 z19 st19 hQ19
  subst l19 y19 z19
  obtain ⟨h19, e19⟩ : ∃ z, T19.heap = z := ⟨_, rfl⟩
  rw [e19] at hQ19
  obtain ⟨rfl, N19q, p19_0, p19_1, p19_2, p19_3⟩ := hQ19
  have N19 := Fr.app N16 N19q
  have A2 := A2.keep p19_0
  have p16_4 := p16_4.keep p19_0 (ninS (Ne.symm ne_b2_b13b) nin0)
  have O20 := O17.keep p19_0 (allS g_b2 all0)
  obtain ⟨cq22, kq22, q22a, q22b, q22c⟩ := isOf hZ e19 A2
  obtain ⟨_, _, ⟨T22, L22, k22, n22⟩, -, X22, ⟨Lc22, hQ22, l22, y22, z22⟩, st22⟩ := X19.virtualBack hx (y := y_8) (z := y_8) hown (mvT hZ (W 61 rfl)) (mvT hZ (W 62 rfl)) (notFace_of_selects (args := #[]) (mvT hZ (W 64 rfl))) (mvT hZ (W 64 rfl)) (mvT hZ (W 63 rfl)) (by decide) (backOf (W := 0) (pf2 l Z a0 hw [] b2 b13b b13kb ((2 : Int32) * (own_min (16 : Int32) (own_min (16384 : Int32) (own_max (2 : Int32) p1)))) p4 (.int p2) (.int p3) (.int p5) h19 n0 O20 p19_1 p19_2 p16_4 (own_L (own_max2 p1)).1) hZ (W 65 rfl) (W 6 rfl) (by decide) (by decide)) q22a q22c (g := (mkF m 56 #[iv p1, iv p2, iv p3, iv p4, iv p5, iv (own_max (2 : Int32) p1), rv b2, iv 1, iv 1, .unset, .unset, .unset, .unset, .unset, .unset] [.ref b2])) rfl (by rw [hml]; rfl) (Steps.refl _) (argsL := []) (rest := []) (lenOf pd_1 rfl) rfl (by show 2 * 0 + _ ≤ _; exact Nat.le_of_eq rfl) (hb hby at_56) (fun _ _ => ⟨rfl, e19, (by decide : 3 + 0 ≤ _), (by decide : 38 + 0 ≤ _)⟩)
  dsimp only [Pt.U, Pt.locs, Pt.cells, Pt.slots] at X22 l22 y22 z22 st22 hQ22
  subst l22 y22 z22
  obtain ⟨h22, e22⟩ : ∃ z, T22.heap = z := ⟨_, rfl⟩
  rw [e22] at hQ22
  obtain ⟨rfl, N22q, p22_0⟩ := hQ22
  have N22 := Fr.app N19 N22q
  rw [p22_0] at e22
  obtain ⟨cq23, kq23, q23a, q23b, q23c⟩ := isOf hZ e22 A2
  obtain ⟨_, _, ⟨T23, L23, k23, n23⟩, -, X23, ⟨Lc23, hQ23, l23, y23, z23⟩, st23⟩ := X22.virtualBack hx (y := y_9) (z := y_9) hown (mvT hZ (W 66 rfl)) (mvT hZ (W 67 rfl)) (notFace_of_selects (args := #[]) (mvT hZ (W 69 rfl))) (mvT hZ (W 69 rfl)) (mvT hZ (W 68 rfl)) (by decide) (backOf (W := 0) (ps2 l Z a0 hw [] b2 b13b b13kb ((2 : Int32) * (own_min (16 : Int32) (own_min (16384 : Int32) (own_max (2 : Int32) p1)))) p5 (.int p2) (.int p3) (.int p4) h19 n0 O20 p19_1 p19_2 p16_4 (own_L (own_max2 p1)).1) hZ (W 70 rfl) (W 6 rfl) (by decide) (by decide)) q23a q23c (g := (mkF m 63 #[iv p1, iv p2, iv p3, iv p4, iv p5, iv (own_max (2 : Int32) p1), rv b2, iv 1, iv 1, iv p4, .unset, .unset, .unset, .unset, .unset] [.ref b2])) rfl (by rw [hml]; rfl) (Steps.refl _) (argsL := []) (rest := []) (lenOf pd_1 rfl) rfl (by show 2 * 0 + _ ≤ _; exact Nat.le_of_eq rfl) (hb hby at_63) (fun _ _ => ⟨rfl, e22, (by decide : 3 + 0 ≤ _), (by decide : 38 + 0 ≤ _)⟩)
  dsimp only [Pt.U, Pt.locs, Pt.cells, Pt.slots] at X23 l23 y23 z23 st23 hQ23
  subst l23 y23 z23
  obtain ⟨h23, e23⟩ : ∃ z, T23.heap = z := ⟨_, rfl⟩
  rw [e23] at hQ23
  obtain ⟨rfl, N23q, p23_0⟩ := hQ23
  have N23 := Fr.app N22 N23q
  rw [p23_0] at e23
  obtain ⟨cq24, kq24, q24a, q24b, q24c⟩ := isOf hZ e23 A2
  obtain ⟨_, _, ⟨T24, L24, k24, n24⟩, -, X24, ⟨Lc24, hQ24, l24, y24, z24⟩, st24⟩ := X23.virtualBack hx (y := y_3) (z := y_3) hown (mvT hZ (W 71 rfl)) (mvT hZ (W 31 rfl)) (notFace_of_selects (args := #[]) (mvT hZ (W 33 rfl))) (mvT hZ (W 33 rfl)) (mvT hZ (W 32 rfl)) (by decide) (backOf (W := 0) (size1 l Z a0 hw [] b2 h19 n0 O20 p19_3 p19_2) hZ (W 34 rfl) (W 6 rfl) (by decide) (by decide)) q24a q24c (g := (mkF m 70 #[iv p1, iv p2, iv p3, iv p4, iv p5, iv (own_max (2 : Int32) p1), rv b2, iv 1, iv 1, iv p4, iv p5, .unset, .unset, .unset, .unset] [.ref b2])) rfl (by rw [hml]; rfl) (Steps.refl _) (argsL := []) (rest := []) (lenOf pd_1 rfl) rfl (by show 2 * 0 + _ ≤ _; exact Nat.le_of_eq rfl) (hb hby at_70) (fun _ _ => ⟨rfl, e23, (by decide : 3 + 0 ≤ _), (by decide : 38 + 0 ≤ _)⟩)
  dsimp only [Pt.U, Pt.locs, Pt.cells, Pt.slots] at X24 l24 y24 z24 st24 hQ24
  subst l24 y24 z24
  obtain ⟨h24, e24⟩ : ∃ z, T24.heap = z := ⟨_, rfl⟩
  rw [e24] at hQ24
  obtain ⟨rfl, N24q, p24_0⟩ := hQ24
  have N24 := Fr.app N23 N24q
  rw [p24_0] at e24
  obtain ⟨cq25, kq25, q25a, q25b, q25c⟩ := isOf hZ e24 A2
  obtain ⟨_, _, ⟨T25, L25, k25, n25⟩, -, X25, ⟨Lc25, hQ25, l25, y25, z25⟩, st25⟩ := X24.virtualBack hx (y := y_7) (z := y_7) hown (mvT hZ (W 56 rfl)) (mvT hZ (W 57 rfl)) (notFace_of_selects (args := #[]) (mvT hZ (W 59 rfl))) (mvT hZ (W 59 rfl)) (mvT hZ (W 58 rfl)) (by decide) (backOf (W := 0) (pop2 l Z a0 hw [] b2 b13b h19 n0 O20 A2 p19_1 p19_2 p19_3 g_b2) hZ (W 60 rfl) (W 6 rfl) (by decide) (by decide)) q25a q25c (g := (mkF m 77 #[iv p1, iv p2, iv p3, iv p4, iv p5, iv (own_max (2 : Int32) p1), rv b2, iv 1, iv 1, iv p4, iv p5, iv 1, .unset, .unset, .unset] [.ref b2])) rfl (by rw [hml]; rfl) (Steps.refl _) (argsL := []) (rest := []) (lenOf pd_6 rfl) rfl (by show 2 * 0 + _ ≤ _; exact Nat.le_of_eq rfl) (hb hby at_77) (fun _ _ => ⟨rfl, e24, (by decide : 3 + 0 ≤ _), (by decide : 38 + 0 ≤ _)⟩)
  dsimp only [Pt.U, Pt.locs, Pt.cells, Pt.slots] at X25 l25 y25 z25 st25 hQ25
  subst l25 y25 z25
  obtain ⟨h25, e25⟩ : ∃ z, T25.heap = z := ⟨_, rfl⟩
  rw [e25] at hQ25
  obtain ⟨rfl, N25q, p25_0, p25_1, p25_2, p25_3⟩ := hQ25
  have N25 := Fr.app N24 N25q
  have A2 := A2.keep p25_0
  have p16_4 := p16_4.keep p25_0 (ninS (Ne.symm ne_b2_b13b) nin0)
  have O26 := O20.keep p25_0 (allS g_b2 all0)
  obtain ⟨cq28, kq28, q28a, q28b, q28c⟩ := isOf hZ e25 A2
  obtain ⟨_, _, ⟨T28, L28, k28, n28⟩, -, X28, ⟨Lc28, hQ28, l28, y28, z28⟩, st28⟩ := X25.virtualBack hx (y := y_8) (z := y_8) hown (mvT hZ (W 61 rfl)) (mvT hZ (W 62 rfl)) (notFace_of_selects (args := #[]) (mvT hZ (W 64 rfl))) (mvT hZ (W 64 rfl)) (mvT hZ (W 63 rfl)) (by decide) (backOf (W := 0) (pf0 l Z a0 hw [] b2 b13b b13kb ((2 : Int32) * (own_min (16 : Int32) (own_min (16384 : Int32) (own_max (2 : Int32) p1)))) p2 (.int p3) (.int p4) (.int p5) h25 n0 O26 p25_1 p25_2 p16_4 (own_L (own_max2 p1)).1) hZ (W 65 rfl) (W 6 rfl) (by decide) (by decide)) q28a q28c (g := (mkF m 82 #[iv p1, iv p2, iv p3, iv p4, iv p5, iv (own_max (2 : Int32) p1), rv b2, iv 1, iv 1, iv p4, iv p5, iv 1, .unset, .unset, .unset] [.ref b2])) rfl (by rw [hml]; rfl) (Steps.refl _) (argsL := []) (rest := []) (lenOf pd_1 rfl) rfl (by show 2 * 0 + _ ≤ _; exact Nat.le_of_eq rfl) (hb hby at_82) (fun _ _ => ⟨rfl, e25, (by decide : 3 + 0 ≤ _), (by decide : 38 + 0 ≤ _)⟩)
  dsimp only [Pt.U, Pt.locs, Pt.cells, Pt.slots] at X28 l28 y28 z28 st28 hQ28
  subst l28 y28 z28
  obtain ⟨h28, e28⟩ : ∃ z, T28.heap = z := ⟨_, rfl⟩
  rw [e28] at hQ28
  obtain ⟨rfl, N28q, p28_0⟩ := hQ28
  have N28 := Fr.app N25 N28q
  rw [p28_0] at e28
  obtain ⟨cq29, kq29, q29a, q29b, q29c⟩ := isOf hZ e28 A2
  obtain ⟨_, _, ⟨T29, L29, k29, n29⟩, -, X29, ⟨Lc29, hQ29, l29, y29, z29⟩, st29⟩ := X28.virtualBack hx (y := y_9) (z := y_9) hown (mvT hZ (W 66 rfl)) (mvT hZ (W 67 rfl)) (notFace_of_selects (args := #[]) (mvT hZ (W 69 rfl))) (mvT hZ (W 69 rfl)) (mvT hZ (W 68 rfl)) (by decide) (backOf (W := 0) (ps0 l Z a0 hw [] b2 b13b b13kb ((2 : Int32) * (own_min (16 : Int32) (own_min (16384 : Int32) (own_max (2 : Int32) p1)))) p3 (.int p2) (.int p4) (.int p5) h25 n0 O26 p25_1 p25_2 p16_4 (own_L (own_max2 p1)).1) hZ (W 70 rfl) (W 6 rfl) (by decide) (by decide)) q29a q29c (g := (mkF m 89 #[iv p1, iv p2, iv p3, iv p4, iv p5, iv (own_max (2 : Int32) p1), rv b2, iv 1, iv 1, iv p4, iv p5, iv 1, iv p2, .unset, .unset] [.ref b2])) rfl (by rw [hml]; rfl) (Steps.refl _) (argsL := []) (rest := []) (lenOf pd_1 rfl) rfl (by show 2 * 0 + _ ≤ _; exact Nat.le_of_eq rfl) (hb hby at_89) (fun _ _ => ⟨rfl, e28, (by decide : 3 + 0 ≤ _), (by decide : 38 + 0 ≤ _)⟩)
  dsimp only [Pt.U, Pt.locs, Pt.cells, Pt.slots] at X29 l29 y29 z29 st29 hQ29
  subst l29 y29 z29
  obtain ⟨h29, e29⟩ : ∃ z, T29.heap = z := ⟨_, rfl⟩
  rw [e29] at hQ29
  obtain ⟨rfl, N29q, p29_0⟩ := hQ29
  have N29 := Fr.app N28 N29q
  rw [p29_0] at e29
  obtain ⟨cq30, kq30, q30a, q30b, q30c⟩ := isOf hZ e29 A2
  obtain ⟨_, _, ⟨T30, L30, k30, n30⟩, -, X30, ⟨Lc30, hQ30, l30, y30, z30⟩, st30⟩ := X29.virtualBack hx (y := y_3) (z := y_3) hown (mvT hZ (W 71 rfl)) (mvT hZ (W 31 rfl)) (notFace_of_selects (args := #[]) (mvT hZ (W 33 rfl))) (mvT hZ (W 33 rfl)) (mvT hZ (W 32 rfl)) (by decide) (backOf (W := 0) (size0 l Z a0 hw [] b2 h25 n0 O26 p25_3 p25_2) hZ (W 34 rfl) (W 6 rfl) (by decide) (by decide)) q30a q30c (g := (mkF m 96 #[iv p1, iv p2, iv p3, iv p4, iv p5, iv (own_max (2 : Int32) p1), rv b2, iv 1, iv 1, iv p4, iv p5, iv 1, iv p2, iv p3, .unset] [.ref b2])) rfl (by rw [hml]; rfl) (Steps.refl _) (argsL := []) (rest := []) (lenOf pd_1 rfl) rfl (by show 2 * 0 + _ ≤ _; exact Nat.le_of_eq rfl) (hb hby at_96) (fun _ _ => ⟨rfl, e29, (by decide : 3 + 0 ≤ _), (by decide : 38 + 0 ≤ _)⟩)
  dsimp only [Pt.U, Pt.locs, Pt.cells, Pt.slots] at X30 l30 y30 z30 st30 hQ30
  subst l30 y30 z30
  obtain ⟨h30, e30⟩ : ∃ z, T30.heap = z := ⟨_, rfl⟩
  rw [e30] at hQ30
  obtain ⟨rfl, N30q, p30_0⟩ := hQ30
  have N30 := Fr.app N29 N30q
  rw [p30_0] at e30
  obtain ⟨fs, hr, hrun, hended, hW, hsame⟩ := X30.leave (v := some (.int (1 : Int32))) (fun h => by rw [Bd.returns] at h; cases h)
  refine ⟨_, _, pre0 _ ?_, hrun, hended, _, _, rfl, ?_, ⟨_, rfl⟩, hW, hsame.mono (by decide) (by decide)⟩
  · show Sq p e below m s₁ 0 #[iv p1, iv p2, iv p3, iv p4, iv p5, .unset, .unset, .unset, .unset, .unset, .unset, .unset, .unset, .unset, .unset] [] _
    refine XS.iconst X0.here hx rfl (hb hby at_0) ?_
    refine XS.iloadN X0.here hx rfl (hb hby at_1) rfl ?_
    show Sq p e below m s₁ 2 #[iv p1, iv p2, iv p3, iv p4, iv p5, .unset, .unset, .unset, .unset, .unset, .unset, .unset, .unset, .unset, .unset] [.int p1, .int 2] _
    refine st1 _ ?_
    show Sq p e below m T1 5 #[iv p1, iv p2, iv p3, iv p4, iv p5, .unset, .unset, .unset, .unset, .unset, .unset, .unset, .unset, .unset, .unset] [.int (own_max (2 : Int32) p1)] _
    refine XS.istore X1.here hx rfl (hb hby at_5) rfl rfl ?_
    show Sq p e below m T1 7 #[iv p1, iv p2, iv p3, iv p4, iv p5, iv (own_max (2 : Int32) p1), .unset, .unset, .unset, .unset, .unset, .unset, .unset, .unset, .unset] [] _
    refine st2 _ ?_
    show Sq p e below m T2 10 #[iv p1, iv p2, iv p3, iv p4, iv p5, iv (own_max (2 : Int32) p1), .unset, .unset, .unset, .unset, .unset, .unset, .unset, .unset, .unset] [.ref b2] _
    refine XS.dup X2.here hx rfl (hb hby at_10) rfl rfl ?_
    refine XS.iload X2.here hx rfl (hb hby at_11) rfl ?_
    show Sq p e below m T2 13 #[iv p1, iv p2, iv p3, iv p4, iv p5, iv (own_max (2 : Int32) p1), .unset, .unset, .unset, .unset, .unset, .unset, .unset, .unset, .unset] [.int (own_max (2 : Int32) p1), .ref b2, .ref b2] _
    refine st10.trans ?_
    show Sq p e below m T10 16 #[iv p1, iv p2, iv p3, iv p4, iv p5, iv (own_max (2 : Int32) p1), .unset, .unset, .unset, .unset, .unset, .unset, .unset, .unset, .unset] [.ref b2] _
    refine XS.astore X10.here hx rfl (hb hby at_16) rfl rfl rfl ?_
    refine XS.aload X10.here hx rfl (hb hby at_18) rfl rfl ?_
    show Sq p e below m T10 20 #[iv p1, iv p2, iv p3, iv p4, iv p5, iv (own_max (2 : Int32) p1), rv b2, .unset, .unset, .unset, .unset, .unset, .unset, .unset, .unset] [.ref b2] _
    refine XS.iloadN X10.here hx rfl (hb hby at_20) rfl ?_
    refine XS.iloadN X10.here hx rfl (hb hby at_21) rfl ?_
    show Sq p e below m T10 22 #[iv p1, iv p2, iv p3, iv p4, iv p5, iv (own_max (2 : Int32) p1), rv b2, .unset, .unset, .unset, .unset, .unset, .unset, .unset, .unset] [.int p3, .int p2, .ref b2] _
    refine st13.trans ?_
    show Sq p e below m T13 25 #[iv p1, iv p2, iv p3, iv p4, iv p5, iv (own_max (2 : Int32) p1), rv b2, .unset, .unset, .unset, .unset, .unset, .unset, .unset, .unset] [.int 1] _
    refine XS.istore X13.here hx rfl (hb hby at_25) rfl rfl ?_
    refine XS.aload X13.here hx rfl (hb hby at_27) rfl rfl ?_
    show Sq p e below m T13 29 #[iv p1, iv p2, iv p3, iv p4, iv p5, iv (own_max (2 : Int32) p1), rv b2, iv 1, .unset, .unset, .unset, .unset, .unset, .unset, .unset] [.ref b2] _
    refine XS.iloadN X13.here hx rfl (hb hby at_29) rfl ?_
    refine XS.iload X13.here hx rfl (hb hby at_30) rfl ?_
    show Sq p e below m T13 32 #[iv p1, iv p2, iv p3, iv p4, iv p5, iv (own_max (2 : Int32) p1), rv b2, iv 1, .unset, .unset, .unset, .unset, .unset, .unset, .unset] [.int p5, .int p4, .ref b2] _
    refine st16.trans ?_
    show Sq p e below m T16 35 #[iv p1, iv p2, iv p3, iv p4, iv p5, iv (own_max (2 : Int32) p1), rv b2, iv 1, .unset, .unset, .unset, .unset, .unset, .unset, .unset] [.int 1] _
    refine XS.istore X16.here hx rfl (hb hby at_35) rfl rfl ?_
    refine XS.iload X16.here hx rfl (hb hby at_37) rfl ?_
    show Sq p e below m T16 39 #[iv p1, iv p2, iv p3, iv p4, iv p5, iv (own_max (2 : Int32) p1), rv b2, iv 1, iv 1, .unset, .unset, .unset, .unset, .unset, .unset] [.int 1] _
    refine XS.ifNo X16.here hx rfl (hb hby at_39) rfl ((if0 _ _).trans (feq (by decide)).1) ?_
    refine XS.iload X16.here hx rfl (hb hby at_42) rfl ?_
    show Sq p e below m T16 44 #[iv p1, iv p2, iv p3, iv p4, iv p5, iv (own_max (2 : Int32) p1), rv b2, iv 1, iv 1, .unset, .unset, .unset, .unset, .unset, .unset] [.int 1] _
    refine XS.ifYes X16.here hx rfl (pc0 := 44) (pc' := 49) rfl (hb hby at_44) rfl ((if0 _ _).trans (feq (by decide)).2) (by decide) (by decide) ?_
    refine XS.aload X16.here hx rfl (hb hby at_49) rfl rfl ?_
    show Sq p e below m T16 51 #[iv p1, iv p2, iv p3, iv p4, iv p5, iv (own_max (2 : Int32) p1), rv b2, iv 1, iv 1, .unset, .unset, .unset, .unset, .unset, .unset] [.ref b2] _
    refine st19.trans ?_
    show Sq p e below m T19 54 #[iv p1, iv p2, iv p3, iv p4, iv p5, iv (own_max (2 : Int32) p1), rv b2, iv 1, iv 1, .unset, .unset, .unset, .unset, .unset, .unset] [] _
    refine XS.aload X19.here hx rfl (hb hby at_54) rfl rfl ?_
    show Sq p e below m T19 56 #[iv p1, iv p2, iv p3, iv p4, iv p5, iv (own_max (2 : Int32) p1), rv b2, iv 1, iv 1, .unset, .unset, .unset, .unset, .unset, .unset] [.ref b2] _
    refine st22.trans ?_
    show Sq p e below m T22 59 #[iv p1, iv p2, iv p3, iv p4, iv p5, iv (own_max (2 : Int32) p1), rv b2, iv 1, iv 1, .unset, .unset, .unset, .unset, .unset, .unset] [.int p4] _
    refine XS.istore X22.here hx rfl (hb hby at_59) rfl rfl ?_
    refine XS.aload X22.here hx rfl (hb hby at_61) rfl rfl ?_
    show Sq p e below m T22 63 #[iv p1, iv p2, iv p3, iv p4, iv p5, iv (own_max (2 : Int32) p1), rv b2, iv 1, iv 1, iv p4, .unset, .unset, .unset, .unset, .unset] [.ref b2] _
    refine st23.trans ?_
    show Sq p e below m T23 66 #[iv p1, iv p2, iv p3, iv p4, iv p5, iv (own_max (2 : Int32) p1), rv b2, iv 1, iv 1, iv p4, .unset, .unset, .unset, .unset, .unset] [.int p5] _
    refine XS.istore X23.here hx rfl (hb hby at_66) rfl rfl ?_
    refine XS.aload X23.here hx rfl (hb hby at_68) rfl rfl ?_
    show Sq p e below m T23 70 #[iv p1, iv p2, iv p3, iv p4, iv p5, iv (own_max (2 : Int32) p1), rv b2, iv 1, iv 1, iv p4, iv p5, .unset, .unset, .unset, .unset] [.ref b2] _
    refine st24.trans ?_
    show Sq p e below m T24 73 #[iv p1, iv p2, iv p3, iv p4, iv p5, iv (own_max (2 : Int32) p1), rv b2, iv 1, iv 1, iv p4, iv p5, .unset, .unset, .unset, .unset] [.int 1] _
    refine XS.istore X24.here hx rfl (hb hby at_73) rfl rfl ?_
    refine XS.aload X24.here hx rfl (hb hby at_75) rfl rfl ?_
    show Sq p e below m T24 77 #[iv p1, iv p2, iv p3, iv p4, iv p5, iv (own_max (2 : Int32) p1), rv b2, iv 1, iv 1, iv p4, iv p5, iv 1, .unset, .unset, .unset] [.ref b2] _
    refine st25.trans ?_
    show Sq p e below m T25 80 #[iv p1, iv p2, iv p3, iv p4, iv p5, iv (own_max (2 : Int32) p1), rv b2, iv 1, iv 1, iv p4, iv p5, iv 1, .unset, .unset, .unset] [] _
    refine XS.aload X25.here hx rfl (hb hby at_80) rfl rfl ?_
    show Sq p e below m T25 82 #[iv p1, iv p2, iv p3, iv p4, iv p5, iv (own_max (2 : Int32) p1), rv b2, iv 1, iv 1, iv p4, iv p5, iv 1, .unset, .unset, .unset] [.ref b2] _
    refine st28.trans ?_
    show Sq p e below m T28 85 #[iv p1, iv p2, iv p3, iv p4, iv p5, iv (own_max (2 : Int32) p1), rv b2, iv 1, iv 1, iv p4, iv p5, iv 1, .unset, .unset, .unset] [.int p2] _
    refine XS.istore X28.here hx rfl (hb hby at_85) rfl rfl ?_
    refine XS.aload X28.here hx rfl (hb hby at_87) rfl rfl ?_
    show Sq p e below m T28 89 #[iv p1, iv p2, iv p3, iv p4, iv p5, iv (own_max (2 : Int32) p1), rv b2, iv 1, iv 1, iv p4, iv p5, iv 1, iv p2, .unset, .unset] [.ref b2] _
    refine st29.trans ?_
    show Sq p e below m T29 92 #[iv p1, iv p2, iv p3, iv p4, iv p5, iv (own_max (2 : Int32) p1), rv b2, iv 1, iv 1, iv p4, iv p5, iv 1, iv p2, .unset, .unset] [.int p3] _
    refine XS.istore X29.here hx rfl (hb hby at_92) rfl rfl ?_
    refine XS.aload X29.here hx rfl (hb hby at_94) rfl rfl ?_
    show Sq p e below m T29 96 #[iv p1, iv p2, iv p3, iv p4, iv p5, iv (own_max (2 : Int32) p1), rv b2, iv 1, iv 1, iv p4, iv p5, iv 1, iv p2, iv p3, .unset] [.ref b2] _
    refine st30.trans ?_
    show Sq p e below m T30 99 #[iv p1, iv p2, iv p3, iv p4, iv p5, iv (own_max (2 : Int32) p1), rv b2, iv 1, iv 1, iv p4, iv p5, iv 1, iv p2, iv p3, .unset] [.int 0] _
    refine XS.istore X30.here hx rfl (hb hby at_99) rfl rfl ?_
    refine XS.iload X30.here hx rfl (hb hby at_101) rfl ?_
    show Sq p e below m T30 103 #[iv p1, iv p2, iv p3, iv p4, iv p5, iv (own_max (2 : Int32) p1), rv b2, iv 1, iv 1, iv p4, iv p5, iv 1, iv p2, iv p3, iv 0] [.int p4] _
    refine XS.iloadN X30.here hx rfl (hb hby at_103) rfl ?_
    refine XS.icmpNo X30.here hx rfl (hb hby at_104) rfl (teq (rfl : p4 = p4)).2 ?_
    show Sq p e below m T30 107 #[iv p1, iv p2, iv p3, iv p4, iv p5, iv (own_max (2 : Int32) p1), rv b2, iv 1, iv 1, iv p4, iv p5, iv 1, iv p2, iv p3, iv 0] [] _
    refine XS.iload X30.here hx rfl (hb hby at_107) rfl ?_
    refine XS.iload X30.here hx rfl (hb hby at_109) rfl ?_
    show Sq p e below m T30 111 #[iv p1, iv p2, iv p3, iv p4, iv p5, iv (own_max (2 : Int32) p1), rv b2, iv 1, iv 1, iv p4, iv p5, iv 1, iv p2, iv p3, iv 0] [.int p5, .int p5] _
    refine XS.icmpNo X30.here hx rfl (hb hby at_111) rfl (teq (rfl : p5 = p5)).2 ?_
    refine XS.iload X30.here hx rfl (hb hby at_114) rfl ?_
    show Sq p e below m T30 116 #[iv p1, iv p2, iv p3, iv p4, iv p5, iv (own_max (2 : Int32) p1), rv b2, iv 1, iv 1, iv p4, iv p5, iv 1, iv p2, iv p3, iv 0] [.int 1] _
    refine XS.iconst X30.here hx rfl (hb hby at_116) ?_
    refine XS.icmpNo X30.here hx rfl (hb hby at_117) rfl (teq (rfl : (1 : Int32) = (1 : Int32))).2 ?_
    show Sq p e below m T30 120 #[iv p1, iv p2, iv p3, iv p4, iv p5, iv (own_max (2 : Int32) p1), rv b2, iv 1, iv 1, iv p4, iv p5, iv 1, iv p2, iv p3, iv 0] [] _
    refine XS.iload X30.here hx rfl (hb hby at_120) rfl ?_
    refine XS.iloadN X30.here hx rfl (hb hby at_122) rfl ?_
    show Sq p e below m T30 123 #[iv p1, iv p2, iv p3, iv p4, iv p5, iv (own_max (2 : Int32) p1), rv b2, iv 1, iv 1, iv p4, iv p5, iv 1, iv p2, iv p3, iv 0] [.int p2, .int p2] _
    refine XS.icmpNo X30.here hx rfl (hb hby at_123) rfl (teq (rfl : p2 = p2)).2 ?_
    refine XS.iload X30.here hx rfl (hb hby at_126) rfl ?_
    show Sq p e below m T30 128 #[iv p1, iv p2, iv p3, iv p4, iv p5, iv (own_max (2 : Int32) p1), rv b2, iv 1, iv 1, iv p4, iv p5, iv 1, iv p2, iv p3, iv 0] [.int p3] _
    refine XS.iloadN X30.here hx rfl (hb hby at_128) rfl ?_
    refine XS.icmpNo X30.here hx rfl (hb hby at_129) rfl (teq (rfl : p3 = p3)).2 ?_
    show Sq p e below m T30 132 #[iv p1, iv p2, iv p3, iv p4, iv p5, iv (own_max (2 : Int32) p1), rv b2, iv 1, iv 1, iv p4, iv p5, iv 1, iv p2, iv p3, iv 0] [] _
    refine XS.iload X30.here hx rfl (hb hby at_132) rfl ?_
    refine XS.ifNo X30.here hx rfl (hb hby at_134) rfl ((if0 _ _).trans (teq (rfl : (0 : Int32) = (0 : Int32))).2) ?_
    show Sq p e below m T30 137 #[iv p1, iv p2, iv p3, iv p4, iv p5, iv (own_max (2 : Int32) p1), rv b2, iv 1, iv 1, iv p4, iv p5, iv 1, iv p2, iv p3, iv 0] [] _
    refine XS.iconst X30.here hx rfl (hb hby at_137) ?_
    refine XS.goto X30.here hx rfl (pc0 := 138) (pc' := 142) rfl (hb hby at_138) (by decide) (by decide) ?_
    show Sq p e below m T30 142 #[iv p1, iv p2, iv p3, iv p4, iv p5, iv (own_max (2 : Int32) p1), rv b2, iv 1, iv 1, iv p4, iv p5, iv 1, iv p2, iv p3, iv 0] [.int 1] _
    exact retN X30 hx (t := .boolean) Bd.returns (by simp) (hb hby at_142) hr
  · show Q_rm0 Z p1 p2 p3 p4 p5 w_NO_ENTRIES ks h0 n0 _ T30.heap _
    rw [e30]
    exact ⟨rfl, N30⟩
set_option maxRecDepth 65536 in
set_option maxHeartbeats 40000000 in
theorem comes_1 {Post : Tables → Env → Array Value → State → Outcome → State → Prop} (hpost : ∀ tb e args s v u, (limb_1_1.after args s (.returned v) u = true ∧ limb_1_2.after args s (.returned v) u = true ∧ True) → FrameEnd s (.returned v) u (Jvm.fieldLocs frame_1_writes args s ++ Jvm.arrayLocs frame_1_arrays args s ++ Jvm.staticLocs frame_1_statics s) 16 192 → Post tb e args s (.returned v) u) :
    ArmFor flags0 classFile x code maxLocals ret World_1 tables_1 room_1 Calls_1 rest_1 Pre_1 Post := by
  intro l hfl _ _ p e ha hc hk s m args below hf hA hF happ hP
  obtain ⟨hcalls, hrest, hpre⟩ := hP
  obtain ⟨-, -, -, hnamed, -, -, -, hat⟩ := (Spec.applies_iff hf).mp happ
  obtain ⟨hg, hn⟩ := and_e (Cond.before_iff.mp (show (Jvm.Cond.and given_1 narrow_1).before args s = true from hpre))
  obtain ⟨gc, gr0⟩ := and_e hg
  obtain ⟨ga0, gr1⟩ := and_e gr0
  obtain ⟨ga1, gr2⟩ := and_e gr1
  obtain ⟨ga2, gr3⟩ := and_e gr2
  obtain ⟨ga3, gr4⟩ := and_e gr3
  obtain ⟨w0, w1, w2, w3, w4, rfl⟩ : ∃ w0 w1 w2 w3 w4 : Value, args = #[w0, w1, w2, w3, w4] := by
    have hs : args.size = 5 := by simpa [Cond.value, given_1] using gc
    obtain ⟨L⟩ := args
    match L, hs with
    | [w0, w1, w2, w3, w4], _ => exact ⟨w0, w1, w2, w3, w4, rfl⟩
  have hw := fun d (hd : d ∈ tables_1) => atoms_spec (ws := Jvm.Cond.code x code maxLocals ret :: tables_1) hat d (List.mem_cons_of_mem _ hd)
  have W := fun (i : Nat) {d : Jvm.Cond} (h : tables_1[i]? = some d) => hw d (List.mem_of_getElem? h)
  obtain ⟨i0, ei0⟩ := is_v ga0
  obtain rfl : w0 = (.int i0) := Option.some.inj ei0
  obtain ⟨i1, ei1⟩ := is_v ga1
  obtain rfl : w1 = (.int i1) := Option.some.inj ei1
  obtain ⟨i2, ei2⟩ := is_v ga2
  obtain rfl : w2 = (.int i2) := Option.some.inj ei2
  obtain ⟨i3, ei3⟩ := is_v ga3
  obtain rfl : w3 = (.int i3) := Option.some.inj ei3
  obtain ⟨i4, ei4⟩ := is_v gr4
  obtain rfl : w4 = (.int i4) := Option.some.inj ei4
  obtain ⟨c0, cr0⟩ := and_e hn
  obtain ⟨c1, cr1⟩ := and_e cr0
  have c2 := cr1
  obtain ⟨w_NO_ENTRIES, ev_w_NO_ENTRIES⟩ := arr_v c0
  have S_w_NO_ENTRIES := Sta.start ev_w_NO_ENTRIES (Or.inr ⟨(W 6 rfl), (W 16 rfl)⟩)
  obtain ⟨cl_w_NO_ENTRIES, Ar_w_NO_ENTRIES⟩ := Arr.start ev_w_NO_ENTRIES c0
  have E_w_NO_ENTRIES := Exa.start ev_w_NO_ENTRIES c1
  have len_w_NO_ENTRIES := own_len ev_w_NO_ENTRIES Ar_w_NO_ENTRIES c2
  obtain ⟨ks, Vs⟩ := own_arv0 Ar_w_NO_ENTRIES len_w_NO_ENTRIES
  obtain ⟨n, o, h1, h2, h3, _, L, rfl, ⟨rfl, N⟩, hq⟩ := rm0 l s _ hw tables_1 i0 i1 i2 i3 i4 w_NO_ENTRIES ks s.heap s.heap.size (Old.start s) S_w_NO_ENTRIES E_w_NO_ENTRIES Vs p e ha hc hk s m _ below hf ((Spec.applies_iff_loose hf).mp happ).1 ⟨rfl, State.Warmed39.refl s, rfl⟩ trivial
  refine ⟨n, _, h1, h2, h3, hpost _ _ _ _ _ _ ⟨Cond.after_iff.mpr rfl, Cond.after_iff.mpr (eq_i res_at (Term.int_eval (1)) rfl), trivial⟩ ⟨hq.1, hq.2.1, (hq.2.2.sift fun y hy => Or.inr (N y hy)).mono (by decide) (by decide)⟩⟩
theorem main_1_1 : Claimed_1_1 := comes_1 fun _ _ _ _ _ _ h hF => ⟨h.1, hF⟩
theorem main_1_2 : Claimed_1_2 := comes_1 fun _ _ _ _ _ _ h hF => ⟨h.2.1, hF⟩
end Jvm.Pilot.@@N@@
namespace Jvm.Pilot.@@N@@
open Jvm Jvm.ClassFile Sem Op Lib Jvm.Free Jvm.Stand Jvm.Pilot.@@N@@.Jvm.D
/-! MADE BY PROGRAM (witnessworld.py) out of the Statement's table words and the real class files: 12 classes; the members and pool entries that the words name. The judged class is class 1, her method 1. -/
namespace start1
open Jvm.ClassFile
def u (s : String) : CpInfo := .utf8 (stringToUtf16 s)
/-- a pool by its gaps: so many unusable entries, then the entry; so many at the end -/
def gap : Nat → List CpInfo → List CpInfo
  | 0, r => r
  | n + 1, r => .unusable :: gap n r
def poolList (es : List (Nat × CpInfo)) (last : Nat) : List CpInfo := es.foldr (fun e r => gap e.1 (e.2 :: r)) (gap last [])
def pool (es : List (Nat × CpInfo)) (last : Nat) : Array CpInfo := ⟨poolList es last⟩
def fileOf (pool : Array CpInfo) (this : Nat) (attrs : Array Attribute := #[]) (ms : Array MethodInfo := #[]) (fl : Nat := 33) (sup : Nat := 0) (ifs : Array Nat := #[]) (fds : Array FieldInfo := #[]) : ClassFile where
  minorVersion := 0
  majorVersion := 65
  constantPool := pool
  accessFlags := fl
  thisClass := this
  superClass := sup
  interfaces := ifs
  fields := fds
  methods := ms
  attributes := attrs
def plain (name : String) (sup : Option ClassId) : Class where
  name := name
  kind := .ordinary
  loader := none
  accessFlags := 33
  super := sup
  interfaces := #[]
  cf := none
  fields := #[]
  methods := #[]
  instanceTypes := #[]
  staticTypes := #[]
  resolved := #[]
  callSites := []
  init := .initialized
  statics := none
  mirror := none

def pool0 : Array CpInfo := pool [(5, u "<init>"), (0, u "()V"), (1, .class_ 10), (1, u "java/lang/Object")] 113

def k0c0 : Code := { maxStack := 0, maxLocals := 1, code := object_method_1_code, exceptionTable := #[], attributes := #[] }
def k0m0 : Method := { name := "<init>", desc := "()V", sig := { parameters := [], returnType := none }, accessFlags := 1, code := some k0c0 }
/-- java/lang/Object -/
def k0 : Class := { plain "java/lang/Object" none with
  accessFlags := 33
  interfaces := #[]
  cf := some (fileOf pool0 8 #[] #[{ accessFlags := 1, nameIndex := 5, descriptorIndex := 6, attributes := #[] }] 33 0 #[] #[])
  fields := #[]
  methods := #[k0m0]
  instanceTypes := #[]
  staticTypes := #[]
  resolved := Array.replicate 124 none
  statics := none }

def pool1 : Array CpInfo := pool [(2, .class_ 4), (1, u "java/lang/Object"), (0, u "<init>"), (0, u "()V"), (0, .methodref 8 9), (0, .class_ 10), (0, .nameAndType 11 12), (0, u "java/lang/Math"), (0, u "max"), (0, u "(II)I"), (0, .class_ 14), (0, u "com/example/dodder/dodder/engine/BoundedStack"), (0, .methodref 13 16), (0, .nameAndType 5 17), (0, u "(I)V"), (0, .methodref 13 19), (0, .nameAndType 20 21), (0, u "push"), (0, u "(II)Z"), (0, .methodref 13 23), (0, .nameAndType 24 6), (0, u "pop"), (0, .methodref 13 26), (0, .nameAndType 27 28), (0, u "poppedFirst"), (0, u "()I"), (0, .methodref 13 30), (0, .nameAndType 31 28), (0, u "poppedSecond"), (0, .methodref 13 33), (0, .nameAndType 34 28), (0, u "size"), (0, .class_ 36), (0, u "com/example/dodder/dodder/engine/BoundedStackPopPinLaw"), (2, u "law"), (0, u "(IIIII)Z")] 3

def k1m0 : Method := { name := "<init>", desc := "()V", sig := { parameters := [], returnType := none }, accessFlags := 1, code := none }
def k1c1 : Code := { maxStack := 3, maxLocals := 15, code := code, exceptionTable := #[], attributes := #[] }
def k1m1 : Method := { name := "law", desc := "(IIIII)Z", sig := { parameters := [.int, .int, .int, .int, .int], returnType := some .boolean }, accessFlags := 9, code := some k1c1 }
/-- com/example/dodder/dodder/engine/BoundedStackPopPinLaw -/
def k1 : Class := { plain "com/example/dodder/dodder/engine/BoundedStackPopPinLaw" (some 0) with
  accessFlags := 49
  interfaces := #[]
  cf := some (fileOf pool1 35 #[] #[{ accessFlags := 1, nameIndex := 5, descriptorIndex := 6, attributes := #[] }, { accessFlags := 9, nameIndex := 39, descriptorIndex := 40, attributes := #[] }] 49 2 #[] #[])
  fields := #[]
  methods := #[k1m0, k1m1]
  instanceTypes := #[]
  staticTypes := #[]
  resolved := Array.replicate 44 none
  statics := none }

def pool2 : Array CpInfo := pool [(1, .class_ 2), (0, u "java/lang/Math"), (1, .class_ 6), (1, u "java/lang/Object"), (0, u "<init>"), (0, u "()V"), (89, .class_ 100), (1, u "java/lang/Math$RandomNumberGeneratorHolder"), (71, u "negativeZeroFloatBits"), (0, u "J"), (2, u "negativeZeroDoubleBits"), (21, u "max"), (2, u "min"), (43, u "$assertionsDisabled"), (0, u "Z"), (88, u "(II)I"), (2, u "twoToTheDoubleScaleDown"), (0, u "D"), (4, u "twoToTheDoubleScaleUp"), (9, u "E"), (3, u "PI"), (2, u "TAU"), (2, u "DEGREES_TO_RADIANS"), (0, u "RADIANS_TO_DEGREES")] 94

def k2m0 : Method := { name := "<init>", desc := "()V", sig := { parameters := [], returnType := none }, accessFlags := 2, code := none }
def k2c1 : Code := { maxStack := 2, maxLocals := 2, code := jdk_29_method_65_code, exceptionTable := #[], attributes := #[] }
def k2m1 : Method := { name := "max", desc := "(II)I", sig := { parameters := [.int, .int], returnType := some .int }, accessFlags := 9, code := some k2c1 }
def k2c2 : Code := { maxStack := 2, maxLocals := 2, code := jdk_29_method_69_code, exceptionTable := #[], attributes := #[] }
def k2m2 : Method := { name := "min", desc := "(II)I", sig := { parameters := [.int, .int], returnType := some .int }, accessFlags := 9, code := some k2c2 }
/-- java/lang/Math -/
def k2 : Class := { plain "java/lang/Math" (some 0) with
  accessFlags := 49
  interfaces := #[]
  cf := some (fileOf pool2 1 #[.nestMembers #[98]] #[{ accessFlags := 2, nameIndex := 7, descriptorIndex := 8, attributes := #[] }, { accessFlags := 9, nameIndex := 198, descriptorIndex := 335, attributes := #[] }, { accessFlags := 9, nameIndex := 201, descriptorIndex := 335, attributes := #[] }] 49 4 #[] #[{ accessFlags := 25, nameIndex := 354, descriptorIndex := 339, attributes := #[] }, { accessFlags := 25, nameIndex := 358, descriptorIndex := 339, attributes := #[] }, { accessFlags := 25, nameIndex := 361, descriptorIndex := 339, attributes := #[] }, { accessFlags := 26, nameIndex := 364, descriptorIndex := 339, attributes := #[] }, { accessFlags := 26, nameIndex := 365, descriptorIndex := 339, attributes := #[] }, { accessFlags := 26, nameIndex := 172, descriptorIndex := 173, attributes := #[] }, { accessFlags := 26, nameIndex := 176, descriptorIndex := 173, attributes := #[] }, { accessFlags := 8, nameIndex := 344, descriptorIndex := 339, attributes := #[] }, { accessFlags := 8, nameIndex := 338, descriptorIndex := 339, attributes := #[] }, { accessFlags := 4120, nameIndex := 245, descriptorIndex := 246, attributes := #[] }])
  fields := #[{ name := "E", type := .double, accessFlags := 25, slot := 0, constantValue := 0 }, { name := "PI", type := .double, accessFlags := 25, slot := 1, constantValue := 0 }, { name := "TAU", type := .double, accessFlags := 25, slot := 2, constantValue := 0 }, { name := "DEGREES_TO_RADIANS", type := .double, accessFlags := 26, slot := 3, constantValue := 0 }, { name := "RADIANS_TO_DEGREES", type := .double, accessFlags := 26, slot := 4, constantValue := 0 }, { name := "negativeZeroFloatBits", type := .long, accessFlags := 26, slot := 5, constantValue := 0 }, { name := "negativeZeroDoubleBits", type := .long, accessFlags := 26, slot := 6, constantValue := 0 }, { name := "twoToTheDoubleScaleUp", type := .double, accessFlags := 8, slot := 7, constantValue := 0 }, { name := "twoToTheDoubleScaleDown", type := .double, accessFlags := 8, slot := 8, constantValue := 0 }, { name := "$assertionsDisabled", type := .boolean, accessFlags := 4120, slot := 9, constantValue := 0 }]
  methods := #[k2m0, k2m1, k2m2]
  instanceTypes := #[]
  staticTypes := #[.double, .double, .double, .double, .double, .long, .long, .double, .double, .boolean]
  resolved := Array.replicate 460 none
  statics := none }

def pool3 : Array CpInfo := pool [(1, .class_ 2), (0, u "com/example/dodder/dodder/engine/BoundedStack"), (0, .methodref 4 5), (0, .class_ 6), (0, .nameAndType 7 8), (0, u "java/lang/Object"), (0, u "<init>"), (0, u "()V"), (0, .fieldref 1 10), (0, .nameAndType 11 12), (0, u "bound"), (0, u "I"), (0, .fieldref 1 14), (0, .nameAndType 15 16), (0, u "NO_ENTRIES"), (0, u "[I"), (0, .fieldref 1 18), (0, .nameAndType 19 16), (0, u "segment"), (0, .fieldref 1 21), (0, .nameAndType 22 12), (0, u "used"), (0, .methodref 1 24), (0, .nameAndType 25 26), (0, u "makeRoom"), (0, u "()Z"), (0, .fieldref 1 28), (0, .nameAndType 29 12), (0, u "index"), (0, .fieldref 1 31), (0, .nameAndType 32 33), (0, u "segments"), (0, u "[[I"), (0, .methodref 1 35), (0, .nameAndType 36 37), (0, u "size"), (0, u "()I"), (0, .methodref 39 40), (0, .class_ 41), (0, .nameAndType 42 43), (0, u "java/lang/Math"), (0, u "max"), (0, u "(II)I"), (0, .methodref 39 45), (0, .nameAndType 46 43), (0, u "min"), (0, .methodref 48 49), (0, .class_ 50), (0, .nameAndType 51 52), (0, u "java/util/Arrays"), (0, u "copyOf"), (0, u "([II)[I"), (0, .class_ 16), (4, u "SEGMENT_SHIFT"), (2, u "SEGMENT_ENTRIES"), (1, u "FIRST_ENTRIES"), (1, u "(I)V"), (2, u "push"), (0, u "(II)Z"), (1, u "pop"), (0, u "poppedFirst"), (0, u "poppedSecond")] 6

def k3c0 : Code := { maxStack := 2, maxLocals := 2, code := prog_7_method_1_code, exceptionTable := #[], attributes := #[] }
def k3m0 : Method := { name := "<init>", desc := "(I)V", sig := { parameters := [.int], returnType := none }, accessFlags := 0, code := some k3c0 }
def k3c1 : Code := { maxStack := 3, maxLocals := 4, code := prog_7_method_2_code, exceptionTable := #[], attributes := #[] }
def k3m1 : Method := { name := "push", desc := "(II)Z", sig := { parameters := [.int, .int], returnType := some .boolean }, accessFlags := 0, code := some k3c1 }
def k3c2 : Code := { maxStack := 3, maxLocals := 1, code := prog_7_method_3_code, exceptionTable := #[], attributes := #[] }
def k3m2 : Method := { name := "pop", desc := "()V", sig := { parameters := [], returnType := none }, accessFlags := 0, code := some k3c2 }
def k3c3 : Code := { maxStack := 2, maxLocals := 1, code := prog_7_method_4_code, exceptionTable := #[], attributes := #[] }
def k3m3 : Method := { name := "poppedFirst", desc := "()I", sig := { parameters := [], returnType := some .int }, accessFlags := 0, code := some k3c3 }
def k3c4 : Code := { maxStack := 3, maxLocals := 1, code := prog_7_method_5_code, exceptionTable := #[], attributes := #[] }
def k3m4 : Method := { name := "poppedSecond", desc := "()I", sig := { parameters := [], returnType := some .int }, accessFlags := 0, code := some k3c4 }
def k3c5 : Code := { maxStack := 3, maxLocals := 1, code := prog_7_method_7_code, exceptionTable := #[], attributes := #[] }
def k3m5 : Method := { name := "size", desc := "()I", sig := { parameters := [], returnType := some .int }, accessFlags := 0, code := some k3c5 }
def k3c6 : Code := { maxStack := 6, maxLocals := 4, code := prog_7_method_9_code, exceptionTable := #[], attributes := #[] }
def k3m6 : Method := { name := "makeRoom", desc := "()Z", sig := { parameters := [], returnType := some .boolean }, accessFlags := 2, code := some k3c6 }
/-- com/example/dodder/dodder/engine/BoundedStack -/
def k3 : Class := { plain "com/example/dodder/dodder/engine/BoundedStack" (some 0) with
  accessFlags := 48
  interfaces := #[]
  cf := some (fileOf pool3 1 #[] #[{ accessFlags := 0, nameIndex := 7, descriptorIndex := 65, attributes := #[] }, { accessFlags := 0, nameIndex := 68, descriptorIndex := 69, attributes := #[] }, { accessFlags := 0, nameIndex := 71, descriptorIndex := 8, attributes := #[] }, { accessFlags := 0, nameIndex := 72, descriptorIndex := 37, attributes := #[] }, { accessFlags := 0, nameIndex := 73, descriptorIndex := 37, attributes := #[] }, { accessFlags := 0, nameIndex := 36, descriptorIndex := 37, attributes := #[] }, { accessFlags := 2, nameIndex := 25, descriptorIndex := 26, attributes := #[] }] 48 4 #[] #[{ accessFlags := 26, nameIndex := 58, descriptorIndex := 12, attributes := #[] }, { accessFlags := 26, nameIndex := 61, descriptorIndex := 12, attributes := #[] }, { accessFlags := 26, nameIndex := 63, descriptorIndex := 12, attributes := #[] }, { accessFlags := 26, nameIndex := 15, descriptorIndex := 16, attributes := #[] }, { accessFlags := 18, nameIndex := 11, descriptorIndex := 12, attributes := #[] }, { accessFlags := 2, nameIndex := 32, descriptorIndex := 33, attributes := #[] }, { accessFlags := 2, nameIndex := 19, descriptorIndex := 16, attributes := #[] }, { accessFlags := 2, nameIndex := 29, descriptorIndex := 12, attributes := #[] }, { accessFlags := 2, nameIndex := 22, descriptorIndex := 12, attributes := #[] }])
  fields := #[{ name := "SEGMENT_SHIFT", type := .int, accessFlags := 26, slot := 0, constantValue := 0 }, { name := "SEGMENT_ENTRIES", type := .int, accessFlags := 26, slot := 1, constantValue := 0 }, { name := "FIRST_ENTRIES", type := .int, accessFlags := 26, slot := 2, constantValue := 0 }, { name := "NO_ENTRIES", type := (.array .int), accessFlags := 26, slot := 3, constantValue := 0 }, { name := "bound", type := .int, accessFlags := 18, slot := 0, constantValue := 0 }, { name := "segments", type := (.array (.array .int)), accessFlags := 2, slot := 1, constantValue := 0 }, { name := "segment", type := (.array .int), accessFlags := 2, slot := 2, constantValue := 0 }, { name := "index", type := .int, accessFlags := 2, slot := 3, constantValue := 0 }, { name := "used", type := .int, accessFlags := 2, slot := 4, constantValue := 0 }]
  methods := #[k3m0, k3m1, k3m2, k3m3, k3m4, k3m5, k3m6]
  instanceTypes := #[.int, (.array (.array .int)), (.array .int), .int, .int]
  staticTypes := #[.int, .int, .int, (.array .int)]
  resolved := Array.replicate 80 none
  statics := some 0 }

def pool4 : Array CpInfo := pool [(2, .class_ 4), (1, u "java/lang/Object"), (0, u "<init>"), (0, u "()V"), (7, .class_ 16), (1, u "java/util/Arrays"), (57, .class_ 76), (1, u "java/util/Arrays$NaturalOrder"), (36, .class_ 115), (1, u "java/util/Arrays$LegacyMergeSort"), (1, u "Z"), (32, .methodref 151 152), (0, .class_ 153), (0, .nameAndType 154 155), (0, u "java/lang/System"), (0, u "arraycopy"), (0, u "(Ljava/lang/Object;ILjava/lang/Object;II)V"), (146, u "copyOf"), (1, .methodref 305 306), (0, .class_ 307), (0, .nameAndType 308 309), (0, u "java/lang/Math"), (0, u "min"), (0, u "(II)I"), (65, .class_ 376), (0, u "java/util/Arrays$ArrayList"), (68, u "$assertionsDisabled"), (269, u "MIN_ARRAY_SORT_GRAN"), (0, u "I"), (2, u "INSERTIONSORT_THRESHOLD"), (151, u "([II)[I"), (103, .class_ 976), (0, u "java/util/Arrays$ArrayItr")] 52

def k4m0 : Method := { name := "<init>", desc := "()V", sig := { parameters := [], returnType := none }, accessFlags := 2, code := none }
def k4c1 : Code := { maxStack := 6, maxLocals := 3, code := jdk_65_method_123_code, exceptionTable := #[], attributes := #[] }
def k4m1 : Method := { name := "copyOf", desc := "([II)[I", sig := { parameters := [(.array .int), .int], returnType := some (.array .int) }, accessFlags := 9, code := some k4c1 }
/-- java/util/Arrays -/
def k4 : Class := { plain "java/util/Arrays" (some 0) with
  accessFlags := 49
  interfaces := #[]
  cf := some (fileOf pool4 14 #[.nestMembers #[975, 375, 113, 74]] #[{ accessFlags := 2, nameIndex := 5, descriptorIndex := 6, attributes := #[] }, { accessFlags := 9, nameIndex := 302, descriptorIndex := 871, attributes := #[] }] 49 2 #[] #[{ accessFlags := 26, nameIndex := 715, descriptorIndex := 716, attributes := #[] }, { accessFlags := 26, nameIndex := 719, descriptorIndex := 716, attributes := #[] }, { accessFlags := 4120, nameIndex := 445, descriptorIndex := 117, attributes := #[] }])
  fields := #[{ name := "MIN_ARRAY_SORT_GRAN", type := .int, accessFlags := 26, slot := 0, constantValue := 0 }, { name := "INSERTIONSORT_THRESHOLD", type := .int, accessFlags := 26, slot := 1, constantValue := 0 }, { name := "$assertionsDisabled", type := .boolean, accessFlags := 4120, slot := 2, constantValue := 0 }]
  methods := #[k4m0, k4m1]
  instanceTypes := #[]
  staticTypes := #[.int, .int, .boolean]
  resolved := Array.replicate 1029 none
  statics := none }

def pool5 : Array CpInfo := pool [(2, .class_ 4), (1, u "java/lang/Object"), (0, u "<init>"), (0, u "()V"), (1, .class_ 10), (1, u "java/lang/System"), (0, u "allowSecurityManager"), (0, u "I"), (16, u "cons"), (0, u "Ljava/io/Console;"), (77, .class_ 110), (1, u "java/lang/System$CallersHolder"), (43, u "initialErrStream"), (0, u "Ljava/io/PrintStream;"), (19, u "security"), (0, u "Ljava/lang/SecurityManager;"), (31, .class_ 209), (0, u "java/lang/System$1"), (7, u "props"), (0, u "Ljava/util/Properties;"), (2, u "lineSeparator"), (0, u "Ljava/lang/String;"), (96, .class_ 321), (1, u "java/lang/System$LoggerFinder"), (5, .class_ 328), (0, u "java/lang/System$Logger"), (67, u "err"), (2, u "out"), (91, u "notSupportedJnuEncoding"), (15, u "in"), (17, u "initialIn"), (0, u "Ljava/io/InputStream;"), (35, u "bootLayer"), (0, u "Ljava/lang/ModuleLayer;"), (99, .class_ 664), (0, u "java/lang/System$2"), (9, u "NEVER"), (2, u "MAYBE"), (49, u "arraycopy"), (0, u "(Ljava/lang/Object;ILjava/lang/Object;II)V"), (72, .class_ 802), (0, u "java/lang/System$Logger$Level")] 31

def k5m0 : Method := { name := "<init>", desc := "()V", sig := { parameters := [], returnType := none }, accessFlags := 2, code := none }
def k5m1 : Method := { name := "arraycopy", desc := "(Ljava/lang/Object;ILjava/lang/Object;II)V", sig := { parameters := [(.object "java/lang/Object"), .int, (.object "java/lang/Object"), .int, .int], returnType := none }, accessFlags := 265, code := none }
/-- java/lang/System -/
def k5 : Class := { plain "java/lang/System" (some 0) with
  accessFlags := 49
  interfaces := #[]
  cf := some (fileOf pool5 8 #[.nestMembers #[319, 327, 801, 108, 663, 208]] #[{ accessFlags := 2, nameIndex := 5, descriptorIndex := 6, attributes := #[] }, { accessFlags := 265, nameIndex := 727, descriptorIndex := 728, attributes := #[] }] 49 2 #[] #[{ accessFlags := 25, nameIndex := 507, descriptorIndex := 526, attributes := #[] }, { accessFlags := 25, nameIndex := 399, descriptorIndex := 155, attributes := #[] }, { accessFlags := 25, nameIndex := 396, descriptorIndex := 155, attributes := #[] }, { accessFlags := 10, nameIndex := 525, descriptorIndex := 526, attributes := #[] }, { accessFlags := 26, nameIndex := 674, descriptorIndex := 12, attributes := #[] }, { accessFlags := 26, nameIndex := 677, descriptorIndex := 12, attributes := #[] }, { accessFlags := 10, nameIndex := 11, descriptorIndex := 12, attributes := #[] }, { accessFlags := 74, nameIndex := 175, descriptorIndex := 176, attributes := #[] }, { accessFlags := 10, nameIndex := 491, descriptorIndex := 222, attributes := #[] }, { accessFlags := 74, nameIndex := 29, descriptorIndex := 30, attributes := #[] }, { accessFlags := 74, nameIndex := 154, descriptorIndex := 155, attributes := #[] }, { accessFlags := 10, nameIndex := 217, descriptorIndex := 218, attributes := #[] }, { accessFlags := 10, nameIndex := 221, descriptorIndex := 222, attributes := #[] }, { accessFlags := 8, nameIndex := 562, descriptorIndex := 563, attributes := #[] }])
  fields := #[{ name := "in", type := (.object "java/io/InputStream"), accessFlags := 25, slot := 0, constantValue := 0 }, { name := "out", type := (.object "java/io/PrintStream"), accessFlags := 25, slot := 1, constantValue := 0 }, { name := "err", type := (.object "java/io/PrintStream"), accessFlags := 25, slot := 2, constantValue := 0 }, { name := "initialIn", type := (.object "java/io/InputStream"), accessFlags := 10, slot := 3, constantValue := 0 }, { name := "NEVER", type := .int, accessFlags := 26, slot := 4, constantValue := 0 }, { name := "MAYBE", type := .int, accessFlags := 26, slot := 5, constantValue := 0 }, { name := "allowSecurityManager", type := .int, accessFlags := 10, slot := 6, constantValue := 0 }, { name := "security", type := (.object "java/lang/SecurityManager"), accessFlags := 74, slot := 7, constantValue := 0 }, { name := "notSupportedJnuEncoding", type := (.object "java/lang/String"), accessFlags := 10, slot := 8, constantValue := 0 }, { name := "cons", type := (.object "java/io/Console"), accessFlags := 74, slot := 9, constantValue := 0 }, { name := "initialErrStream", type := (.object "java/io/PrintStream"), accessFlags := 74, slot := 10, constantValue := 0 }, { name := "props", type := (.object "java/util/Properties"), accessFlags := 10, slot := 11, constantValue := 0 }, { name := "lineSeparator", type := (.object "java/lang/String"), accessFlags := 10, slot := 12, constantValue := 0 }, { name := "bootLayer", type := (.object "java/lang/ModuleLayer"), accessFlags := 8, slot := 13, constantValue := 0 }]
  methods := #[k5m0, k5m1]
  instanceTypes := #[]
  staticTypes := #[(.object "java/io/InputStream"), (.object "java/io/PrintStream"), (.object "java/io/PrintStream"), (.object "java/io/InputStream"), .int, .int, .int, (.object "java/lang/SecurityManager"), (.object "java/lang/String"), (.object "java/io/Console"), (.object "java/io/PrintStream"), (.object "java/util/Properties"), (.object "java/lang/String"), (.object "java/lang/ModuleLayer")]
  resolved := Array.replicate 834 none
  statics := none }

def pool6 : Array CpInfo := pool [(1, u "java/lang/Cloneable"), (0, .class_ 1), (0, u "java/lang/Object"), (0, .class_ 3)] 3

/-- java/lang/Cloneable -/
def k6 : Class := { plain "java/lang/Cloneable" (some 0) with
  accessFlags := 1537
  interfaces := #[]
  cf := some (fileOf pool6 2 #[] #[] 1537 4 #[] #[])
  fields := #[]
  methods := #[]
  instanceTypes := #[]
  staticTypes := #[]
  resolved := Array.replicate 8 none
  statics := none }

def pool7 : Array CpInfo := pool [(1, u "java/io/Serializable"), (0, .class_ 1), (0, u "java/lang/Object"), (0, .class_ 3)] 3

/-- java/io/Serializable -/
def k7 : Class := { plain "java/io/Serializable" (some 0) with
  accessFlags := 1537
  interfaces := #[]
  cf := some (fileOf pool7 2 #[] #[] 1537 4 #[] #[])
  fields := #[]
  methods := #[]
  instanceTypes := #[]
  staticTypes := #[]
  resolved := Array.replicate 8 none
  statics := none }

/-- the primitive byte -/
def k8 : Class := { plain "byte" none with kind := .primitive 'B', accessFlags := 0x411 }
/-- [B -/
def k9 : Class := { plain "[B" (some 0) with kind := .array 8 .byte, interfaces := #[6, 7], accessFlags := 1041 }

/-- the primitive int -/
def k10 : Class := { plain "int" none with kind := .primitive 'I', accessFlags := 0x411 }
/-- [I -/
def k11 : Class := { plain "[I" (some 0) with kind := .array 10 .int, interfaces := #[6, 7], accessFlags := 1041 }
/-- [[I -/
def k12 : Class := { plain "[[I" (some 0) with kind := .array 11 (.array .int), interfaces := #[6, 7], accessFlags := 1041 }

def heap : Heap := #[{ cls := 3, slots := #[.int 0, .int 0, .int 0, .ref 1], vm := .statics 3 },
  { cls := 11, slots := #[], vm := .none }]
def classes : Array Class := #[k0, k1, k2, k3, k4, k5, k6, k7, k8, k9, k10, k11, k12]
def interned : List (Array UInt16 × Addr) := []
def slotsUsed : Nat := 4
def theMethod : MethodId := ⟨1, 1⟩
def args0 : Array Value := #[.int 5, .int 3, .int 5, .int 3, .int 0]
def aboutOver (below : List Frame) : State where
  vm := { classes := classes, interned := interned.toArray }
  heap := heap
  slotsUsed := slotsUsed
  threads := #[{ frames := .invoking theMethod args0 :: below }]
def below0 : List Frame := [.native { method := ⟨0, 0⟩, args := #[] }]
def about1 : State := aboutOver below0
def p0 : Program := .bare "" "" ""
def e0 : Env := launch0.env 0 0 0
theorem w_frames : about1.frames = Frame.invoking theMethod args0 :: below0 := rfl
set_option maxRecDepth 65536 in
theorem w_args : argsFit about1.vm theMethod args0 = true := by decide +kernel
set_option maxRecDepth 65536 in
theorem w_heap : heapFits about1 = true := by decide +kernel
set_option maxRecDepth 65536 in
theorem w_runnable : about1.curStatus? = some .runnable := by decide +kernel
set_option maxRecDepth 65536 in
theorem w_alone : about1.alone = true := by decide +kernel
set_option maxRecDepth 65536 in
theorem w_named : about1.methodNamed? x = some theMethod := by decide +kernel
set_option maxRecDepth 65536 in
theorem w_hears : about1.hears theMethod below0 = true := by decide +kernel
set_option maxRecDepth 65536 in
theorem w_ripe : about1.ripe theMethod args0 below0 = true := by decide +kernel
theorem w_running : about1.status = .running := rfl
set_option maxRecDepth 65536 in
theorem w_room : about1.hasRoom e0.platform room_1 = true :=
  launch0.hasRoom_least _ room_1 (by decide +kernel) (by decide +kernel) (by decide +kernel) (by decide +kernel) (by decide +kernel) (by decide +kernel)
theorem allAtoms_all (ts : List Jvm.Cond) (a : Array Jvm.Value) (st : Jvm.State) : (allAtoms ts).before a st = ts.all (fun c => c.before a st) := by
  induction ts with
  | nil => rfl
  | cons c t ih =>
    show (Jvm.Cond.and c (allAtoms t)).before a st = _
    rw [Jvm.Cond.before_and, ih, List.all_cons]
def words1 : List Jvm.Cond := Jvm.Cond.code x code maxLocals ret :: tables_1
/-- a 'code' word, met by the world's own term for the bytes: nothing is compared byte by byte -/
theorem code_word {y : MethodName} {bytes : ByteArray} {mx : Nat} {rt : Option FieldType} {a : Array Value} {s : State} {m : MethodId} {meth : Method} {c : Code} (h1 : s.methodNamed? y = some m) (h2 : s.vm.method? m = some meth) (h3 : meth.code = some c) (h4 : c.code = bytes)
    (h5 : (c.maxLocals == mx && c.exceptionTable.isEmpty && decide (c.maxStack ≤ mostOperands) && decide (meth.sig.returnType = rt) && !meth.locks && decide (parseMethodDescriptor y.desc = some meth.sig)) = true) : (Jvm.Cond.code y bytes mx rt).before a s = true := by
  simp only [Bool.and_eq_true, beq_iff_eq, Bool.not_eq_true', decide_eq_true_eq] at h5
  obtain ⟨⟨⟨⟨⟨g1, g2⟩, g3⟩, g4⟩, g5⟩, g6⟩ := h5
  simp [Cond.before, Cond.holds, Cond.value, h1, h2, h3, h4, g1, g2, g3, g4, g5, g6]
def isCode : Jvm.Cond → Bool
  | .code _ _ _ _ => true
  | _ => false
theorem all_split {L : List Jvm.Cond} {P : Jvm.Cond → Bool} (h1 : L.all (fun c => isCode c || P c) = true) (h2 : ∀ c ∈ L.filter isCode, P c = true) : L.all P = true := by
  refine List.all_eq_true.mpr fun c hc => ?_
  have h := List.all_eq_true.mp h1 c hc
  rcases Bool.eq_false_or_eq_true (isCode c) with hi | hi
  · exact h2 c (List.mem_filter.mpr ⟨hc, hi⟩)
  · simpa [hi] using h
set_option maxRecDepth 65536 in
theorem w_c0 : (Jvm.Cond.code x code maxLocals ret).before args0 about1 = true := code_word (m := ⟨1, 1⟩) (meth := k1m1) (c := k1c1) (by decide +kernel) rfl rfl rfl (by decide +kernel)
set_option maxRecDepth 65536 in
theorem w_c1 : (Jvm.Cond.code ({ cls := "java/lang/Math", name := "max", desc := "(II)I" } : Jvm.MethodName) jdk_29_method_65_code (2 : Nat) (Option.some Jvm.ClassFile.FieldType.int)).before args0 about1 = true := code_word (m := ⟨2, 1⟩) (meth := k2m1) (c := k2c1) (by decide +kernel) rfl rfl rfl (by decide +kernel)
set_option maxRecDepth 65536 in
theorem w_c2 : (Jvm.Cond.code ({ cls := "com/example/dodder/dodder/engine/BoundedStack", name := "<init>", desc := "(I)V" } : Jvm.MethodName) prog_7_method_1_code (2 : Nat) (Option.none : Option Jvm.ClassFile.FieldType)).before args0 about1 = true := code_word (m := ⟨3, 0⟩) (meth := k3m0) (c := k3c0) (by decide +kernel) rfl rfl rfl (by decide +kernel)
set_option maxRecDepth 65536 in
theorem w_c3 : (Jvm.Cond.code ({ cls := "java/lang/Object", name := "<init>", desc := "()V" } : Jvm.MethodName) object_method_1_code (1 : Nat) (Option.none : Option Jvm.ClassFile.FieldType)).before args0 about1 = true := code_word (m := ⟨0, 0⟩) (meth := k0m0) (c := k0c0) (by decide +kernel) rfl rfl rfl (by decide +kernel)
set_option maxRecDepth 65536 in
theorem w_c4 : (Jvm.Cond.code ({ cls := "com/example/dodder/dodder/engine/BoundedStack", name := "push", desc := "(II)Z" } : Jvm.MethodName) prog_7_method_2_code (4 : Nat) (Option.some Jvm.ClassFile.FieldType.boolean)).before args0 about1 = true := code_word (m := ⟨3, 1⟩) (meth := k3m1) (c := k3c1) (by decide +kernel) rfl rfl rfl (by decide +kernel)
set_option maxRecDepth 65536 in
theorem w_c5 : (Jvm.Cond.code ({ cls := "com/example/dodder/dodder/engine/BoundedStack", name := "makeRoom", desc := "()Z" } : Jvm.MethodName) prog_7_method_9_code (4 : Nat) (Option.some Jvm.ClassFile.FieldType.boolean)).before args0 about1 = true := code_word (m := ⟨3, 6⟩) (meth := k3m6) (c := k3c6) (by decide +kernel) rfl rfl rfl (by decide +kernel)
set_option maxRecDepth 65536 in
theorem w_c6 : (Jvm.Cond.code ({ cls := "com/example/dodder/dodder/engine/BoundedStack", name := "size", desc := "()I" } : Jvm.MethodName) prog_7_method_7_code (1 : Nat) (Option.some Jvm.ClassFile.FieldType.int)).before args0 about1 = true := code_word (m := ⟨3, 5⟩) (meth := k3m5) (c := k3c5) (by decide +kernel) rfl rfl rfl (by decide +kernel)
set_option maxRecDepth 65536 in
theorem w_c7 : (Jvm.Cond.code ({ cls := "java/lang/Math", name := "min", desc := "(II)I" } : Jvm.MethodName) jdk_29_method_69_code (2 : Nat) (Option.some Jvm.ClassFile.FieldType.int)).before args0 about1 = true := code_word (m := ⟨2, 2⟩) (meth := k2m2) (c := k2c2) (by decide +kernel) rfl rfl rfl (by decide +kernel)
set_option maxRecDepth 65536 in
theorem w_c8 : (Jvm.Cond.code ({ cls := "java/util/Arrays", name := "copyOf", desc := "([II)[I" } : Jvm.MethodName) jdk_65_method_123_code (3 : Nat) (Option.some (Jvm.ClassFile.FieldType.array Jvm.ClassFile.FieldType.int))).before args0 about1 = true := code_word (m := ⟨4, 1⟩) (meth := k4m1) (c := k4c1) (by decide +kernel) rfl rfl rfl (by decide +kernel)
set_option maxRecDepth 65536 in
theorem w_c9 : (Jvm.Cond.code ({ cls := "com/example/dodder/dodder/engine/BoundedStack", name := "pop", desc := "()V" } : Jvm.MethodName) prog_7_method_3_code (1 : Nat) (Option.none : Option Jvm.ClassFile.FieldType)).before args0 about1 = true := code_word (m := ⟨3, 2⟩) (meth := k3m2) (c := k3c2) (by decide +kernel) rfl rfl rfl (by decide +kernel)
set_option maxRecDepth 65536 in
theorem w_c10 : (Jvm.Cond.code ({ cls := "com/example/dodder/dodder/engine/BoundedStack", name := "poppedFirst", desc := "()I" } : Jvm.MethodName) prog_7_method_4_code (1 : Nat) (Option.some Jvm.ClassFile.FieldType.int)).before args0 about1 = true := code_word (m := ⟨3, 3⟩) (meth := k3m3) (c := k3c3) (by decide +kernel) rfl rfl rfl (by decide +kernel)
set_option maxRecDepth 65536 in
theorem w_c11 : (Jvm.Cond.code ({ cls := "com/example/dodder/dodder/engine/BoundedStack", name := "poppedSecond", desc := "()I" } : Jvm.MethodName) prog_7_method_5_code (1 : Nat) (Option.some Jvm.ClassFile.FieldType.int)).before args0 about1 = true := code_word (m := ⟨3, 4⟩) (meth := k3m4) (c := k3c4) (by decide +kernel) rfl rfl rfl (by decide +kernel)
def codes1 : List Jvm.Cond := [Jvm.Cond.code x code maxLocals ret, Jvm.Cond.code ({ cls := "java/lang/Math", name := "max", desc := "(II)I" } : Jvm.MethodName) jdk_29_method_65_code (2 : Nat) (Option.some Jvm.ClassFile.FieldType.int), Jvm.Cond.code ({ cls := "com/example/dodder/dodder/engine/BoundedStack", name := "<init>", desc := "(I)V" } : Jvm.MethodName) prog_7_method_1_code (2 : Nat) (Option.none : Option Jvm.ClassFile.FieldType), Jvm.Cond.code ({ cls := "java/lang/Object", name := "<init>", desc := "()V" } : Jvm.MethodName) object_method_1_code (1 : Nat) (Option.none : Option Jvm.ClassFile.FieldType), Jvm.Cond.code ({ cls := "com/example/dodder/dodder/engine/BoundedStack", name := "push", desc := "(II)Z" } : Jvm.MethodName) prog_7_method_2_code (4 : Nat) (Option.some Jvm.ClassFile.FieldType.boolean), Jvm.Cond.code ({ cls := "com/example/dodder/dodder/engine/BoundedStack", name := "makeRoom", desc := "()Z" } : Jvm.MethodName) prog_7_method_9_code (4 : Nat) (Option.some Jvm.ClassFile.FieldType.boolean), Jvm.Cond.code ({ cls := "com/example/dodder/dodder/engine/BoundedStack", name := "size", desc := "()I" } : Jvm.MethodName) prog_7_method_7_code (1 : Nat) (Option.some Jvm.ClassFile.FieldType.int), Jvm.Cond.code ({ cls := "java/lang/Math", name := "min", desc := "(II)I" } : Jvm.MethodName) jdk_29_method_69_code (2 : Nat) (Option.some Jvm.ClassFile.FieldType.int), Jvm.Cond.code ({ cls := "java/util/Arrays", name := "copyOf", desc := "([II)[I" } : Jvm.MethodName) jdk_65_method_123_code (3 : Nat) (Option.some (Jvm.ClassFile.FieldType.array Jvm.ClassFile.FieldType.int)), Jvm.Cond.code ({ cls := "com/example/dodder/dodder/engine/BoundedStack", name := "pop", desc := "()V" } : Jvm.MethodName) prog_7_method_3_code (1 : Nat) (Option.none : Option Jvm.ClassFile.FieldType), Jvm.Cond.code ({ cls := "com/example/dodder/dodder/engine/BoundedStack", name := "poppedFirst", desc := "()I" } : Jvm.MethodName) prog_7_method_4_code (1 : Nat) (Option.some Jvm.ClassFile.FieldType.int), Jvm.Cond.code ({ cls := "com/example/dodder/dodder/engine/BoundedStack", name := "poppedSecond", desc := "()I" } : Jvm.MethodName) prog_7_method_5_code (1 : Nat) (Option.some Jvm.ClassFile.FieldType.int)]
set_option maxRecDepth 65536 in
theorem codes_eq : words1.filter isCode = codes1 := rfl
theorem w_codes : ∀ c ∈ words1.filter isCode, c.before args0 about1 = true := by
  rw [codes_eq]
  intro c hc
  simp only [codes1, List.mem_cons, List.not_mem_nil, or_false] at hc
  rcases hc with rfl | rfl | rfl | rfl | rfl | rfl | rfl | rfl | rfl | rfl | rfl | rfl
  · exact w_c0
  · exact w_c1
  · exact w_c2
  · exact w_c3
  · exact w_c4
  · exact w_c5
  · exact w_c6
  · exact w_c7
  · exact w_c8
  · exact w_c9
  · exact w_c10
  · exact w_c11
set_option maxRecDepth 65536 in
theorem w_t1 : (words1.take 24).all (fun c => isCode c || c.before args0 about1) = true := by decide +kernel
set_option maxRecDepth 65536 in
theorem w_t2 : ((words1.drop 24).take 24).all (fun c => isCode c || c.before args0 about1) = true := by decide +kernel
set_option maxRecDepth 65536 in
theorem w_t3 : (((words1.drop 24).drop 24).take 24).all (fun c => isCode c || c.before args0 about1) = true := by decide +kernel
set_option maxRecDepth 65536 in
theorem w_t4 : (((words1.drop 24).drop 24).drop 24).all (fun c => isCode c || c.before args0 about1) = true := by decide +kernel
theorem w_tables : (allAtoms (Jvm.Cond.code x code maxLocals ret :: tables_1)).before args0 about1 = true := by
  rw [allAtoms_all]
  show words1.all (fun c => c.before args0 about1) = true
  refine all_split ?_ w_codes
  rw [← List.take_append_drop 24 words1, List.all_append, w_t1, ← List.take_append_drop 24 (words1.drop 24), List.all_append, w_t2, ← List.take_append_drop 24 ((words1.drop 24).drop 24), List.all_append, w_t3, w_t4]
  rfl
set_option maxRecDepth 65536 in
theorem w_case : (Jvm.Cond.and given_1 narrow_1).before args0 about1 = true := by decide +kernel
theorem w_applies : (headSpec (Jvm.Cond.code x code maxLocals ret :: tables_1) room_1).applies x e0.platform about1 = true :=
  (Spec.applies_iff w_frames).mpr ⟨w_running, w_runnable, w_alone, w_named, w_hears, w_ripe, w_room, w_tables⟩
theorem atStart : AtStart classFile x code maxLocals ret World_1 tables_1 room_1 Calls_1 rest_1 Pre_1 launch0 p0 e0 about1 theMethod args0 below0 :=
  ⟨lists_1, trivial, launch0.admits_env _ _ _, launch0.least_env, fairChoices_fair.cas, fairChoices_fair.clock, w_frames, w_args, w_heap, w_applies, trivial, trivial, w_case⟩
end start1
theorem witness_1 : WitnessClaimed_1 := ⟨start1.p0, start1.e0, start1.about1, start1.theMethod, start1.args0, start1.below0, start1.atStart⟩
end Jvm.Pilot.@@N@@
