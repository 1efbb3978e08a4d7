import JvmDerived
import JvmDerived.Pilot.@@N@@Statement
import JvmDerived.Pilot.@@N@@Code
set_option linter.unusedVariables false
set_option linter.unusedSimpArgs false
namespace Jvm.RoadKit
open Sem ClassFile Op Lib Jvm.Stand Jvm.Free Jvm.LawKit
section New
variable {p : Program} {l : Launch} {e : Env} {R : Room} {s : State} {m : MethodId} {args : Array Value} {below : List Frame} {meth : Method} {c : Code} {T : State} {locs : List Loc} {cells slots : Nat}
theorem retI (X : Stand p l e R s m args below meth c T locs cells slots) (hx : p.tables.exec = Jvm.exec) {pc : Nat} {Ls : Array Slot} {z : Int32} {rest : List Value} (hret : meth.sig.returnType = some .int) (hd : decode c.code pc = .ok (.ireturn, 1)) {fs : List Frame}
    (hl : ∀ (f : JFrame) (acts : List Action), f.method = m → f.locked = none → f.entered = [] → (doReturn e (T.setTop f) acts (some (.int z))).1 = T.setFrames fs) : Steps p.tables e below (T.setTop (mkF m pc Ls (.int z :: rest))) (T.setFrames fs) := by
  have hm' : T.vm.method? m = some meth := X.method'
  have hn : narrow .int (.int z) = .int z := rfl
  show Steps p.tables e below (T.setTop { method := m, pc := pc, locals := Ls, stack := _ :: rest, locked := none }) _
  jvm_step X.here [X.here.top, hx, hd, hm', hret, hn]
  first | (intro acts; rw [hl _ acts rfl rfl rfl]) | rw [hl _ _ rfl rfl rfl]
  exact Steps.refl _
abbrev Sq (p : Program) (e : Env) (below : List Frame) (m : MethodId) (T : State) (pc : Nat) (L : Array Slot) (S : List Value) (t : State) : Prop := Steps p.tables e below (T.setTop (mkF m pc L S)) t
abbrev Ctr (l : Launch) (Z : State) (y : MethodName) (b : ByteArray) (ml : Nat) (rt : Option FieldType) (ws : List Cond) (rm : Room) (as' : Array Value) (h0 : Heap) (Q : Option Value → Heap → List Loc → Prop) : Prop :=
  MetFree l y (head1 (Cond.code y b ml rt :: ws) rm) (fun a U => a = as' ∧ Z.Warmed39 U.vm ∧ U.heap = h0) (fun _ _ _ _ _ => True) (fun _ U o U' => ∃ v L, o = .returned v ∧ Q v U'.heap L ∧ FrameEnd U o U' L rm.cells rm.slots)
theorem own_sz {Z : State} {n0 : Nat} {h : Heap} (O : Old Z n0 h) : n0 ≤ h.size := O.1 ▸ O.2.1
theorem own_selpriv {Z s : State} {a0 args : Array Value} {y : MethodName} {n : Nat} (hZ : Z.Warmed39 s.vm) (wi : (Cond.instantiable y.cls n).before a0 Z = true) (wm : (Cond.instanceMethod y).before a0 Z = true) (wp : (Cond.privateMethod y).before a0 Z = true) (hy : y.cls ≠ "java/lang/invoke/MethodHandle" ∧ y.cls ≠ "java/lang/invoke/VarHandle") : (Cond.selects y.cls y y).before args s = true := by
  obtain ⟨c, k, h1, h2, -, h4, -⟩ := Cond.instantiable_spec (mv (args := args) hZ wi)
  have hk : k.isInterface = false := by cases h : k.isInterface <;> simp_all
  exact selects_self_of_private h1 h2 hk (Cond.privateMethod_at (mvP hZ wp (args := args))) (mv hZ wm) hy
theorem own_fldinj {Z : State} {h : Heap} {a : Addr} {C n d : String} {v w : Value} (F : Fld Z h a C n d v) (G : Fld Z h a C n d w) : v = w := by
  obtain ⟨c1, cf, k, i, f, h1, h2, -, -, -, -, h3⟩ := F
  obtain ⟨c2, cf2, k2, i2, f2, g1, g2, -, -, -, -, g3⟩ := G
  cases h1.symm.trans g1
  cases h2.symm.trans g2
  exact Option.some.inj (h3.symm.trans g3)
theorem own_ne {Z : State} {h : Heap} {a b : Addr} {C n d : String} {v w : Value} (F : Fld Z h a C n d v) (G : Fld Z h b C n d w) (q : v ≠ w) : a ≠ b := fun e => by
  subst e; exact q (own_fldinj F G)
theorem own_static {s : State} {args : Array Value} {C f d K : String} (h : (Cond.exactly (Term.static C f d) K).value args s none s [] = some true) (hi : (Cond.initializedFor C f d).before args s = true ∨ ((Cond.initialized C).before args s = true ∧ (Cond.laysStatic C f d).before args s = true)) :
    ∃ w, Sta s s.heap C f d (.ref w) ∧ Exa s s.heap w K ∧ (Term.static C f d).eval args s none [] s = some (.ref w) := by
  obtain ⟨w, ev⟩ := exa_v h
  exact ⟨w, Sta.start ev hi, Exa.start ev h, ev⟩
theorem own_field {s : State} {args : Array Value} {t : Term} {w : Addr} {O f d : String} {n : Int32} (ev : t.eval args s none [] s = some (.ref w)) (h : (Cond.eq (Term.field t O f d) (Term.int n)).value args s none s [] = some true) : Fld s s.heap w O f d (.int n) := by
  have q := eqv_i (Term.int_eval n) h
  rw [fld_at ev] at q
  exact Fld.start q
theorem own_fldR {s : State} {args : Array Value} {t : Term} {w : Addr} {O f d : String} {v : Value} (ev : t.eval args s none [] s = some (.ref w)) (h : (Term.field t O f d).eval args s none [] s = some v) : Fld s s.heap w O f d v := Fld.start ((fld_at ev).symm.trans h)
theorem own_eqR {s : State} {args : Array Value} {a b : Term} {y : Addr} (hb : b.eval args s none [] s = some (.ref y)) (h : (Cond.eq a b).value args s none s [] = some true) : a.eval args s none [] s = some (.ref y) :=
  Cond.eq_refs (by simp [Cond.holds, h]) hb rfl
theorem own_len {s : State} {args : Array Value} {t : Term} {a : Addr} {c : Cell} {ty : FieldType} {n : Int32} (ev : t.eval args s none [] s = some (.ref a)) (A : Arr s s.heap a c ty) (h : (Cond.eq (Term.length t) (Term.int n)).value args s none s [] = some true) :
    c.slots.size < 2 ^ 31 ∧ c.slots.size.toInt32 = n := by
  have q := eqv_i (Term.int_eval n) h
  have f := A.fin (Vm.Alike.refl _)
  simp [Term.eval, ev, f] at q
  exact ⟨by simpa using q.1, q.2⟩
theorem own_nsroot {Z : State} {a0 : Array Value} {O K : String} {n : Nat} (w : (Cond.noSuperclass O).before a0 Z = true) (wi : (Cond.instantiable K n).before a0 Z = true) (hn : O ≠ K) : NS Z O K := by
  obtain ⟨c, k, h1, h2, h3, -, -⟩ := Cond.noSuperclass_spec w
  obtain ⟨t, kt, g1, -⟩ := Cond.instantiable_spec wi
  refine ⟨c, t, h1, g1, fun fuel => ?_⟩
  cases fuel with
  | zero => rfl
  | succ f => simp [Vm.isSubclassAux, ids_ne h1 g1 hn, h2, h3]
theorem own_nsno {Z : State} {a0 : Array Value} {C S K : String} {n : Nat} (w : (Cond.superclass C S).before a0 Z = true) (wi : (Cond.instantiable K n).before a0 Z = true) (q : NS Z C K) (hn : C ≠ K) : ∃ c t, Z.vm.findClass C = some c ∧ Z.vm.findClass K = some t ∧ Z.vm.assignable c t = false := by
  obtain ⟨c, t, h0, g0, n3⟩ := q
  obtain ⟨p, k, kp, -, h2, -, -, h5, -⟩ := Cond.superclass_spec h0 w
  obtain ⟨t', kt, g1, g2, g3, g4, -⟩ := Cond.instantiable_spec wi
  cases g0.symm.trans g1
  have g5 : kt.isInterface = false := by cases hh : kt.isInterface <;> simp_all
  refine ⟨c, t, h0, g0, ?_⟩
  show Z.vm.assignableAux (255 + 1) c t = false
  simp [Vm.assignableAux, ids_ne h0 g0 hn, h2, g2, h5, g3, g5, Vm.isSubclass, n3]
theorem own_idx {x : Int32} (h1 : ¬ x < (-128 : Int32)) (h2 : ¬ (127 : Int32) < x) : ¬ (x + (128 : Int32)) < 0 ∧ (x + (128 : Int32)) < (256 : Int32) := by
  have a := c_iadd x 128
  have b : (128 : Int32).toInt = 128 := by decide
  have c : (-128 : Int32).toInt = -128 := by decide
  have d : (127 : Int32).toInt = 127 := by decide
  have f : (256 : Int32).toInt = 256 := by decide
  have g : (0 : Int32).toInt = 0 := by decide
  have r := rng32 (x + 128)
  simp only [Int32.lt_iff_toInt_lt, b, c, d, f, g] at *
  omega
theorem own_bxs {s : State} {args : Array Value} {C n : String} {a : Addr} {c : Cell} (ev : (Term.static C n "[Ljava/lang/Integer;").eval args s none [] s = some (.ref a)) (A : Arr s s.heap a c (.object "java/lang/Integer"))
    (hl : (Cond.eq (Term.length (Term.static C n "[Ljava/lang/Integer;")) (Term.int (256 : Int32))).value args s none s [] = some true)
    (h : (Cond.all (Term.static C n "[Ljava/lang/Integer;") (.and (.exactly (.elem (Term.static C n "[Ljava/lang/Integer;") (.index 0)) "java/lang/Integer") (.eq (.field (.elem (Term.static C n "[Ljava/lang/Integer;") (.index 0)) "java/lang/Integer" "value" "I") (Term.sub (Term.index 0) (Term.int (128 : Int32)))))).value args s none s [] = some true) :
    Bxs s a c "java/lang/Integer" "I" (256 : Int32) (fun j => .int (j - (128 : Int32))) := by
  obtain ⟨l1, l2⟩ := own_len ev A hl
  refine Bxs.start (fun _ => ev) A l1 l2 (by decide) h fun X j hj hX => ?_
  refine eqv_i ?_ hX
  have q := idx_at (args := args) (s := s) (first := s) (o := none) hj
  simp [Term.eval] at q
  simp [Term.eval, q]
end New
end Jvm.RoadKit
namespace Jvm.Pilot.@@N@@
open Jvm Jvm.ClassFile Sem Op Lib Jvm.Free Jvm.Stand Jvm.LawKit Jvm.RoadKit Bundle Jvm.Pilot.@@N@@.Jvm.D
theorem d1_0 : decode prog_30_method_1_code 0 = .ok (.aload_n 0, 1) := by decide +kernel
theorem d1_1 : decode prog_30_method_1_code 1 = .ok (.invokespecial 1, 3) := by decide +kernel
theorem d1_4 : decode prog_30_method_1_code 4 = .ok (.aload_n 0, 1) := by decide +kernel
theorem d1_5 : decode prog_30_method_1_code 5 = .ok (.iload_n 1, 1) := by decide +kernel
theorem d1_6 : decode prog_30_method_1_code 6 = .ok (.putfield 7, 3) := by decide +kernel
theorem d1_9 : decode prog_30_method_1_code 9 = .ok (.aload_n 0, 1) := by decide +kernel
theorem d1_10 : decode prog_30_method_1_code 10 = .ok (.iload_n 2, 1) := by decide +kernel
theorem d1_11 : decode prog_30_method_1_code 11 = .ok (.putfield 13, 3) := by decide +kernel
theorem d1_14 : decode prog_30_method_1_code 14 = .ok (.return_, 1) := by decide +kernel
def Q_binit (Z : State) (a : Addr) (x1 : Int32) (y1 : Int32) (h0 : Heap) (n0 : Nat) (v : Option Value) (h : Heap) (L : List Loc) : Prop := v = none ∧ Fr n0 L ∧ Keep h0 h [a] ∧ Fld Z h a "com/example/concordat/concordat/at/StatementSyntax$Bounds" "end" "I" (.int x1) ∧ Fld Z h a "com/example/concordat/concordat/at/StatementSyntax$Bounds" "keyword" "I" (.int y1)
theorem ef_0 (m : MethodId) (x0 : Addr) (x1 : Int32) (x2 : Int32) : entryFrame m #[(.ref x0), (.int x1), (.int x2)] 3 = mkF m 0 #[.val (.ref x0), .val (.int x1), .val (.int x2)] [] := by first | (simp [entryFrame, mkF, argsToLocals, Value.category]; done) | rfl
theorem pn_0 : plainName "com/example/concordat/concordat/at/StatementSyntax$Bounds" = true := by first | (simp [plainName, overriddenIn]; done) | decide +kernel
abbrev y_0 : MethodName := ⟨"com/example/concordat/concordat/at/StatementSyntax$Bounds", "<init>", "(II)V"⟩
set_option maxRecDepth 65536 in
set_option maxHeartbeats 40000000 in
theorem binit (l : Launch) (Z : State) (a0 : Array Value) (hw : ∀ d ∈ tables_1, d.before a0 Z = true) (ws : List Jvm.Cond) (a : Addr) (x1 : Int32) (y1 : Int32) (h0 : Heap) (n0 : Nat) (O : Old Z n0 h0) (Ea : Exa Z h0 a "com/example/concordat/concordat/at/StatementSyntax$Bounds") (Fe : Fld Z h0 a "com/example/concordat/concordat/at/StatementSyntax$Bounds" "end" "I" (.int (0 : Int32))) (Fk : Fld Z h0 a "com/example/concordat/concordat/at/StatementSyntax$Bounds" "keyword" "I" (.int (0 : Int32))) (ga : n0 ≤ a) :
    Ctr l Z y_0 prog_30_method_1_code 3 none ws ({ frames := 1, cells := 0, slots := 0, locals := 12 } : Room) #[(.ref a), (.int x1), (.int y1)] h0 (Q_binit Z a x1 y1 h0 n0) := by
  refine MetFree.of_bodySF (plainFor_of_name pn_0) hisR ?_
  intro p e s m args below meth c s₁ Bd hml0 hP hK
  obtain ⟨rfl, hZ, hh⟩ := hP
  have W := fun (i : Nat) {d : Jvm.Cond} (h : tables_1[i]? = some d) => hw d (List.mem_of_getElem? h)
  have hx := Bd.exec
  have hby := Bd.bytes
  have hml : c.maxLocals = 3 := hml0
  have hown : s.vm.findClass "com/example/concordat/concordat/at/StatementSyntax$Bounds" = some m.cls := findClass_of_methodNamed Bd.named
  have hnm := (name_of_methodNamed Bd.named Bd.method).1
  have X0 : Stand p l e ({ frames := 1, cells := 0, slots := 0, locals := 12 } : Room) s m #[(.ref a), (.int x1), (.int y1)] below meth c s₁ [] 0 0 := Stand.of_body Bd
  have e0 : s₁.heap = h0 := by rw [← hh, Bd.state]; rfl
  have N0 := Fr.nil n0
  have pre0 : ∀ t, Steps p.tables e below (s₁.setTop (mkF m 0 #[.val (.ref a), .val (.int x1), .val (.int y1)] [])) t → Steps p.tables e below (s₁.setTop (entryFrame m #[(.ref a), (.int x1), (.int y1)] 3)) t := fun t kk_ => castTop (ef_0 m a x1 y1) kk_
  have K0 := Keep.refl h0 [a]
  obtain ⟨T1, X1, e1, st1⟩ := initO X0 hx hZ hown (W 6 rfl) (W 7 rfl) (W 8 rfl) e0 (g := (mkF m 1 #[rv a, iv x1, iv y1] [.ref a])) rfl (by rw [hml]; rfl) rfl (hb hby d1_1) (by decide) (W := 0) (by show 2 * 0 + _ ≤ _; exact Nat.le_of_eq rfl) (by decide)
  obtain ⟨T2, h2, X2, e2, W2, st2⟩ := putF X1 hx hZ hown (host := "") (Or.inl (W 9 rfl)) Via.refl e1 Fe Ea (Or.inr ⟨(W 10 rfl), rfl, hnm⟩) (W 1 rfl) (ty := .int) (by decide) rfl rfl (g := (mkF m 6 #[rv a, iv x1, iv y1] [.int x1, .ref a])) rfl rfl (hb hby d1_6)
  have Fz2 := Fe.same W2
  have Ea := Ea.wr W2
  have Fk := Fk.other W2 (Or.inr (slot_ne (Or.inr (W 12 rfl)) (Or.inr (W 10 rfl)) (by decide) (t := .int) (t' := .int) (by decide) (by decide)))
  have K4 := K0.wr W2 (Or.inl (List.mem_of_getElem? (i := 0) rfl))
  have N5 := Fr.snoc X2 N0 ga
  obtain ⟨T6, h6, X6, e6, W6, st6⟩ := putF X2 hx hZ hown (host := "") (Or.inl (W 11 rfl)) Via.refl e2 Fk Ea (Or.inr ⟨(W 12 rfl), rfl, hnm⟩) (W 1 rfl) (ty := .int) (by decide) rfl rfl (g := (mkF m 11 #[rv a, iv x1, iv y1] [.int y1, .ref a])) rfl rfl (hb hby d1_11)
  have Fz6 := Fk.same W6
  have Fz2 := Fz2.other W6 (Or.inr (slot_ne (Or.inr (W 10 rfl)) (Or.inr (W 12 rfl)) (by decide) (t := .int) (t' := .int) (by decide) (by decide)))
  have K8 := K4.wr W6 (Or.inl (List.mem_of_getElem? (i := 0) rfl))
  have N9 := Fr.snoc X6 N5 ga
  obtain ⟨fs, hr, hrun, hended, hW, hsame⟩ := X6.leave (v := none) (fun _ => rfl)
  refine ⟨_, _, pre0 _ ?_, hrun, hended, _, _, rfl, ?_, ⟨_, rfl⟩, hW, hsame.mono (by decide) (by decide)⟩
  · show Sq p e below m s₁ 0 #[rv a, iv x1, iv y1] [] _
    refine XS.aloadN X0.here hx rfl (hb hby d1_0) rfl rfl ?_
    show Sq p e below m s₁ 1 #[rv a, iv x1, iv y1] [.ref a] _
    refine st1 _ ?_
    show Sq p e below m T1 4 #[rv a, iv x1, iv y1] [] _
    refine XS.aloadN X1.here hx rfl (hb hby d1_4) rfl rfl ?_
    refine XS.iloadN X1.here hx rfl (hb hby d1_5) rfl ?_
    show Sq p e below m T1 6 #[rv a, iv x1, iv y1] [.int x1, .ref a] _
    refine st2 _ ?_
    show Sq p e below m T2 9 #[rv a, iv x1, iv y1] [] _
    refine XS.aloadN X2.here hx rfl (hb hby d1_9) rfl rfl ?_
    refine XS.iloadN X2.here hx rfl (hb hby d1_10) rfl ?_
    show Sq p e below m T2 11 #[rv a, iv x1, iv y1] [.int y1, .ref a] _
    refine st6 _ ?_
    show Sq p e below m T6 14 #[rv a, iv x1, iv y1] [] _
    exact X6.returnOut hx Bd.returns (hb hby d1_14) hr
  · show Q_binit Z a x1 y1 h0 n0 _ T6.heap _
    rw [e6]
    exact ⟨rfl, N9, K8, Fz2, Fz6⟩
theorem d6_0 : decode jdk_18_method_1_code 0 = .ok (.aload_n 0, 1) := by decide +kernel
theorem d6_1 : decode jdk_18_method_1_code 1 = .ok (.invokespecial 1, 3) := by decide +kernel
theorem d6_4 : decode jdk_18_method_1_code 4 = .ok (.return_, 1) := by decide +kernel
def Q_ninit (Z : State) (a : Addr) (h0 : Heap) (n0 : Nat) (v : Option Value) (h : Heap) (L : List Loc) : Prop := v = none ∧ Fr n0 L ∧ h = h0
theorem ef_1 (m : MethodId) (x0 : Addr) : entryFrame m #[(.ref x0)] 1 = mkF m 0 #[.val (.ref x0)] [] := by first | (simp [entryFrame, mkF, argsToLocals, Value.category]; done) | rfl
theorem pn_1 : plainName "java/lang/Number" = true := by first | (simp [plainName, overriddenIn]; done) | decide +kernel
abbrev y_1 : MethodName := ⟨"java/lang/Number", "<init>", "()V"⟩
set_option maxRecDepth 65536 in
set_option maxHeartbeats 40000000 in
theorem ninit (l : Launch) (Z : State) (a0 : Array Value) (hw : ∀ d ∈ tables_1, d.before a0 Z = true) (ws : List Jvm.Cond) (a : Addr) (h0 : Heap) (n0 : Nat) (O : Old Z n0 h0) :
    Ctr l Z y_1 jdk_18_method_1_code 1 none ws ({ frames := 1, cells := 0, slots := 0, locals := 12 } : Room) #[(.ref a)] h0 (Q_ninit Z a h0 n0) := by
  refine MetFree.of_bodySF (plainFor_of_name pn_1) hisR ?_
  intro p e s m args below meth c s₁ Bd hml0 hP hK
  obtain ⟨rfl, hZ, hh⟩ := hP
  have W := fun (i : Nat) {d : Jvm.Cond} (h : tables_1[i]? = some d) => hw d (List.mem_of_getElem? h)
  have hx := Bd.exec
  have hby := Bd.bytes
  have hml : c.maxLocals = 1 := hml0
  have hown : s.vm.findClass "java/lang/Number" = some m.cls := findClass_of_methodNamed Bd.named
  have hnm := (name_of_methodNamed Bd.named Bd.method).1
  have X0 : Stand p l e ({ frames := 1, cells := 0, slots := 0, locals := 12 } : Room) s m #[(.ref a)] below meth c s₁ [] 0 0 := Stand.of_body Bd
  have e0 : s₁.heap = h0 := by rw [← hh, Bd.state]; rfl
  have N0 := Fr.nil n0
  have pre0 : ∀ t, Steps p.tables e below (s₁.setTop (mkF m 0 #[.val (.ref a)] [])) t → Steps p.tables e below (s₁.setTop (entryFrame m #[(.ref a)] 1)) t := fun t kk_ => castTop (ef_1 m a) kk_
  obtain ⟨T1, X1, e1, st1⟩ := initO X0 hx hZ hown (W 38 rfl) (W 7 rfl) (W 8 rfl) e0 (g := (mkF m 1 #[rv a] [.ref a])) rfl (by rw [hml]; rfl) rfl (hb hby d6_1) (by decide) (W := 0) (by show 2 * 0 + _ ≤ _; exact Nat.le_of_eq rfl) (by decide)
  obtain ⟨fs, hr, hrun, hended, hW, hsame⟩ := X1.leave (v := none) (fun _ => rfl)
  refine ⟨_, _, pre0 _ ?_, hrun, hended, _, _, rfl, ?_, ⟨_, rfl⟩, hW, hsame.mono (by decide) (by decide)⟩
  · show Sq p e below m s₁ 0 #[rv a] [] _
    refine XS.aloadN X0.here hx rfl (hb hby d6_0) rfl rfl ?_
    show Sq p e below m s₁ 1 #[rv a] [.ref a] _
    refine st1 _ ?_
    show Sq p e below m T1 4 #[rv a] [] _
    exact X1.returnOut hx Bd.returns (hb hby d6_4) hr
  · show Q_ninit Z a h0 n0 _ T1.heap _
    rw [e1]
    exact ⟨rfl, N0, rfl⟩
theorem d5_0 : decode jdk_33_method_23_code 0 = .ok (.aload_n 0, 1) := by decide +kernel
theorem d5_1 : decode jdk_33_method_23_code 1 = .ok (.invokespecial 202, 3) := by decide +kernel
theorem pd_0 : parseMethodDescriptor "()V" = some ⟨[], none⟩ := by decide +kernel
theorem d5_4 : decode jdk_33_method_23_code 4 = .ok (.aload_n 0, 1) := by decide +kernel
theorem d5_5 : decode jdk_33_method_23_code 5 = .ok (.iload_n 1, 1) := by decide +kernel
theorem d5_6 : decode jdk_33_method_23_code 6 = .ok (.putfield 205, 3) := by decide +kernel
theorem d5_9 : decode jdk_33_method_23_code 9 = .ok (.return_, 1) := by decide +kernel
def Q_iinit (Z : State) (a : Addr) (x1 : Int32) (h0 : Heap) (n0 : Nat) (v : Option Value) (h : Heap) (L : List Loc) : Prop := v = none ∧ Fr n0 L ∧ Keep h0 h [a] ∧ Fld Z h a "java/lang/Integer" "value" "I" (.int x1)
theorem ef_2 (m : MethodId) (x0 : Addr) (x1 : Int32) : entryFrame m #[(.ref x0), (.int x1)] 2 = mkF m 0 #[.val (.ref x0), .val (.int x1)] [] := by first | (simp [entryFrame, mkF, argsToLocals, Value.category]; done) | rfl
theorem pn_2 : plainName "java/lang/Integer" = true := by first | (simp [plainName, overriddenIn]; done) | decide +kernel
abbrev y_2 : MethodName := ⟨"java/lang/Integer", "<init>", "(I)V"⟩
set_option maxRecDepth 65536 in
set_option maxHeartbeats 40000000 in
theorem iinit (l : Launch) (Z : State) (a0 : Array Value) (hw : ∀ d ∈ tables_1, d.before a0 Z = true) (ws : List Jvm.Cond) (a : Addr) (x1 : Int32) (h0 : Heap) (n0 : Nat) (O : Old Z n0 h0) (Ea : Exa Z h0 a "java/lang/Integer") (Fv : Fld Z h0 a "java/lang/Integer" "value" "I" (.int (0 : Int32))) (ga : n0 ≤ a) :
    Ctr l Z y_2 jdk_33_method_23_code 2 none ws ({ frames := 2, cells := 0, slots := 0, locals := 24 } : Room) #[(.ref a), (.int x1)] h0 (Q_iinit Z a x1 h0 n0) := by
  refine MetFree.of_bodySF (plainFor_of_name pn_2) hisR ?_
  intro p e s m args below meth c s₁ Bd hml0 hP hK
  obtain ⟨rfl, hZ, hh⟩ := hP
  have W := fun (i : Nat) {d : Jvm.Cond} (h : tables_1[i]? = some d) => hw d (List.mem_of_getElem? h)
  have hx := Bd.exec
  have hby := Bd.bytes
  have hml : c.maxLocals = 2 := hml0
  have hown : s.vm.findClass "java/lang/Integer" = some m.cls := findClass_of_methodNamed Bd.named
  have hnm := (name_of_methodNamed Bd.named Bd.method).1
  have X0 : Stand p l e ({ frames := 2, cells := 0, slots := 0, locals := 24 } : Room) s m #[(.ref a), (.int x1)] below meth c s₁ [] 0 0 := Stand.of_body Bd
  have e0 : s₁.heap = h0 := by rw [← hh, Bd.state]; rfl
  have N0 := Fr.nil n0
  have pre0 : ∀ t, Steps p.tables e below (s₁.setTop (mkF m 0 #[.val (.ref a), .val (.int x1)] [])) t → Steps p.tables e below (s₁.setTop (entryFrame m #[(.ref a), (.int x1)] 2)) t := fun t kk_ => castTop (ef_2 m a x1) kk_
  have K0 := Keep.refl h0 [a]
  obtain ⟨_, _, ⟨T1, L1, k1, n1⟩, -, X1, ⟨Lc1, hQ1, l1, y1, z1⟩, st1⟩ := X0.specialBack hx (y := y_1) rfl hown (mvT hZ (W 32 rfl)) (mvT hZ (W 33 rfl)) (mvT hZ (W 37 rfl)) (by decide) (backOf (W := 0) (ninit l Z a0 hw [] a h0 n0 O ) hZ (W 37 rfl) (W 36 rfl) (by decide) (by decide)) (g := (mkF m 1 #[rv a, iv x1] [.ref a])) rfl (by rw [hml]; rfl) (Steps.refl _) (a := a) (argsL := []) (rest := []) (lenOf pd_0 rfl) rfl (by show 2 * 0 + _ ≤ _; exact Nat.le_of_eq rfl) (hb hby d5_1) (fun _ _ => ⟨rfl, e0, (by decide : 0 + 0 ≤ _), (by decide : 0 + 0 ≤ _)⟩)
  dsimp only [Pt.U, Pt.locs, Pt.cells, Pt.slots] at X1 l1 y1 z1 st1 hQ1
  subst l1 y1 z1
  obtain ⟨h1, e1⟩ : ∃ z, T1.heap = z := ⟨_, rfl⟩
  rw [e1] at hQ1
  obtain ⟨rfl, N1q, p1_0⟩ := hQ1
  have N1 := Fr.app N0 N1q
  rw [p1_0] at e1
  obtain ⟨T2, h2, X2, e2, W2, st2⟩ := putF X1 hx hZ hown (host := "") (Or.inl (W 39 rfl)) Via.refl e1 Fv Ea (Or.inr ⟨(W 40 rfl), rfl, hnm⟩) (W 27 rfl) (ty := .int) (by decide) rfl rfl (g := (mkF m 6 #[rv a, iv x1] [.int x1, .ref a])) rfl rfl (hb hby d5_6)
  have Fz2 := Fv.same W2
  have K4 := K0.wr W2 (Or.inl (List.mem_of_getElem? (i := 0) rfl))
  have N5 := Fr.snoc X2 N1 ga
  obtain ⟨fs, hr, hrun, hended, hW, hsame⟩ := X2.leave (v := none) (fun _ => rfl)
  refine ⟨_, _, pre0 _ ?_, hrun, hended, _, _, rfl, ?_, ⟨_, rfl⟩, hW, hsame.mono (by decide) (by decide)⟩
  · show Sq p e below m s₁ 0 #[rv a, iv x1] [] _
    refine XS.aloadN X0.here hx rfl (hb hby d5_0) rfl rfl ?_
    show Sq p e below m s₁ 1 #[rv a, iv x1] [.ref a] _
    refine st1.trans ?_
    show Sq p e below m T1 4 #[rv a, iv x1] [] _
    refine XS.aloadN X1.here hx rfl (hb hby d5_4) rfl rfl ?_
    refine XS.iloadN X1.here hx rfl (hb hby d5_5) rfl ?_
    show Sq p e below m T1 6 #[rv a, iv x1] [.int x1, .ref a] _
    refine st2 _ ?_
    show Sq p e below m T2 9 #[rv a, iv x1] [] _
    exact X2.returnOut hx Bd.returns (hb hby d5_9) hr
  · show Q_iinit Z a x1 h0 n0 _ T2.heap _
    rw [e2]
    exact ⟨rfl, N5, K4, Fz2⟩
theorem d4_0 : decode jdk_33_method_22_code 0 = .ok (.iload_n 0, 1) := by decide +kernel
theorem d4_1 : decode jdk_33_method_22_code 1 = .ok (.bipush (-128), 2) := by decide +kernel
theorem d4_3 : decode jdk_33_method_22_code 3 = .ok (.if_icmp .lt 20, 3) := by decide +kernel
theorem d4_23 : decode jdk_33_method_22_code 23 = .ok (.new 1, 3) := by decide +kernel
theorem d4_26 : decode jdk_33_method_22_code 26 = .ok (.dup, 1) := by decide +kernel
theorem d4_27 : decode jdk_33_method_22_code 27 = .ok (.iload_n 0, 1) := by decide +kernel
theorem d4_28 : decode jdk_33_method_22_code 28 = .ok (.invokespecial 199, 3) := by decide +kernel
theorem pd_1 : parseMethodDescriptor "(I)V" = some ⟨[.int], none⟩ := by decide +kernel
theorem d4_31 : decode jdk_33_method_22_code 31 = .ok (.areturn, 1) := by decide +kernel
theorem d4_6 : decode jdk_33_method_22_code 6 = .ok (.iload_n 0, 1) := by decide +kernel
theorem d4_7 : decode jdk_33_method_22_code 7 = .ok (.getstatic 191, 3) := by decide +kernel
theorem d4_10 : decode jdk_33_method_22_code 10 = .ok (.if_icmp .gt 13, 3) := by decide +kernel
theorem d4_13 : decode jdk_33_method_22_code 13 = .ok (.getstatic 195, 3) := by decide +kernel
theorem d4_16 : decode jdk_33_method_22_code 16 = .ok (.iload_n 0, 1) := by decide +kernel
theorem d4_17 : decode jdk_33_method_22_code 17 = .ok (.sipush 128, 3) := by decide +kernel
theorem d4_20 : decode jdk_33_method_22_code 20 = .ok (.iadd, 1) := by decide +kernel
theorem d4_21 : decode jdk_33_method_22_code 21 = .ok (.aaload, 1) := by decide +kernel
theorem d4_22 : decode jdk_33_method_22_code 22 = .ok (.areturn, 1) := by decide +kernel
def Q_vof (Z : State) (p1 : Int32) (ca : Addr) (cc : Cell) (h0 : Heap) (n0 : Nat) (v : Option Value) (h : Heap) (L : List Loc) : Prop := ∃ b : Addr, v = some (.ref b) ∧ Fr n0 L ∧ Keep h0 h [] ∧ Exa Z h b "java/lang/Integer"
theorem ef_3 (m : MethodId) (x0 : Int32) : entryFrame m #[(.int x0)] 1 = mkF m 0 #[.val (.int x0)] [] := by first | (simp [entryFrame, mkF, argsToLocals, Value.category]; done) | rfl
abbrev y_3 : MethodName := ⟨"java/lang/Integer", "valueOf", "(I)Ljava/lang/Integer;"⟩
set_option maxRecDepth 65536 in
set_option maxHeartbeats 40000000 in
theorem vof_0 (l : Launch) (Z : State) (a0 : Array Value) (hw : ∀ d ∈ tables_1, d.before a0 Z = true) (ws : List Jvm.Cond) (p1 : Int32) (ca : Addr) (cc : Cell) (h0 : Heap) (n0 : Nat) (O : Old Z n0 h0) (Bx : Bxs Z ca cc "java/lang/Integer" "I" (256 : Int32) (fun j => .int (j - (128 : Int32)))) (Shigh : Sta Z Z.heap "java/lang/Integer$IntegerCache" "high" "I" (.int (127 : Int32))) (Scache : Sta Z Z.heap "java/lang/Integer$IntegerCache" "cache" "[Ljava/lang/Integer;" (.ref ca)) (hc3 : p1 < (-128 : Int32)) :
    Ctr l Z y_3 jdk_33_method_22_code 1 (some (.object "java/lang/Integer")) ws ({ frames := 3, cells := 1, slots := 1, locals := 38 } : Room) #[(.int p1)] h0 (Q_vof Z p1 ca cc h0 n0) := by
  refine MetFree.of_bodySF (plainFor_of_name pn_2) hisR ?_
  intro p e s m args below meth c s₁ Bd hml0 hP hK
  obtain ⟨rfl, hZ, hh⟩ := hP
  have W := fun (i : Nat) {d : Jvm.Cond} (h : tables_1[i]? = some d) => hw d (List.mem_of_getElem? h)
  have hx := Bd.exec
  have hby := Bd.bytes
  have hml : c.maxLocals = 1 := hml0
  have hown : s.vm.findClass "java/lang/Integer" = some m.cls := findClass_of_methodNamed Bd.named
  have hnm := (name_of_methodNamed Bd.named Bd.method).1
  have X0 : Stand p l e ({ frames := 3, cells := 1, slots := 1, locals := 38 } : Room) s m #[(.int p1)] below meth c s₁ [] 0 0 := Stand.of_body Bd
  have e0 : s₁.heap = h0 := by rw [← hh, Bd.state]; rfl
  have N0 := Fr.nil n0
  have pre0 : ∀ t, Steps p.tables e below (s₁.setTop (mkF m 0 #[.val (.int p1)] [])) t → Steps p.tables e below (s₁.setTop (entryFrame m #[(.int p1)] 1)) t := fun t kk_ => castTop (ef_3 m p1) kk_
  have K0 := Keep.refl h0 []
  obtain ⟨T1, h1, X1, e1, E1, A1, D1, -, st1⟩ := newO X0 hx hZ hown (W 26 rfl) (W 27 rfl) (W 22 rfl) e0 (g := (mkF m 23 #[iv p1] [])) rfl (hb hby d4_23) (by decide) (by decide)
  obtain ⟨b1, g1⟩ : ∃ z, z = h0.size := ⟨_, rfl⟩
  rw [← g1] at A1 D1 st1
  have g_b1 : n0 ≤ b1 := Nat.le_trans (own_sz O) (Nat.le_of_eq g1.symm)
  have sz_b1 : h0.size ≤ b1 := Nat.le_trans K0.1 (Nat.le_of_eq g1.symm)
  have O2 := O.ext E1
  have K3 := K0.ext E1
  have Fz4 : Fld Z h1 b1 "java/lang/Integer" "value" "I" (.int (0 : Int32)) := D1 (Or.inr (W 40 rfl)) (ty := .int) (by decide)
  obtain ⟨_, _, ⟨T5, L5, k5, n5⟩, -, X5, ⟨Lc5, hQ5, l5, y5, z5⟩, st5⟩ := X1.specialBack hx (y := y_2) rfl hown (mvT hZ (W 28 rfl)) (mvT hZ (W 29 rfl)) (mvT hZ (W 31 rfl)) (by decide) (backOf (W := 1) (iinit l Z a0 hw [] b1 p1 h1 n0 O2 A1 Fz4 g_b1) hZ (W 31 rfl) (W 22 rfl) (by decide) (by decide)) (g := (mkF m 28 #[iv p1] [.int p1, .ref b1, .ref b1])) rfl (by rw [hml]; rfl) (Steps.refl _) (a := b1) (argsL := [.int p1]) (rest := [.ref b1]) (lenOf pd_1 rfl) rfl (by show 2 * 0 + _ ≤ _; exact Nat.le_of_eq rfl) (hb hby d4_28) (fun _ _ => ⟨rfl, e1, (by decide : 1 + 0 ≤ _), (by decide : 1 + 0 ≤ _)⟩)
  dsimp only [Pt.U, Pt.locs, Pt.cells, Pt.slots] at X5 l5 y5 z5 st5 hQ5
  subst l5 y5 z5
  obtain ⟨h5, e5⟩ : ∃ z, T5.heap = z := ⟨_, rfl⟩
  rw [e5] at hQ5
  obtain ⟨rfl, N5q, p5_0, p5_1⟩ := hQ5
  have N5 := Fr.app N0 N5q
  have A1 := A1.keep p5_0
  have K7 := K3.trans p5_0 (allS (Or.inr sz_b1) all0)
  obtain ⟨fs, hr, hrun, hended, hW, hsame⟩ := X5.leave (v := some (.ref b1)) (fun h => by rw [Bd.returns] at h; cases h)
  refine ⟨_, _, pre0 _ ?_, hrun, hended, _, _, rfl, ?_, ⟨_, rfl⟩, hW, hsame.mono (by decide) (by decide)⟩
  · show Sq p e below m s₁ 0 #[iv p1] [] _
    refine XS.iloadN X0.here hx rfl (hb hby d4_0) rfl ?_
    refine XS.bipush X0.here hx rfl (hb hby d4_1) ?_
    show Sq p e below m s₁ 3 #[iv p1] [.int (-128), .int p1] _
    refine XS.icmpYes X0.here hx rfl (pc0 := 3) (pc' := 23) rfl (hb hby d4_3) rfl (tlt hc3).1 (by decide) (by decide) ?_
    show Sq p e below m s₁ 23 #[iv p1] [] _
    refine st1 _ ?_
    show Sq p e below m T1 26 #[iv p1] [.ref b1] _
    refine XS.dup X1.here hx rfl (hb hby d4_26) rfl rfl ?_
    refine XS.iloadN X1.here hx rfl (hb hby d4_27) rfl ?_
    show Sq p e below m T1 28 #[iv p1] [.int p1, .ref b1, .ref b1] _
    refine st5.trans ?_
    show Sq p e below m T5 31 #[iv p1] [.ref b1] _
    jvm_step X5.here [X5.here.top, hx, (hb hby d4_31), X5.method', Bd.returns, Value.isRef, FieldType.isReference]
    first | (intro acts; rw [hr _ acts rfl rfl rfl]) | rw [hr _ _ rfl rfl rfl]
    exact Steps.refl _
  · show Q_vof Z p1 ca cc h0 n0 _ T5.heap _
    rw [e5]
    exact ⟨b1, rfl, N5, K7, A1⟩
set_option maxRecDepth 65536 in
set_option maxHeartbeats 40000000 in
theorem vof_1 (l : Launch) (Z : State) (a0 : Array Value) (hw : ∀ d ∈ tables_1, d.before a0 Z = true) (ws : List Jvm.Cond) (p1 : Int32) (ca : Addr) (cc : Cell) (h0 : Heap) (n0 : Nat) (O : Old Z n0 h0) (Bx : Bxs Z ca cc "java/lang/Integer" "I" (256 : Int32) (fun j => .int (j - (128 : Int32)))) (Shigh : Sta Z Z.heap "java/lang/Integer$IntegerCache" "high" "I" (.int (127 : Int32))) (Scache : Sta Z Z.heap "java/lang/Integer$IntegerCache" "cache" "[Ljava/lang/Integer;" (.ref ca)) (hc3 : ¬ (p1 < (-128 : Int32))) (hc10 : (127 : Int32) < p1) :
    Ctr l Z y_3 jdk_33_method_22_code 1 (some (.object "java/lang/Integer")) ws ({ frames := 3, cells := 1, slots := 1, locals := 38 } : Room) #[(.int p1)] h0 (Q_vof Z p1 ca cc h0 n0) := by
  refine MetFree.of_bodySF (plainFor_of_name pn_2) hisR ?_
  intro p e s m args below meth c s₁ Bd hml0 hP hK
  obtain ⟨rfl, hZ, hh⟩ := hP
  have W := fun (i : Nat) {d : Jvm.Cond} (h : tables_1[i]? = some d) => hw d (List.mem_of_getElem? h)
  have hx := Bd.exec
  have hby := Bd.bytes
  have hml : c.maxLocals = 1 := hml0
  have hown : s.vm.findClass "java/lang/Integer" = some m.cls := findClass_of_methodNamed Bd.named
  have hnm := (name_of_methodNamed Bd.named Bd.method).1
  have X0 : Stand p l e ({ frames := 3, cells := 1, slots := 1, locals := 38 } : Room) s m #[(.int p1)] below meth c s₁ [] 0 0 := Stand.of_body Bd
  have e0 : s₁.heap = h0 := by rw [← hh, Bd.state]; rfl
  have N0 := Fr.nil n0
  have pre0 : ∀ t, Steps p.tables e below (s₁.setTop (mkF m 0 #[.val (.int p1)] [])) t → Steps p.tables e below (s₁.setTop (entryFrame m #[(.int p1)] 1)) t := fun t kk_ => castTop (ef_3 m p1) kk_
  have K0 := Keep.refl h0 []
  obtain ⟨T1, X1, e1, st1⟩ := getS2 X0 hx hZ hown (host := "") (Or.inl (W 24 rfl)) Via.refl e0 (Shigh.ext O.2) (g := (mkF m 7 #[iv p1] [.int p1])) rfl (hb hby d4_7)
  obtain ⟨T2, h2, X2, e2, E2, A2, D2, -, st2⟩ := newO X1 hx hZ hown (W 26 rfl) (W 27 rfl) (W 22 rfl) e1 (g := (mkF m 23 #[iv p1] [])) rfl (hb hby d4_23) (by decide) (by decide)
  obtain ⟨b2, g2⟩ : ∃ z, z = h0.size := ⟨_, rfl⟩
  rw [← g2] at A2 D2 st2
  have g_b2 : n0 ≤ b2 := Nat.le_trans (own_sz O) (Nat.le_of_eq g2.symm)
  have sz_b2 : h0.size ≤ b2 := Nat.le_trans K0.1 (Nat.le_of_eq g2.symm)
  have O3 := O.ext E2
  have K4 := K0.ext E2
  have Fz5 : Fld Z h2 b2 "java/lang/Integer" "value" "I" (.int (0 : Int32)) := D2 (Or.inr (W 40 rfl)) (ty := .int) (by decide)
  obtain ⟨_, _, ⟨T6, L6, k6, n6⟩, -, X6, ⟨Lc6, hQ6, l6, y6, z6⟩, st6⟩ := X2.specialBack hx (y := y_2) rfl hown (mvT hZ (W 28 rfl)) (mvT hZ (W 29 rfl)) (mvT hZ (W 31 rfl)) (by decide) (backOf (W := 1) (iinit l Z a0 hw [] b2 p1 h2 n0 O3 A2 Fz5 g_b2) hZ (W 31 rfl) (W 22 rfl) (by decide) (by decide)) (g := (mkF m 28 #[iv p1] [.int p1, .ref b2, .ref b2])) rfl (by rw [hml]; rfl) (Steps.refl _) (a := b2) (argsL := [.int p1]) (rest := [.ref b2]) (lenOf pd_1 rfl) rfl (by show 2 * 0 + _ ≤ _; exact Nat.le_of_eq rfl) (hb hby d4_28) (fun _ _ => ⟨rfl, e2, (by decide : 1 + 0 ≤ _), (by decide : 1 + 0 ≤ _)⟩)
  dsimp only [Pt.U, Pt.locs, Pt.cells, Pt.slots] at X6 l6 y6 z6 st6 hQ6
  subst l6 y6 z6
  obtain ⟨h6, e6⟩ : ∃ z, T6.heap = z := ⟨_, rfl⟩
  rw [e6] at hQ6
  obtain ⟨rfl, N6q, p6_0, p6_1⟩ := hQ6
  have N6 := Fr.app N0 N6q
  have A2 := A2.keep p6_0
  have K8 := K4.trans p6_0 (allS (Or.inr sz_b2) all0)
  obtain ⟨fs, hr, hrun, hended, hW, hsame⟩ := X6.leave (v := some (.ref b2)) (fun h => by rw [Bd.returns] at h; cases h)
  refine ⟨_, _, pre0 _ ?_, hrun, hended, _, _, rfl, ?_, ⟨_, rfl⟩, hW, hsame.mono (by decide) (by decide)⟩
  · show Sq p e below m s₁ 0 #[iv p1] [] _
    refine XS.iloadN X0.here hx rfl (hb hby d4_0) rfl ?_
    refine XS.bipush X0.here hx rfl (hb hby d4_1) ?_
    show Sq p e below m s₁ 3 #[iv p1] [.int (-128), .int p1] _
    refine XS.icmpNo X0.here hx rfl (hb hby d4_3) rfl (flt hc3).1 ?_
    refine XS.iloadN X0.here hx rfl (hb hby d4_6) rfl ?_
    show Sq p e below m s₁ 7 #[iv p1] [.int p1] _
    refine st1 _ ?_
    show Sq p e below m T1 10 #[iv p1] [.int 127, .int p1] _
    refine XS.icmpYes X1.here hx rfl (pc0 := 10) (pc' := 23) rfl (hb hby d4_10) rfl (tlt hc10).2.2.1 (by decide) (by decide) ?_
    show Sq p e below m T1 23 #[iv p1] [] _
    refine st2 _ ?_
    show Sq p e below m T2 26 #[iv p1] [.ref b2] _
    refine XS.dup X2.here hx rfl (hb hby d4_26) rfl rfl ?_
    refine XS.iloadN X2.here hx rfl (hb hby d4_27) rfl ?_
    show Sq p e below m T2 28 #[iv p1] [.int p1, .ref b2, .ref b2] _
    refine st6.trans ?_
    show Sq p e below m T6 31 #[iv p1] [.ref b2] _
    jvm_step X6.here [X6.here.top, hx, (hb hby d4_31), X6.method', Bd.returns, Value.isRef, FieldType.isReference]
    first | (intro acts; rw [hr _ acts rfl rfl rfl]) | rw [hr _ _ rfl rfl rfl]
    exact Steps.refl _
  · show Q_vof Z p1 ca cc h0 n0 _ T6.heap _
    rw [e6]
    exact ⟨b2, rfl, N6, K8, A2⟩
set_option maxRecDepth 65536 in
set_option maxHeartbeats 40000000 in
theorem vof_2 (l : Launch) (Z : State) (a0 : Array Value) (hw : ∀ d ∈ tables_1, d.before a0 Z = true) (ws : List Jvm.Cond) (p1 : Int32) (ca : Addr) (cc : Cell) (h0 : Heap) (n0 : Nat) (O : Old Z n0 h0) (Bx : Bxs Z ca cc "java/lang/Integer" "I" (256 : Int32) (fun j => .int (j - (128 : Int32)))) (Shigh : Sta Z Z.heap "java/lang/Integer$IntegerCache" "high" "I" (.int (127 : Int32))) (Scache : Sta Z Z.heap "java/lang/Integer$IntegerCache" "cache" "[Ljava/lang/Integer;" (.ref ca)) (hc3 : ¬ (p1 < (-128 : Int32))) (hc10 : ¬ ((127 : Int32) < p1)) :
    Ctr l Z y_3 jdk_33_method_22_code 1 (some (.object "java/lang/Integer")) ws ({ frames := 3, cells := 1, slots := 1, locals := 38 } : Room) #[(.int p1)] h0 (Q_vof Z p1 ca cc h0 n0) := by
  refine MetFree.of_bodySF (plainFor_of_name pn_2) hisR ?_
  intro p e s m args below meth c s₁ Bd hml0 hP hK
  obtain ⟨rfl, hZ, hh⟩ := hP
  have W := fun (i : Nat) {d : Jvm.Cond} (h : tables_1[i]? = some d) => hw d (List.mem_of_getElem? h)
  have hx := Bd.exec
  have hby := Bd.bytes
  have hml : c.maxLocals = 1 := hml0
  have hown : s.vm.findClass "java/lang/Integer" = some m.cls := findClass_of_methodNamed Bd.named
  have hnm := (name_of_methodNamed Bd.named Bd.method).1
  have X0 : Stand p l e ({ frames := 3, cells := 1, slots := 1, locals := 38 } : Room) s m #[(.int p1)] below meth c s₁ [] 0 0 := Stand.of_body Bd
  have e0 : s₁.heap = h0 := by rw [← hh, Bd.state]; rfl
  have N0 := Fr.nil n0
  have pre0 : ∀ t, Steps p.tables e below (s₁.setTop (mkF m 0 #[.val (.int p1)] [])) t → Steps p.tables e below (s₁.setTop (entryFrame m #[(.int p1)] 1)) t := fun t kk_ => castTop (ef_3 m p1) kk_
  have K0 := Keep.refl h0 []
  obtain ⟨T1, X1, e1, st1⟩ := getS2 X0 hx hZ hown (host := "") (Or.inl (W 24 rfl)) Via.refl e0 (Shigh.ext O.2) (g := (mkF m 7 #[iv p1] [.int p1])) rfl (hb hby d4_7)
  obtain ⟨T2, X2, e2, st2⟩ := getS2 X1 hx hZ hown (host := "") (Or.inl (W 44 rfl)) Via.refl e1 (Scache.ext O.2) (g := (mkF m 13 #[iv p1] [])) rfl (hb hby d4_13)
  have hin3 : ¬ ((p1 + (128 : Int32)) < 0 ∨ cc.slots.size ≤ ((p1 + (128 : Int32))).toNatClampNeg) := inb_of Bx.2.1 (own_idx hc3 hc10)
  obtain ⟨bx, atx, ebx, -⟩ := Bx.2.2.2 (p1 + (128 : Int32)) hin3
  have st3 := X2.aaload hx (j := (p1 + (128 : Int32))) (v := (.ref bx)) (by rw [e2]; exact (Bx.1.ext O.2).1) (State.isArrayOf_alike hZ.alike Bx.1.2.1) rfl Bx.1.2.2 hin3 atx (g := (mkF m 21 #[iv p1] [.int (p1 + (128 : Int32)), .ref ca])) rfl rfl (hb hby d4_21)
  obtain ⟨fs, hr, hrun, hended, hW, hsame⟩ := X2.leave (v := some (.ref bx)) (fun h => by rw [Bd.returns] at h; cases h)
  refine ⟨_, _, pre0 _ ?_, hrun, hended, _, _, rfl, ?_, ⟨_, rfl⟩, hW, hsame.mono (by decide) (by decide)⟩
  · show Sq p e below m s₁ 0 #[iv p1] [] _
    refine XS.iloadN X0.here hx rfl (hb hby d4_0) rfl ?_
    refine XS.bipush X0.here hx rfl (hb hby d4_1) ?_
    show Sq p e below m s₁ 3 #[iv p1] [.int (-128), .int p1] _
    refine XS.icmpNo X0.here hx rfl (hb hby d4_3) rfl (flt hc3).1 ?_
    refine XS.iloadN X0.here hx rfl (hb hby d4_6) rfl ?_
    show Sq p e below m s₁ 7 #[iv p1] [.int p1] _
    refine st1 _ ?_
    show Sq p e below m T1 10 #[iv p1] [.int 127, .int p1] _
    refine XS.icmpNo X1.here hx rfl (hb hby d4_10) rfl (flt hc10).2.2.1 ?_
    show Sq p e below m T1 13 #[iv p1] [] _
    refine st2 _ ?_
    show Sq p e below m T2 16 #[iv p1] [.ref ca] _
    refine XS.iloadN X2.here hx rfl (hb hby d4_16) rfl ?_
    refine XS.sipush X2.here hx rfl (hb hby d4_17) ?_
    show Sq p e below m T2 20 #[iv p1] [.int 128, .int p1, .ref ca] _
    refine XS.iadd X2.here hx rfl (hb hby d4_20) rfl ?_
    show Sq p e below m T2 21 #[iv p1] [.int (p1 + (128 : Int32)), .ref ca] _
    refine st3 _ ?_
    show Sq p e below m T2 22 #[iv p1] [.ref bx] _
    jvm_step X2.here [X2.here.top, hx, (hb hby d4_22), X2.method', Bd.returns, Value.isRef, FieldType.isReference]
    first | (intro acts; rw [hr _ acts rfl rfl rfl]) | rw [hr _ _ rfl rfl rfl]
    exact Steps.refl _
  · show Q_vof Z p1 ca cc h0 n0 _ T2.heap _
    rw [e2]
    exact ⟨bx, rfl, N0, K0, (ebx.ext O.2)⟩
set_option maxRecDepth 65536 in
theorem vof (l : Launch) (Z : State) (a0 : Array Value) (hw : ∀ d ∈ tables_1, d.before a0 Z = true) (ws : List Jvm.Cond) (p1 : Int32) (ca : Addr) (cc : Cell) (h0 : Heap) (n0 : Nat) (O : Old Z n0 h0) (Bx : Bxs Z ca cc "java/lang/Integer" "I" (256 : Int32) (fun j => .int (j - (128 : Int32)))) (Shigh : Sta Z Z.heap "java/lang/Integer$IntegerCache" "high" "I" (.int (127 : Int32))) (Scache : Sta Z Z.heap "java/lang/Integer$IntegerCache" "cache" "[Ljava/lang/Integer;" (.ref ca)) :
    Ctr l Z y_3 jdk_33_method_22_code 1 (some (.object "java/lang/Integer")) ws ({ frames := 3, cells := 1, slots := 1, locals := 38 } : Room) #[(.int p1)] h0 (Q_vof Z p1 ca cc h0 n0) := by
  by_cases hc3 : p1 < (-128 : Int32)
  · exact vof_0 l Z a0 hw ws p1 ca cc h0 n0 O Bx Shigh Scache hc3
  · by_cases hc10 : (127 : Int32) < p1
    · exact vof_1 l Z a0 hw ws p1 ca cc h0 n0 O Bx Shigh Scache hc3 hc10
    · exact vof_2 l Z a0 hw ws p1 ca cc h0 n0 O Bx Shigh Scache hc3 hc10
theorem d3_0 : decode prog_30_method_4_code 0 = .ok (.aload_n 1, 1) := by decide +kernel
theorem d3_1 : decode prog_30_method_4_code 1 = .ok (.instanceof 8, 3) := by decide +kernel
theorem d3_4 : decode prog_30_method_4_code 4 = .ok (.ifCond .eq 35, 3) := by decide +kernel
theorem d3_39 : decode prog_30_method_4_code 39 = .ok (.iconst 0, 1) := by decide +kernel
theorem d3_40 : decode prog_30_method_4_code 40 = .ok (.ireturn, 1) := by decide +kernel
def Q_eqn (Z : State) (a : Addr) (h0 : Heap) (n0 : Nat) (v : Option Value) (h : Heap) (L : List Loc) : Prop := v = some (.int (0 : Int32)) ∧ Fr n0 L ∧ h = h0
theorem ef_4 (m : MethodId) (x0 : Addr) : entryFrame m #[(.ref x0), .null] 2 = mkF m 0 #[.val (.ref x0), .val .null] [] := by first | (simp [entryFrame, mkF, argsToLocals, Value.category]; done) | rfl
abbrev y_4 : MethodName := ⟨"com/example/concordat/concordat/at/StatementSyntax$Bounds", "equals", "(Ljava/lang/Object;)Z"⟩
set_option maxRecDepth 65536 in
set_option maxHeartbeats 40000000 in
theorem eqn (l : Launch) (Z : State) (a0 : Array Value) (hw : ∀ d ∈ tables_1, d.before a0 Z = true) (ws : List Jvm.Cond) (a : Addr) (h0 : Heap) (n0 : Nat) (O : Old Z n0 h0) :
    Ctr l Z y_4 prog_30_method_4_code 2 (some .boolean) ws ({ frames := 0, cells := 0, slots := 0, locals := 0 } : Room) #[(.ref a), .null] h0 (Q_eqn Z a h0 n0) := by
  refine MetFree.of_bodySF (plainFor_of_name pn_0) hisR ?_
  intro p e s m args below meth c s₁ Bd hml0 hP hK
  obtain ⟨rfl, hZ, hh⟩ := hP
  have W := fun (i : Nat) {d : Jvm.Cond} (h : tables_1[i]? = some d) => hw d (List.mem_of_getElem? h)
  have hx := Bd.exec
  have hby := Bd.bytes
  have hml : c.maxLocals = 2 := hml0
  have hown : s.vm.findClass "com/example/concordat/concordat/at/StatementSyntax$Bounds" = some m.cls := findClass_of_methodNamed Bd.named
  have hnm := (name_of_methodNamed Bd.named Bd.method).1
  have X0 : Stand p l e ({ frames := 0, cells := 0, slots := 0, locals := 0 } : Room) s m #[(.ref a), .null] below meth c s₁ [] 0 0 := Stand.of_body Bd
  have e0 : s₁.heap = h0 := by rw [← hh, Bd.state]; rfl
  have N0 := Fr.nil n0
  have pre0 : ∀ t, Steps p.tables e below (s₁.setTop (mkF m 0 #[.val (.ref a), .val .null] [])) t → Steps p.tables e below (s₁.setTop (entryFrame m #[(.ref a), .null] 2)) t := fun t kk_ => castTop (ef_4 m a) kk_
  obtain ⟨fs, hr, hrun, hended, hW, hsame⟩ := X0.leave (v := some (.int (0 : Int32))) (fun h => by rw [Bd.returns] at h; cases h)
  refine ⟨_, _, pre0 _ ?_, hrun, hended, _, _, rfl, ?_, ⟨_, rfl⟩, hW, hsame.mono (by decide) (by decide)⟩
  · show Sq p e below m s₁ 0 #[rv a, .val .null] [] _
    refine XS.aloadN X0.here hx rfl (hb hby d3_0) rfl rfl ?_
    show Sq p e below m s₁ 1 #[rv a, .val .null] [.null] _
    refine X0.instanceofNull hx (g := (mkF m 1 #[rv a, .val .null] [.null])) rfl rfl (hb hby d3_1) _ ?_
    show Sq p e below m s₁ 4 #[rv a, .val .null] [.int 0] _
    refine XS.ifYes X0.here hx rfl (pc0 := 4) (pc' := 39) rfl (hb hby d3_4) rfl ((if0 _ _).trans (teq (rfl : (0 : Int32) = (0 : Int32))).1) (by decide) (by decide) ?_
    refine XS.iconst X0.here hx rfl (hb hby d3_39) ?_
    show Sq p e below m s₁ 40 #[rv a, .val .null] [.int 0] _
    exact retN X0 hx (t := .boolean) Bd.returns (by simp) (hb hby d3_40) hr
  · show Q_eqn Z a h0 n0 _ s₁.heap _
    rw [e0]
    exact ⟨rfl, N0, rfl⟩
def Q_eqi (Z : State) (a : Addr) (b : Addr) (h0 : Heap) (n0 : Nat) (v : Option Value) (h : Heap) (L : List Loc) : Prop := v = some (.int (0 : Int32)) ∧ Fr n0 L ∧ h = h0
theorem ef_5 (m : MethodId) (x0 : Addr) (x1 : Addr) : entryFrame m #[(.ref x0), (.ref x1)] 2 = mkF m 0 #[.val (.ref x0), .val (.ref x1)] [] := by first | (simp [entryFrame, mkF, argsToLocals, Value.category]; done) | rfl
set_option maxRecDepth 65536 in
set_option maxHeartbeats 40000000 in
theorem eqi (l : Launch) (Z : State) (a0 : Array Value) (hw : ∀ d ∈ tables_1, d.before a0 Z = true) (ws : List Jvm.Cond) (a : Addr) (b : Addr) (h0 : Heap) (n0 : Nat) (O : Old Z n0 h0) (Eb : Exa Z h0 b "java/lang/Integer") :
    Ctr l Z y_4 prog_30_method_4_code 2 (some .boolean) ws ({ frames := 0, cells := 0, slots := 0, locals := 0 } : Room) #[(.ref a), (.ref b)] h0 (Q_eqi Z a b h0 n0) := by
  refine MetFree.of_bodySF (plainFor_of_name pn_0) hisR ?_
  intro p e s m args below meth c s₁ Bd hml0 hP hK
  obtain ⟨rfl, hZ, hh⟩ := hP
  have W := fun (i : Nat) {d : Jvm.Cond} (h : tables_1[i]? = some d) => hw d (List.mem_of_getElem? h)
  have hx := Bd.exec
  have hby := Bd.bytes
  have hml : c.maxLocals = 2 := hml0
  have hown : s.vm.findClass "com/example/concordat/concordat/at/StatementSyntax$Bounds" = some m.cls := findClass_of_methodNamed Bd.named
  have hnm := (name_of_methodNamed Bd.named Bd.method).1
  have X0 : Stand p l e ({ frames := 0, cells := 0, slots := 0, locals := 0 } : Room) s m #[(.ref a), (.ref b)] below meth c s₁ [] 0 0 := Stand.of_body Bd
  have e0 : s₁.heap = h0 := by rw [← hh, Bd.state]; rfl
  have N0 := Fr.nil n0
  have pre0 : ∀ t, Steps p.tables e below (s₁.setTop (mkF m 0 #[.val (.ref a), .val (.ref b)] [])) t → Steps p.tables e below (s₁.setTop (entryFrame m #[(.ref a), (.ref b)] 2)) t := fun t kk_ => castTop (ef_5 m a b) kk_
  obtain ⟨T1, X1, e1, st1⟩ := instNo X0 hx hZ hown (W 18 rfl) e0 Eb (own_nsno (W 41 rfl) (W 1 rfl) (NS.step (W 41 rfl) (NS.step (W 42 rfl) (own_nsroot (W 43 rfl) (W 1 rfl) (by decide)) (by decide)) (by decide)) (by decide)) (g := (mkF m 1 #[rv a, rv b] [.ref b])) rfl rfl (hb hby d3_1)
  obtain ⟨fs, hr, hrun, hended, hW, hsame⟩ := X1.leave (v := some (.int (0 : Int32))) (fun h => by rw [Bd.returns] at h; cases h)
  refine ⟨_, _, pre0 _ ?_, hrun, hended, _, _, rfl, ?_, ⟨_, rfl⟩, hW, hsame.mono (by decide) (by decide)⟩
  · show Sq p e below m s₁ 0 #[rv a, rv b] [] _
    refine XS.aloadN X0.here hx rfl (hb hby d3_0) rfl rfl ?_
    show Sq p e below m s₁ 1 #[rv a, rv b] [.ref b] _
    refine st1 _ ?_
    show Sq p e below m T1 4 #[rv a, rv b] [.int 0] _
    refine XS.ifYes X1.here hx rfl (pc0 := 4) (pc' := 39) rfl (hb hby d3_4) rfl ((if0 _ _).trans (teq (rfl : (0 : Int32) = (0 : Int32))).1) (by decide) (by decide) ?_
    refine XS.iconst X1.here hx rfl (hb hby d3_39) ?_
    show Sq p e below m T1 40 #[rv a, rv b] [.int 0] _
    exact retN X1 hx (t := .boolean) Bd.returns (by simp) (hb hby d3_40) hr
  · show Q_eqi Z a b h0 n0 _ T1.heap _
    rw [e1]
    exact ⟨rfl, N0, rfl⟩
theorem d3_7 : decode prog_30_method_4_code 7 = .ok (.aload_n 0, 1) := by decide +kernel
theorem d3_8 : decode prog_30_method_4_code 8 = .ok (.getfield 7, 3) := by decide +kernel
theorem d3_11 : decode prog_30_method_4_code 11 = .ok (.aload_n 1, 1) := by decide +kernel
theorem d3_12 : decode prog_30_method_4_code 12 = .ok (.checkcast 8, 3) := by decide +kernel
theorem d3_15 : decode prog_30_method_4_code 15 = .ok (.getfield 7, 3) := by decide +kernel
theorem d3_18 : decode prog_30_method_4_code 18 = .ok (.if_icmp .ne 21, 3) := by decide +kernel
theorem d3_21 : decode prog_30_method_4_code 21 = .ok (.aload_n 0, 1) := by decide +kernel
theorem d3_22 : decode prog_30_method_4_code 22 = .ok (.getfield 13, 3) := by decide +kernel
theorem d3_25 : decode prog_30_method_4_code 25 = .ok (.aload_n 1, 1) := by decide +kernel
theorem d3_26 : decode prog_30_method_4_code 26 = .ok (.checkcast 8, 3) := by decide +kernel
theorem d3_29 : decode prog_30_method_4_code 29 = .ok (.getfield 13, 3) := by decide +kernel
theorem d3_32 : decode prog_30_method_4_code 32 = .ok (.if_icmp .ne 7, 3) := by decide +kernel
theorem d3_35 : decode prog_30_method_4_code 35 = .ok (.iconst 1, 1) := by decide +kernel
theorem d3_36 : decode prog_30_method_4_code 36 = .ok (.goto 4, 3) := by decide +kernel
def Q_eqs (Z : State) (a : Addr) (x1 : Int32) (y1 : Int32) (h0 : Heap) (n0 : Nat) (v : Option Value) (h : Heap) (L : List Loc) : Prop := v = some (.int (1 : Int32)) ∧ Fr n0 L ∧ h = h0
set_option maxRecDepth 65536 in
set_option maxHeartbeats 40000000 in
theorem eqs (l : Launch) (Z : State) (a0 : Array Value) (hw : ∀ d ∈ tables_1, d.before a0 Z = true) (ws : List Jvm.Cond) (a : Addr) (x1 : Int32) (y1 : Int32) (h0 : Heap) (n0 : Nat) (O : Old Z n0 h0) (Ea : Exa Z h0 a "com/example/concordat/concordat/at/StatementSyntax$Bounds") (Fae : Fld Z h0 a "com/example/concordat/concordat/at/StatementSyntax$Bounds" "end" "I" (.int x1)) (Fak : Fld Z h0 a "com/example/concordat/concordat/at/StatementSyntax$Bounds" "keyword" "I" (.int y1)) :
    Ctr l Z y_4 prog_30_method_4_code 2 (some .boolean) ws ({ frames := 0, cells := 0, slots := 0, locals := 0 } : Room) #[(.ref a), (.ref a)] h0 (Q_eqs Z a x1 y1 h0 n0) := by
  refine MetFree.of_bodySF (plainFor_of_name pn_0) hisR ?_
  intro p e s m args below meth c s₁ Bd hml0 hP hK
  obtain ⟨rfl, hZ, hh⟩ := hP
  have W := fun (i : Nat) {d : Jvm.Cond} (h : tables_1[i]? = some d) => hw d (List.mem_of_getElem? h)
  have hx := Bd.exec
  have hby := Bd.bytes
  have hml : c.maxLocals = 2 := hml0
  have hown : s.vm.findClass "com/example/concordat/concordat/at/StatementSyntax$Bounds" = some m.cls := findClass_of_methodNamed Bd.named
  have hnm := (name_of_methodNamed Bd.named Bd.method).1
  have X0 : Stand p l e ({ frames := 0, cells := 0, slots := 0, locals := 0 } : Room) s m #[(.ref a), (.ref a)] below meth c s₁ [] 0 0 := Stand.of_body Bd
  have e0 : s₁.heap = h0 := by rw [← hh, Bd.state]; rfl
  have N0 := Fr.nil n0
  have pre0 : ∀ t, Steps p.tables e below (s₁.setTop (mkF m 0 #[.val (.ref a), .val (.ref a)] [])) t → Steps p.tables e below (s₁.setTop (entryFrame m #[(.ref a), (.ref a)] 2)) t := fun t kk_ => castTop (ef_5 m a a) kk_
  obtain ⟨T1, X1, e1, st1⟩ := instY X0 hx hZ hown (W 18 rfl) e0 (Ins.self Ea) (g := (mkF m 1 #[rv a, rv a] [.ref a])) rfl rfl (hb hby d3_1)
  obtain ⟨T2, X2, e2, st2⟩ := getF X1 hx hZ hown (host := "") (Or.inl (W 9 rfl)) Via.refl e1 Fae (g := (mkF m 8 #[rv a, rv a] [.ref a])) rfl rfl (hb hby d3_8)
  obtain ⟨T3, X3, e3, st3⟩ := castY X2 hx hZ hown (W 18 rfl) e2 (Ins.self Ea) (g := (mkF m 12 #[rv a, rv a] [.ref a, .int x1])) rfl rfl (hb hby d3_12)
  obtain ⟨T4, X4, e4, st4⟩ := getF X3 hx hZ hown (host := "") (Or.inl (W 9 rfl)) Via.refl e3 Fae (g := (mkF m 15 #[rv a, rv a] [.ref a, .int x1])) rfl rfl (hb hby d3_15)
  obtain ⟨T5, X5, e5, st5⟩ := getF X4 hx hZ hown (host := "") (Or.inl (W 11 rfl)) Via.refl e4 Fak (g := (mkF m 22 #[rv a, rv a] [.ref a])) rfl rfl (hb hby d3_22)
  obtain ⟨T6, X6, e6, st6⟩ := castY X5 hx hZ hown (W 18 rfl) e5 (Ins.self Ea) (g := (mkF m 26 #[rv a, rv a] [.ref a, .int y1])) rfl rfl (hb hby d3_26)
  obtain ⟨T7, X7, e7, st7⟩ := getF X6 hx hZ hown (host := "") (Or.inl (W 11 rfl)) Via.refl e6 Fak (g := (mkF m 29 #[rv a, rv a] [.ref a, .int y1])) rfl rfl (hb hby d3_29)
  obtain ⟨fs, hr, hrun, hended, hW, hsame⟩ := X7.leave (v := some (.int (1 : Int32))) (fun h => by rw [Bd.returns] at h; cases h)
  refine ⟨_, _, pre0 _ ?_, hrun, hended, _, _, rfl, ?_, ⟨_, rfl⟩, hW, hsame.mono (by decide) (by decide)⟩
  · show Sq p e below m s₁ 0 #[rv a, rv a] [] _
    refine XS.aloadN X0.here hx rfl (hb hby d3_0) rfl rfl ?_
    show Sq p e below m s₁ 1 #[rv a, rv a] [.ref a] _
    refine st1 _ ?_
    show Sq p e below m T1 4 #[rv a, rv a] [.int 1] _
    refine XS.ifNo X1.here hx rfl (hb hby d3_4) rfl ((if0 _ _).trans (feq (by decide)).1) ?_
    refine XS.aloadN X1.here hx rfl (hb hby d3_7) rfl rfl ?_
    show Sq p e below m T1 8 #[rv a, rv a] [.ref a] _
    refine st2 _ ?_
    show Sq p e below m T2 11 #[rv a, rv a] [.int x1] _
    refine XS.aloadN X2.here hx rfl (hb hby d3_11) rfl rfl ?_
    show Sq p e below m T2 12 #[rv a, rv a] [.ref a, .int x1] _
    refine st3 _ ?_
    show Sq p e below m T3 15 #[rv a, rv a] [.ref a, .int x1] _
    refine st4 _ ?_
    show Sq p e below m T4 18 #[rv a, rv a] [.int x1, .int x1] _
    refine XS.icmpNo X4.here hx rfl (hb hby d3_18) rfl (teq (rfl : x1 = x1)).2 ?_
    refine XS.aloadN X4.here hx rfl (hb hby d3_21) rfl rfl ?_
    show Sq p e below m T4 22 #[rv a, rv a] [.ref a] _
    refine st5 _ ?_
    show Sq p e below m T5 25 #[rv a, rv a] [.int y1] _
    refine XS.aloadN X5.here hx rfl (hb hby d3_25) rfl rfl ?_
    show Sq p e below m T5 26 #[rv a, rv a] [.ref a, .int y1] _
    refine st6 _ ?_
    show Sq p e below m T6 29 #[rv a, rv a] [.ref a, .int y1] _
    refine st7 _ ?_
    show Sq p e below m T7 32 #[rv a, rv a] [.int y1, .int y1] _
    refine XS.icmpNo X7.here hx rfl (hb hby d3_32) rfl (teq (rfl : y1 = y1)).2 ?_
    refine XS.iconst X7.here hx rfl (hb hby d3_35) ?_
    show Sq p e below m T7 36 #[rv a, rv a] [.int 1] _
    refine XS.goto X7.here hx rfl (pc0 := 36) (pc' := 40) rfl (hb hby d3_36) (by decide) (by decide) ?_
    show Sq p e below m T7 40 #[rv a, rv a] [.int 1] _
    exact retN X7 hx (t := .boolean) Bd.returns (by simp) (hb hby d3_40) hr
  · show Q_eqs Z a x1 y1 h0 n0 _ T7.heap _
    rw [e7]
    exact ⟨rfl, N0, rfl⟩
def Q_eq11 (Z : State) (a : Addr) (b : Addr) (x1 : Int32) (y1 : Int32) (x2 : Int32) (y2 : Int32) (h0 : Heap) (n0 : Nat) (v : Option Value) (h : Heap) (L : List Loc) : Prop := v = some (.int (1 : Int32)) ∧ Fr n0 L ∧ h = h0
set_option maxRecDepth 65536 in
set_option maxHeartbeats 40000000 in
theorem eq11 (l : Launch) (Z : State) (a0 : Array Value) (hw : ∀ d ∈ tables_1, d.before a0 Z = true) (ws : List Jvm.Cond) (a : Addr) (b : Addr) (x1 : Int32) (y1 : Int32) (x2 : Int32) (y2 : Int32) (h0 : Heap) (n0 : Nat) (O : Old Z n0 h0) (Eb : Exa Z h0 b "com/example/concordat/concordat/at/StatementSyntax$Bounds") (Fae : Fld Z h0 a "com/example/concordat/concordat/at/StatementSyntax$Bounds" "end" "I" (.int x1)) (Fak : Fld Z h0 a "com/example/concordat/concordat/at/StatementSyntax$Bounds" "keyword" "I" (.int y1)) (Fbe : Fld Z h0 b "com/example/concordat/concordat/at/StatementSyntax$Bounds" "end" "I" (.int x2)) (Fbk : Fld Z h0 b "com/example/concordat/concordat/at/StatementSyntax$Bounds" "keyword" "I" (.int y2)) (qx : x1 = x2) (qy : y1 = y2) :
    Ctr l Z y_4 prog_30_method_4_code 2 (some .boolean) ws ({ frames := 0, cells := 0, slots := 0, locals := 0 } : Room) #[(.ref a), (.ref b)] h0 (Q_eq11 Z a b x1 y1 x2 y2 h0 n0) := by
  refine MetFree.of_bodySF (plainFor_of_name pn_0) hisR ?_
  intro p e s m args below meth c s₁ Bd hml0 hP hK
  obtain ⟨rfl, hZ, hh⟩ := hP
  have W := fun (i : Nat) {d : Jvm.Cond} (h : tables_1[i]? = some d) => hw d (List.mem_of_getElem? h)
  have hx := Bd.exec
  have hby := Bd.bytes
  have hml : c.maxLocals = 2 := hml0
  have hown : s.vm.findClass "com/example/concordat/concordat/at/StatementSyntax$Bounds" = some m.cls := findClass_of_methodNamed Bd.named
  have hnm := (name_of_methodNamed Bd.named Bd.method).1
  have X0 : Stand p l e ({ frames := 0, cells := 0, slots := 0, locals := 0 } : Room) s m #[(.ref a), (.ref b)] below meth c s₁ [] 0 0 := Stand.of_body Bd
  have e0 : s₁.heap = h0 := by rw [← hh, Bd.state]; rfl
  have N0 := Fr.nil n0
  have pre0 : ∀ t, Steps p.tables e below (s₁.setTop (mkF m 0 #[.val (.ref a), .val (.ref b)] [])) t → Steps p.tables e below (s₁.setTop (entryFrame m #[(.ref a), (.ref b)] 2)) t := fun t kk_ => castTop (ef_5 m a b) kk_
  obtain ⟨T1, X1, e1, st1⟩ := instY X0 hx hZ hown (W 18 rfl) e0 (Ins.self Eb) (g := (mkF m 1 #[rv a, rv b] [.ref b])) rfl rfl (hb hby d3_1)
  obtain ⟨T2, X2, e2, st2⟩ := getF X1 hx hZ hown (host := "") (Or.inl (W 9 rfl)) Via.refl e1 Fae (g := (mkF m 8 #[rv a, rv b] [.ref a])) rfl rfl (hb hby d3_8)
  obtain ⟨T3, X3, e3, st3⟩ := castY X2 hx hZ hown (W 18 rfl) e2 (Ins.self Eb) (g := (mkF m 12 #[rv a, rv b] [.ref b, .int x1])) rfl rfl (hb hby d3_12)
  obtain ⟨T4, X4, e4, st4⟩ := getF X3 hx hZ hown (host := "") (Or.inl (W 9 rfl)) Via.refl e3 Fbe (g := (mkF m 15 #[rv a, rv b] [.ref b, .int x1])) rfl rfl (hb hby d3_15)
  obtain ⟨T5, X5, e5, st5⟩ := getF X4 hx hZ hown (host := "") (Or.inl (W 11 rfl)) Via.refl e4 Fak (g := (mkF m 22 #[rv a, rv b] [.ref a])) rfl rfl (hb hby d3_22)
  obtain ⟨T6, X6, e6, st6⟩ := castY X5 hx hZ hown (W 18 rfl) e5 (Ins.self Eb) (g := (mkF m 26 #[rv a, rv b] [.ref b, .int y1])) rfl rfl (hb hby d3_26)
  obtain ⟨T7, X7, e7, st7⟩ := getF X6 hx hZ hown (host := "") (Or.inl (W 11 rfl)) Via.refl e6 Fbk (g := (mkF m 29 #[rv a, rv b] [.ref b, .int y1])) rfl rfl (hb hby d3_29)
  obtain ⟨fs, hr, hrun, hended, hW, hsame⟩ := X7.leave (v := some (.int (1 : Int32))) (fun h => by rw [Bd.returns] at h; cases h)
  refine ⟨_, _, pre0 _ ?_, hrun, hended, _, _, rfl, ?_, ⟨_, rfl⟩, hW, hsame.mono (by decide) (by decide)⟩
  · show Sq p e below m s₁ 0 #[rv a, rv b] [] _
    refine XS.aloadN X0.here hx rfl (hb hby d3_0) rfl rfl ?_
    show Sq p e below m s₁ 1 #[rv a, rv b] [.ref b] _
    refine st1 _ ?_
    show Sq p e below m T1 4 #[rv a, rv b] [.int 1] _
    refine XS.ifNo X1.here hx rfl (hb hby d3_4) rfl ((if0 _ _).trans (feq (by decide)).1) ?_
    refine XS.aloadN X1.here hx rfl (hb hby d3_7) rfl rfl ?_
    show Sq p e below m T1 8 #[rv a, rv b] [.ref a] _
    refine st2 _ ?_
    show Sq p e below m T2 11 #[rv a, rv b] [.int x1] _
    refine XS.aloadN X2.here hx rfl (hb hby d3_11) rfl rfl ?_
    show Sq p e below m T2 12 #[rv a, rv b] [.ref b, .int x1] _
    refine st3 _ ?_
    show Sq p e below m T3 15 #[rv a, rv b] [.ref b, .int x1] _
    refine st4 _ ?_
    show Sq p e below m T4 18 #[rv a, rv b] [.int x2, .int x1] _
    refine XS.icmpNo X4.here hx rfl (hb hby d3_18) rfl (teq qx).2 ?_
    refine XS.aloadN X4.here hx rfl (hb hby d3_21) rfl rfl ?_
    show Sq p e below m T4 22 #[rv a, rv b] [.ref a] _
    refine st5 _ ?_
    show Sq p e below m T5 25 #[rv a, rv b] [.int y1] _
    refine XS.aloadN X5.here hx rfl (hb hby d3_25) rfl rfl ?_
    show Sq p e below m T5 26 #[rv a, rv b] [.ref b, .int y1] _
    refine st6 _ ?_
    show Sq p e below m T6 29 #[rv a, rv b] [.ref b, .int y1] _
    refine st7 _ ?_
    show Sq p e below m T7 32 #[rv a, rv b] [.int y2, .int y1] _
    refine XS.icmpNo X7.here hx rfl (hb hby d3_32) rfl (teq qy).2 ?_
    refine XS.iconst X7.here hx rfl (hb hby d3_35) ?_
    show Sq p e below m T7 36 #[rv a, rv b] [.int 1] _
    refine XS.goto X7.here hx rfl (pc0 := 36) (pc' := 40) rfl (hb hby d3_36) (by decide) (by decide) ?_
    show Sq p e below m T7 40 #[rv a, rv b] [.int 1] _
    exact retN X7 hx (t := .boolean) Bd.returns (by simp) (hb hby d3_40) hr
  · show Q_eq11 Z a b x1 y1 x2 y2 h0 n0 _ T7.heap _
    rw [e7]
    exact ⟨rfl, N0, rfl⟩
def Q_eq10 (Z : State) (a : Addr) (b : Addr) (x1 : Int32) (y1 : Int32) (x2 : Int32) (y2 : Int32) (h0 : Heap) (n0 : Nat) (v : Option Value) (h : Heap) (L : List Loc) : Prop := v = some (.int (0 : Int32)) ∧ Fr n0 L ∧ h = h0
set_option maxRecDepth 65536 in
set_option maxHeartbeats 40000000 in
theorem eq10 (l : Launch) (Z : State) (a0 : Array Value) (hw : ∀ d ∈ tables_1, d.before a0 Z = true) (ws : List Jvm.Cond) (a : Addr) (b : Addr) (x1 : Int32) (y1 : Int32) (x2 : Int32) (y2 : Int32) (h0 : Heap) (n0 : Nat) (O : Old Z n0 h0) (Eb : Exa Z h0 b "com/example/concordat/concordat/at/StatementSyntax$Bounds") (Fae : Fld Z h0 a "com/example/concordat/concordat/at/StatementSyntax$Bounds" "end" "I" (.int x1)) (Fak : Fld Z h0 a "com/example/concordat/concordat/at/StatementSyntax$Bounds" "keyword" "I" (.int y1)) (Fbe : Fld Z h0 b "com/example/concordat/concordat/at/StatementSyntax$Bounds" "end" "I" (.int x2)) (Fbk : Fld Z h0 b "com/example/concordat/concordat/at/StatementSyntax$Bounds" "keyword" "I" (.int y2)) (qx : x1 = x2) (qy : ¬ (y1 = y2)) :
    Ctr l Z y_4 prog_30_method_4_code 2 (some .boolean) ws ({ frames := 0, cells := 0, slots := 0, locals := 0 } : Room) #[(.ref a), (.ref b)] h0 (Q_eq10 Z a b x1 y1 x2 y2 h0 n0) := by
  refine MetFree.of_bodySF (plainFor_of_name pn_0) hisR ?_
  intro p e s m args below meth c s₁ Bd hml0 hP hK
  obtain ⟨rfl, hZ, hh⟩ := hP
  have W := fun (i : Nat) {d : Jvm.Cond} (h : tables_1[i]? = some d) => hw d (List.mem_of_getElem? h)
  have hx := Bd.exec
  have hby := Bd.bytes
  have hml : c.maxLocals = 2 := hml0
  have hown : s.vm.findClass "com/example/concordat/concordat/at/StatementSyntax$Bounds" = some m.cls := findClass_of_methodNamed Bd.named
  have hnm := (name_of_methodNamed Bd.named Bd.method).1
  have X0 : Stand p l e ({ frames := 0, cells := 0, slots := 0, locals := 0 } : Room) s m #[(.ref a), (.ref b)] below meth c s₁ [] 0 0 := Stand.of_body Bd
  have e0 : s₁.heap = h0 := by rw [← hh, Bd.state]; rfl
  have N0 := Fr.nil n0
  have pre0 : ∀ t, Steps p.tables e below (s₁.setTop (mkF m 0 #[.val (.ref a), .val (.ref b)] [])) t → Steps p.tables e below (s₁.setTop (entryFrame m #[(.ref a), (.ref b)] 2)) t := fun t kk_ => castTop (ef_5 m a b) kk_
  obtain ⟨T1, X1, e1, st1⟩ := instY X0 hx hZ hown (W 18 rfl) e0 (Ins.self Eb) (g := (mkF m 1 #[rv a, rv b] [.ref b])) rfl rfl (hb hby d3_1)
  obtain ⟨T2, X2, e2, st2⟩ := getF X1 hx hZ hown (host := "") (Or.inl (W 9 rfl)) Via.refl e1 Fae (g := (mkF m 8 #[rv a, rv b] [.ref a])) rfl rfl (hb hby d3_8)
  obtain ⟨T3, X3, e3, st3⟩ := castY X2 hx hZ hown (W 18 rfl) e2 (Ins.self Eb) (g := (mkF m 12 #[rv a, rv b] [.ref b, .int x1])) rfl rfl (hb hby d3_12)
  obtain ⟨T4, X4, e4, st4⟩ := getF X3 hx hZ hown (host := "") (Or.inl (W 9 rfl)) Via.refl e3 Fbe (g := (mkF m 15 #[rv a, rv b] [.ref b, .int x1])) rfl rfl (hb hby d3_15)
  obtain ⟨T5, X5, e5, st5⟩ := getF X4 hx hZ hown (host := "") (Or.inl (W 11 rfl)) Via.refl e4 Fak (g := (mkF m 22 #[rv a, rv b] [.ref a])) rfl rfl (hb hby d3_22)
  obtain ⟨T6, X6, e6, st6⟩ := castY X5 hx hZ hown (W 18 rfl) e5 (Ins.self Eb) (g := (mkF m 26 #[rv a, rv b] [.ref b, .int y1])) rfl rfl (hb hby d3_26)
  obtain ⟨T7, X7, e7, st7⟩ := getF X6 hx hZ hown (host := "") (Or.inl (W 11 rfl)) Via.refl e6 Fbk (g := (mkF m 29 #[rv a, rv b] [.ref b, .int y1])) rfl rfl (hb hby d3_29)
  obtain ⟨fs, hr, hrun, hended, hW, hsame⟩ := X7.leave (v := some (.int (0 : Int32))) (fun h => by rw [Bd.returns] at h; cases h)
  refine ⟨_, _, pre0 _ ?_, hrun, hended, _, _, rfl, ?_, ⟨_, rfl⟩, hW, hsame.mono (by decide) (by decide)⟩
  · show Sq p e below m s₁ 0 #[rv a, rv b] [] _
    refine XS.aloadN X0.here hx rfl (hb hby d3_0) rfl rfl ?_
    show Sq p e below m s₁ 1 #[rv a, rv b] [.ref b] _
    refine st1 _ ?_
    show Sq p e below m T1 4 #[rv a, rv b] [.int 1] _
    refine XS.ifNo X1.here hx rfl (hb hby d3_4) rfl ((if0 _ _).trans (feq (by decide)).1) ?_
    refine XS.aloadN X1.here hx rfl (hb hby d3_7) rfl rfl ?_
    show Sq p e below m T1 8 #[rv a, rv b] [.ref a] _
    refine st2 _ ?_
    show Sq p e below m T2 11 #[rv a, rv b] [.int x1] _
    refine XS.aloadN X2.here hx rfl (hb hby d3_11) rfl rfl ?_
    show Sq p e below m T2 12 #[rv a, rv b] [.ref b, .int x1] _
    refine st3 _ ?_
    show Sq p e below m T3 15 #[rv a, rv b] [.ref b, .int x1] _
    refine st4 _ ?_
    show Sq p e below m T4 18 #[rv a, rv b] [.int x2, .int x1] _
    refine XS.icmpNo X4.here hx rfl (hb hby d3_18) rfl (teq qx).2 ?_
    refine XS.aloadN X4.here hx rfl (hb hby d3_21) rfl rfl ?_
    show Sq p e below m T4 22 #[rv a, rv b] [.ref a] _
    refine st5 _ ?_
    show Sq p e below m T5 25 #[rv a, rv b] [.int y1] _
    refine XS.aloadN X5.here hx rfl (hb hby d3_25) rfl rfl ?_
    show Sq p e below m T5 26 #[rv a, rv b] [.ref b, .int y1] _
    refine st6 _ ?_
    show Sq p e below m T6 29 #[rv a, rv b] [.ref b, .int y1] _
    refine st7 _ ?_
    show Sq p e below m T7 32 #[rv a, rv b] [.int y2, .int y1] _
    refine XS.icmpYes X7.here hx rfl (pc0 := 32) (pc' := 39) rfl (hb hby d3_32) rfl (feq qy).2 (by decide) (by decide) ?_
    refine XS.iconst X7.here hx rfl (hb hby d3_39) ?_
    show Sq p e below m T7 40 #[rv a, rv b] [.int 0] _
    exact retN X7 hx (t := .boolean) Bd.returns (by simp) (hb hby d3_40) hr
  · show Q_eq10 Z a b x1 y1 x2 y2 h0 n0 _ T7.heap _
    rw [e7]
    exact ⟨rfl, N0, rfl⟩
def Q_eq0 (Z : State) (a : Addr) (b : Addr) (x1 : Int32) (y1 : Int32) (x2 : Int32) (y2 : Int32) (h0 : Heap) (n0 : Nat) (v : Option Value) (h : Heap) (L : List Loc) : Prop := v = some (.int (0 : Int32)) ∧ Fr n0 L ∧ h = h0
set_option maxRecDepth 65536 in
set_option maxHeartbeats 40000000 in
theorem eq0 (l : Launch) (Z : State) (a0 : Array Value) (hw : ∀ d ∈ tables_1, d.before a0 Z = true) (ws : List Jvm.Cond) (a : Addr) (b : Addr) (x1 : Int32) (y1 : Int32) (x2 : Int32) (y2 : Int32) (h0 : Heap) (n0 : Nat) (O : Old Z n0 h0) (Eb : Exa Z h0 b "com/example/concordat/concordat/at/StatementSyntax$Bounds") (Fae : Fld Z h0 a "com/example/concordat/concordat/at/StatementSyntax$Bounds" "end" "I" (.int x1)) (Fak : Fld Z h0 a "com/example/concordat/concordat/at/StatementSyntax$Bounds" "keyword" "I" (.int y1)) (Fbe : Fld Z h0 b "com/example/concordat/concordat/at/StatementSyntax$Bounds" "end" "I" (.int x2)) (Fbk : Fld Z h0 b "com/example/concordat/concordat/at/StatementSyntax$Bounds" "keyword" "I" (.int y2)) (qx : ¬ (x1 = x2)) :
    Ctr l Z y_4 prog_30_method_4_code 2 (some .boolean) ws ({ frames := 0, cells := 0, slots := 0, locals := 0 } : Room) #[(.ref a), (.ref b)] h0 (Q_eq0 Z a b x1 y1 x2 y2 h0 n0) := by
  refine MetFree.of_bodySF (plainFor_of_name pn_0) hisR ?_
  intro p e s m args below meth c s₁ Bd hml0 hP hK
  obtain ⟨rfl, hZ, hh⟩ := hP
  have W := fun (i : Nat) {d : Jvm.Cond} (h : tables_1[i]? = some d) => hw d (List.mem_of_getElem? h)
  have hx := Bd.exec
  have hby := Bd.bytes
  have hml : c.maxLocals = 2 := hml0
  have hown : s.vm.findClass "com/example/concordat/concordat/at/StatementSyntax$Bounds" = some m.cls := findClass_of_methodNamed Bd.named
  have hnm := (name_of_methodNamed Bd.named Bd.method).1
  have X0 : Stand p l e ({ frames := 0, cells := 0, slots := 0, locals := 0 } : Room) s m #[(.ref a), (.ref b)] below meth c s₁ [] 0 0 := Stand.of_body Bd
  have e0 : s₁.heap = h0 := by rw [← hh, Bd.state]; rfl
  have N0 := Fr.nil n0
  have pre0 : ∀ t, Steps p.tables e below (s₁.setTop (mkF m 0 #[.val (.ref a), .val (.ref b)] [])) t → Steps p.tables e below (s₁.setTop (entryFrame m #[(.ref a), (.ref b)] 2)) t := fun t kk_ => castTop (ef_5 m a b) kk_
  obtain ⟨T1, X1, e1, st1⟩ := instY X0 hx hZ hown (W 18 rfl) e0 (Ins.self Eb) (g := (mkF m 1 #[rv a, rv b] [.ref b])) rfl rfl (hb hby d3_1)
  obtain ⟨T2, X2, e2, st2⟩ := getF X1 hx hZ hown (host := "") (Or.inl (W 9 rfl)) Via.refl e1 Fae (g := (mkF m 8 #[rv a, rv b] [.ref a])) rfl rfl (hb hby d3_8)
  obtain ⟨T3, X3, e3, st3⟩ := castY X2 hx hZ hown (W 18 rfl) e2 (Ins.self Eb) (g := (mkF m 12 #[rv a, rv b] [.ref b, .int x1])) rfl rfl (hb hby d3_12)
  obtain ⟨T4, X4, e4, st4⟩ := getF X3 hx hZ hown (host := "") (Or.inl (W 9 rfl)) Via.refl e3 Fbe (g := (mkF m 15 #[rv a, rv b] [.ref b, .int x1])) rfl rfl (hb hby d3_15)
  obtain ⟨fs, hr, hrun, hended, hW, hsame⟩ := X4.leave (v := some (.int (0 : Int32))) (fun h => by rw [Bd.returns] at h; cases h)
  refine ⟨_, _, pre0 _ ?_, hrun, hended, _, _, rfl, ?_, ⟨_, rfl⟩, hW, hsame.mono (by decide) (by decide)⟩
  · show Sq p e below m s₁ 0 #[rv a, rv b] [] _
    refine XS.aloadN X0.here hx rfl (hb hby d3_0) rfl rfl ?_
    show Sq p e below m s₁ 1 #[rv a, rv b] [.ref b] _
    refine st1 _ ?_
    show Sq p e below m T1 4 #[rv a, rv b] [.int 1] _
    refine XS.ifNo X1.here hx rfl (hb hby d3_4) rfl ((if0 _ _).trans (feq (by decide)).1) ?_
    refine XS.aloadN X1.here hx rfl (hb hby d3_7) rfl rfl ?_
    show Sq p e below m T1 8 #[rv a, rv b] [.ref a] _
    refine st2 _ ?_
    show Sq p e below m T2 11 #[rv a, rv b] [.int x1] _
    refine XS.aloadN X2.here hx rfl (hb hby d3_11) rfl rfl ?_
    show Sq p e below m T2 12 #[rv a, rv b] [.ref b, .int x1] _
    refine st3 _ ?_
    show Sq p e below m T3 15 #[rv a, rv b] [.ref b, .int x1] _
    refine st4 _ ?_
    show Sq p e below m T4 18 #[rv a, rv b] [.int x2, .int x1] _
    refine XS.icmpYes X4.here hx rfl (pc0 := 18) (pc' := 39) rfl (hb hby d3_18) rfl (feq qx).2 (by decide) (by decide) ?_
    refine XS.iconst X4.here hx rfl (hb hby d3_39) ?_
    show Sq p e below m T4 40 #[rv a, rv b] [.int 0] _
    exact retN X4 hx (t := .boolean) Bd.returns (by simp) (hb hby d3_40) hr
  · show Q_eq0 Z a b x1 y1 x2 y2 h0 n0 _ T4.heap _
    rw [e4]
    exact ⟨rfl, N0, rfl⟩
theorem pd_2 : parseMethodDescriptor "(II)V" = some ⟨[.int, .int], none⟩ := by decide +kernel
theorem pd_3 : parseMethodDescriptor "(Ljava/lang/Object;)Z" = some ⟨[(.object "java/lang/Object")], some .boolean⟩ := by decide +kernel
theorem pd_4 : parseMethodDescriptor "(I)Ljava/lang/Integer;" = some ⟨[.int], some (.object "java/lang/Integer")⟩ := by decide +kernel
def Q_rm0 (Z : State) (p1 : Int32) (p2 : Int32) (p3 : Int32) (p4 : Int32) (p5 : Int32) (ca : Addr) (cc : Cell) (h0 : Heap) (n0 : Nat) (v : Option Value) (h : Heap) (L : List Loc) : Prop := v = some (.int (1 : Int32)) ∧ Fr n0 L
theorem ef_6 (m : MethodId) (x0 : Int32) (x1 : Int32) (x2 : Int32) (x3 : Int32) (x4 : Int32) : entryFrame m #[(.int x0), (.int x1), (.int x2), (.int x3), (.int x4)] maxLocals = mkF m 0 #[.val (.int x0), .val (.int x1), .val (.int x2), .val (.int x3), .val (.int x4), .unset, .unset, .unset, .unset, .unset, .unset, .unset, .unset] [] := by first | (simp [entryFrame, mkF, argsToLocals, Value.category, maxLocals]; done) | rfl
theorem pn_3 : plainName "com/example/concordat/concordat/at/BoundsEqualsPinLaw" = true := by first | (simp [plainName, overriddenIn]; done) | decide +kernel
set_option maxRecDepth 65536 in
set_option maxHeartbeats 40000000 in
theorem rm0 (l : Launch) (Z : State) (a0 : Array Value) (hw : ∀ d ∈ tables_1, d.before a0 Z = true) (ws : List Jvm.Cond) (p1 : Int32) (p2 : Int32) (p3 : Int32) (p4 : Int32) (p5 : Int32) (ca : Addr) (cc : Cell) (h0 : Heap) (n0 : Nat) (O : Old Z n0 h0) (Bx : Bxs Z ca cc "java/lang/Integer" "I" (256 : Int32) (fun j => .int (j - (128 : Int32)))) (Shigh : Sta Z Z.heap "java/lang/Integer$IntegerCache" "high" "I" (.int (127 : Int32))) (Scache : Sta Z Z.heap "java/lang/Integer$IntegerCache" "cache" "[Ljava/lang/Integer;" (.ref ca)) :
    Ctr l Z x code maxLocals ret ws room_1 #[(.int p1), (.int p2), (.int p3), (.int p4), (.int p5)] h0 (Q_rm0 Z p1 p2 p3 p4 p5 ca cc h0 n0) := by
  refine MetFree.of_bodySF (plainFor_of_name pn_3) hisR ?_
  intro p e s m args below meth c s₁ Bd hml0 hP hK
  obtain ⟨rfl, hZ, hh⟩ := hP
  have W := fun (i : Nat) {d : Jvm.Cond} (h : tables_1[i]? = some d) => hw d (List.mem_of_getElem? h)
  have hx := Bd.exec
  have hby := Bd.bytes
  have hml : c.maxLocals = 13 := hml0
  have hown : s.vm.findClass "com/example/concordat/concordat/at/BoundsEqualsPinLaw" = some m.cls := findClass_of_methodNamed Bd.named
  have hnm := (name_of_methodNamed Bd.named Bd.method).1
  have X0 : Stand p l e room_1 s m #[(.int p1), (.int p2), (.int p3), (.int p4), (.int p5)] below meth c s₁ [] 0 0 := Stand.of_body Bd
  have e0 : s₁.heap = h0 := by rw [← hh, Bd.state]; rfl
  have N0 := Fr.nil n0
  have pre0 : ∀ t, Steps p.tables e below (s₁.setTop (mkF m 0 #[.val (.int p1), .val (.int p2), .val (.int p3), .val (.int p4), .val (.int p5), .unset, .unset, .unset, .unset, .unset, .unset, .unset, .unset] [])) t → Steps p.tables e below (s₁.setTop (entryFrame m #[(.int p1), (.int p2), (.int p3), (.int p4), (.int p5)] maxLocals)) t := fun t kk_ => castTop (ef_6 m p1 p2 p3 p4 p5) kk_
  have pre1 : ∀ t, Steps p.tables e below (s₁.setTop (mkF m 12 #[iv p1, iv p2, iv p3, iv p4, iv p5, .unset, .unset, .unset, .unset, .unset, .unset, .unset, .unset] [.int (if (p5 &&& (1 : Int32)) = (0 : Int32) then p3 else p1)])) t → Steps p.tables e below (s₁.setTop (entryFrame m #[(.int p1), (.int p2), (.int p3), (.int p4), (.int p5)] maxLocals)) t := by
    intro t kt
    refine pre0 _ ?_
    show Sq p e below m s₁ 0 #[iv p1, iv p2, iv p3, iv p4, iv p5, .unset, .unset, .unset, .unset, .unset, .unset, .unset, .unset] [] _
    refine XS.iload X0.here hx rfl (hb hby at_0) rfl ?_
    refine XS.iconst X0.here hx rfl (hb hby at_2) ?_
    show Sq p e below m s₁ 3 #[iv p1, iv p2, iv p3, iv p4, iv p5, .unset, .unset, .unset, .unset, .unset, .unset, .unset, .unset] [.int 1, .int p5] _
    refine XS.iand X0.here hx rfl (hb hby at_3) rfl ?_
    by_cases hc4 : (p5 &&& (1 : Int32)) = (0 : Int32)
    · simp only [if_pos hc4] at kt
      show Sq p e below m s₁ 4 #[iv p1, iv p2, iv p3, iv p4, iv p5, .unset, .unset, .unset, .unset, .unset, .unset, .unset, .unset] [.int (p5 &&& (1 : Int32))] _
      refine XS.ifYes X0.here hx rfl (pc0 := 4) (pc' := 11) rfl (hb hby at_4) rfl ((if0 _ _).trans (teq hc4).1) (by decide) (by decide) ?_
      refine XS.iloadN X0.here hx rfl (hb hby at_11) rfl ?_
      exact kt
    · simp only [if_neg hc4] at kt
      show Sq p e below m s₁ 4 #[iv p1, iv p2, iv p3, iv p4, iv p5, .unset, .unset, .unset, .unset, .unset, .unset, .unset, .unset] [.int (p5 &&& (1 : Int32))] _
      refine XS.ifNo X0.here hx rfl (hb hby at_4) rfl ((if0 _ _).trans (feq hc4).1) ?_
      refine XS.iloadN X0.here hx rfl (hb hby at_7) rfl ?_
      show Sq p e below m s₁ 8 #[iv p1, iv p2, iv p3, iv p4, iv p5, .unset, .unset, .unset, .unset, .unset, .unset, .unset, .unset] [.int p1] _
      refine XS.goto X0.here hx rfl (pc0 := 8) (pc' := 12) rfl (hb hby at_8) (by decide) (by decide) ?_
      exact kt
  obtain ⟨e_, he_⟩ : ∃ z, (if (p5 &&& (1 : Int32)) = (0 : Int32) then p3 else p1) = z := ⟨_, rfl⟩
  rw [he_] at pre1
  have pre2 : ∀ t, Steps p.tables e below (s₁.setTop (mkF m 26 #[iv p1, iv p2, iv p3, iv p4, iv p5, iv e_, .unset, .unset, .unset, .unset, .unset, .unset, .unset] [.int (if (p5 &&& (2 : Int32)) = (0 : Int32) then p4 else p2)])) t → Steps p.tables e below (s₁.setTop (entryFrame m #[(.int p1), (.int p2), (.int p3), (.int p4), (.int p5)] maxLocals)) t := by
    intro t kt
    refine pre1 _ ?_
    show Sq p e below m s₁ 12 #[iv p1, iv p2, iv p3, iv p4, iv p5, .unset, .unset, .unset, .unset, .unset, .unset, .unset, .unset] [.int e_] _
    refine XS.istore X0.here hx rfl (hb hby at_12) rfl rfl ?_
    refine XS.iload X0.here hx rfl (hb hby at_14) rfl ?_
    show Sq p e below m s₁ 16 #[iv p1, iv p2, iv p3, iv p4, iv p5, iv e_, .unset, .unset, .unset, .unset, .unset, .unset, .unset] [.int p5] _
    refine XS.iconst X0.here hx rfl (hb hby at_16) ?_
    refine XS.iand X0.here hx rfl (hb hby at_17) rfl ?_
    by_cases hc18 : (p5 &&& (2 : Int32)) = (0 : Int32)
    · simp only [if_pos hc18] at kt
      show Sq p e below m s₁ 18 #[iv p1, iv p2, iv p3, iv p4, iv p5, iv e_, .unset, .unset, .unset, .unset, .unset, .unset, .unset] [.int (p5 &&& (2 : Int32))] _
      refine XS.ifYes X0.here hx rfl (pc0 := 18) (pc' := 25) rfl (hb hby at_18) rfl ((if0 _ _).trans (teq hc18).1) (by decide) (by decide) ?_
      refine XS.iloadN X0.here hx rfl (hb hby at_25) rfl ?_
      exact kt
    · simp only [if_neg hc18] at kt
      show Sq p e below m s₁ 18 #[iv p1, iv p2, iv p3, iv p4, iv p5, iv e_, .unset, .unset, .unset, .unset, .unset, .unset, .unset] [.int (p5 &&& (2 : Int32))] _
      refine XS.ifNo X0.here hx rfl (hb hby at_18) rfl ((if0 _ _).trans (feq hc18).1) ?_
      refine XS.iloadN X0.here hx rfl (hb hby at_21) rfl ?_
      show Sq p e below m s₁ 22 #[iv p1, iv p2, iv p3, iv p4, iv p5, iv e_, .unset, .unset, .unset, .unset, .unset, .unset, .unset] [.int p2] _
      refine XS.goto X0.here hx rfl (pc0 := 22) (pc' := 26) rfl (hb hby at_22) (by decide) (by decide) ?_
      exact kt
  obtain ⟨k_, hk_⟩ : ∃ z, (if (p5 &&& (2 : Int32)) = (0 : Int32) then p4 else p2) = z := ⟨_, rfl⟩
  rw [hk_] at pre2
  obtain ⟨T3, h3, X3, e3, E3, A3, D3, -, st3⟩ := newO X0 hx hZ hown (W 0 rfl) (W 1 rfl) (W 2 rfl) e0 (g := (mkF m 36 #[iv p1, iv p2, iv p3, iv p4, iv p5, iv e_, iv k_, iv (((p5.toUInt32 >>> ((2 : Int32) &&& 31).toUInt32).toInt32) &&& (3 : Int32)), .unset, .unset, .unset, .unset, .unset] [])) rfl (hb hby at_36) (by decide) (by decide)
  obtain ⟨b3, g3⟩ : ∃ z, z = h0.size := ⟨_, rfl⟩
  rw [← g3] at A3 D3 st3
  have g_b3 : n0 ≤ b3 := Nat.le_trans (own_sz O) (Nat.le_of_eq g3.symm)
  have O4 := O.ext E3
  have Fz6 : Fld Z h3 b3 "com/example/concordat/concordat/at/StatementSyntax$Bounds" "end" "I" (.int (0 : Int32)) := D3 (Or.inr (W 10 rfl)) (ty := .int) (by decide)
  have Fz7 : Fld Z h3 b3 "com/example/concordat/concordat/at/StatementSyntax$Bounds" "keyword" "I" (.int (0 : Int32)) := D3 (Or.inr (W 12 rfl)) (ty := .int) (by decide)
  obtain ⟨_, _, ⟨T8, L8, k8, n8⟩, -, X8, ⟨Lc8, hQ8, l8, y8, z8⟩, st8⟩ := X3.specialBack hx (y := y_0) rfl hown (mvT hZ (W 3 rfl)) (mvT hZ (W 4 rfl)) (mvT hZ (W 5 rfl)) (by decide) (backOf (W := 1) (binit l Z a0 hw [] b3 p1 p2 h3 n0 O4 A3 Fz6 Fz7 g_b3) hZ (W 5 rfl) (W 2 rfl) (by decide) (by decide)) (g := (mkF m 42 #[iv p1, iv p2, iv p3, iv p4, iv p5, iv e_, iv k_, iv (((p5.toUInt32 >>> ((2 : Int32) &&& 31).toUInt32).toInt32) &&& (3 : Int32)), .unset, .unset, .unset, .unset, .unset] [.int p2, .int p1, .ref b3, .ref b3])) rfl (by rw [hml]; rfl) (Steps.refl _) (a := b3) (argsL := [.int p1, .int p2]) (rest := [.ref b3]) (lenOf pd_2 rfl) rfl (by show 2 * 0 + _ ≤ _; exact Nat.le_of_eq rfl) (hb hby at_42) (fun _ _ => ⟨rfl, e3, (by decide : 1 + 0 ≤ _), (by decide : 2 + 0 ≤ _)⟩)
  dsimp only [Pt.U, Pt.locs, Pt.cells, Pt.slots] at X8 l8 y8 z8 st8 hQ8
  subst l8 y8 z8
  obtain ⟨h8, e8⟩ : ∃ z, T8.heap = z := ⟨_, rfl⟩
  rw [e8] at hQ8
  obtain ⟨rfl, N8q, p8_0, p8_1, p8_2⟩ := hQ8
  have N8 := Fr.app N0 N8q
  have A3 := A3.keep p8_0
  have O9 := O4.keep p8_0 (allS g_b3 all0)
  obtain ⟨T11, h11, X11, e11, E11, A11, D11, -, st11⟩ := newO X8 hx hZ hown (W 0 rfl) (W 1 rfl) (W 2 rfl) e8 (g := (mkF m 47 #[iv p1, iv p2, iv p3, iv p4, iv p5, iv e_, iv k_, iv (((p5.toUInt32 >>> ((2 : Int32) &&& 31).toUInt32).toInt32) &&& (3 : Int32)), rv b3, .unset, .unset, .unset, .unset] [])) rfl (hb hby at_47) (by decide) (by decide)
  obtain ⟨b11, g11⟩ : ∃ z, z = h8.size := ⟨_, rfl⟩
  rw [← g11] at A11 D11 st11
  have g_b11 : n0 ≤ b11 := Nat.le_trans (own_sz O9) (Nat.le_of_eq g11.symm)
  have ne_b3_b11 : b3 ≠ b11 := Nat.ne_of_lt (Nat.lt_of_lt_of_le A3.lt (Nat.le_of_eq g11.symm))
  have A3 := A3.ext E11
  have p8_1 := p8_1.ext E11
  have p8_2 := p8_2.ext E11
  have O12 := O9.ext E11
  have Fz14 : Fld Z h11 b11 "com/example/concordat/concordat/at/StatementSyntax$Bounds" "end" "I" (.int (0 : Int32)) := D11 (Or.inr (W 10 rfl)) (ty := .int) (by decide)
  have Fz15 : Fld Z h11 b11 "com/example/concordat/concordat/at/StatementSyntax$Bounds" "keyword" "I" (.int (0 : Int32)) := D11 (Or.inr (W 12 rfl)) (ty := .int) (by decide)
  obtain ⟨_, _, ⟨T16, L16, k16, n16⟩, -, X16, ⟨Lc16, hQ16, l16, y16, z16⟩, st16⟩ := X11.specialBack hx (y := y_0) rfl hown (mvT hZ (W 3 rfl)) (mvT hZ (W 4 rfl)) (mvT hZ (W 5 rfl)) (by decide) (backOf (W := 1) (binit l Z a0 hw [] b11 e_ k_ h11 n0 O12 A11 Fz14 Fz15 g_b11) hZ (W 5 rfl) (W 2 rfl) (by decide) (by decide)) (g := (mkF m 55 #[iv p1, iv p2, iv p3, iv p4, iv p5, iv e_, iv k_, iv (((p5.toUInt32 >>> ((2 : Int32) &&& 31).toUInt32).toInt32) &&& (3 : Int32)), rv b3, .unset, .unset, .unset, .unset] [.int k_, .int e_, .ref b11, .ref b11])) rfl (by rw [hml]; rfl) (Steps.refl _) (a := b11) (argsL := [.int e_, .int k_]) (rest := [.ref b11]) (lenOf pd_2 rfl) rfl (by show 2 * 0 + _ ≤ _; exact Nat.le_of_eq rfl) (hb hby at_55) (fun _ _ => ⟨rfl, e11, (by decide : 2 + 0 ≤ _), (by decide : 4 + 0 ≤ _)⟩)
  dsimp only [Pt.U, Pt.locs, Pt.cells, Pt.slots] at X16 l16 y16 z16 st16 hQ16
  subst l16 y16 z16
  obtain ⟨h16, e16⟩ : ∃ z, T16.heap = z := ⟨_, rfl⟩
  rw [e16] at hQ16
  obtain ⟨rfl, N16q, p16_0, p16_1, p16_2⟩ := hQ16
  have N16 := Fr.app N8 N16q
  have A3 := A3.keep p16_0
  have p8_1 := p8_1.keep p16_0 (ninS ne_b3_b11 nin0)
  have p8_2 := p8_2.keep p16_0 (ninS ne_b3_b11 nin0)
  have A11 := A11.keep p16_0
  have O17 := O12.keep p16_0 (allS g_b11 all0)
  have pre19 : ∀ t, Steps p.tables e below (T16.setTop (mkF m 62 #[iv p1, iv p2, iv p3, iv p4, iv p5, iv e_, iv k_, iv (((p5.toUInt32 >>> ((2 : Int32) &&& 31).toUInt32).toInt32) &&& (3 : Int32)), rv b3, rv b11, .unset, .unset, .unset] [.int (((p5.toUInt32 >>> ((2 : Int32) &&& 31).toUInt32).toInt32) &&& (3 : Int32))])) t → Steps p.tables e below (s₁.setTop (entryFrame m #[(.int p1), (.int p2), (.int p3), (.int p4), (.int p5)] maxLocals)) t := by
    intro t kt
    refine pre2 _ ?_
    show Sq p e below m s₁ 26 #[iv p1, iv p2, iv p3, iv p4, iv p5, iv e_, .unset, .unset, .unset, .unset, .unset, .unset, .unset] [.int k_] _
    refine XS.istore X0.here hx rfl (hb hby at_26) rfl rfl ?_
    refine XS.iload X0.here hx rfl (hb hby at_28) rfl ?_
    show Sq p e below m s₁ 30 #[iv p1, iv p2, iv p3, iv p4, iv p5, iv e_, iv k_, .unset, .unset, .unset, .unset, .unset, .unset] [.int p5] _
    refine XS.iconst X0.here hx rfl (hb hby at_30) ?_
    refine XS.iushr X0.here hx rfl (hb hby at_31) rfl ?_
    show Sq p e below m s₁ 32 #[iv p1, iv p2, iv p3, iv p4, iv p5, iv e_, iv k_, .unset, .unset, .unset, .unset, .unset, .unset] [.int ((p5.toUInt32 >>> ((2 : Int32) &&& 31).toUInt32).toInt32)] _
    refine XS.iconst X0.here hx rfl (hb hby at_32) ?_
    refine XS.iand X0.here hx rfl (hb hby at_33) rfl ?_
    show Sq p e below m s₁ 34 #[iv p1, iv p2, iv p3, iv p4, iv p5, iv e_, iv k_, .unset, .unset, .unset, .unset, .unset, .unset] [.int (((p5.toUInt32 >>> ((2 : Int32) &&& 31).toUInt32).toInt32) &&& (3 : Int32))] _
    refine XS.istore X0.here hx rfl (hb hby at_34) rfl rfl ?_
    show Sq p e below m s₁ 36 #[iv p1, iv p2, iv p3, iv p4, iv p5, iv e_, iv k_, iv (((p5.toUInt32 >>> ((2 : Int32) &&& 31).toUInt32).toInt32) &&& (3 : Int32)), .unset, .unset, .unset, .unset, .unset] [] _
    refine st3 _ ?_
    show Sq p e below m T3 39 #[iv p1, iv p2, iv p3, iv p4, iv p5, iv e_, iv k_, iv (((p5.toUInt32 >>> ((2 : Int32) &&& 31).toUInt32).toInt32) &&& (3 : Int32)), .unset, .unset, .unset, .unset, .unset] [.ref b3] _
    refine XS.dup X3.here hx rfl (hb hby at_39) rfl rfl ?_
    refine XS.iloadN X3.here hx rfl (hb hby at_40) rfl ?_
    show Sq p e below m T3 41 #[iv p1, iv p2, iv p3, iv p4, iv p5, iv e_, iv k_, iv (((p5.toUInt32 >>> ((2 : Int32) &&& 31).toUInt32).toInt32) &&& (3 : Int32)), .unset, .unset, .unset, .unset, .unset] [.int p1, .ref b3, .ref b3] _
    refine XS.iloadN X3.here hx rfl (hb hby at_41) rfl ?_
    show Sq p e below m T3 42 #[iv p1, iv p2, iv p3, iv p4, iv p5, iv e_, iv k_, iv (((p5.toUInt32 >>> ((2 : Int32) &&& 31).toUInt32).toInt32) &&& (3 : Int32)), .unset, .unset, .unset, .unset, .unset] [.int p2, .int p1, .ref b3, .ref b3] _
    refine st8.trans ?_
    show Sq p e below m T8 45 #[iv p1, iv p2, iv p3, iv p4, iv p5, iv e_, iv k_, iv (((p5.toUInt32 >>> ((2 : Int32) &&& 31).toUInt32).toInt32) &&& (3 : Int32)), .unset, .unset, .unset, .unset, .unset] [.ref b3] _
    refine XS.astore X8.here hx rfl (hb hby at_45) rfl rfl rfl ?_
    show Sq p e below m T8 47 #[iv p1, iv p2, iv p3, iv p4, iv p5, iv e_, iv k_, iv (((p5.toUInt32 >>> ((2 : Int32) &&& 31).toUInt32).toInt32) &&& (3 : Int32)), rv b3, .unset, .unset, .unset, .unset] [] _
    refine st11 _ ?_
    show Sq p e below m T11 50 #[iv p1, iv p2, iv p3, iv p4, iv p5, iv e_, iv k_, iv (((p5.toUInt32 >>> ((2 : Int32) &&& 31).toUInt32).toInt32) &&& (3 : Int32)), rv b3, .unset, .unset, .unset, .unset] [.ref b11] _
    refine XS.dup X11.here hx rfl (hb hby at_50) rfl rfl ?_
    refine XS.iload X11.here hx rfl (hb hby at_51) rfl ?_
    show Sq p e below m T11 53 #[iv p1, iv p2, iv p3, iv p4, iv p5, iv e_, iv k_, iv (((p5.toUInt32 >>> ((2 : Int32) &&& 31).toUInt32).toInt32) &&& (3 : Int32)), rv b3, .unset, .unset, .unset, .unset] [.int e_, .ref b11, .ref b11] _
    refine XS.iload X11.here hx rfl (hb hby at_53) rfl ?_
    show Sq p e below m T11 55 #[iv p1, iv p2, iv p3, iv p4, iv p5, iv e_, iv k_, iv (((p5.toUInt32 >>> ((2 : Int32) &&& 31).toUInt32).toInt32) &&& (3 : Int32)), rv b3, .unset, .unset, .unset, .unset] [.int k_, .int e_, .ref b11, .ref b11] _
    refine st16.trans ?_
    show Sq p e below m T16 58 #[iv p1, iv p2, iv p3, iv p4, iv p5, iv e_, iv k_, iv (((p5.toUInt32 >>> ((2 : Int32) &&& 31).toUInt32).toInt32) &&& (3 : Int32)), rv b3, .unset, .unset, .unset, .unset] [.ref b11] _
    refine XS.astore X16.here hx rfl (hb hby at_58) rfl rfl rfl ?_
    refine XS.iload X16.here hx rfl (hb hby at_60) rfl ?_
    exact kt
  by_cases hc62 : (((p5.toUInt32 >>> ((2 : Int32) &&& 31).toUInt32).toInt32) &&& (3 : Int32)) = (0 : Int32)
  · have pre20 : ∀ t, Steps p.tables e below (T16.setTop (mkF m 72 #[iv p1, iv p2, iv p3, iv p4, iv p5, iv e_, iv k_, iv (((p5.toUInt32 >>> ((2 : Int32) &&& 31).toUInt32).toInt32) &&& (3 : Int32)), rv b3, rv b11, rv b11, .unset, .unset] [.int e_, .int p1])) t → Steps p.tables e below (s₁.setTop (entryFrame m #[(.int p1), (.int p2), (.int p3), (.int p4), (.int p5)] maxLocals)) t := by
      intro t kt
      refine pre19 _ ?_
      show Sq p e below m T16 62 #[iv p1, iv p2, iv p3, iv p4, iv p5, iv e_, iv k_, iv (((p5.toUInt32 >>> ((2 : Int32) &&& 31).toUInt32).toInt32) &&& (3 : Int32)), rv b3, rv b11, .unset, .unset, .unset] [.int (((p5.toUInt32 >>> ((2 : Int32) &&& 31).toUInt32).toInt32) &&& (3 : Int32))] _
      refine XS.ifNo X16.here hx rfl (hb hby at_62) rfl ((if0 _ _).trans (teq hc62).2) ?_
      refine XS.aload X16.here hx rfl (hb hby at_65) rfl rfl ?_
      show Sq p e below m T16 67 #[iv p1, iv p2, iv p3, iv p4, iv p5, iv e_, iv k_, iv (((p5.toUInt32 >>> ((2 : Int32) &&& 31).toUInt32).toInt32) &&& (3 : Int32)), rv b3, rv b11, .unset, .unset, .unset] [.ref b11] _
      refine XS.astore X16.here hx rfl (hb hby at_67) rfl rfl rfl ?_
      refine XS.iloadN X16.here hx rfl (hb hby at_69) rfl ?_
      show Sq p e below m T16 70 #[iv p1, iv p2, iv p3, iv p4, iv p5, iv e_, iv k_, iv (((p5.toUInt32 >>> ((2 : Int32) &&& 31).toUInt32).toInt32) &&& (3 : Int32)), rv b3, rv b11, rv b11, .unset, .unset] [.int p1] _
      refine XS.iload X16.here hx rfl (hb hby at_70) rfl ?_
      exact kt
    by_cases hc72 : p1 = e_
    · have pre21 : ∀ t, Steps p.tables e below (T16.setTop (mkF m 78 #[iv p1, iv p2, iv p3, iv p4, iv p5, iv e_, iv k_, iv (((p5.toUInt32 >>> ((2 : Int32) &&& 31).toUInt32).toInt32) &&& (3 : Int32)), rv b3, rv b11, rv b11, .unset, .unset] [.int k_, .int p2])) t → Steps p.tables e below (s₁.setTop (entryFrame m #[(.int p1), (.int p2), (.int p3), (.int p4), (.int p5)] maxLocals)) t := by
        intro t kt
        refine pre20 _ ?_
        show Sq p e below m T16 72 #[iv p1, iv p2, iv p3, iv p4, iv p5, iv e_, iv k_, iv (((p5.toUInt32 >>> ((2 : Int32) &&& 31).toUInt32).toInt32) &&& (3 : Int32)), rv b3, rv b11, rv b11, .unset, .unset] [.int e_, .int p1] _
        refine XS.icmpNo X16.here hx rfl (hb hby at_72) rfl (teq hc72).2 ?_
        refine XS.iloadN X16.here hx rfl (hb hby at_75) rfl ?_
        show Sq p e below m T16 76 #[iv p1, iv p2, iv p3, iv p4, iv p5, iv e_, iv k_, iv (((p5.toUInt32 >>> ((2 : Int32) &&& 31).toUInt32).toInt32) &&& (3 : Int32)), rv b3, rv b11, rv b11, .unset, .unset] [.int p2] _
        refine XS.iload X16.here hx rfl (hb hby at_76) rfl ?_
        exact kt
      by_cases hc78 : p2 = k_
      · obtain ⟨cq22, kq22, q22a, q22b, q22c⟩ := isOf hZ e16 A3
        obtain ⟨_, _, ⟨T22, L22, k22, n22⟩, -, X22, ⟨Lc22, hQ22, l22, y22, z22⟩, st22⟩ := X16.virtualBack hx (y := y_4) (z := y_4) hown (mvT hZ (W 13 rfl)) (mvT hZ (W 14 rfl)) (notFace_of_selects (args := #[]) (mvT hZ (W 16 rfl))) (mvT hZ (W 16 rfl)) (mvT hZ (W 15 rfl)) (by decide) (backOf (W := 0) (eq11 l Z a0 hw [] b3 b11 p1 p2 e_ k_ h16 n0 O17 A11 p8_1 p8_2 p16_1 p16_2 hc72 hc78) hZ (W 17 rfl) (W 2 rfl) (by decide) (by decide)) q22a q22c (g := (mkF m 135 #[iv p1, iv p2, iv p3, iv p4, iv p5, iv e_, iv k_, iv (((p5.toUInt32 >>> ((2 : Int32) &&& 31).toUInt32).toInt32) &&& (3 : Int32)), rv b3, rv b11, rv b11, iv 1, .unset] [.ref b11, .ref b3])) rfl (by rw [hml]; rfl) (Steps.refl _) (argsL := [.ref b11]) (rest := []) (lenOf pd_3 rfl) rfl (by show 2 * 0 + _ ≤ _; exact Nat.le_of_eq rfl) (hb hby at_135) (fun _ _ => ⟨rfl, e16, (by decide : 2 + 0 ≤ _), (by decide : 4 + 0 ≤ _)⟩)
        dsimp only [Pt.U, Pt.locs, Pt.cells, Pt.slots] at X22 l22 y22 z22 st22 hQ22
        subst l22 y22 z22
        obtain ⟨h22, e22⟩ : ∃ z, T22.heap = z := ⟨_, rfl⟩
        rw [e22] at hQ22
        obtain ⟨rfl, N22q, p22_0⟩ := hQ22
        have N22 := Fr.app N16 N22q
        rw [p22_0] at e22
        obtain ⟨cq23, kq23, q23a, q23b, q23c⟩ := isOf hZ e22 A11
        obtain ⟨_, _, ⟨T23, L23, k23, n23⟩, -, X23, ⟨Lc23, hQ23, l23, y23, z23⟩, st23⟩ := X22.virtualBack hx (y := y_4) (z := y_4) hown (mvT hZ (W 13 rfl)) (mvT hZ (W 14 rfl)) (notFace_of_selects (args := #[]) (mvT hZ (W 16 rfl))) (mvT hZ (W 16 rfl)) (mvT hZ (W 15 rfl)) (by decide) (backOf (W := 0) (eq11 l Z a0 hw [] b11 b3 e_ k_ p1 p2 h16 n0 O17 A3 p16_1 p16_2 p8_1 p8_2 (Eq.symm hc72) (Eq.symm hc78)) hZ (W 17 rfl) (W 2 rfl) (by decide) (by decide)) q23a q23c (g := (mkF m 158 #[iv p1, iv p2, iv p3, iv p4, iv p5, iv e_, iv k_, iv (((p5.toUInt32 >>> ((2 : Int32) &&& 31).toUInt32).toInt32) &&& (3 : Int32)), rv b3, rv b11, rv b11, iv 1, iv 1] [.ref b3, .ref b11])) rfl (by rw [hml]; rfl) (Steps.refl _) (argsL := [.ref b3]) (rest := []) (lenOf pd_3 rfl) rfl (by show 2 * 0 + _ ≤ _; exact Nat.le_of_eq rfl) (hb hby at_158) (fun _ _ => ⟨rfl, e22, (by decide : 2 + 0 ≤ _), (by decide : 4 + 0 ≤ _)⟩)
        dsimp only [Pt.U, Pt.locs, Pt.cells, Pt.slots] at X23 l23 y23 z23 st23 hQ23
        subst l23 y23 z23
        obtain ⟨h23, e23⟩ : ∃ z, T23.heap = z := ⟨_, rfl⟩
        rw [e23] at hQ23
        obtain ⟨rfl, N23q, p23_0⟩ := hQ23
        have N23 := Fr.app N22 N23q
        rw [p23_0] at e23
        obtain ⟨fs, hr, hrun, hended, hW, hsame⟩ := X23.leave (v := some (.int (1 : Int32))) (fun h => by rw [Bd.returns] at h; cases h)
        refine ⟨_, _, pre21 _ ?_, hrun, hended, _, _, rfl, ?_, ⟨_, rfl⟩, hW, hsame.mono (by decide) (by decide)⟩
        · show Sq p e below m T16 78 #[iv p1, iv p2, iv p3, iv p4, iv p5, iv e_, iv k_, iv (((p5.toUInt32 >>> ((2 : Int32) &&& 31).toUInt32).toInt32) &&& (3 : Int32)), rv b3, rv b11, rv b11, .unset, .unset] [.int k_, .int p2] _
          refine XS.icmpNo X16.here hx rfl (hb hby at_78) rfl (teq hc78).2 ?_
          refine XS.iconst X16.here hx rfl (hb hby at_81) ?_
          show Sq p e below m T16 82 #[iv p1, iv p2, iv p3, iv p4, iv p5, iv e_, iv k_, iv (((p5.toUInt32 >>> ((2 : Int32) &&& 31).toUInt32).toInt32) &&& (3 : Int32)), rv b3, rv b11, rv b11, .unset, .unset] [.int 1] _
          refine XS.goto X16.here hx rfl (pc0 := 82) (pc' := 86) rfl (hb hby at_82) (by decide) (by decide) ?_
          refine XS.istore X16.here hx rfl (hb hby at_86) rfl rfl ?_
          show Sq p e below m T16 88 #[iv p1, iv p2, iv p3, iv p4, iv p5, iv e_, iv k_, iv (((p5.toUInt32 >>> ((2 : Int32) &&& 31).toUInt32).toInt32) &&& (3 : Int32)), rv b3, rv b11, rv b11, iv 1, .unset] [] _
          refine XS.goto X16.here hx rfl (pc0 := 88) (pc' := 131) rfl (hb hby at_88) (by decide) (by decide) ?_
          refine XS.aload X16.here hx rfl (hb hby at_131) rfl rfl ?_
          show Sq p e below m T16 133 #[iv p1, iv p2, iv p3, iv p4, iv p5, iv e_, iv k_, iv (((p5.toUInt32 >>> ((2 : Int32) &&& 31).toUInt32).toInt32) &&& (3 : Int32)), rv b3, rv b11, rv b11, iv 1, .unset] [.ref b3] _
          refine XS.aload X16.here hx rfl (hb hby at_133) rfl rfl ?_
          show Sq p e below m T16 135 #[iv p1, iv p2, iv p3, iv p4, iv p5, iv e_, iv k_, iv (((p5.toUInt32 >>> ((2 : Int32) &&& 31).toUInt32).toInt32) &&& (3 : Int32)), rv b3, rv b11, rv b11, iv 1, .unset] [.ref b11, .ref b3] _
          refine st22.trans ?_
          show Sq p e below m T22 138 #[iv p1, iv p2, iv p3, iv p4, iv p5, iv e_, iv k_, iv (((p5.toUInt32 >>> ((2 : Int32) &&& 31).toUInt32).toInt32) &&& (3 : Int32)), rv b3, rv b11, rv b11, iv 1, .unset] [.int 1] _
          refine XS.istore X22.here hx rfl (hb hby at_138) rfl rfl ?_
          refine XS.iload X22.here hx rfl (hb hby at_140) rfl ?_
          show Sq p e below m T22 142 #[iv p1, iv p2, iv p3, iv p4, iv p5, iv e_, iv k_, iv (((p5.toUInt32 >>> ((2 : Int32) &&& 31).toUInt32).toInt32) &&& (3 : Int32)), rv b3, rv b11, rv b11, iv 1, iv 1] [.int 1] _
          refine XS.iload X22.here hx rfl (hb hby at_142) rfl ?_
          refine XS.icmpYes X22.here hx rfl (pc0 := 144) (pc' := 149) rfl (hb hby at_144) rfl (teq (rfl : (1 : Int32) = (1 : Int32))).1 (by decide) (by decide) ?_
          show Sq p e below m T22 149 #[iv p1, iv p2, iv p3, iv p4, iv p5, iv e_, iv k_, iv (((p5.toUInt32 >>> ((2 : Int32) &&& 31).toUInt32).toInt32) &&& (3 : Int32)), rv b3, rv b11, rv b11, iv 1, iv 1] [] _
          refine XS.iload X22.here hx rfl (hb hby at_149) rfl ?_
          refine XS.ifNo X22.here hx rfl (hb hby at_151) rfl ((if0 _ _).trans (teq hc62).2) ?_
          show Sq p e below m T22 154 #[iv p1, iv p2, iv p3, iv p4, iv p5, iv e_, iv k_, iv (((p5.toUInt32 >>> ((2 : Int32) &&& 31).toUInt32).toInt32) &&& (3 : Int32)), rv b3, rv b11, rv b11, iv 1, iv 1] [] _
          refine XS.aload X22.here hx rfl (hb hby at_154) rfl rfl ?_
          refine XS.aload X22.here hx rfl (hb hby at_156) rfl rfl ?_
          show Sq p e below m T22 158 #[iv p1, iv p2, iv p3, iv p4, iv p5, iv e_, iv k_, iv (((p5.toUInt32 >>> ((2 : Int32) &&& 31).toUInt32).toInt32) &&& (3 : Int32)), rv b3, rv b11, rv b11, iv 1, iv 1] [.ref b3, .ref b11] _
          refine st23.trans ?_
          show Sq p e below m T23 161 #[iv p1, iv p2, iv p3, iv p4, iv p5, iv e_, iv k_, iv (((p5.toUInt32 >>> ((2 : Int32) &&& 31).toUInt32).toInt32) &&& (3 : Int32)), rv b3, rv b11, rv b11, iv 1, iv 1] [.int 1] _
          refine XS.iload X23.here hx rfl (hb hby at_161) rfl ?_
          refine XS.icmpNo X23.here hx rfl (hb hby at_163) rfl (teq (rfl : (1 : Int32) = (1 : Int32))).2 ?_
          show Sq p e below m T23 166 #[iv p1, iv p2, iv p3, iv p4, iv p5, iv e_, iv k_, iv (((p5.toUInt32 >>> ((2 : Int32) &&& 31).toUInt32).toInt32) &&& (3 : Int32)), rv b3, rv b11, rv b11, iv 1, iv 1] [] _
          refine XS.iconst X23.here hx rfl (hb hby at_166) ?_
          refine XS.goto X23.here hx rfl (pc0 := 167) (pc' := 171) rfl (hb hby at_167) (by decide) (by decide) ?_
          show Sq p e below m T23 171 #[iv p1, iv p2, iv p3, iv p4, iv p5, iv e_, iv k_, iv (((p5.toUInt32 >>> ((2 : Int32) &&& 31).toUInt32).toInt32) &&& (3 : Int32)), rv b3, rv b11, rv b11, iv 1, iv 1] [.int 1] _
          exact retN X23 hx (t := .boolean) Bd.returns (by simp) (hb hby at_171) hr
        · show Q_rm0 Z p1 p2 p3 p4 p5 ca cc h0 n0 _ T23.heap _
          rw [e23]
          exact ⟨rfl, N23⟩
      · obtain ⟨cq22, kq22, q22a, q22b, q22c⟩ := isOf hZ e16 A3
        obtain ⟨_, _, ⟨T22, L22, k22, n22⟩, -, X22, ⟨Lc22, hQ22, l22, y22, z22⟩, st22⟩ := X16.virtualBack hx (y := y_4) (z := y_4) hown (mvT hZ (W 13 rfl)) (mvT hZ (W 14 rfl)) (notFace_of_selects (args := #[]) (mvT hZ (W 16 rfl))) (mvT hZ (W 16 rfl)) (mvT hZ (W 15 rfl)) (by decide) (backOf (W := 0) (eq10 l Z a0 hw [] b3 b11 p1 p2 e_ k_ h16 n0 O17 A11 p8_1 p8_2 p16_1 p16_2 hc72 hc78) hZ (W 17 rfl) (W 2 rfl) (by decide) (by decide)) q22a q22c (g := (mkF m 135 #[iv p1, iv p2, iv p3, iv p4, iv p5, iv e_, iv k_, iv (((p5.toUInt32 >>> ((2 : Int32) &&& 31).toUInt32).toInt32) &&& (3 : Int32)), rv b3, rv b11, rv b11, iv 0, .unset] [.ref b11, .ref b3])) rfl (by rw [hml]; rfl) (Steps.refl _) (argsL := [.ref b11]) (rest := []) (lenOf pd_3 rfl) rfl (by show 2 * 0 + _ ≤ _; exact Nat.le_of_eq rfl) (hb hby at_135) (fun _ _ => ⟨rfl, e16, (by decide : 2 + 0 ≤ _), (by decide : 4 + 0 ≤ _)⟩)
        dsimp only [Pt.U, Pt.locs, Pt.cells, Pt.slots] at X22 l22 y22 z22 st22 hQ22
        subst l22 y22 z22
        obtain ⟨h22, e22⟩ : ∃ z, T22.heap = z := ⟨_, rfl⟩
        rw [e22] at hQ22
        obtain ⟨rfl, N22q, p22_0⟩ := hQ22
        have N22 := Fr.app N16 N22q
        rw [p22_0] at e22
        obtain ⟨cq23, kq23, q23a, q23b, q23c⟩ := isOf hZ e22 A11
        obtain ⟨_, _, ⟨T23, L23, k23, n23⟩, -, X23, ⟨Lc23, hQ23, l23, y23, z23⟩, st23⟩ := X22.virtualBack hx (y := y_4) (z := y_4) hown (mvT hZ (W 13 rfl)) (mvT hZ (W 14 rfl)) (notFace_of_selects (args := #[]) (mvT hZ (W 16 rfl))) (mvT hZ (W 16 rfl)) (mvT hZ (W 15 rfl)) (by decide) (backOf (W := 0) (eq10 l Z a0 hw [] b11 b3 e_ k_ p1 p2 h16 n0 O17 A3 p16_1 p16_2 p8_1 p8_2 (Eq.symm hc72) (fun q => hc78 q.symm)) hZ (W 17 rfl) (W 2 rfl) (by decide) (by decide)) q23a q23c (g := (mkF m 158 #[iv p1, iv p2, iv p3, iv p4, iv p5, iv e_, iv k_, iv (((p5.toUInt32 >>> ((2 : Int32) &&& 31).toUInt32).toInt32) &&& (3 : Int32)), rv b3, rv b11, rv b11, iv 0, iv 0] [.ref b3, .ref b11])) rfl (by rw [hml]; rfl) (Steps.refl _) (argsL := [.ref b3]) (rest := []) (lenOf pd_3 rfl) rfl (by show 2 * 0 + _ ≤ _; exact Nat.le_of_eq rfl) (hb hby at_158) (fun _ _ => ⟨rfl, e22, (by decide : 2 + 0 ≤ _), (by decide : 4 + 0 ≤ _)⟩)
        dsimp only [Pt.U, Pt.locs, Pt.cells, Pt.slots] at X23 l23 y23 z23 st23 hQ23
        subst l23 y23 z23
        obtain ⟨h23, e23⟩ : ∃ z, T23.heap = z := ⟨_, rfl⟩
        rw [e23] at hQ23
        obtain ⟨rfl, N23q, p23_0⟩ := hQ23
        have N23 := Fr.app N22 N23q
        rw [p23_0] at e23
        obtain ⟨fs, hr, hrun, hended, hW, hsame⟩ := X23.leave (v := some (.int (1 : Int32))) (fun h => by rw [Bd.returns] at h; cases h)
        refine ⟨_, _, pre21 _ ?_, hrun, hended, _, _, rfl, ?_, ⟨_, rfl⟩, hW, hsame.mono (by decide) (by decide)⟩
        · show Sq p e below m T16 78 #[iv p1, iv p2, iv p3, iv p4, iv p5, iv e_, iv k_, iv (((p5.toUInt32 >>> ((2 : Int32) &&& 31).toUInt32).toInt32) &&& (3 : Int32)), rv b3, rv b11, rv b11, .unset, .unset] [.int k_, .int p2] _
          refine XS.icmpYes X16.here hx rfl (pc0 := 78) (pc' := 85) rfl (hb hby at_78) rfl (feq hc78).2 (by decide) (by decide) ?_
          refine XS.iconst X16.here hx rfl (hb hby at_85) ?_
          show Sq p e below m T16 86 #[iv p1, iv p2, iv p3, iv p4, iv p5, iv e_, iv k_, iv (((p5.toUInt32 >>> ((2 : Int32) &&& 31).toUInt32).toInt32) &&& (3 : Int32)), rv b3, rv b11, rv b11, .unset, .unset] [.int 0] _
          refine XS.istore X16.here hx rfl (hb hby at_86) rfl rfl ?_
          refine XS.goto X16.here hx rfl (pc0 := 88) (pc' := 131) rfl (hb hby at_88) (by decide) (by decide) ?_
          show Sq p e below m T16 131 #[iv p1, iv p2, iv p3, iv p4, iv p5, iv e_, iv k_, iv (((p5.toUInt32 >>> ((2 : Int32) &&& 31).toUInt32).toInt32) &&& (3 : Int32)), rv b3, rv b11, rv b11, iv 0, .unset] [] _
          refine XS.aload X16.here hx rfl (hb hby at_131) rfl rfl ?_
          refine XS.aload X16.here hx rfl (hb hby at_133) rfl rfl ?_
          show Sq p e below m T16 135 #[iv p1, iv p2, iv p3, iv p4, iv p5, iv e_, iv k_, iv (((p5.toUInt32 >>> ((2 : Int32) &&& 31).toUInt32).toInt32) &&& (3 : Int32)), rv b3, rv b11, rv b11, iv 0, .unset] [.ref b11, .ref b3] _
          refine st22.trans ?_
          show Sq p e below m T22 138 #[iv p1, iv p2, iv p3, iv p4, iv p5, iv e_, iv k_, iv (((p5.toUInt32 >>> ((2 : Int32) &&& 31).toUInt32).toInt32) &&& (3 : Int32)), rv b3, rv b11, rv b11, iv 0, .unset] [.int 0] _
          refine XS.istore X22.here hx rfl (hb hby at_138) rfl rfl ?_
          refine XS.iload X22.here hx rfl (hb hby at_140) rfl ?_
          show Sq p e below m T22 142 #[iv p1, iv p2, iv p3, iv p4, iv p5, iv e_, iv k_, iv (((p5.toUInt32 >>> ((2 : Int32) &&& 31).toUInt32).toInt32) &&& (3 : Int32)), rv b3, rv b11, rv b11, iv 0, iv 0] [.int 0] _
          refine XS.iload X22.here hx rfl (hb hby at_142) rfl ?_
          refine XS.icmpYes X22.here hx rfl (pc0 := 144) (pc' := 149) rfl (hb hby at_144) rfl (teq (rfl : (0 : Int32) = (0 : Int32))).1 (by decide) (by decide) ?_
          show Sq p e below m T22 149 #[iv p1, iv p2, iv p3, iv p4, iv p5, iv e_, iv k_, iv (((p5.toUInt32 >>> ((2 : Int32) &&& 31).toUInt32).toInt32) &&& (3 : Int32)), rv b3, rv b11, rv b11, iv 0, iv 0] [] _
          refine XS.iload X22.here hx rfl (hb hby at_149) rfl ?_
          refine XS.ifNo X22.here hx rfl (hb hby at_151) rfl ((if0 _ _).trans (teq hc62).2) ?_
          show Sq p e below m T22 154 #[iv p1, iv p2, iv p3, iv p4, iv p5, iv e_, iv k_, iv (((p5.toUInt32 >>> ((2 : Int32) &&& 31).toUInt32).toInt32) &&& (3 : Int32)), rv b3, rv b11, rv b11, iv 0, iv 0] [] _
          refine XS.aload X22.here hx rfl (hb hby at_154) rfl rfl ?_
          refine XS.aload X22.here hx rfl (hb hby at_156) rfl rfl ?_
          show Sq p e below m T22 158 #[iv p1, iv p2, iv p3, iv p4, iv p5, iv e_, iv k_, iv (((p5.toUInt32 >>> ((2 : Int32) &&& 31).toUInt32).toInt32) &&& (3 : Int32)), rv b3, rv b11, rv b11, iv 0, iv 0] [.ref b3, .ref b11] _
          refine st23.trans ?_
          show Sq p e below m T23 161 #[iv p1, iv p2, iv p3, iv p4, iv p5, iv e_, iv k_, iv (((p5.toUInt32 >>> ((2 : Int32) &&& 31).toUInt32).toInt32) &&& (3 : Int32)), rv b3, rv b11, rv b11, iv 0, iv 0] [.int 0] _
          refine XS.iload X23.here hx rfl (hb hby at_161) rfl ?_
          refine XS.icmpNo X23.here hx rfl (hb hby at_163) rfl (teq (rfl : (0 : Int32) = (0 : Int32))).2 ?_
          show Sq p e below m T23 166 #[iv p1, iv p2, iv p3, iv p4, iv p5, iv e_, iv k_, iv (((p5.toUInt32 >>> ((2 : Int32) &&& 31).toUInt32).toInt32) &&& (3 : Int32)), rv b3, rv b11, rv b11, iv 0, iv 0] [] _
          refine XS.iconst X23.here hx rfl (hb hby at_166) ?_
          refine XS.goto X23.here hx rfl (pc0 := 167) (pc' := 171) rfl (hb hby at_167) (by decide) (by decide) ?_
          show Sq p e below m T23 171 #[iv p1, iv p2, iv p3, iv p4, iv p5, iv e_, iv k_, iv (((p5.toUInt32 >>> ((2 : Int32) &&& 31).toUInt32).toInt32) &&& (3 : Int32)), rv b3, rv b11, rv b11, iv 0, iv 0] [.int 1] _
          exact retN X23 hx (t := .boolean) Bd.returns (by simp) (hb hby at_171) hr
        · show Q_rm0 Z p1 p2 p3 p4 p5 ca cc h0 n0 _ T23.heap _
          rw [e23]
          exact ⟨rfl, N23⟩
    · obtain ⟨cq21, kq21, q21a, q21b, q21c⟩ := isOf hZ e16 A3
      obtain ⟨_, _, ⟨T21, L21, k21, n21⟩, -, X21, ⟨Lc21, hQ21, l21, y21, z21⟩, st21⟩ := X16.virtualBack hx (y := y_4) (z := y_4) hown (mvT hZ (W 13 rfl)) (mvT hZ (W 14 rfl)) (notFace_of_selects (args := #[]) (mvT hZ (W 16 rfl))) (mvT hZ (W 16 rfl)) (mvT hZ (W 15 rfl)) (by decide) (backOf (W := 0) (eq0 l Z a0 hw [] b3 b11 p1 p2 e_ k_ h16 n0 O17 A11 p8_1 p8_2 p16_1 p16_2 hc72) hZ (W 17 rfl) (W 2 rfl) (by decide) (by decide)) q21a q21c (g := (mkF m 135 #[iv p1, iv p2, iv p3, iv p4, iv p5, iv e_, iv k_, iv (((p5.toUInt32 >>> ((2 : Int32) &&& 31).toUInt32).toInt32) &&& (3 : Int32)), rv b3, rv b11, rv b11, iv 0, .unset] [.ref b11, .ref b3])) rfl (by rw [hml]; rfl) (Steps.refl _) (argsL := [.ref b11]) (rest := []) (lenOf pd_3 rfl) rfl (by show 2 * 0 + _ ≤ _; exact Nat.le_of_eq rfl) (hb hby at_135) (fun _ _ => ⟨rfl, e16, (by decide : 2 + 0 ≤ _), (by decide : 4 + 0 ≤ _)⟩)
      dsimp only [Pt.U, Pt.locs, Pt.cells, Pt.slots] at X21 l21 y21 z21 st21 hQ21
      subst l21 y21 z21
      obtain ⟨h21, e21⟩ : ∃ z, T21.heap = z := ⟨_, rfl⟩
      rw [e21] at hQ21
      obtain ⟨rfl, N21q, p21_0⟩ := hQ21
      have N21 := Fr.app N16 N21q
      rw [p21_0] at e21
      obtain ⟨cq22, kq22, q22a, q22b, q22c⟩ := isOf hZ e21 A11
      obtain ⟨_, _, ⟨T22, L22, k22, n22⟩, -, X22, ⟨Lc22, hQ22, l22, y22, z22⟩, st22⟩ := X21.virtualBack hx (y := y_4) (z := y_4) hown (mvT hZ (W 13 rfl)) (mvT hZ (W 14 rfl)) (notFace_of_selects (args := #[]) (mvT hZ (W 16 rfl))) (mvT hZ (W 16 rfl)) (mvT hZ (W 15 rfl)) (by decide) (backOf (W := 0) (eq0 l Z a0 hw [] b11 b3 e_ k_ p1 p2 h16 n0 O17 A3 p16_1 p16_2 p8_1 p8_2 (fun q => hc72 q.symm)) hZ (W 17 rfl) (W 2 rfl) (by decide) (by decide)) q22a q22c (g := (mkF m 158 #[iv p1, iv p2, iv p3, iv p4, iv p5, iv e_, iv k_, iv (((p5.toUInt32 >>> ((2 : Int32) &&& 31).toUInt32).toInt32) &&& (3 : Int32)), rv b3, rv b11, rv b11, iv 0, iv 0] [.ref b3, .ref b11])) rfl (by rw [hml]; rfl) (Steps.refl _) (argsL := [.ref b3]) (rest := []) (lenOf pd_3 rfl) rfl (by show 2 * 0 + _ ≤ _; exact Nat.le_of_eq rfl) (hb hby at_158) (fun _ _ => ⟨rfl, e21, (by decide : 2 + 0 ≤ _), (by decide : 4 + 0 ≤ _)⟩)
      dsimp only [Pt.U, Pt.locs, Pt.cells, Pt.slots] at X22 l22 y22 z22 st22 hQ22
      subst l22 y22 z22
      obtain ⟨h22, e22⟩ : ∃ z, T22.heap = z := ⟨_, rfl⟩
      rw [e22] at hQ22
      obtain ⟨rfl, N22q, p22_0⟩ := hQ22
      have N22 := Fr.app N21 N22q
      rw [p22_0] at e22
      obtain ⟨fs, hr, hrun, hended, hW, hsame⟩ := X22.leave (v := some (.int (1 : Int32))) (fun h => by rw [Bd.returns] at h; cases h)
      refine ⟨_, _, pre20 _ ?_, hrun, hended, _, _, rfl, ?_, ⟨_, rfl⟩, hW, hsame.mono (by decide) (by decide)⟩
      · show Sq p e below m T16 72 #[iv p1, iv p2, iv p3, iv p4, iv p5, iv e_, iv k_, iv (((p5.toUInt32 >>> ((2 : Int32) &&& 31).toUInt32).toInt32) &&& (3 : Int32)), rv b3, rv b11, rv b11, .unset, .unset] [.int e_, .int p1] _
        refine XS.icmpYes X16.here hx rfl (pc0 := 72) (pc' := 85) rfl (hb hby at_72) rfl (feq hc72).2 (by decide) (by decide) ?_
        refine XS.iconst X16.here hx rfl (hb hby at_85) ?_
        show Sq p e below m T16 86 #[iv p1, iv p2, iv p3, iv p4, iv p5, iv e_, iv k_, iv (((p5.toUInt32 >>> ((2 : Int32) &&& 31).toUInt32).toInt32) &&& (3 : Int32)), rv b3, rv b11, rv b11, .unset, .unset] [.int 0] _
        refine XS.istore X16.here hx rfl (hb hby at_86) rfl rfl ?_
        refine XS.goto X16.here hx rfl (pc0 := 88) (pc' := 131) rfl (hb hby at_88) (by decide) (by decide) ?_
        show Sq p e below m T16 131 #[iv p1, iv p2, iv p3, iv p4, iv p5, iv e_, iv k_, iv (((p5.toUInt32 >>> ((2 : Int32) &&& 31).toUInt32).toInt32) &&& (3 : Int32)), rv b3, rv b11, rv b11, iv 0, .unset] [] _
        refine XS.aload X16.here hx rfl (hb hby at_131) rfl rfl ?_
        refine XS.aload X16.here hx rfl (hb hby at_133) rfl rfl ?_
        show Sq p e below m T16 135 #[iv p1, iv p2, iv p3, iv p4, iv p5, iv e_, iv k_, iv (((p5.toUInt32 >>> ((2 : Int32) &&& 31).toUInt32).toInt32) &&& (3 : Int32)), rv b3, rv b11, rv b11, iv 0, .unset] [.ref b11, .ref b3] _
        refine st21.trans ?_
        show Sq p e below m T21 138 #[iv p1, iv p2, iv p3, iv p4, iv p5, iv e_, iv k_, iv (((p5.toUInt32 >>> ((2 : Int32) &&& 31).toUInt32).toInt32) &&& (3 : Int32)), rv b3, rv b11, rv b11, iv 0, .unset] [.int 0] _
        refine XS.istore X21.here hx rfl (hb hby at_138) rfl rfl ?_
        refine XS.iload X21.here hx rfl (hb hby at_140) rfl ?_
        show Sq p e below m T21 142 #[iv p1, iv p2, iv p3, iv p4, iv p5, iv e_, iv k_, iv (((p5.toUInt32 >>> ((2 : Int32) &&& 31).toUInt32).toInt32) &&& (3 : Int32)), rv b3, rv b11, rv b11, iv 0, iv 0] [.int 0] _
        refine XS.iload X21.here hx rfl (hb hby at_142) rfl ?_
        refine XS.icmpYes X21.here hx rfl (pc0 := 144) (pc' := 149) rfl (hb hby at_144) rfl (teq (rfl : (0 : Int32) = (0 : Int32))).1 (by decide) (by decide) ?_
        show Sq p e below m T21 149 #[iv p1, iv p2, iv p3, iv p4, iv p5, iv e_, iv k_, iv (((p5.toUInt32 >>> ((2 : Int32) &&& 31).toUInt32).toInt32) &&& (3 : Int32)), rv b3, rv b11, rv b11, iv 0, iv 0] [] _
        refine XS.iload X21.here hx rfl (hb hby at_149) rfl ?_
        refine XS.ifNo X21.here hx rfl (hb hby at_151) rfl ((if0 _ _).trans (teq hc62).2) ?_
        show Sq p e below m T21 154 #[iv p1, iv p2, iv p3, iv p4, iv p5, iv e_, iv k_, iv (((p5.toUInt32 >>> ((2 : Int32) &&& 31).toUInt32).toInt32) &&& (3 : Int32)), rv b3, rv b11, rv b11, iv 0, iv 0] [] _
        refine XS.aload X21.here hx rfl (hb hby at_154) rfl rfl ?_
        refine XS.aload X21.here hx rfl (hb hby at_156) rfl rfl ?_
        show Sq p e below m T21 158 #[iv p1, iv p2, iv p3, iv p4, iv p5, iv e_, iv k_, iv (((p5.toUInt32 >>> ((2 : Int32) &&& 31).toUInt32).toInt32) &&& (3 : Int32)), rv b3, rv b11, rv b11, iv 0, iv 0] [.ref b3, .ref b11] _
        refine st22.trans ?_
        show Sq p e below m T22 161 #[iv p1, iv p2, iv p3, iv p4, iv p5, iv e_, iv k_, iv (((p5.toUInt32 >>> ((2 : Int32) &&& 31).toUInt32).toInt32) &&& (3 : Int32)), rv b3, rv b11, rv b11, iv 0, iv 0] [.int 0] _
        refine XS.iload X22.here hx rfl (hb hby at_161) rfl ?_
        refine XS.icmpNo X22.here hx rfl (hb hby at_163) rfl (teq (rfl : (0 : Int32) = (0 : Int32))).2 ?_
        show Sq p e below m T22 166 #[iv p1, iv p2, iv p3, iv p4, iv p5, iv e_, iv k_, iv (((p5.toUInt32 >>> ((2 : Int32) &&& 31).toUInt32).toInt32) &&& (3 : Int32)), rv b3, rv b11, rv b11, iv 0, iv 0] [] _
        refine XS.iconst X22.here hx rfl (hb hby at_166) ?_
        refine XS.goto X22.here hx rfl (pc0 := 167) (pc' := 171) rfl (hb hby at_167) (by decide) (by decide) ?_
        show Sq p e below m T22 171 #[iv p1, iv p2, iv p3, iv p4, iv p5, iv e_, iv k_, iv (((p5.toUInt32 >>> ((2 : Int32) &&& 31).toUInt32).toInt32) &&& (3 : Int32)), rv b3, rv b11, rv b11, iv 0, iv 0] [.int 1] _
        exact retN X22 hx (t := .boolean) Bd.returns (by simp) (hb hby at_171) hr
      · show Q_rm0 Z p1 p2 p3 p4 p5 ca cc h0 n0 _ T22.heap _
        rw [e22]
        exact ⟨rfl, N22⟩
  · have pre20 : ∀ t, Steps p.tables e below (T16.setTop (mkF m 94 #[iv p1, iv p2, iv p3, iv p4, iv p5, iv e_, iv k_, iv (((p5.toUInt32 >>> ((2 : Int32) &&& 31).toUInt32).toInt32) &&& (3 : Int32)), rv b3, rv b11, .unset, .unset, .unset] [.int 1, .int (((p5.toUInt32 >>> ((2 : Int32) &&& 31).toUInt32).toInt32) &&& (3 : Int32))])) t → Steps p.tables e below (s₁.setTop (entryFrame m #[(.int p1), (.int p2), (.int p3), (.int p4), (.int p5)] maxLocals)) t := by
      intro t kt
      refine pre19 _ ?_
      show Sq p e below m T16 62 #[iv p1, iv p2, iv p3, iv p4, iv p5, iv e_, iv k_, iv (((p5.toUInt32 >>> ((2 : Int32) &&& 31).toUInt32).toInt32) &&& (3 : Int32)), rv b3, rv b11, .unset, .unset, .unset] [.int (((p5.toUInt32 >>> ((2 : Int32) &&& 31).toUInt32).toInt32) &&& (3 : Int32))] _
      refine XS.ifYes X16.here hx rfl (pc0 := 62) (pc' := 91) rfl (hb hby at_62) rfl ((if0 _ _).trans (feq hc62).2) (by decide) (by decide) ?_
      refine XS.iload X16.here hx rfl (hb hby at_91) rfl ?_
      show Sq p e below m T16 93 #[iv p1, iv p2, iv p3, iv p4, iv p5, iv e_, iv k_, iv (((p5.toUInt32 >>> ((2 : Int32) &&& 31).toUInt32).toInt32) &&& (3 : Int32)), rv b3, rv b11, .unset, .unset, .unset] [.int (((p5.toUInt32 >>> ((2 : Int32) &&& 31).toUInt32).toInt32) &&& (3 : Int32))] _
      refine XS.iconst X16.here hx rfl (hb hby at_93) ?_
      exact kt
    by_cases hc94 : (((p5.toUInt32 >>> ((2 : Int32) &&& 31).toUInt32).toInt32) &&& (3 : Int32)) = (1 : Int32)
    · obtain ⟨cq21, kq21, q21a, q21b, q21c⟩ := isOf hZ e16 A3
      obtain ⟨_, _, ⟨T21, L21, k21, n21⟩, -, X21, ⟨Lc21, hQ21, l21, y21, z21⟩, st21⟩ := X16.virtualBack hx (y := y_4) (z := y_4) hown (mvT hZ (W 13 rfl)) (mvT hZ (W 14 rfl)) (notFace_of_selects (args := #[]) (mvT hZ (W 16 rfl))) (mvT hZ (W 16 rfl)) (mvT hZ (W 15 rfl)) (by decide) (backOf (W := 0) (eqn l Z a0 hw [] b3 h16 n0 O17 ) hZ (W 17 rfl) (W 2 rfl) (by decide) (by decide)) q21a q21c (g := (mkF m 135 #[iv p1, iv p2, iv p3, iv p4, iv p5, iv e_, iv k_, iv (((p5.toUInt32 >>> ((2 : Int32) &&& 31).toUInt32).toInt32) &&& (3 : Int32)), rv b3, rv b11, .val .null, iv 0, .unset] [.null, .ref b3])) rfl (by rw [hml]; rfl) (Steps.refl _) (argsL := [.null]) (rest := []) (lenOf pd_3 rfl) rfl (by show 2 * 0 + _ ≤ _; exact Nat.le_of_eq rfl) (hb hby at_135) (fun _ _ => ⟨rfl, e16, (by decide : 2 + 0 ≤ _), (by decide : 4 + 0 ≤ _)⟩)
      dsimp only [Pt.U, Pt.locs, Pt.cells, Pt.slots] at X21 l21 y21 z21 st21 hQ21
      subst l21 y21 z21
      obtain ⟨h21, e21⟩ : ∃ z, T21.heap = z := ⟨_, rfl⟩
      rw [e21] at hQ21
      obtain ⟨rfl, N21q, p21_0⟩ := hQ21
      have N21 := Fr.app N16 N21q
      rw [p21_0] at e21
      obtain ⟨fs, hr, hrun, hended, hW, hsame⟩ := X21.leave (v := some (.int (1 : Int32))) (fun h => by rw [Bd.returns] at h; cases h)
      refine ⟨_, _, pre20 _ ?_, hrun, hended, _, _, rfl, ?_, ⟨_, rfl⟩, hW, hsame.mono (by decide) (by decide)⟩
      · show Sq p e below m T16 94 #[iv p1, iv p2, iv p3, iv p4, iv p5, iv e_, iv k_, iv (((p5.toUInt32 >>> ((2 : Int32) &&& 31).toUInt32).toInt32) &&& (3 : Int32)), rv b3, rv b11, .unset, .unset, .unset] [.int 1, .int (((p5.toUInt32 >>> ((2 : Int32) &&& 31).toUInt32).toInt32) &&& (3 : Int32))] _
        refine XS.icmpNo X16.here hx rfl (hb hby at_94) rfl (teq hc94).2 ?_
        refine XS.aconstNull X16.here hx rfl (hb hby at_97) ?_
        show Sq p e below m T16 98 #[iv p1, iv p2, iv p3, iv p4, iv p5, iv e_, iv k_, iv (((p5.toUInt32 >>> ((2 : Int32) &&& 31).toUInt32).toInt32) &&& (3 : Int32)), rv b3, rv b11, .unset, .unset, .unset] [.null] _
        refine XS.astore X16.here hx rfl (hb hby at_98) rfl rfl rfl ?_
        refine XS.iconst X16.here hx rfl (hb hby at_100) ?_
        show Sq p e below m T16 101 #[iv p1, iv p2, iv p3, iv p4, iv p5, iv e_, iv k_, iv (((p5.toUInt32 >>> ((2 : Int32) &&& 31).toUInt32).toInt32) &&& (3 : Int32)), rv b3, rv b11, .val .null, .unset, .unset] [.int 0] _
        refine XS.istore X16.here hx rfl (hb hby at_101) rfl rfl ?_
        refine XS.goto X16.here hx rfl (pc0 := 103) (pc' := 131) rfl (hb hby at_103) (by decide) (by decide) ?_
        show Sq p e below m T16 131 #[iv p1, iv p2, iv p3, iv p4, iv p5, iv e_, iv k_, iv (((p5.toUInt32 >>> ((2 : Int32) &&& 31).toUInt32).toInt32) &&& (3 : Int32)), rv b3, rv b11, .val .null, iv 0, .unset] [] _
        refine XS.aload X16.here hx rfl (hb hby at_131) rfl rfl ?_
        refine XS.aload X16.here hx rfl (hb hby at_133) rfl rfl ?_
        show Sq p e below m T16 135 #[iv p1, iv p2, iv p3, iv p4, iv p5, iv e_, iv k_, iv (((p5.toUInt32 >>> ((2 : Int32) &&& 31).toUInt32).toInt32) &&& (3 : Int32)), rv b3, rv b11, .val .null, iv 0, .unset] [.null, .ref b3] _
        refine st21.trans ?_
        show Sq p e below m T21 138 #[iv p1, iv p2, iv p3, iv p4, iv p5, iv e_, iv k_, iv (((p5.toUInt32 >>> ((2 : Int32) &&& 31).toUInt32).toInt32) &&& (3 : Int32)), rv b3, rv b11, .val .null, iv 0, .unset] [.int 0] _
        refine XS.istore X21.here hx rfl (hb hby at_138) rfl rfl ?_
        refine XS.iload X21.here hx rfl (hb hby at_140) rfl ?_
        show Sq p e below m T21 142 #[iv p1, iv p2, iv p3, iv p4, iv p5, iv e_, iv k_, iv (((p5.toUInt32 >>> ((2 : Int32) &&& 31).toUInt32).toInt32) &&& (3 : Int32)), rv b3, rv b11, .val .null, iv 0, iv 0] [.int 0] _
        refine XS.iload X21.here hx rfl (hb hby at_142) rfl ?_
        refine XS.icmpYes X21.here hx rfl (pc0 := 144) (pc' := 149) rfl (hb hby at_144) rfl (teq (rfl : (0 : Int32) = (0 : Int32))).1 (by decide) (by decide) ?_
        show Sq p e below m T21 149 #[iv p1, iv p2, iv p3, iv p4, iv p5, iv e_, iv k_, iv (((p5.toUInt32 >>> ((2 : Int32) &&& 31).toUInt32).toInt32) &&& (3 : Int32)), rv b3, rv b11, .val .null, iv 0, iv 0] [] _
        refine XS.iload X21.here hx rfl (hb hby at_149) rfl ?_
        refine XS.ifYes X21.here hx rfl (pc0 := 151) (pc' := 172) rfl (hb hby at_151) rfl ((if0 _ _).trans (feq hc62).2) (by decide) (by decide) ?_
        show Sq p e below m T21 172 #[iv p1, iv p2, iv p3, iv p4, iv p5, iv e_, iv k_, iv (((p5.toUInt32 >>> ((2 : Int32) &&& 31).toUInt32).toInt32) &&& (3 : Int32)), rv b3, rv b11, .val .null, iv 0, iv 0] [] _
        refine XS.iconst X21.here hx rfl (hb hby at_172) ?_
        show Sq p e below m T21 173 #[iv p1, iv p2, iv p3, iv p4, iv p5, iv e_, iv k_, iv (((p5.toUInt32 >>> ((2 : Int32) &&& 31).toUInt32).toInt32) &&& (3 : Int32)), rv b3, rv b11, .val .null, iv 0, iv 0] [.int 1] _
        exact retN X21 hx (t := .boolean) Bd.returns (by simp) (hb hby at_173) hr
      · show Q_rm0 Z p1 p2 p3 p4 p5 ca cc h0 n0 _ T21.heap _
        rw [e21]
        exact ⟨rfl, N21⟩
    · have pre21 : ∀ t, Steps p.tables e below (T16.setTop (mkF m 109 #[iv p1, iv p2, iv p3, iv p4, iv p5, iv e_, iv k_, iv (((p5.toUInt32 >>> ((2 : Int32) &&& 31).toUInt32).toInt32) &&& (3 : Int32)), rv b3, rv b11, .unset, .unset, .unset] [.int 2, .int (((p5.toUInt32 >>> ((2 : Int32) &&& 31).toUInt32).toInt32) &&& (3 : Int32))])) t → Steps p.tables e below (s₁.setTop (entryFrame m #[(.int p1), (.int p2), (.int p3), (.int p4), (.int p5)] maxLocals)) t := by
        intro t kt
        refine pre20 _ ?_
        show Sq p e below m T16 94 #[iv p1, iv p2, iv p3, iv p4, iv p5, iv e_, iv k_, iv (((p5.toUInt32 >>> ((2 : Int32) &&& 31).toUInt32).toInt32) &&& (3 : Int32)), rv b3, rv b11, .unset, .unset, .unset] [.int 1, .int (((p5.toUInt32 >>> ((2 : Int32) &&& 31).toUInt32).toInt32) &&& (3 : Int32))] _
        refine XS.icmpYes X16.here hx rfl (pc0 := 94) (pc' := 106) rfl (hb hby at_94) rfl (feq hc94).2 (by decide) (by decide) ?_
        refine XS.iload X16.here hx rfl (hb hby at_106) rfl ?_
        show Sq p e below m T16 108 #[iv p1, iv p2, iv p3, iv p4, iv p5, iv e_, iv k_, iv (((p5.toUInt32 >>> ((2 : Int32) &&& 31).toUInt32).toInt32) &&& (3 : Int32)), rv b3, rv b11, .unset, .unset, .unset] [.int (((p5.toUInt32 >>> ((2 : Int32) &&& 31).toUInt32).toInt32) &&& (3 : Int32))] _
        refine XS.iconst X16.here hx rfl (hb hby at_108) ?_
        exact kt
      by_cases hc109 : (((p5.toUInt32 >>> ((2 : Int32) &&& 31).toUInt32).toInt32) &&& (3 : Int32)) = (2 : Int32)
      · obtain ⟨_, _, ⟨T22, L22, k22, n22⟩, -, X22, ⟨Lc22, hQ22, l22, y22, z22⟩, st22⟩ := Jvm.LawKit.callS X16 hx (y := y_3) hown (mvT hZ (W 20 rfl)) (mvT hZ (W 21 rfl)) (mvT hZ (W 22 rfl)) (mvT hZ (W 23 rfl)) (by decide) (backOf (W := 0) (vof l Z a0 hw [] p1 ca cc h16 n0 O17 Bx Shigh Scache) hZ (W 23 rfl) (W 22 rfl) (by decide) (by decide)) (g := (mkF m 113 #[iv p1, iv p2, iv p3, iv p4, iv p5, iv e_, iv k_, iv (((p5.toUInt32 >>> ((2 : Int32) &&& 31).toUInt32).toInt32) &&& (3 : Int32)), rv b3, rv b11, .unset, .unset, .unset] [.int p1])) rfl (by rw [hml]; rfl) (argsL := [.int p1]) (rest := []) (lenOf pd_4 rfl) rfl (by show 2 * 0 + _ ≤ _; exact Nat.le_of_eq rfl) (hb hby at_113) (fun _ _ => ⟨rfl, e16, (by decide : 2 + 1 ≤ _), (by decide : 4 + 1 ≤ _)⟩)
        dsimp only [Pt.U, Pt.locs, Pt.cells, Pt.slots] at X22 l22 y22 z22 st22 hQ22
        subst l22 y22 z22
        obtain ⟨h22, e22⟩ : ∃ z, T22.heap = z := ⟨_, rfl⟩
        rw [e22] at hQ22
        obtain ⟨b22b, rfl, N22q, p22_0, p22_1⟩ := hQ22
        have N22 := Fr.app N16 N22q
        have A3 := A3.keep p22_0
        have O23 := O17.keep p22_0 all0
        obtain ⟨cq25, kq25, q25a, q25b, q25c⟩ := isOf hZ e22 A3
        obtain ⟨_, _, ⟨T25, L25, k25, n25⟩, -, X25, ⟨Lc25, hQ25, l25, y25, z25⟩, st25⟩ := X22.virtualBack hx (y := y_4) (z := y_4) hown (mvT hZ (W 13 rfl)) (mvT hZ (W 14 rfl)) (notFace_of_selects (args := #[]) (mvT hZ (W 16 rfl))) (mvT hZ (W 16 rfl)) (mvT hZ (W 15 rfl)) (by decide) (backOf (W := 0) (eqi l Z a0 hw [] b3 b22b h22 n0 O23 p22_1) hZ (W 17 rfl) (W 2 rfl) (by decide) (by decide)) q25a q25c (g := (mkF m 135 #[iv p1, iv p2, iv p3, iv p4, iv p5, iv e_, iv k_, iv (((p5.toUInt32 >>> ((2 : Int32) &&& 31).toUInt32).toInt32) &&& (3 : Int32)), rv b3, rv b11, rv b22b, iv 0, .unset] [.ref b22b, .ref b3])) rfl (by rw [hml]; rfl) (Steps.refl _) (argsL := [.ref b22b]) (rest := []) (lenOf pd_3 rfl) rfl (by show 2 * 0 + _ ≤ _; exact Nat.le_of_eq rfl) (hb hby at_135) (fun _ _ => ⟨rfl, e22, (by decide : 3 + 0 ≤ _), (by decide : 5 + 0 ≤ _)⟩)
        dsimp only [Pt.U, Pt.locs, Pt.cells, Pt.slots] at X25 l25 y25 z25 st25 hQ25
        subst l25 y25 z25
        obtain ⟨h25, e25⟩ : ∃ z, T25.heap = z := ⟨_, rfl⟩
        rw [e25] at hQ25
        obtain ⟨rfl, N25q, p25_0⟩ := hQ25
        have N25 := Fr.app N22 N25q
        rw [p25_0] at e25
        obtain ⟨fs, hr, hrun, hended, hW, hsame⟩ := X25.leave (v := some (.int (1 : Int32))) (fun h => by rw [Bd.returns] at h; cases h)
        refine ⟨_, _, pre21 _ ?_, hrun, hended, _, _, rfl, ?_, ⟨_, rfl⟩, hW, hsame.mono (by decide) (by decide)⟩
        · show Sq p e below m T16 109 #[iv p1, iv p2, iv p3, iv p4, iv p5, iv e_, iv k_, iv (((p5.toUInt32 >>> ((2 : Int32) &&& 31).toUInt32).toInt32) &&& (3 : Int32)), rv b3, rv b11, .unset, .unset, .unset] [.int 2, .int (((p5.toUInt32 >>> ((2 : Int32) &&& 31).toUInt32).toInt32) &&& (3 : Int32))] _
          refine XS.icmpNo X16.here hx rfl (hb hby at_109) rfl (teq hc109).2 ?_
          refine XS.iloadN X16.here hx rfl (hb hby at_112) rfl ?_
          show Sq p e below m T16 113 #[iv p1, iv p2, iv p3, iv p4, iv p5, iv e_, iv k_, iv (((p5.toUInt32 >>> ((2 : Int32) &&& 31).toUInt32).toInt32) &&& (3 : Int32)), rv b3, rv b11, .unset, .unset, .unset] [.int p1] _
          refine st22 _ ?_
          show Sq p e below m T22 116 #[iv p1, iv p2, iv p3, iv p4, iv p5, iv e_, iv k_, iv (((p5.toUInt32 >>> ((2 : Int32) &&& 31).toUInt32).toInt32) &&& (3 : Int32)), rv b3, rv b11, .unset, .unset, .unset] [.ref b22b] _
          refine XS.astore X22.here hx rfl (hb hby at_116) rfl rfl rfl ?_
          refine XS.iconst X22.here hx rfl (hb hby at_118) ?_
          show Sq p e below m T22 119 #[iv p1, iv p2, iv p3, iv p4, iv p5, iv e_, iv k_, iv (((p5.toUInt32 >>> ((2 : Int32) &&& 31).toUInt32).toInt32) &&& (3 : Int32)), rv b3, rv b11, rv b22b, .unset, .unset] [.int 0] _
          refine XS.istore X22.here hx rfl (hb hby at_119) rfl rfl ?_
          refine XS.goto X22.here hx rfl (pc0 := 121) (pc' := 131) rfl (hb hby at_121) (by decide) (by decide) ?_
          show Sq p e below m T22 131 #[iv p1, iv p2, iv p3, iv p4, iv p5, iv e_, iv k_, iv (((p5.toUInt32 >>> ((2 : Int32) &&& 31).toUInt32).toInt32) &&& (3 : Int32)), rv b3, rv b11, rv b22b, iv 0, .unset] [] _
          refine XS.aload X22.here hx rfl (hb hby at_131) rfl rfl ?_
          refine XS.aload X22.here hx rfl (hb hby at_133) rfl rfl ?_
          show Sq p e below m T22 135 #[iv p1, iv p2, iv p3, iv p4, iv p5, iv e_, iv k_, iv (((p5.toUInt32 >>> ((2 : Int32) &&& 31).toUInt32).toInt32) &&& (3 : Int32)), rv b3, rv b11, rv b22b, iv 0, .unset] [.ref b22b, .ref b3] _
          refine st25.trans ?_
          show Sq p e below m T25 138 #[iv p1, iv p2, iv p3, iv p4, iv p5, iv e_, iv k_, iv (((p5.toUInt32 >>> ((2 : Int32) &&& 31).toUInt32).toInt32) &&& (3 : Int32)), rv b3, rv b11, rv b22b, iv 0, .unset] [.int 0] _
          refine XS.istore X25.here hx rfl (hb hby at_138) rfl rfl ?_
          refine XS.iload X25.here hx rfl (hb hby at_140) rfl ?_
          show Sq p e below m T25 142 #[iv p1, iv p2, iv p3, iv p4, iv p5, iv e_, iv k_, iv (((p5.toUInt32 >>> ((2 : Int32) &&& 31).toUInt32).toInt32) &&& (3 : Int32)), rv b3, rv b11, rv b22b, iv 0, iv 0] [.int 0] _
          refine XS.iload X25.here hx rfl (hb hby at_142) rfl ?_
          refine XS.icmpYes X25.here hx rfl (pc0 := 144) (pc' := 149) rfl (hb hby at_144) rfl (teq (rfl : (0 : Int32) = (0 : Int32))).1 (by decide) (by decide) ?_
          show Sq p e below m T25 149 #[iv p1, iv p2, iv p3, iv p4, iv p5, iv e_, iv k_, iv (((p5.toUInt32 >>> ((2 : Int32) &&& 31).toUInt32).toInt32) &&& (3 : Int32)), rv b3, rv b11, rv b22b, iv 0, iv 0] [] _
          refine XS.iload X25.here hx rfl (hb hby at_149) rfl ?_
          refine XS.ifYes X25.here hx rfl (pc0 := 151) (pc' := 172) rfl (hb hby at_151) rfl ((if0 _ _).trans (feq hc62).2) (by decide) (by decide) ?_
          show Sq p e below m T25 172 #[iv p1, iv p2, iv p3, iv p4, iv p5, iv e_, iv k_, iv (((p5.toUInt32 >>> ((2 : Int32) &&& 31).toUInt32).toInt32) &&& (3 : Int32)), rv b3, rv b11, rv b22b, iv 0, iv 0] [] _
          refine XS.iconst X25.here hx rfl (hb hby at_172) ?_
          show Sq p e below m T25 173 #[iv p1, iv p2, iv p3, iv p4, iv p5, iv e_, iv k_, iv (((p5.toUInt32 >>> ((2 : Int32) &&& 31).toUInt32).toInt32) &&& (3 : Int32)), rv b3, rv b11, rv b22b, iv 0, iv 0] [.int 1] _
          exact retN X25 hx (t := .boolean) Bd.returns (by simp) (hb hby at_173) hr
        · show Q_rm0 Z p1 p2 p3 p4 p5 ca cc h0 n0 _ T25.heap _
          rw [e25]
          exact ⟨rfl, N25⟩
      · obtain ⟨cq22, kq22, q22a, q22b, q22c⟩ := isOf hZ e16 A3
        obtain ⟨_, _, ⟨T22, L22, k22, n22⟩, -, X22, ⟨Lc22, hQ22, l22, y22, z22⟩, st22⟩ := X16.virtualBack hx (y := y_4) (z := y_4) hown (mvT hZ (W 13 rfl)) (mvT hZ (W 14 rfl)) (notFace_of_selects (args := #[]) (mvT hZ (W 16 rfl))) (mvT hZ (W 16 rfl)) (mvT hZ (W 15 rfl)) (by decide) (backOf (W := 0) (eqs l Z a0 hw [] b3 p1 p2 h16 n0 O17 A3 p8_1 p8_2) hZ (W 17 rfl) (W 2 rfl) (by decide) (by decide)) q22a q22c (g := (mkF m 135 #[iv p1, iv p2, iv p3, iv p4, iv p5, iv e_, iv k_, iv (((p5.toUInt32 >>> ((2 : Int32) &&& 31).toUInt32).toInt32) &&& (3 : Int32)), rv b3, rv b11, rv b3, iv 1, .unset] [.ref b3, .ref b3])) rfl (by rw [hml]; rfl) (Steps.refl _) (argsL := [.ref b3]) (rest := []) (lenOf pd_3 rfl) rfl (by show 2 * 0 + _ ≤ _; exact Nat.le_of_eq rfl) (hb hby at_135) (fun _ _ => ⟨rfl, e16, (by decide : 2 + 0 ≤ _), (by decide : 4 + 0 ≤ _)⟩)
        dsimp only [Pt.U, Pt.locs, Pt.cells, Pt.slots] at X22 l22 y22 z22 st22 hQ22
        subst l22 y22 z22
        obtain ⟨h22, e22⟩ : ∃ z, T22.heap = z := ⟨_, rfl⟩
        rw [e22] at hQ22
        obtain ⟨rfl, N22q, p22_0⟩ := hQ22
        have N22 := Fr.app N16 N22q
        rw [p22_0] at e22
        obtain ⟨fs, hr, hrun, hended, hW, hsame⟩ := X22.leave (v := some (.int (1 : Int32))) (fun h => by rw [Bd.returns] at h; cases h)
        refine ⟨_, _, pre21 _ ?_, hrun, hended, _, _, rfl, ?_, ⟨_, rfl⟩, hW, hsame.mono (by decide) (by decide)⟩
        · show Sq p e below m T16 109 #[iv p1, iv p2, iv p3, iv p4, iv p5, iv e_, iv k_, iv (((p5.toUInt32 >>> ((2 : Int32) &&& 31).toUInt32).toInt32) &&& (3 : Int32)), rv b3, rv b11, .unset, .unset, .unset] [.int 2, .int (((p5.toUInt32 >>> ((2 : Int32) &&& 31).toUInt32).toInt32) &&& (3 : Int32))] _
          refine XS.icmpYes X16.here hx rfl (pc0 := 109) (pc' := 124) rfl (hb hby at_109) rfl (feq hc109).2 (by decide) (by decide) ?_
          refine XS.aload X16.here hx rfl (hb hby at_124) rfl rfl ?_
          show Sq p e below m T16 126 #[iv p1, iv p2, iv p3, iv p4, iv p5, iv e_, iv k_, iv (((p5.toUInt32 >>> ((2 : Int32) &&& 31).toUInt32).toInt32) &&& (3 : Int32)), rv b3, rv b11, .unset, .unset, .unset] [.ref b3] _
          refine XS.astore X16.here hx rfl (hb hby at_126) rfl rfl rfl ?_
          refine XS.iconst X16.here hx rfl (hb hby at_128) ?_
          show Sq p e below m T16 129 #[iv p1, iv p2, iv p3, iv p4, iv p5, iv e_, iv k_, iv (((p5.toUInt32 >>> ((2 : Int32) &&& 31).toUInt32).toInt32) &&& (3 : Int32)), rv b3, rv b11, rv b3, .unset, .unset] [.int 1] _
          refine XS.istore X16.here hx rfl (hb hby at_129) rfl rfl ?_
          refine XS.aload X16.here hx rfl (hb hby at_131) rfl rfl ?_
          show Sq p e below m T16 133 #[iv p1, iv p2, iv p3, iv p4, iv p5, iv e_, iv k_, iv (((p5.toUInt32 >>> ((2 : Int32) &&& 31).toUInt32).toInt32) &&& (3 : Int32)), rv b3, rv b11, rv b3, iv 1, .unset] [.ref b3] _
          refine XS.aload X16.here hx rfl (hb hby at_133) rfl rfl ?_
          show Sq p e below m T16 135 #[iv p1, iv p2, iv p3, iv p4, iv p5, iv e_, iv k_, iv (((p5.toUInt32 >>> ((2 : Int32) &&& 31).toUInt32).toInt32) &&& (3 : Int32)), rv b3, rv b11, rv b3, iv 1, .unset] [.ref b3, .ref b3] _
          refine st22.trans ?_
          show Sq p e below m T22 138 #[iv p1, iv p2, iv p3, iv p4, iv p5, iv e_, iv k_, iv (((p5.toUInt32 >>> ((2 : Int32) &&& 31).toUInt32).toInt32) &&& (3 : Int32)), rv b3, rv b11, rv b3, iv 1, .unset] [.int 1] _
          refine XS.istore X22.here hx rfl (hb hby at_138) rfl rfl ?_
          refine XS.iload X22.here hx rfl (hb hby at_140) rfl ?_
          show Sq p e below m T22 142 #[iv p1, iv p2, iv p3, iv p4, iv p5, iv e_, iv k_, iv (((p5.toUInt32 >>> ((2 : Int32) &&& 31).toUInt32).toInt32) &&& (3 : Int32)), rv b3, rv b11, rv b3, iv 1, iv 1] [.int 1] _
          refine XS.iload X22.here hx rfl (hb hby at_142) rfl ?_
          refine XS.icmpYes X22.here hx rfl (pc0 := 144) (pc' := 149) rfl (hb hby at_144) rfl (teq (rfl : (1 : Int32) = (1 : Int32))).1 (by decide) (by decide) ?_
          show Sq p e below m T22 149 #[iv p1, iv p2, iv p3, iv p4, iv p5, iv e_, iv k_, iv (((p5.toUInt32 >>> ((2 : Int32) &&& 31).toUInt32).toInt32) &&& (3 : Int32)), rv b3, rv b11, rv b3, iv 1, iv 1] [] _
          refine XS.iload X22.here hx rfl (hb hby at_149) rfl ?_
          refine XS.ifYes X22.here hx rfl (pc0 := 151) (pc' := 172) rfl (hb hby at_151) rfl ((if0 _ _).trans (feq hc62).2) (by decide) (by decide) ?_
          show Sq p e below m T22 172 #[iv p1, iv p2, iv p3, iv p4, iv p5, iv e_, iv k_, iv (((p5.toUInt32 >>> ((2 : Int32) &&& 31).toUInt32).toInt32) &&& (3 : Int32)), rv b3, rv b11, rv b3, iv 1, iv 1] [] _
          refine XS.iconst X22.here hx rfl (hb hby at_172) ?_
          show Sq p e below m T22 173 #[iv p1, iv p2, iv p3, iv p4, iv p5, iv e_, iv k_, iv (((p5.toUInt32 >>> ((2 : Int32) &&& 31).toUInt32).toInt32) &&& (3 : Int32)), rv b3, rv b11, rv b3, iv 1, iv 1] [.int 1] _
          exact retN X22 hx (t := .boolean) Bd.returns (by simp) (hb hby at_173) hr
        · show Q_rm0 Z p1 p2 p3 p4 p5 ca cc h0 n0 _ T22.heap _
          rw [e22]
          exact ⟨rfl, N22⟩
set_option maxRecDepth 65536 in
set_option maxHeartbeats 40000000 in
theorem comes_1 {Post : Tables → Env → Array Value → State → Outcome → State → Prop} (hpost : ∀ tb e args s v u, (limb_1_1.after args s (.returned v) u = true ∧ limb_1_2.after args s (.returned v) u = true ∧ True) → FrameEnd s (.returned v) u (Jvm.fieldLocs frame_1_writes args s ++ Jvm.arrayLocs frame_1_arrays args s ++ Jvm.staticLocs frame_1_statics s) 16 128 → Post tb e args s (.returned v) u) :
    ArmFor flags0 classFile x code maxLocals ret World_1 tables_1 room_1 Calls_1 rest_1 Pre_1 Post := by
  intro l hfl _ _ p e ha hc hk s m args below hf hA hF happ hP
  obtain ⟨hcalls, hrest, hpre⟩ := hP
  obtain ⟨-, -, -, hnamed, -, -, -, hat⟩ := (Spec.applies_iff hf).mp happ
  obtain ⟨hg, hn⟩ := and_e (Cond.before_iff.mp (show (Jvm.Cond.and given_1 narrow_1).before args s = true from hpre))
  obtain ⟨gc, gr0⟩ := and_e hg
  obtain ⟨ga0, gr1⟩ := and_e gr0
  obtain ⟨ga1, gr2⟩ := and_e gr1
  obtain ⟨ga2, gr3⟩ := and_e gr2
  obtain ⟨ga3, gr4⟩ := and_e gr3
  obtain ⟨w0, w1, w2, w3, w4, rfl⟩ : ∃ w0 w1 w2 w3 w4 : Value, args = #[w0, w1, w2, w3, w4] := by
    have hs : args.size = 5 := by simpa [Cond.value, given_1] using gc
    obtain ⟨L⟩ := args
    match L, hs with
    | [w0, w1, w2, w3, w4], _ => exact ⟨w0, w1, w2, w3, w4, rfl⟩
  have hw := fun d (hd : d ∈ tables_1) => atoms_spec (ws := Jvm.Cond.code x code maxLocals ret :: tables_1) hat d (List.mem_cons_of_mem _ hd)
  have W := fun (i : Nat) {d : Jvm.Cond} (h : tables_1[i]? = some d) => hw d (List.mem_of_getElem? h)
  obtain ⟨hsets, hown0⟩ := atoms_of _ (rest_1_c_eq ▸ (show rest_1_c.before _ s = true from hrest))
  obtain ⟨i0, ei0⟩ := is_v ga0
  obtain rfl : w0 = (.int i0) := Option.some.inj ei0
  obtain ⟨i1, ei1⟩ := is_v ga1
  obtain rfl : w1 = (.int i1) := Option.some.inj ei1
  obtain ⟨i2, ei2⟩ := is_v ga2
  obtain rfl : w2 = (.int i2) := Option.some.inj ei2
  obtain ⟨i3, ei3⟩ := is_v ga3
  obtain rfl : w3 = (.int i3) := Option.some.inj ei3
  obtain ⟨i4, ei4⟩ := is_v gr4
  obtain rfl : w4 = (.int i4) := Option.some.inj ei4
  have evh := eqv_i (Term.int_eval (127 : Int32)) (Cond.before_iff.mp (hsets _ (List.mem_of_getElem? (i := 3) rfl)))
  have Shigh := Sta.start evh (Or.inl (hsets _ (List.mem_of_getElem? (i := 1) rfl)))
  obtain ⟨ca, evc⟩ := arr_v (Cond.before_iff.mp (hsets _ (List.mem_of_getElem? (i := 4) rfl)))
  have Scache := Sta.start evc (Or.inr ⟨(W 25 rfl), (hsets _ (List.mem_of_getElem? (i := 2) rfl))⟩)
  obtain ⟨cc, Ac⟩ := Arr.start evc (Cond.before_iff.mp (hsets _ (List.mem_of_getElem? (i := 4) rfl)))
  have Bx := own_bxs evc Ac (Cond.before_iff.mp (hsets _ (List.mem_of_getElem? (i := 6) rfl))) (Cond.before_iff.mp (hsets _ (List.mem_of_getElem? (i := 7) rfl)))
  obtain ⟨n, o, h1, h2, h3, _, L, rfl, ⟨rfl, N⟩, hq⟩ := rm0 l s _ hw tables_1 i0 i1 i2 i3 i4 ca cc s.heap s.heap.size (Old.start s) Bx Shigh Scache p e ha hc hk s m _ below hf ((Spec.applies_iff_loose hf).mp happ).1 ⟨rfl, State.Warmed39.refl s, rfl⟩ trivial
  refine ⟨n, _, h1, h2, h3, hpost _ _ _ _ _ _ ⟨Cond.after_iff.mpr rfl, Cond.after_iff.mpr (eq_i res_at (Term.int_eval (1)) rfl), trivial⟩ ⟨hq.1, hq.2.1, (hq.2.2.sift fun y hy => Or.inr (N y hy)).mono (by decide) (by decide)⟩⟩
theorem main_1_1 : Claimed_1_1 := comes_1 fun _ _ _ _ _ _ h hF => ⟨h.1, hF⟩
theorem main_1_2 : Claimed_1_2 := comes_1 fun _ _ _ _ _ _ h hF => ⟨h.2.1, hF⟩
end Jvm.Pilot.@@N@@
namespace Jvm.Pilot.@@N@@
open Jvm Jvm.ClassFile Sem Op Lib Jvm.Free Jvm.Stand Jvm.Pilot.@@N@@.Jvm.D
/-! MADE BY PROGRAM (witnessworld.py) out of the Statement's table words and the real class files: 16 classes; the members and pool entries that the words name. The judged class is class 1, her method 1. -/
namespace start1
open Jvm.ClassFile
def u (s : String) : CpInfo := .utf8 (stringToUtf16 s)
/-- a pool by its gaps: so many unusable entries, then the entry; so many at the end -/
def gap : Nat → List CpInfo → List CpInfo
  | 0, r => r
  | n + 1, r => .unusable :: gap n r
def poolList (es : List (Nat × CpInfo)) (last : Nat) : List CpInfo := es.foldr (fun e r => gap e.1 (e.2 :: r)) (gap last [])
def pool (es : List (Nat × CpInfo)) (last : Nat) : Array CpInfo := ⟨poolList es last⟩
def fileOf (pool : Array CpInfo) (this : Nat) (attrs : Array Attribute := #[]) (ms : Array MethodInfo := #[]) (fl : Nat := 33) (sup : Nat := 0) (ifs : Array Nat := #[]) (fds : Array FieldInfo := #[]) : ClassFile where
  minorVersion := 0
  majorVersion := 65
  constantPool := pool
  accessFlags := fl
  thisClass := this
  superClass := sup
  interfaces := ifs
  fields := fds
  methods := ms
  attributes := attrs
def plain (name : String) (sup : Option ClassId) : Class where
  name := name
  kind := .ordinary
  loader := none
  accessFlags := 33
  super := sup
  interfaces := #[]
  cf := none
  fields := #[]
  methods := #[]
  instanceTypes := #[]
  staticTypes := #[]
  resolved := #[]
  callSites := []
  init := .initialized
  statics := none
  mirror := none

def pool0 : Array CpInfo := pool [(5, u "<init>"), (0, u "()V"), (1, .class_ 10), (1, u "java/lang/Object")] 113

def k0c0 : Code := { maxStack := 0, maxLocals := 1, code := object_method_1_code, exceptionTable := #[], attributes := #[] }
def k0m0 : Method := { name := "<init>", desc := "()V", sig := { parameters := [], returnType := none }, accessFlags := 1, code := some k0c0 }
/-- java/lang/Object -/
def k0 : Class := { plain "java/lang/Object" none with
  accessFlags := 33
  interfaces := #[]
  cf := some (fileOf pool0 8 #[] #[{ accessFlags := 1, nameIndex := 5, descriptorIndex := 6, attributes := #[] }] 33 0 #[] #[])
  fields := #[]
  methods := #[k0m0]
  instanceTypes := #[]
  staticTypes := #[]
  resolved := Array.replicate 124 none
  statics := none }

def pool1 : Array CpInfo := pool [(2, .class_ 4), (1, u "java/lang/Object"), (0, u "<init>"), (0, u "()V"), (0, .class_ 8), (0, u "com/example/concordat/concordat/at/StatementSyntax$Bounds"), (0, .methodref 7 10), (0, .nameAndType 5 11), (0, u "(II)V"), (0, .methodref 13 14), (0, .class_ 15), (0, .nameAndType 16 17), (0, u "java/lang/Integer"), (0, u "valueOf"), (0, u "(I)Ljava/lang/Integer;"), (0, .methodref 7 19), (0, .nameAndType 20 21), (0, u "equals"), (0, u "(Ljava/lang/Object;)Z"), (0, .class_ 23), (0, u "com/example/concordat/concordat/at/BoundsEqualsPinLaw"), (2, u "law"), (0, u "(IIIII)Z")] 7

def k1m0 : Method := { name := "<init>", desc := "()V", sig := { parameters := [], returnType := none }, accessFlags := 1, code := none }
def k1c1 : Code := { maxStack := 4, maxLocals := 13, code := code, exceptionTable := #[], attributes := #[] }
def k1m1 : Method := { name := "law", desc := "(IIIII)Z", sig := { parameters := [.int, .int, .int, .int, .int], returnType := some .boolean }, accessFlags := 9, code := some k1c1 }
/-- com/example/concordat/concordat/at/BoundsEqualsPinLaw -/
def k1 : Class := { plain "com/example/concordat/concordat/at/BoundsEqualsPinLaw" (some 0) with
  accessFlags := 49
  interfaces := #[]
  cf := some (fileOf pool1 22 #[] #[{ accessFlags := 1, nameIndex := 5, descriptorIndex := 6, attributes := #[] }, { accessFlags := 9, nameIndex := 26, descriptorIndex := 27, attributes := #[] }] 49 2 #[] #[])
  fields := #[]
  methods := #[k1m0, k1m1]
  instanceTypes := #[]
  staticTypes := #[]
  resolved := Array.replicate 35 none
  statics := none }

def pool2 : Array CpInfo := pool [(1, .methodref 2 3), (0, .class_ 4), (0, .nameAndType 5 6), (0, u "java/lang/Object"), (0, u "<init>"), (0, u "()V"), (0, .fieldref 8 9), (0, .class_ 10), (0, .nameAndType 11 12), (0, u "com/example/concordat/concordat/at/StatementSyntax$Bounds"), (0, u "end"), (0, u "I"), (0, .fieldref 8 14), (0, .nameAndType 15 12), (0, u "keyword"), (0, u "(II)V"), (5, u "equals"), (0, u "(Ljava/lang/Object;)Z"), (5, .class_ 30), (0, u "com/example/concordat/concordat/at/StatementSyntax")] 2

def k2c0 : Code := { maxStack := 2, maxLocals := 3, code := prog_30_method_1_code, exceptionTable := #[], attributes := #[] }
def k2m0 : Method := { name := "<init>", desc := "(II)V", sig := { parameters := [.int, .int], returnType := none }, accessFlags := 0, code := some k2c0 }
def k2c1 : Code := { maxStack := 2, maxLocals := 2, code := prog_30_method_4_code, exceptionTable := #[], attributes := #[] }
def k2m1 : Method := { name := "equals", desc := "(Ljava/lang/Object;)Z", sig := { parameters := [(.object "java/lang/Object")], returnType := some .boolean }, accessFlags := 1, code := some k2c1 }
/-- com/example/concordat/concordat/at/StatementSyntax$Bounds -/
def k2 : Class := { plain "com/example/concordat/concordat/at/StatementSyntax$Bounds" (some 0) with
  accessFlags := 48
  interfaces := #[]
  cf := some (fileOf pool2 8 #[.nestHost 29] #[{ accessFlags := 0, nameIndex := 5, descriptorIndex := 16, attributes := #[] }, { accessFlags := 1, nameIndex := 22, descriptorIndex := 23, attributes := #[] }] 48 2 #[] #[{ accessFlags := 18, nameIndex := 11, descriptorIndex := 12, attributes := #[] }, { accessFlags := 18, nameIndex := 15, descriptorIndex := 12, attributes := #[] }])
  fields := #[{ name := "end", type := .int, accessFlags := 18, slot := 0, constantValue := 0 }, { name := "keyword", type := .int, accessFlags := 18, slot := 1, constantValue := 0 }]
  methods := #[k2m0, k2m1]
  instanceTypes := #[.int, .int]
  staticTypes := #[]
  resolved := Array.replicate 33 none
  statics := none }

def pool3 : Array CpInfo := pool [(1, .class_ 2), (0, u "java/io/Serializable"), (0, .class_ 4), (0, u "java/lang/Object")] 2

/-- java/io/Serializable -/
def k3 : Class := { plain "java/io/Serializable" (some 0) with
  accessFlags := 1537
  interfaces := #[]
  cf := some (fileOf pool3 1 #[] #[] 1537 3 #[] #[])
  fields := #[]
  methods := #[]
  instanceTypes := #[]
  staticTypes := #[]
  resolved := Array.replicate 7 none
  statics := none }

def pool4 : Array CpInfo := pool [(1, .methodref 2 3), (0, .class_ 4), (0, .nameAndType 5 6), (0, u "java/lang/Object"), (0, u "<init>"), (0, u "()V"), (1, .class_ 10), (1, u "java/lang/Number"), (2, .class_ 14), (0, u "java/io/Serializable"), (0, u "serialVersionUID"), (0, u "J")] 20

def k4c0 : Code := { maxStack := 1, maxLocals := 1, code := jdk_18_method_1_code, exceptionTable := #[], attributes := #[] }
def k4m0 : Method := { name := "<init>", desc := "()V", sig := { parameters := [], returnType := none }, accessFlags := 1, code := some k4c0 }
/-- java/lang/Number -/
def k4 : Class := { plain "java/lang/Number" (some 0) with
  accessFlags := 1057
  interfaces := #[3]
  cf := some (fileOf pool4 8 #[] #[{ accessFlags := 1, nameIndex := 5, descriptorIndex := 6, attributes := #[] }] 1057 2 #[13] #[{ accessFlags := 26, nameIndex := 15, descriptorIndex := 16, attributes := #[] }])
  fields := #[{ name := "serialVersionUID", type := .long, accessFlags := 26, slot := 0, constantValue := 0 }]
  methods := #[k4m0]
  instanceTypes := #[]
  staticTypes := #[.long]
  resolved := Array.replicate 37 none
  statics := none }

def pool5 : Array CpInfo := pool [(1, .class_ 2), (0, u "java/lang/Comparable"), (0, .class_ 4), (0, u "java/lang/Object")] 7

/-- java/lang/Comparable -/
def k5 : Class := { plain "java/lang/Comparable" (some 0) with
  accessFlags := 1537
  interfaces := #[]
  cf := some (fileOf pool5 1 #[] #[] 1537 3 #[] #[])
  fields := #[]
  methods := #[]
  instanceTypes := #[]
  staticTypes := #[]
  resolved := Array.replicate 12 none
  statics := none }

def pool6 : Array CpInfo := pool [(1, .class_ 2), (0, u "java/lang/constant/Constable"), (0, .class_ 4), (0, u "java/lang/Object")] 6

/-- java/lang/constant/Constable -/
def k6 : Class := { plain "java/lang/constant/Constable" (some 0) with
  accessFlags := 1537
  interfaces := #[]
  cf := some (fileOf pool6 1 #[] #[] 1537 3 #[] #[])
  fields := #[]
  methods := #[]
  instanceTypes := #[]
  staticTypes := #[]
  resolved := Array.replicate 11 none
  statics := none }

def pool7 : Array CpInfo := pool [(1, .class_ 2), (0, u "java/lang/constant/ConstantDesc"), (0, .class_ 4), (0, u "java/lang/Object")] 32

/-- java/lang/constant/ConstantDesc -/
def k7 : Class := { plain "java/lang/constant/ConstantDesc" (some 0) with
  accessFlags := 1537
  interfaces := #[]
  cf := some (fileOf pool7 1 #[] #[] 1537 3 #[] #[])
  fields := #[]
  methods := #[]
  instanceTypes := #[]
  staticTypes := #[]
  resolved := Array.replicate 37 none
  statics := none }

def pool8 : Array CpInfo := pool [(1, .class_ 2), (0, u "java/lang/Integer"), (16, u "digits"), (0, u "[C"), (46, u "<init>"), (17, u "DigitOnes"), (0, u "[B"), (2, u "DigitTens"), (10, .nameAndType 67 101), (0, u "()V"), (85, u "valueOf"), (0, u "(I)Ljava/lang/Integer;"), (0, .class_ 190), (0, u "java/lang/Integer$IntegerCache"), (0, .fieldref 189 192), (0, .nameAndType 193 194), (0, u "high"), (0, u "I"), (0, .fieldref 189 196), (0, .nameAndType 197 198), (0, u "cache"), (0, u "[Ljava/lang/Integer;"), (0, .methodref 1 200), (0, .nameAndType 67 201), (0, u "(I)V"), (0, .methodref 203 100), (0, .class_ 204), (0, u "java/lang/Number"), (0, .fieldref 1 206), (0, .nameAndType 207 194), (0, u "value"), (94, u "TYPE"), (0, u "Ljava/lang/Class;"), (0, .class_ 305), (0, u "java/lang/Comparable"), (0, .class_ 307), (0, u "java/lang/constant/Constable"), (0, .class_ 309), (0, u "java/lang/constant/ConstantDesc"), (0, u "MIN_VALUE"), (1, u "MAX_VALUE"), (3, u "SIZE"), (1, u "BYTES"), (1, u "serialVersionUID"), (0, u "J")] 131

def k8c0 : Code := { maxStack := 3, maxLocals := 1, code := jdk_33_method_22_code, exceptionTable := #[], attributes := #[] }
def k8m0 : Method := { name := "valueOf", desc := "(I)Ljava/lang/Integer;", sig := { parameters := [.int], returnType := some (.object "java/lang/Integer") }, accessFlags := 9, code := some k8c0 }
def k8c1 : Code := { maxStack := 2, maxLocals := 2, code := jdk_33_method_23_code, exceptionTable := #[], attributes := #[] }
def k8m1 : Method := { name := "<init>", desc := "(I)V", sig := { parameters := [.int], returnType := none }, accessFlags := 1, code := some k8c1 }
/-- java/lang/Integer -/
def k8 : Class := { plain "java/lang/Integer" (some 4) with
  accessFlags := 49
  interfaces := #[5, 6, 7]
  cf := some (fileOf pool8 1 #[.nestMembers #[189]] #[{ accessFlags := 9, nameIndex := 187, descriptorIndex := 188, attributes := #[] }, { accessFlags := 1, nameIndex := 67, descriptorIndex := 201, attributes := #[] }] 49 203 #[304, 306, 308] #[{ accessFlags := 25, nameIndex := 310, descriptorIndex := 194, attributes := #[] }, { accessFlags := 25, nameIndex := 312, descriptorIndex := 194, attributes := #[] }, { accessFlags := 25, nameIndex := 302, descriptorIndex := 303, attributes := #[] }, { accessFlags := 24, nameIndex := 19, descriptorIndex := 20, attributes := #[] }, { accessFlags := 24, nameIndex := 89, descriptorIndex := 86, attributes := #[] }, { accessFlags := 24, nameIndex := 85, descriptorIndex := 86, attributes := #[] }, { accessFlags := 18, nameIndex := 207, descriptorIndex := 194, attributes := #[] }, { accessFlags := 25, nameIndex := 316, descriptorIndex := 194, attributes := #[] }, { accessFlags := 25, nameIndex := 318, descriptorIndex := 194, attributes := #[] }, { accessFlags := 26, nameIndex := 320, descriptorIndex := 321, attributes := #[] }])
  fields := #[{ name := "MIN_VALUE", type := .int, accessFlags := 25, slot := 0, constantValue := 0 }, { name := "MAX_VALUE", type := .int, accessFlags := 25, slot := 1, constantValue := 0 }, { name := "TYPE", type := (.object "java/lang/Class"), accessFlags := 25, slot := 2, constantValue := 0 }, { name := "digits", type := (.array .char), accessFlags := 24, slot := 3, constantValue := 0 }, { name := "DigitTens", type := (.array .byte), accessFlags := 24, slot := 4, constantValue := 0 }, { name := "DigitOnes", type := (.array .byte), accessFlags := 24, slot := 5, constantValue := 0 }, { name := "value", type := .int, accessFlags := 18, slot := 0, constantValue := 0 }, { name := "SIZE", type := .int, accessFlags := 25, slot := 6, constantValue := 0 }, { name := "BYTES", type := .int, accessFlags := 25, slot := 7, constantValue := 0 }, { name := "serialVersionUID", type := .long, accessFlags := 26, slot := 8, constantValue := 0 }]
  methods := #[k8m0, k8m1]
  instanceTypes := #[.int]
  staticTypes := #[.int, .int, (.object "java/lang/Class"), (.array .char), (.array .byte), (.array .byte), .int, .int, .long]
  resolved := Array.replicate 453 none
  statics := none }

def pool9 : Array CpInfo := pool [(2, .class_ 4), (1, u "java/lang/Object"), (0, u "<init>"), (0, u "()V"), (0, .class_ 8), (0, u "java/lang/Integer"), (7, .class_ 18), (1, u "java/lang/Integer$IntegerCache"), (0, u "$assertionsDisabled"), (0, u "Z"), (26, u "high"), (0, u "I"), (8, u "archivedCache"), (0, u "[Ljava/lang/Integer;"), (12, u "cache"), (0, u "low")] 27

def k9m0 : Method := { name := "<init>", desc := "()V", sig := { parameters := [], returnType := none }, accessFlags := 2, code := none }
/-- java/lang/Integer$IntegerCache -/
def k9 : Class := { plain "java/lang/Integer$IntegerCache" (some 0) with
  accessFlags := 48
  interfaces := #[]
  cf := some (fileOf pool9 16 #[.nestHost 7] #[{ accessFlags := 2, nameIndex := 5, descriptorIndex := 6, attributes := #[] }] 48 2 #[] #[{ accessFlags := 24, nameIndex := 72, descriptorIndex := 48, attributes := #[] }, { accessFlags := 24, nameIndex := 47, descriptorIndex := 48, attributes := #[] }, { accessFlags := 24, nameIndex := 71, descriptorIndex := 58, attributes := #[] }, { accessFlags := 8, nameIndex := 57, descriptorIndex := 58, attributes := #[] }, { accessFlags := 4120, nameIndex := 19, descriptorIndex := 20, attributes := #[] }])
  fields := #[{ name := "low", type := .int, accessFlags := 24, slot := 0, constantValue := 0 }, { name := "high", type := .int, accessFlags := 24, slot := 1, constantValue := 0 }, { name := "cache", type := (.array (.object "java/lang/Integer")), accessFlags := 24, slot := 2, constantValue := 0 }, { name := "archivedCache", type := (.array (.object "java/lang/Integer")), accessFlags := 8, slot := 3, constantValue := 0 }, { name := "$assertionsDisabled", type := .boolean, accessFlags := 4120, slot := 4, constantValue := 0 }]
  methods := #[k9m0]
  instanceTypes := #[]
  staticTypes := #[.int, .int, (.array (.object "java/lang/Integer")), (.array (.object "java/lang/Integer")), .boolean]
  resolved := Array.replicate 100 none
  statics := some 0 }

def pool10 : Array CpInfo := pool [(1, u "java/lang/Cloneable"), (0, .class_ 1), (0, u "java/lang/Object"), (0, .class_ 3)] 3

/-- java/lang/Cloneable -/
def k10 : Class := { plain "java/lang/Cloneable" (some 0) with
  accessFlags := 1537
  interfaces := #[]
  cf := some (fileOf pool10 2 #[] #[] 1537 4 #[] #[])
  fields := #[]
  methods := #[]
  instanceTypes := #[]
  staticTypes := #[]
  resolved := Array.replicate 8 none
  statics := none }

/-- the primitive byte -/
def k11 : Class := { plain "byte" none with kind := .primitive 'B', accessFlags := 0x411 }
/-- [B -/
def k12 : Class := { plain "[B" (some 0) with kind := .array 11 .byte, interfaces := #[10, 3], accessFlags := 1041 }

/-- the primitive int -/
def k13 : Class := { plain "int" none with kind := .primitive 'I', accessFlags := 0x411 }
/-- [I -/
def k14 : Class := { plain "[I" (some 0) with kind := .array 13 .int, interfaces := #[10, 3], accessFlags := 1041 }

/-- [Ljava/lang/Integer; -/
def k15 : Class := { plain "[Ljava/lang/Integer;" (some 0) with kind := .array 8 (.object "java/lang/Integer"), interfaces := #[10, 3], accessFlags := 1041 }

def heap : Heap := #[{ cls := 9, slots := #[.int 0, .int 127, .ref 1, .null, .int 0], vm := .statics 9 },
  { cls := 15, slots := #[.ref 2, .ref 3, .ref 4, .ref 5, .ref 6, .ref 7, .ref 8, .ref 9, .ref 10, .ref 11, .ref 12, .ref 13, .ref 14, .ref 15, .ref 16, .ref 17, .ref 18, .ref 19, .ref 20, .ref 21, .ref 22, .ref 23, .ref 24, .ref 25, .ref 26, .ref 27, .ref 28, .ref 29, .ref 30, .ref 31, .ref 32, .ref 33, .ref 34, .ref 35, .ref 36, .ref 37, .ref 38, .ref 39, .ref 40, .ref 41, .ref 42, .ref 43, .ref 44, .ref 45, .ref 46, .ref 47, .ref 48, .ref 49, .ref 50, .ref 51, .ref 52, .ref 53, .ref 54, .ref 55, .ref 56, .ref 57, .ref 58, .ref 59, .ref 60, .ref 61, .ref 62, .ref 63, .ref 64, .ref 65, .ref 66, .ref 67, .ref 68, .ref 69, .ref 70, .ref 71, .ref 72, .ref 73, .ref 74, .ref 75, .ref 76, .ref 77, .ref 78, .ref 79, .ref 80, .ref 81, .ref 82, .ref 83, .ref 84, .ref 85, .ref 86, .ref 87, .ref 88, .ref 89, .ref 90, .ref 91, .ref 92, .ref 93, .ref 94, .ref 95, .ref 96, .ref 97, .ref 98, .ref 99, .ref 100, .ref 101, .ref 102, .ref 103, .ref 104, .ref 105, .ref 106, .ref 107, .ref 108, .ref 109, .ref 110, .ref 111, .ref 112, .ref 113, .ref 114, .ref 115, .ref 116, .ref 117, .ref 118, .ref 119, .ref 120, .ref 121, .ref 122, .ref 123, .ref 124, .ref 125, .ref 126, .ref 127, .ref 128, .ref 129, .ref 130, .ref 131, .ref 132, .ref 133, .ref 134, .ref 135, .ref 136, .ref 137, .ref 138, .ref 139, .ref 140, .ref 141, .ref 142, .ref 143, .ref 144, .ref 145, .ref 146, .ref 147, .ref 148, .ref 149, .ref 150, .ref 151, .ref 152, .ref 153, .ref 154, .ref 155, .ref 156, .ref 157, .ref 158, .ref 159, .ref 160, .ref 161, .ref 162, .ref 163, .ref 164, .ref 165, .ref 166, .ref 167, .ref 168, .ref 169, .ref 170, .ref 171, .ref 172, .ref 173, .ref 174, .ref 175, .ref 176, .ref 177, .ref 178, .ref 179, .ref 180, .ref 181, .ref 182, .ref 183, .ref 184, .ref 185, .ref 186, .ref 187, .ref 188, .ref 189, .ref 190, .ref 191, .ref 192, .ref 193, .ref 194, .ref 195, .ref 196, .ref 197, .ref 198, .ref 199, .ref 200, .ref 201, .ref 202, .ref 203, .ref 204, .ref 205, .ref 206, .ref 207, .ref 208, .ref 209, .ref 210, .ref 211, .ref 212, .ref 213, .ref 214, .ref 215, .ref 216, .ref 217, .ref 218, .ref 219, .ref 220, .ref 221, .ref 222, .ref 223, .ref 224, .ref 225, .ref 226, .ref 227, .ref 228, .ref 229, .ref 230, .ref 231, .ref 232, .ref 233, .ref 234, .ref 235, .ref 236, .ref 237, .ref 238, .ref 239, .ref 240, .ref 241, .ref 242, .ref 243, .ref 244, .ref 245, .ref 246, .ref 247, .ref 248, .ref 249, .ref 250, .ref 251, .ref 252, .ref 253, .ref 254, .ref 255, .ref 256, .ref 257], vm := .none },
  { cls := 8, slots := #[.int (-128)], vm := .none },
  { cls := 8, slots := #[.int (-127)], vm := .none },
  { cls := 8, slots := #[.int (-126)], vm := .none },
  { cls := 8, slots := #[.int (-125)], vm := .none },
  { cls := 8, slots := #[.int (-124)], vm := .none },
  { cls := 8, slots := #[.int (-123)], vm := .none },
  { cls := 8, slots := #[.int (-122)], vm := .none },
  { cls := 8, slots := #[.int (-121)], vm := .none },
  { cls := 8, slots := #[.int (-120)], vm := .none },
  { cls := 8, slots := #[.int (-119)], vm := .none },
  { cls := 8, slots := #[.int (-118)], vm := .none },
  { cls := 8, slots := #[.int (-117)], vm := .none },
  { cls := 8, slots := #[.int (-116)], vm := .none },
  { cls := 8, slots := #[.int (-115)], vm := .none },
  { cls := 8, slots := #[.int (-114)], vm := .none },
  { cls := 8, slots := #[.int (-113)], vm := .none },
  { cls := 8, slots := #[.int (-112)], vm := .none },
  { cls := 8, slots := #[.int (-111)], vm := .none },
  { cls := 8, slots := #[.int (-110)], vm := .none },
  { cls := 8, slots := #[.int (-109)], vm := .none },
  { cls := 8, slots := #[.int (-108)], vm := .none },
  { cls := 8, slots := #[.int (-107)], vm := .none },
  { cls := 8, slots := #[.int (-106)], vm := .none },
  { cls := 8, slots := #[.int (-105)], vm := .none },
  { cls := 8, slots := #[.int (-104)], vm := .none },
  { cls := 8, slots := #[.int (-103)], vm := .none },
  { cls := 8, slots := #[.int (-102)], vm := .none },
  { cls := 8, slots := #[.int (-101)], vm := .none },
  { cls := 8, slots := #[.int (-100)], vm := .none },
  { cls := 8, slots := #[.int (-99)], vm := .none },
  { cls := 8, slots := #[.int (-98)], vm := .none },
  { cls := 8, slots := #[.int (-97)], vm := .none },
  { cls := 8, slots := #[.int (-96)], vm := .none },
  { cls := 8, slots := #[.int (-95)], vm := .none },
  { cls := 8, slots := #[.int (-94)], vm := .none },
  { cls := 8, slots := #[.int (-93)], vm := .none },
  { cls := 8, slots := #[.int (-92)], vm := .none },
  { cls := 8, slots := #[.int (-91)], vm := .none },
  { cls := 8, slots := #[.int (-90)], vm := .none },
  { cls := 8, slots := #[.int (-89)], vm := .none },
  { cls := 8, slots := #[.int (-88)], vm := .none },
  { cls := 8, slots := #[.int (-87)], vm := .none },
  { cls := 8, slots := #[.int (-86)], vm := .none },
  { cls := 8, slots := #[.int (-85)], vm := .none },
  { cls := 8, slots := #[.int (-84)], vm := .none },
  { cls := 8, slots := #[.int (-83)], vm := .none },
  { cls := 8, slots := #[.int (-82)], vm := .none },
  { cls := 8, slots := #[.int (-81)], vm := .none },
  { cls := 8, slots := #[.int (-80)], vm := .none },
  { cls := 8, slots := #[.int (-79)], vm := .none },
  { cls := 8, slots := #[.int (-78)], vm := .none },
  { cls := 8, slots := #[.int (-77)], vm := .none },
  { cls := 8, slots := #[.int (-76)], vm := .none },
  { cls := 8, slots := #[.int (-75)], vm := .none },
  { cls := 8, slots := #[.int (-74)], vm := .none },
  { cls := 8, slots := #[.int (-73)], vm := .none },
  { cls := 8, slots := #[.int (-72)], vm := .none },
  { cls := 8, slots := #[.int (-71)], vm := .none },
  { cls := 8, slots := #[.int (-70)], vm := .none },
  { cls := 8, slots := #[.int (-69)], vm := .none },
  { cls := 8, slots := #[.int (-68)], vm := .none },
  { cls := 8, slots := #[.int (-67)], vm := .none },
  { cls := 8, slots := #[.int (-66)], vm := .none },
  { cls := 8, slots := #[.int (-65)], vm := .none },
  { cls := 8, slots := #[.int (-64)], vm := .none },
  { cls := 8, slots := #[.int (-63)], vm := .none },
  { cls := 8, slots := #[.int (-62)], vm := .none },
  { cls := 8, slots := #[.int (-61)], vm := .none },
  { cls := 8, slots := #[.int (-60)], vm := .none },
  { cls := 8, slots := #[.int (-59)], vm := .none },
  { cls := 8, slots := #[.int (-58)], vm := .none },
  { cls := 8, slots := #[.int (-57)], vm := .none },
  { cls := 8, slots := #[.int (-56)], vm := .none },
  { cls := 8, slots := #[.int (-55)], vm := .none },
  { cls := 8, slots := #[.int (-54)], vm := .none },
  { cls := 8, slots := #[.int (-53)], vm := .none },
  { cls := 8, slots := #[.int (-52)], vm := .none },
  { cls := 8, slots := #[.int (-51)], vm := .none },
  { cls := 8, slots := #[.int (-50)], vm := .none },
  { cls := 8, slots := #[.int (-49)], vm := .none },
  { cls := 8, slots := #[.int (-48)], vm := .none },
  { cls := 8, slots := #[.int (-47)], vm := .none },
  { cls := 8, slots := #[.int (-46)], vm := .none },
  { cls := 8, slots := #[.int (-45)], vm := .none },
  { cls := 8, slots := #[.int (-44)], vm := .none },
  { cls := 8, slots := #[.int (-43)], vm := .none },
  { cls := 8, slots := #[.int (-42)], vm := .none },
  { cls := 8, slots := #[.int (-41)], vm := .none },
  { cls := 8, slots := #[.int (-40)], vm := .none },
  { cls := 8, slots := #[.int (-39)], vm := .none },
  { cls := 8, slots := #[.int (-38)], vm := .none },
  { cls := 8, slots := #[.int (-37)], vm := .none },
  { cls := 8, slots := #[.int (-36)], vm := .none },
  { cls := 8, slots := #[.int (-35)], vm := .none },
  { cls := 8, slots := #[.int (-34)], vm := .none },
  { cls := 8, slots := #[.int (-33)], vm := .none },
  { cls := 8, slots := #[.int (-32)], vm := .none },
  { cls := 8, slots := #[.int (-31)], vm := .none },
  { cls := 8, slots := #[.int (-30)], vm := .none },
  { cls := 8, slots := #[.int (-29)], vm := .none },
  { cls := 8, slots := #[.int (-28)], vm := .none },
  { cls := 8, slots := #[.int (-27)], vm := .none },
  { cls := 8, slots := #[.int (-26)], vm := .none },
  { cls := 8, slots := #[.int (-25)], vm := .none },
  { cls := 8, slots := #[.int (-24)], vm := .none },
  { cls := 8, slots := #[.int (-23)], vm := .none },
  { cls := 8, slots := #[.int (-22)], vm := .none },
  { cls := 8, slots := #[.int (-21)], vm := .none },
  { cls := 8, slots := #[.int (-20)], vm := .none },
  { cls := 8, slots := #[.int (-19)], vm := .none },
  { cls := 8, slots := #[.int (-18)], vm := .none },
  { cls := 8, slots := #[.int (-17)], vm := .none },
  { cls := 8, slots := #[.int (-16)], vm := .none },
  { cls := 8, slots := #[.int (-15)], vm := .none },
  { cls := 8, slots := #[.int (-14)], vm := .none },
  { cls := 8, slots := #[.int (-13)], vm := .none },
  { cls := 8, slots := #[.int (-12)], vm := .none },
  { cls := 8, slots := #[.int (-11)], vm := .none },
  { cls := 8, slots := #[.int (-10)], vm := .none },
  { cls := 8, slots := #[.int (-9)], vm := .none },
  { cls := 8, slots := #[.int (-8)], vm := .none },
  { cls := 8, slots := #[.int (-7)], vm := .none },
  { cls := 8, slots := #[.int (-6)], vm := .none },
  { cls := 8, slots := #[.int (-5)], vm := .none },
  { cls := 8, slots := #[.int (-4)], vm := .none },
  { cls := 8, slots := #[.int (-3)], vm := .none },
  { cls := 8, slots := #[.int (-2)], vm := .none },
  { cls := 8, slots := #[.int (-1)], vm := .none },
  { cls := 8, slots := #[.int 0], vm := .none },
  { cls := 8, slots := #[.int 1], vm := .none },
  { cls := 8, slots := #[.int 2], vm := .none },
  { cls := 8, slots := #[.int 3], vm := .none },
  { cls := 8, slots := #[.int 4], vm := .none },
  { cls := 8, slots := #[.int 5], vm := .none },
  { cls := 8, slots := #[.int 6], vm := .none },
  { cls := 8, slots := #[.int 7], vm := .none },
  { cls := 8, slots := #[.int 8], vm := .none },
  { cls := 8, slots := #[.int 9], vm := .none },
  { cls := 8, slots := #[.int 10], vm := .none },
  { cls := 8, slots := #[.int 11], vm := .none },
  { cls := 8, slots := #[.int 12], vm := .none },
  { cls := 8, slots := #[.int 13], vm := .none },
  { cls := 8, slots := #[.int 14], vm := .none },
  { cls := 8, slots := #[.int 15], vm := .none },
  { cls := 8, slots := #[.int 16], vm := .none },
  { cls := 8, slots := #[.int 17], vm := .none },
  { cls := 8, slots := #[.int 18], vm := .none },
  { cls := 8, slots := #[.int 19], vm := .none },
  { cls := 8, slots := #[.int 20], vm := .none },
  { cls := 8, slots := #[.int 21], vm := .none },
  { cls := 8, slots := #[.int 22], vm := .none },
  { cls := 8, slots := #[.int 23], vm := .none },
  { cls := 8, slots := #[.int 24], vm := .none },
  { cls := 8, slots := #[.int 25], vm := .none },
  { cls := 8, slots := #[.int 26], vm := .none },
  { cls := 8, slots := #[.int 27], vm := .none },
  { cls := 8, slots := #[.int 28], vm := .none },
  { cls := 8, slots := #[.int 29], vm := .none },
  { cls := 8, slots := #[.int 30], vm := .none },
  { cls := 8, slots := #[.int 31], vm := .none },
  { cls := 8, slots := #[.int 32], vm := .none },
  { cls := 8, slots := #[.int 33], vm := .none },
  { cls := 8, slots := #[.int 34], vm := .none },
  { cls := 8, slots := #[.int 35], vm := .none },
  { cls := 8, slots := #[.int 36], vm := .none },
  { cls := 8, slots := #[.int 37], vm := .none },
  { cls := 8, slots := #[.int 38], vm := .none },
  { cls := 8, slots := #[.int 39], vm := .none },
  { cls := 8, slots := #[.int 40], vm := .none },
  { cls := 8, slots := #[.int 41], vm := .none },
  { cls := 8, slots := #[.int 42], vm := .none },
  { cls := 8, slots := #[.int 43], vm := .none },
  { cls := 8, slots := #[.int 44], vm := .none },
  { cls := 8, slots := #[.int 45], vm := .none },
  { cls := 8, slots := #[.int 46], vm := .none },
  { cls := 8, slots := #[.int 47], vm := .none },
  { cls := 8, slots := #[.int 48], vm := .none },
  { cls := 8, slots := #[.int 49], vm := .none },
  { cls := 8, slots := #[.int 50], vm := .none },
  { cls := 8, slots := #[.int 51], vm := .none },
  { cls := 8, slots := #[.int 52], vm := .none },
  { cls := 8, slots := #[.int 53], vm := .none },
  { cls := 8, slots := #[.int 54], vm := .none },
  { cls := 8, slots := #[.int 55], vm := .none },
  { cls := 8, slots := #[.int 56], vm := .none },
  { cls := 8, slots := #[.int 57], vm := .none },
  { cls := 8, slots := #[.int 58], vm := .none },
  { cls := 8, slots := #[.int 59], vm := .none },
  { cls := 8, slots := #[.int 60], vm := .none },
  { cls := 8, slots := #[.int 61], vm := .none },
  { cls := 8, slots := #[.int 62], vm := .none },
  { cls := 8, slots := #[.int 63], vm := .none },
  { cls := 8, slots := #[.int 64], vm := .none },
  { cls := 8, slots := #[.int 65], vm := .none },
  { cls := 8, slots := #[.int 66], vm := .none },
  { cls := 8, slots := #[.int 67], vm := .none },
  { cls := 8, slots := #[.int 68], vm := .none },
  { cls := 8, slots := #[.int 69], vm := .none },
  { cls := 8, slots := #[.int 70], vm := .none },
  { cls := 8, slots := #[.int 71], vm := .none },
  { cls := 8, slots := #[.int 72], vm := .none },
  { cls := 8, slots := #[.int 73], vm := .none },
  { cls := 8, slots := #[.int 74], vm := .none },
  { cls := 8, slots := #[.int 75], vm := .none },
  { cls := 8, slots := #[.int 76], vm := .none },
  { cls := 8, slots := #[.int 77], vm := .none },
  { cls := 8, slots := #[.int 78], vm := .none },
  { cls := 8, slots := #[.int 79], vm := .none },
  { cls := 8, slots := #[.int 80], vm := .none },
  { cls := 8, slots := #[.int 81], vm := .none },
  { cls := 8, slots := #[.int 82], vm := .none },
  { cls := 8, slots := #[.int 83], vm := .none },
  { cls := 8, slots := #[.int 84], vm := .none },
  { cls := 8, slots := #[.int 85], vm := .none },
  { cls := 8, slots := #[.int 86], vm := .none },
  { cls := 8, slots := #[.int 87], vm := .none },
  { cls := 8, slots := #[.int 88], vm := .none },
  { cls := 8, slots := #[.int 89], vm := .none },
  { cls := 8, slots := #[.int 90], vm := .none },
  { cls := 8, slots := #[.int 91], vm := .none },
  { cls := 8, slots := #[.int 92], vm := .none },
  { cls := 8, slots := #[.int 93], vm := .none },
  { cls := 8, slots := #[.int 94], vm := .none },
  { cls := 8, slots := #[.int 95], vm := .none },
  { cls := 8, slots := #[.int 96], vm := .none },
  { cls := 8, slots := #[.int 97], vm := .none },
  { cls := 8, slots := #[.int 98], vm := .none },
  { cls := 8, slots := #[.int 99], vm := .none },
  { cls := 8, slots := #[.int 100], vm := .none },
  { cls := 8, slots := #[.int 101], vm := .none },
  { cls := 8, slots := #[.int 102], vm := .none },
  { cls := 8, slots := #[.int 103], vm := .none },
  { cls := 8, slots := #[.int 104], vm := .none },
  { cls := 8, slots := #[.int 105], vm := .none },
  { cls := 8, slots := #[.int 106], vm := .none },
  { cls := 8, slots := #[.int 107], vm := .none },
  { cls := 8, slots := #[.int 108], vm := .none },
  { cls := 8, slots := #[.int 109], vm := .none },
  { cls := 8, slots := #[.int 110], vm := .none },
  { cls := 8, slots := #[.int 111], vm := .none },
  { cls := 8, slots := #[.int 112], vm := .none },
  { cls := 8, slots := #[.int 113], vm := .none },
  { cls := 8, slots := #[.int 114], vm := .none },
  { cls := 8, slots := #[.int 115], vm := .none },
  { cls := 8, slots := #[.int 116], vm := .none },
  { cls := 8, slots := #[.int 117], vm := .none },
  { cls := 8, slots := #[.int 118], vm := .none },
  { cls := 8, slots := #[.int 119], vm := .none },
  { cls := 8, slots := #[.int 120], vm := .none },
  { cls := 8, slots := #[.int 121], vm := .none },
  { cls := 8, slots := #[.int 122], vm := .none },
  { cls := 8, slots := #[.int 123], vm := .none },
  { cls := 8, slots := #[.int 124], vm := .none },
  { cls := 8, slots := #[.int 125], vm := .none },
  { cls := 8, slots := #[.int 126], vm := .none },
  { cls := 8, slots := #[.int 127], vm := .none }]
def classes : Array Class := #[k0, k1, k2, k3, k4, k5, k6, k7, k8, k9, k10, k11, k12, k13, k14, k15]
def interned : List (Array UInt16 × Addr) := []
def slotsUsed : Nat := 517
def theMethod : MethodId := ⟨1, 1⟩
def args0 : Array Value := #[.int 5, .int 3, .int 5, .int 3, .int 0]
def aboutOver (below : List Frame) : State where
  vm := { classes := classes, interned := interned.toArray }
  heap := heap
  slotsUsed := slotsUsed
  threads := #[{ frames := .invoking theMethod args0 :: below }]
def below0 : List Frame := [.native { method := ⟨0, 0⟩, args := #[] }]
def about1 : State := aboutOver below0
def p0 : Program := .bare "" "" ""
def e0 : Env := launch0.env 0 0 0
theorem w_frames : about1.frames = Frame.invoking theMethod args0 :: below0 := rfl
set_option maxRecDepth 65536 in
theorem w_args : argsFit about1.vm theMethod args0 = true := by decide +kernel
set_option maxRecDepth 65536 in
theorem w_heap : heapFits about1 = true := by decide +kernel
set_option maxRecDepth 65536 in
theorem w_runnable : about1.curStatus? = some .runnable := by decide +kernel
set_option maxRecDepth 65536 in
theorem w_alone : about1.alone = true := by decide +kernel
set_option maxRecDepth 65536 in
theorem w_named : about1.methodNamed? x = some theMethod := by decide +kernel
set_option maxRecDepth 65536 in
theorem w_hears : about1.hears theMethod below0 = true := by decide +kernel
set_option maxRecDepth 65536 in
theorem w_ripe : about1.ripe theMethod args0 below0 = true := by decide +kernel
theorem w_running : about1.status = .running := rfl
set_option maxRecDepth 65536 in
theorem w_room : about1.hasRoom e0.platform room_1 = true :=
  launch0.hasRoom_least _ room_1 (by decide +kernel) (by decide +kernel) (by decide +kernel) (by decide +kernel) (by decide +kernel) (by decide +kernel)
theorem allAtoms_all (ts : List Jvm.Cond) (a : Array Jvm.Value) (st : Jvm.State) : (allAtoms ts).before a st = ts.all (fun c => c.before a st) := by
  induction ts with
  | nil => rfl
  | cons c t ih =>
    show (Jvm.Cond.and c (allAtoms t)).before a st = _
    rw [Jvm.Cond.before_and, ih, List.all_cons]
def words1 : List Jvm.Cond := Jvm.Cond.code x code maxLocals ret :: tables_1
/-- a 'code' word, met by the world's own term for the bytes: nothing is compared byte by byte -/
theorem code_word {y : MethodName} {bytes : ByteArray} {mx : Nat} {rt : Option FieldType} {a : Array Value} {s : State} {m : MethodId} {meth : Method} {c : Code} (h1 : s.methodNamed? y = some m) (h2 : s.vm.method? m = some meth) (h3 : meth.code = some c) (h4 : c.code = bytes)
    (h5 : (c.maxLocals == mx && c.exceptionTable.isEmpty && decide (c.maxStack ≤ mostOperands) && decide (meth.sig.returnType = rt) && !meth.locks && decide (parseMethodDescriptor y.desc = some meth.sig)) = true) : (Jvm.Cond.code y bytes mx rt).before a s = true := by
  simp only [Bool.and_eq_true, beq_iff_eq, Bool.not_eq_true', decide_eq_true_eq] at h5
  obtain ⟨⟨⟨⟨⟨g1, g2⟩, g3⟩, g4⟩, g5⟩, g6⟩ := h5
  simp [Cond.before, Cond.holds, Cond.value, h1, h2, h3, h4, g1, g2, g3, g4, g5, g6]
def isCode : Jvm.Cond → Bool
  | .code _ _ _ _ => true
  | _ => false
theorem all_split {L : List Jvm.Cond} {P : Jvm.Cond → Bool} (h1 : L.all (fun c => isCode c || P c) = true) (h2 : ∀ c ∈ L.filter isCode, P c = true) : L.all P = true := by
  refine List.all_eq_true.mpr fun c hc => ?_
  have h := List.all_eq_true.mp h1 c hc
  rcases Bool.eq_false_or_eq_true (isCode c) with hi | hi
  · exact h2 c (List.mem_filter.mpr ⟨hc, hi⟩)
  · simpa [hi] using h
set_option maxRecDepth 65536 in
theorem w_c0 : (Jvm.Cond.code x code maxLocals ret).before args0 about1 = true := code_word (m := ⟨1, 1⟩) (meth := k1m1) (c := k1c1) (by decide +kernel) rfl rfl rfl (by decide +kernel)
set_option maxRecDepth 65536 in
theorem w_c1 : (Jvm.Cond.code ({ cls := "com/example/concordat/concordat/at/StatementSyntax$Bounds", name := "<init>", desc := "(II)V" } : Jvm.MethodName) prog_30_method_1_code (3 : Nat) (Option.none : Option Jvm.ClassFile.FieldType)).before args0 about1 = true := code_word (m := ⟨2, 0⟩) (meth := k2m0) (c := k2c0) (by decide +kernel) rfl rfl rfl (by decide +kernel)
set_option maxRecDepth 65536 in
theorem w_c2 : (Jvm.Cond.code ({ cls := "java/lang/Object", name := "<init>", desc := "()V" } : Jvm.MethodName) object_method_1_code (1 : Nat) (Option.none : Option Jvm.ClassFile.FieldType)).before args0 about1 = true := code_word (m := ⟨0, 0⟩) (meth := k0m0) (c := k0c0) (by decide +kernel) rfl rfl rfl (by decide +kernel)
set_option maxRecDepth 65536 in
theorem w_c3 : (Jvm.Cond.code ({ cls := "com/example/concordat/concordat/at/StatementSyntax$Bounds", name := "equals", desc := "(Ljava/lang/Object;)Z" } : Jvm.MethodName) prog_30_method_4_code (2 : Nat) (Option.some Jvm.ClassFile.FieldType.boolean)).before args0 about1 = true := code_word (m := ⟨2, 1⟩) (meth := k2m1) (c := k2c1) (by decide +kernel) rfl rfl rfl (by decide +kernel)
set_option maxRecDepth 65536 in
theorem w_c4 : (Jvm.Cond.code ({ cls := "java/lang/Integer", name := "valueOf", desc := "(I)Ljava/lang/Integer;" } : Jvm.MethodName) jdk_33_method_22_code (1 : Nat) (Option.some (Jvm.ClassFile.FieldType.object "java/lang/Integer"))).before args0 about1 = true := code_word (m := ⟨8, 0⟩) (meth := k8m0) (c := k8c0) (by decide +kernel) rfl rfl rfl (by decide +kernel)
set_option maxRecDepth 65536 in
theorem w_c5 : (Jvm.Cond.code ({ cls := "java/lang/Integer", name := "<init>", desc := "(I)V" } : Jvm.MethodName) jdk_33_method_23_code (2 : Nat) (Option.none : Option Jvm.ClassFile.FieldType)).before args0 about1 = true := code_word (m := ⟨8, 1⟩) (meth := k8m1) (c := k8c1) (by decide +kernel) rfl rfl rfl (by decide +kernel)
set_option maxRecDepth 65536 in
theorem w_c6 : (Jvm.Cond.code ({ cls := "java/lang/Number", name := "<init>", desc := "()V" } : Jvm.MethodName) jdk_18_method_1_code (1 : Nat) (Option.none : Option Jvm.ClassFile.FieldType)).before args0 about1 = true := code_word (m := ⟨4, 0⟩) (meth := k4m0) (c := k4c0) (by decide +kernel) rfl rfl rfl (by decide +kernel)
def codes1 : List Jvm.Cond := [Jvm.Cond.code x code maxLocals ret, Jvm.Cond.code ({ cls := "com/example/concordat/concordat/at/StatementSyntax$Bounds", name := "<init>", desc := "(II)V" } : Jvm.MethodName) prog_30_method_1_code (3 : Nat) (Option.none : Option Jvm.ClassFile.FieldType), Jvm.Cond.code ({ cls := "java/lang/Object", name := "<init>", desc := "()V" } : Jvm.MethodName) object_method_1_code (1 : Nat) (Option.none : Option Jvm.ClassFile.FieldType), Jvm.Cond.code ({ cls := "com/example/concordat/concordat/at/StatementSyntax$Bounds", name := "equals", desc := "(Ljava/lang/Object;)Z" } : Jvm.MethodName) prog_30_method_4_code (2 : Nat) (Option.some Jvm.ClassFile.FieldType.boolean), Jvm.Cond.code ({ cls := "java/lang/Integer", name := "valueOf", desc := "(I)Ljava/lang/Integer;" } : Jvm.MethodName) jdk_33_method_22_code (1 : Nat) (Option.some (Jvm.ClassFile.FieldType.object "java/lang/Integer")), Jvm.Cond.code ({ cls := "java/lang/Integer", name := "<init>", desc := "(I)V" } : Jvm.MethodName) jdk_33_method_23_code (2 : Nat) (Option.none : Option Jvm.ClassFile.FieldType), Jvm.Cond.code ({ cls := "java/lang/Number", name := "<init>", desc := "()V" } : Jvm.MethodName) jdk_18_method_1_code (1 : Nat) (Option.none : Option Jvm.ClassFile.FieldType)]
set_option maxRecDepth 65536 in
theorem codes_eq : words1.filter isCode = codes1 := rfl
theorem w_codes : ∀ c ∈ words1.filter isCode, c.before args0 about1 = true := by
  rw [codes_eq]
  intro c hc
  simp only [codes1, List.mem_cons, List.not_mem_nil, or_false] at hc
  rcases hc with rfl | rfl | rfl | rfl | rfl | rfl | rfl
  · exact w_c0
  · exact w_c1
  · exact w_c2
  · exact w_c3
  · exact w_c4
  · exact w_c5
  · exact w_c6
set_option maxRecDepth 65536 in
theorem w_t1 : (words1.take 24).all (fun c => isCode c || c.before args0 about1) = true := by decide +kernel
set_option maxRecDepth 65536 in
theorem w_t2 : (words1.drop 24).all (fun c => isCode c || c.before args0 about1) = true := by decide +kernel
theorem w_tables : (allAtoms (Jvm.Cond.code x code maxLocals ret :: tables_1)).before args0 about1 = true := by
  rw [allAtoms_all]
  show words1.all (fun c => c.before args0 about1) = true
  refine all_split ?_ w_codes
  rw [← List.take_append_drop 24 words1, List.all_append, w_t1, w_t2]
  rfl
set_option maxRecDepth 65536 in
theorem w_rest : rest_1_c.before args0 about1 = true := by decide +kernel
set_option maxRecDepth 65536 in
theorem w_case : (Jvm.Cond.and given_1 narrow_1).before args0 about1 = true := by decide +kernel
theorem w_applies : (headSpec (Jvm.Cond.code x code maxLocals ret :: tables_1) room_1).applies x e0.platform about1 = true :=
  (Spec.applies_iff w_frames).mpr ⟨w_running, w_runnable, w_alone, w_named, w_hears, w_ripe, w_room, w_tables⟩
theorem atStart : AtStart classFile x code maxLocals ret World_1 tables_1 room_1 Calls_1 rest_1 Pre_1 launch0 p0 e0 about1 theMethod args0 below0 :=
  ⟨lists_1, trivial, launch0.admits_env _ _ _, launch0.least_env, fairChoices_fair.cas, fairChoices_fair.clock, w_frames, w_args, w_heap, w_applies, trivial, w_rest, w_case⟩
end start1
theorem witness_1 : WitnessClaimed_1 := ⟨start1.p0, start1.e0, start1.about1, start1.theMethod, start1.args0, start1.below0, start1.atStart⟩
end Jvm.Pilot.@@N@@
