import JvmDerived
import JvmDerived.Pilot.@@N@@Statement
import JvmDerived.Pilot.@@N@@Code
set_option linter.unusedVariables false
set_option linter.unusedSimpArgs false
namespace Jvm.RoadKit
open Sem ClassFile Op Lib Jvm.Stand Jvm.Free Jvm.LawKit
section New
variable {p : Program} {l : Launch} {e : Env} {R : Room} {s : State} {m : MethodId} {args : Array Value} {below : List Frame} {meth : Method} {c : Code} {T : State} {locs : List Loc} {cells slots : Nat}
theorem retI (X : Stand p l e R s m args below meth c T locs cells slots) (hx : p.tables.exec = Jvm.exec) {pc : Nat} {Ls : Array Slot} {z : Int32} {rest : List Value} (hret : meth.sig.returnType = some .int) (hd : decode c.code pc = .ok (.ireturn, 1)) {fs : List Frame}
    (hl : ∀ (f : JFrame) (acts : List Action), f.method = m → f.locked = none → f.entered = [] → (doReturn e (T.setTop f) acts (some (.int z))).1 = T.setFrames fs) : Steps p.tables e below (T.setTop (mkF m pc Ls (.int z :: rest))) (T.setFrames fs) := by
  have hm' : T.vm.method? m = some meth := X.method'
  have hn : narrow .int (.int z) = .int z := rfl
  show Steps p.tables e below (T.setTop { method := m, pc := pc, locals := Ls, stack := _ :: rest, locked := none }) _
  jvm_step X.here [X.here.top, hx, hd, hm', hret, hn]
  first | (intro acts; rw [hl _ acts rfl rfl rfl]) | rw [hl _ _ rfl rfl rfl]
  exact Steps.refl _
abbrev Sq (p : Program) (e : Env) (below : List Frame) (m : MethodId) (T : State) (pc : Nat) (L : Array Slot) (S : List Value) (t : State) : Prop := Steps p.tables e below (T.setTop (mkF m pc L S)) t
abbrev Ctr (l : Launch) (Z : State) (y : MethodName) (b : ByteArray) (ml : Nat) (rt : Option FieldType) (ws : List Cond) (rm : Room) (as' : Array Value) (h0 : Heap) (Q : Option Value → Heap → List Loc → Prop) : Prop :=
  MetFree l y (head1 (Cond.code y b ml rt :: ws) rm) (fun a U => a = as' ∧ Z.Warmed39 U.vm ∧ U.heap = h0) (fun _ _ _ _ _ => True) (fun _ U o U' => ∃ v L, o = .returned v ∧ Q v U'.heap L ∧ FrameEnd U o U' L rm.cells rm.slots)
theorem own_sz {Z : State} {n0 : Nat} {h : Heap} (O : Old Z n0 h) : n0 ≤ h.size := O.1 ▸ O.2.1
theorem own_selpriv {Z s : State} {a0 args : Array Value} {y : MethodName} {n : Nat} (hZ : Z.Warmed39 s.vm) (wi : (Cond.instantiable y.cls n).before a0 Z = true) (wm : (Cond.instanceMethod y).before a0 Z = true) (wp : (Cond.privateMethod y).before a0 Z = true) (hy : y.cls ≠ "java/lang/invoke/MethodHandle" ∧ y.cls ≠ "java/lang/invoke/VarHandle") : (Cond.selects y.cls y y).before args s = true := by
  obtain ⟨c, k, h1, h2, -, h4, -⟩ := Cond.instantiable_spec (mv (args := args) hZ wi)
  have hk : k.isInterface = false := by cases h : k.isInterface <;> simp_all
  exact selects_self_of_private h1 h2 hk (Cond.privateMethod_at (mvP hZ wp (args := args))) (mv hZ wm) hy
theorem own_fldinj {Z : State} {h : Heap} {a : Addr} {C n d : String} {v w : Value} (F : Fld Z h a C n d v) (G : Fld Z h a C n d w) : v = w := by
  obtain ⟨c1, cf, k, i, f, h1, h2, -, -, -, -, h3⟩ := F
  obtain ⟨c2, cf2, k2, i2, f2, g1, g2, -, -, -, -, g3⟩ := G
  cases h1.symm.trans g1
  cases h2.symm.trans g2
  exact Option.some.inj (h3.symm.trans g3)
theorem own_ne {Z : State} {h : Heap} {a b : Addr} {C n d : String} {v w : Value} (F : Fld Z h a C n d v) (G : Fld Z h b C n d w) (q : v ≠ w) : a ≠ b := fun e => by
  subst e; exact q (own_fldinj F G)
theorem own_static {s : State} {args : Array Value} {C f d K : String} (h : (Cond.exactly (Term.static C f d) K).value args s none s [] = some true) (hi : (Cond.initializedFor C f d).before args s = true ∨ ((Cond.initialized C).before args s = true ∧ (Cond.laysStatic C f d).before args s = true)) :
    ∃ w, Sta s s.heap C f d (.ref w) ∧ Exa s s.heap w K ∧ (Term.static C f d).eval args s none [] s = some (.ref w) := by
  obtain ⟨w, ev⟩ := exa_v h
  exact ⟨w, Sta.start ev hi, Exa.start ev h, ev⟩
theorem own_field {s : State} {args : Array Value} {t : Term} {w : Addr} {O f d : String} {n : Int32} (ev : t.eval args s none [] s = some (.ref w)) (h : (Cond.eq (Term.field t O f d) (Term.int n)).value args s none s [] = some true) : Fld s s.heap w O f d (.int n) := by
  have q := eqv_i (Term.int_eval n) h
  rw [fld_at ev] at q
  exact Fld.start q
theorem own_and7 (x : Int32) : (x &&& (7 : Int32)) = (0 : Int32) ∨ (x &&& (7 : Int32)) = (1 : Int32) ∨ (x &&& (7 : Int32)) = (2 : Int32) ∨ (x &&& (7 : Int32)) = (3 : Int32) ∨ (x &&& (7 : Int32)) = (4 : Int32) ∨ (x &&& (7 : Int32)) = (5 : Int32) ∨ (x &&& (7 : Int32)) = (6 : Int32) ∨ (x &&& (7 : Int32)) = (7 : Int32) := by
  have h := c_mask x 7 3 (by decide) (by decide)
  have h' : (x &&& (7 : Int32)).toInt = 0 ∨ (x &&& (7 : Int32)).toInt = 1 ∨ (x &&& (7 : Int32)).toInt = 2 ∨ (x &&& (7 : Int32)).toInt = 3 ∨ (x &&& (7 : Int32)).toInt = 4 ∨ (x &&& (7 : Int32)).toInt = 5 ∨ (x &&& (7 : Int32)).toInt = 6 ∨ (x &&& (7 : Int32)).toInt = 7 := by omega
  rcases h' with q | q | q | q | q | q | q | q
  · exact Or.inl (Int32.toInt_inj.mp q)
  · exact Or.inr (Or.inl (Int32.toInt_inj.mp q))
  · exact Or.inr (Or.inr (Or.inl (Int32.toInt_inj.mp q)))
  · exact Or.inr (Or.inr (Or.inr (Or.inl (Int32.toInt_inj.mp q))))
  · exact Or.inr (Or.inr (Or.inr (Or.inr (Or.inl (Int32.toInt_inj.mp q)))))
  · exact Or.inr (Or.inr (Or.inr (Or.inr (Or.inr (Or.inl (Int32.toInt_inj.mp q))))))
  · exact Or.inr (Or.inr (Or.inr (Or.inr (Or.inr (Or.inr (Or.inl (Int32.toInt_inj.mp q)))))))
  · exact Or.inr (Or.inr (Or.inr (Or.inr (Or.inr (Or.inr (Or.inr (Int32.toInt_inj.mp q)))))))
end New
end Jvm.RoadKit
namespace Jvm.Pilot.@@N@@
open Jvm Jvm.ClassFile Sem Op Lib Jvm.Free Jvm.Stand Jvm.LawKit Jvm.RoadKit Bundle Jvm.Pilot.@@N@@.Jvm.D
theorem d1_0 : decode method_2_code 0 = .ok (.iload_n 0, 1) := by decide +kernel
theorem d1_1 : decode method_2_code 1 = .ok (.ifCond .ne 7, 3) := by decide +kernel
theorem d1_4 : decode method_2_code 4 = .ok (.getstatic 7, 3) := by decide +kernel
theorem d1_7 : decode method_2_code 7 = .ok (.areturn, 1) := by decide +kernel
def Q_pick0 (Z : State) (w_BEGIN : Addr) (h0 : Heap) (n0 : Nat) (v : Option Value) (h : Heap) (L : List Loc) : Prop := v = some (.ref w_BEGIN) ∧ Fr n0 L ∧ h = h0
theorem ef_0 (m : MethodId) (x0 : Int32) : entryFrame m #[(.int x0)] 1 = mkF m 0 #[.val (.int x0)] [] := by first | (simp [entryFrame, mkF, argsToLocals, Value.category]; done) | rfl
theorem pn_0 : plainName "com/example/concordat/concordat/GlobalStatusIsFinishedPinLaw" = true := by first | (simp [plainName, overriddenIn]; done) | decide +kernel
abbrev y_0 : MethodName := ⟨"com/example/concordat/concordat/GlobalStatusIsFinishedPinLaw", "pick", "(I)Lcom/example/concordat/concordat/GlobalStatus;"⟩
set_option maxRecDepth 65536 in
set_option maxHeartbeats 40000000 in
theorem pick0 (l : Launch) (Z : State) (a0 : Array Value) (hw : ∀ d ∈ tables_1, d.before a0 Z = true) (ws : List Jvm.Cond) (w_BEGIN : Addr) (h0 : Heap) (n0 : Nat) (O : Old Z n0 h0) (S_w_BEGIN : Sta Z Z.heap "com/example/concordat/concordat/GlobalStatus" "BEGIN" "Lcom/example/concordat/concordat/GlobalStatus;" (.ref w_BEGIN)) :
    Ctr l Z y_0 method_2_code 1 (some (.object "com/example/concordat/concordat/GlobalStatus")) ws ({ frames := 0, cells := 0, slots := 0, locals := 0 } : Room) #[(.int (0 : Int32))] h0 (Q_pick0 Z w_BEGIN h0 n0) := by
  refine MetFree.of_bodySF (plainFor_of_name pn_0) hisR ?_
  intro p e s m args below meth c s₁ Bd hml0 hP hK
  obtain ⟨rfl, hZ, hh⟩ := hP
  have W := fun (i : Nat) {d : Jvm.Cond} (h : tables_1[i]? = some d) => hw d (List.mem_of_getElem? h)
  have hx := Bd.exec
  have hby := Bd.bytes
  have hml : c.maxLocals = 1 := hml0
  have hown : s.vm.findClass "com/example/concordat/concordat/GlobalStatusIsFinishedPinLaw" = some m.cls := findClass_of_methodNamed Bd.named
  have hnm := (name_of_methodNamed Bd.named Bd.method).1
  have X0 : Stand p l e ({ frames := 0, cells := 0, slots := 0, locals := 0 } : Room) s m #[(.int (0 : Int32))] below meth c s₁ [] 0 0 := Stand.of_body Bd
  have e0 : s₁.heap = h0 := by rw [← hh, Bd.state]; rfl
  have N0 := Fr.nil n0
  have pre0 : ∀ t, Steps p.tables e below (s₁.setTop (mkF m 0 #[.val (.int (0 : Int32))] [])) t → Steps p.tables e below (s₁.setTop (entryFrame m #[(.int (0 : Int32))] 1)) t := fun t k => castTop (ef_0 m (0 : Int32)) k
  obtain ⟨T1, X1, e1, st1⟩ := getS2 X0 hx hZ hown (host := "") (Or.inl (W 4 rfl)) Via.refl e0 (S_w_BEGIN.ext O.2) (g := (mkF m 4 #[iv 0] [])) rfl (hb hby d1_4)
  obtain ⟨fs, hr, hrun, hended, hW, hsame⟩ := X1.leave (v := some (.ref w_BEGIN)) (fun h => by rw [Bd.returns] at h; cases h)
  refine ⟨_, _, pre0 _ ?_, hrun, hended, _, _, rfl, ?_, ⟨_, rfl⟩, hW, hsame.mono (by decide) (by decide)⟩
  · show Sq p e below m s₁ 0 #[iv 0] [] _
    refine XS.iloadN X0.here hx rfl (hb hby d1_0) rfl ?_
    refine XS.ifNo X0.here hx rfl (hb hby d1_1) rfl ((if0 _ _).trans (teq (rfl : (0 : Int32) = (0 : Int32))).2) ?_
    show Sq p e below m s₁ 4 #[iv 0] [] _
    refine st1 _ ?_
    show Sq p e below m T1 7 #[iv 0] [.ref w_BEGIN] _
    jvm_step X1.here [X1.here.top, hx, (hb hby d1_7), X1.method', Bd.returns, Value.isRef, FieldType.isReference]
    first | (intro acts; rw [hr _ acts rfl rfl rfl]) | rw [hr _ _ rfl rfl rfl]
    exact Steps.refl _
  · show Q_pick0 Z w_BEGIN h0 n0 _ T1.heap _
    rw [e1]
    exact ⟨rfl, N0, rfl⟩
theorem d1_8 : decode method_2_code 8 = .ok (.iload_n 0, 1) := by decide +kernel
theorem d1_9 : decode method_2_code 9 = .ok (.iconst 1, 1) := by decide +kernel
theorem d1_10 : decode method_2_code 10 = .ok (.if_icmp .ne 7, 3) := by decide +kernel
theorem d1_13 : decode method_2_code 13 = .ok (.getstatic 13, 3) := by decide +kernel
theorem d1_16 : decode method_2_code 16 = .ok (.areturn, 1) := by decide +kernel
def Q_pick1 (Z : State) (w_COMMITTING : Addr) (h0 : Heap) (n0 : Nat) (v : Option Value) (h : Heap) (L : List Loc) : Prop := v = some (.ref w_COMMITTING) ∧ Fr n0 L ∧ h = h0
theorem ef_1 (m : MethodId) (x0 : Int32) : entryFrame m #[(.int x0)] 1 = mkF m 0 #[.val (.int x0)] [] := by first | (simp [entryFrame, mkF, argsToLocals, Value.category]; done) | rfl
set_option maxRecDepth 65536 in
set_option maxHeartbeats 40000000 in
theorem pick1 (l : Launch) (Z : State) (a0 : Array Value) (hw : ∀ d ∈ tables_1, d.before a0 Z = true) (ws : List Jvm.Cond) (w_COMMITTING : Addr) (h0 : Heap) (n0 : Nat) (O : Old Z n0 h0) (S_w_COMMITTING : Sta Z Z.heap "com/example/concordat/concordat/GlobalStatus" "COMMITTING" "Lcom/example/concordat/concordat/GlobalStatus;" (.ref w_COMMITTING)) :
    Ctr l Z y_0 method_2_code 1 (some (.object "com/example/concordat/concordat/GlobalStatus")) ws ({ frames := 0, cells := 0, slots := 0, locals := 0 } : Room) #[(.int (1 : Int32))] h0 (Q_pick1 Z w_COMMITTING h0 n0) := by
  refine MetFree.of_bodySF (plainFor_of_name pn_0) hisR ?_
  intro p e s m args below meth c s₁ Bd hml0 hP hK
  obtain ⟨rfl, hZ, hh⟩ := hP
  have W := fun (i : Nat) {d : Jvm.Cond} (h : tables_1[i]? = some d) => hw d (List.mem_of_getElem? h)
  have hx := Bd.exec
  have hby := Bd.bytes
  have hml : c.maxLocals = 1 := hml0
  have hown : s.vm.findClass "com/example/concordat/concordat/GlobalStatusIsFinishedPinLaw" = some m.cls := findClass_of_methodNamed Bd.named
  have hnm := (name_of_methodNamed Bd.named Bd.method).1
  have X0 : Stand p l e ({ frames := 0, cells := 0, slots := 0, locals := 0 } : Room) s m #[(.int (1 : Int32))] below meth c s₁ [] 0 0 := Stand.of_body Bd
  have e0 : s₁.heap = h0 := by rw [← hh, Bd.state]; rfl
  have N0 := Fr.nil n0
  have pre0 : ∀ t, Steps p.tables e below (s₁.setTop (mkF m 0 #[.val (.int (1 : Int32))] [])) t → Steps p.tables e below (s₁.setTop (entryFrame m #[(.int (1 : Int32))] 1)) t := fun t k => castTop (ef_1 m (1 : Int32)) k
  obtain ⟨T1, X1, e1, st1⟩ := getS2 X0 hx hZ hown (host := "") (Or.inl (W 24 rfl)) Via.refl e0 (S_w_COMMITTING.ext O.2) (g := (mkF m 13 #[iv 1] [])) rfl (hb hby d1_13)
  obtain ⟨fs, hr, hrun, hended, hW, hsame⟩ := X1.leave (v := some (.ref w_COMMITTING)) (fun h => by rw [Bd.returns] at h; cases h)
  refine ⟨_, _, pre0 _ ?_, hrun, hended, _, _, rfl, ?_, ⟨_, rfl⟩, hW, hsame.mono (by decide) (by decide)⟩
  · show Sq p e below m s₁ 0 #[iv 1] [] _
    refine XS.iloadN X0.here hx rfl (hb hby d1_0) rfl ?_
    refine XS.ifYes X0.here hx rfl (pc0 := 1) (pc' := 8) rfl (hb hby d1_1) rfl ((if0 _ _).trans (feq (by decide)).2) (by decide) (by decide) ?_
    show Sq p e below m s₁ 8 #[iv 1] [] _
    refine XS.iloadN X0.here hx rfl (hb hby d1_8) rfl ?_
    refine XS.iconst X0.here hx rfl (hb hby d1_9) ?_
    show Sq p e below m s₁ 10 #[iv 1] [.int 1, .int 1] _
    refine XS.icmpNo X0.here hx rfl (hb hby d1_10) rfl (teq (rfl : (1 : Int32) = (1 : Int32))).2 ?_
    show Sq p e below m s₁ 13 #[iv 1] [] _
    refine st1 _ ?_
    show Sq p e below m T1 16 #[iv 1] [.ref w_COMMITTING] _
    jvm_step X1.here [X1.here.top, hx, (hb hby d1_16), X1.method', Bd.returns, Value.isRef, FieldType.isReference]
    first | (intro acts; rw [hr _ acts rfl rfl rfl]) | rw [hr _ _ rfl rfl rfl]
    exact Steps.refl _
  · show Q_pick1 Z w_COMMITTING h0 n0 _ T1.heap _
    rw [e1]
    exact ⟨rfl, N0, rfl⟩
theorem d1_17 : decode method_2_code 17 = .ok (.iload_n 0, 1) := by decide +kernel
theorem d1_18 : decode method_2_code 18 = .ok (.iconst 2, 1) := by decide +kernel
theorem d1_19 : decode method_2_code 19 = .ok (.if_icmp .ne 7, 3) := by decide +kernel
theorem d1_22 : decode method_2_code 22 = .ok (.getstatic 16, 3) := by decide +kernel
theorem d1_25 : decode method_2_code 25 = .ok (.areturn, 1) := by decide +kernel
def Q_pick2 (Z : State) (w_COMMITTED : Addr) (h0 : Heap) (n0 : Nat) (v : Option Value) (h : Heap) (L : List Loc) : Prop := v = some (.ref w_COMMITTED) ∧ Fr n0 L ∧ h = h0
theorem ef_2 (m : MethodId) (x0 : Int32) : entryFrame m #[(.int x0)] 1 = mkF m 0 #[.val (.int x0)] [] := by first | (simp [entryFrame, mkF, argsToLocals, Value.category]; done) | rfl
set_option maxRecDepth 65536 in
set_option maxHeartbeats 40000000 in
theorem pick2 (l : Launch) (Z : State) (a0 : Array Value) (hw : ∀ d ∈ tables_1, d.before a0 Z = true) (ws : List Jvm.Cond) (w_COMMITTED : Addr) (h0 : Heap) (n0 : Nat) (O : Old Z n0 h0) (S_w_COMMITTED : Sta Z Z.heap "com/example/concordat/concordat/GlobalStatus" "COMMITTED" "Lcom/example/concordat/concordat/GlobalStatus;" (.ref w_COMMITTED)) :
    Ctr l Z y_0 method_2_code 1 (some (.object "com/example/concordat/concordat/GlobalStatus")) ws ({ frames := 0, cells := 0, slots := 0, locals := 0 } : Room) #[(.int (2 : Int32))] h0 (Q_pick2 Z w_COMMITTED h0 n0) := by
  refine MetFree.of_bodySF (plainFor_of_name pn_0) hisR ?_
  intro p e s m args below meth c s₁ Bd hml0 hP hK
  obtain ⟨rfl, hZ, hh⟩ := hP
  have W := fun (i : Nat) {d : Jvm.Cond} (h : tables_1[i]? = some d) => hw d (List.mem_of_getElem? h)
  have hx := Bd.exec
  have hby := Bd.bytes
  have hml : c.maxLocals = 1 := hml0
  have hown : s.vm.findClass "com/example/concordat/concordat/GlobalStatusIsFinishedPinLaw" = some m.cls := findClass_of_methodNamed Bd.named
  have hnm := (name_of_methodNamed Bd.named Bd.method).1
  have X0 : Stand p l e ({ frames := 0, cells := 0, slots := 0, locals := 0 } : Room) s m #[(.int (2 : Int32))] below meth c s₁ [] 0 0 := Stand.of_body Bd
  have e0 : s₁.heap = h0 := by rw [← hh, Bd.state]; rfl
  have N0 := Fr.nil n0
  have pre0 : ∀ t, Steps p.tables e below (s₁.setTop (mkF m 0 #[.val (.int (2 : Int32))] [])) t → Steps p.tables e below (s₁.setTop (entryFrame m #[(.int (2 : Int32))] 1)) t := fun t k => castTop (ef_2 m (2 : Int32)) k
  obtain ⟨T1, X1, e1, st1⟩ := getS2 X0 hx hZ hown (host := "") (Or.inl (W 23 rfl)) Via.refl e0 (S_w_COMMITTED.ext O.2) (g := (mkF m 22 #[iv 2] [])) rfl (hb hby d1_22)
  obtain ⟨fs, hr, hrun, hended, hW, hsame⟩ := X1.leave (v := some (.ref w_COMMITTED)) (fun h => by rw [Bd.returns] at h; cases h)
  refine ⟨_, _, pre0 _ ?_, hrun, hended, _, _, rfl, ?_, ⟨_, rfl⟩, hW, hsame.mono (by decide) (by decide)⟩
  · show Sq p e below m s₁ 0 #[iv 2] [] _
    refine XS.iloadN X0.here hx rfl (hb hby d1_0) rfl ?_
    refine XS.ifYes X0.here hx rfl (pc0 := 1) (pc' := 8) rfl (hb hby d1_1) rfl ((if0 _ _).trans (feq (by decide)).2) (by decide) (by decide) ?_
    show Sq p e below m s₁ 8 #[iv 2] [] _
    refine XS.iloadN X0.here hx rfl (hb hby d1_8) rfl ?_
    refine XS.iconst X0.here hx rfl (hb hby d1_9) ?_
    show Sq p e below m s₁ 10 #[iv 2] [.int 1, .int 2] _
    refine XS.icmpYes X0.here hx rfl (pc0 := 10) (pc' := 17) rfl (hb hby d1_10) rfl (feq (by decide)).2 (by decide) (by decide) ?_
    refine XS.iloadN X0.here hx rfl (hb hby d1_17) rfl ?_
    show Sq p e below m s₁ 18 #[iv 2] [.int 2] _
    refine XS.iconst X0.here hx rfl (hb hby d1_18) ?_
    refine XS.icmpNo X0.here hx rfl (hb hby d1_19) rfl (teq (rfl : (2 : Int32) = (2 : Int32))).2 ?_
    show Sq p e below m s₁ 22 #[iv 2] [] _
    refine st1 _ ?_
    show Sq p e below m T1 25 #[iv 2] [.ref w_COMMITTED] _
    jvm_step X1.here [X1.here.top, hx, (hb hby d1_25), X1.method', Bd.returns, Value.isRef, FieldType.isReference]
    first | (intro acts; rw [hr _ acts rfl rfl rfl]) | rw [hr _ _ rfl rfl rfl]
    exact Steps.refl _
  · show Q_pick2 Z w_COMMITTED h0 n0 _ T1.heap _
    rw [e1]
    exact ⟨rfl, N0, rfl⟩
theorem d1_26 : decode method_2_code 26 = .ok (.iload_n 0, 1) := by decide +kernel
theorem d1_27 : decode method_2_code 27 = .ok (.iconst 3, 1) := by decide +kernel
theorem d1_28 : decode method_2_code 28 = .ok (.if_icmp .ne 7, 3) := by decide +kernel
theorem d1_31 : decode method_2_code 31 = .ok (.getstatic 19, 3) := by decide +kernel
theorem d1_34 : decode method_2_code 34 = .ok (.areturn, 1) := by decide +kernel
def Q_pick3 (Z : State) (w_ROLLBACKING : Addr) (h0 : Heap) (n0 : Nat) (v : Option Value) (h : Heap) (L : List Loc) : Prop := v = some (.ref w_ROLLBACKING) ∧ Fr n0 L ∧ h = h0
theorem ef_3 (m : MethodId) (x0 : Int32) : entryFrame m #[(.int x0)] 1 = mkF m 0 #[.val (.int x0)] [] := by first | (simp [entryFrame, mkF, argsToLocals, Value.category]; done) | rfl
set_option maxRecDepth 65536 in
set_option maxHeartbeats 40000000 in
theorem pick3 (l : Launch) (Z : State) (a0 : Array Value) (hw : ∀ d ∈ tables_1, d.before a0 Z = true) (ws : List Jvm.Cond) (w_ROLLBACKING : Addr) (h0 : Heap) (n0 : Nat) (O : Old Z n0 h0) (S_w_ROLLBACKING : Sta Z Z.heap "com/example/concordat/concordat/GlobalStatus" "ROLLBACKING" "Lcom/example/concordat/concordat/GlobalStatus;" (.ref w_ROLLBACKING)) :
    Ctr l Z y_0 method_2_code 1 (some (.object "com/example/concordat/concordat/GlobalStatus")) ws ({ frames := 0, cells := 0, slots := 0, locals := 0 } : Room) #[(.int (3 : Int32))] h0 (Q_pick3 Z w_ROLLBACKING h0 n0) := by
  refine MetFree.of_bodySF (plainFor_of_name pn_0) hisR ?_
  intro p e s m args below meth c s₁ Bd hml0 hP hK
  obtain ⟨rfl, hZ, hh⟩ := hP
  have W := fun (i : Nat) {d : Jvm.Cond} (h : tables_1[i]? = some d) => hw d (List.mem_of_getElem? h)
  have hx := Bd.exec
  have hby := Bd.bytes
  have hml : c.maxLocals = 1 := hml0
  have hown : s.vm.findClass "com/example/concordat/concordat/GlobalStatusIsFinishedPinLaw" = some m.cls := findClass_of_methodNamed Bd.named
  have hnm := (name_of_methodNamed Bd.named Bd.method).1
  have X0 : Stand p l e ({ frames := 0, cells := 0, slots := 0, locals := 0 } : Room) s m #[(.int (3 : Int32))] below meth c s₁ [] 0 0 := Stand.of_body Bd
  have e0 : s₁.heap = h0 := by rw [← hh, Bd.state]; rfl
  have N0 := Fr.nil n0
  have pre0 : ∀ t, Steps p.tables e below (s₁.setTop (mkF m 0 #[.val (.int (3 : Int32))] [])) t → Steps p.tables e below (s₁.setTop (entryFrame m #[(.int (3 : Int32))] 1)) t := fun t k => castTop (ef_3 m (3 : Int32)) k
  obtain ⟨T1, X1, e1, st1⟩ := getS2 X0 hx hZ hown (host := "") (Or.inl (W 18 rfl)) Via.refl e0 (S_w_ROLLBACKING.ext O.2) (g := (mkF m 31 #[iv 3] [])) rfl (hb hby d1_31)
  obtain ⟨fs, hr, hrun, hended, hW, hsame⟩ := X1.leave (v := some (.ref w_ROLLBACKING)) (fun h => by rw [Bd.returns] at h; cases h)
  refine ⟨_, _, pre0 _ ?_, hrun, hended, _, _, rfl, ?_, ⟨_, rfl⟩, hW, hsame.mono (by decide) (by decide)⟩
  · show Sq p e below m s₁ 0 #[iv 3] [] _
    refine XS.iloadN X0.here hx rfl (hb hby d1_0) rfl ?_
    refine XS.ifYes X0.here hx rfl (pc0 := 1) (pc' := 8) rfl (hb hby d1_1) rfl ((if0 _ _).trans (feq (by decide)).2) (by decide) (by decide) ?_
    show Sq p e below m s₁ 8 #[iv 3] [] _
    refine XS.iloadN X0.here hx rfl (hb hby d1_8) rfl ?_
    refine XS.iconst X0.here hx rfl (hb hby d1_9) ?_
    show Sq p e below m s₁ 10 #[iv 3] [.int 1, .int 3] _
    refine XS.icmpYes X0.here hx rfl (pc0 := 10) (pc' := 17) rfl (hb hby d1_10) rfl (feq (by decide)).2 (by decide) (by decide) ?_
    refine XS.iloadN X0.here hx rfl (hb hby d1_17) rfl ?_
    show Sq p e below m s₁ 18 #[iv 3] [.int 3] _
    refine XS.iconst X0.here hx rfl (hb hby d1_18) ?_
    refine XS.icmpYes X0.here hx rfl (pc0 := 19) (pc' := 26) rfl (hb hby d1_19) rfl (feq (by decide)).2 (by decide) (by decide) ?_
    show Sq p e below m s₁ 26 #[iv 3] [] _
    refine XS.iloadN X0.here hx rfl (hb hby d1_26) rfl ?_
    refine XS.iconst X0.here hx rfl (hb hby d1_27) ?_
    show Sq p e below m s₁ 28 #[iv 3] [.int 3, .int 3] _
    refine XS.icmpNo X0.here hx rfl (hb hby d1_28) rfl (teq (rfl : (3 : Int32) = (3 : Int32))).2 ?_
    show Sq p e below m s₁ 31 #[iv 3] [] _
    refine st1 _ ?_
    show Sq p e below m T1 34 #[iv 3] [.ref w_ROLLBACKING] _
    jvm_step X1.here [X1.here.top, hx, (hb hby d1_34), X1.method', Bd.returns, Value.isRef, FieldType.isReference]
    first | (intro acts; rw [hr _ acts rfl rfl rfl]) | rw [hr _ _ rfl rfl rfl]
    exact Steps.refl _
  · show Q_pick3 Z w_ROLLBACKING h0 n0 _ T1.heap _
    rw [e1]
    exact ⟨rfl, N0, rfl⟩
theorem d1_35 : decode method_2_code 35 = .ok (.iload_n 0, 1) := by decide +kernel
theorem d1_36 : decode method_2_code 36 = .ok (.iconst 4, 1) := by decide +kernel
theorem d1_37 : decode method_2_code 37 = .ok (.if_icmp .ne 7, 3) := by decide +kernel
theorem d1_40 : decode method_2_code 40 = .ok (.getstatic 22, 3) := by decide +kernel
theorem d1_43 : decode method_2_code 43 = .ok (.areturn, 1) := by decide +kernel
def Q_pick4 (Z : State) (w_ROLLBACK_BLOCKED : Addr) (h0 : Heap) (n0 : Nat) (v : Option Value) (h : Heap) (L : List Loc) : Prop := v = some (.ref w_ROLLBACK_BLOCKED) ∧ Fr n0 L ∧ h = h0
theorem ef_4 (m : MethodId) (x0 : Int32) : entryFrame m #[(.int x0)] 1 = mkF m 0 #[.val (.int x0)] [] := by first | (simp [entryFrame, mkF, argsToLocals, Value.category]; done) | rfl
set_option maxRecDepth 65536 in
set_option maxHeartbeats 40000000 in
theorem pick4 (l : Launch) (Z : State) (a0 : Array Value) (hw : ∀ d ∈ tables_1, d.before a0 Z = true) (ws : List Jvm.Cond) (w_ROLLBACK_BLOCKED : Addr) (h0 : Heap) (n0 : Nat) (O : Old Z n0 h0) (S_w_ROLLBACK_BLOCKED : Sta Z Z.heap "com/example/concordat/concordat/GlobalStatus" "ROLLBACK_BLOCKED" "Lcom/example/concordat/concordat/GlobalStatus;" (.ref w_ROLLBACK_BLOCKED)) :
    Ctr l Z y_0 method_2_code 1 (some (.object "com/example/concordat/concordat/GlobalStatus")) ws ({ frames := 0, cells := 0, slots := 0, locals := 0 } : Room) #[(.int (4 : Int32))] h0 (Q_pick4 Z w_ROLLBACK_BLOCKED h0 n0) := by
  refine MetFree.of_bodySF (plainFor_of_name pn_0) hisR ?_
  intro p e s m args below meth c s₁ Bd hml0 hP hK
  obtain ⟨rfl, hZ, hh⟩ := hP
  have W := fun (i : Nat) {d : Jvm.Cond} (h : tables_1[i]? = some d) => hw d (List.mem_of_getElem? h)
  have hx := Bd.exec
  have hby := Bd.bytes
  have hml : c.maxLocals = 1 := hml0
  have hown : s.vm.findClass "com/example/concordat/concordat/GlobalStatusIsFinishedPinLaw" = some m.cls := findClass_of_methodNamed Bd.named
  have hnm := (name_of_methodNamed Bd.named Bd.method).1
  have X0 : Stand p l e ({ frames := 0, cells := 0, slots := 0, locals := 0 } : Room) s m #[(.int (4 : Int32))] below meth c s₁ [] 0 0 := Stand.of_body Bd
  have e0 : s₁.heap = h0 := by rw [← hh, Bd.state]; rfl
  have N0 := Fr.nil n0
  have pre0 : ∀ t, Steps p.tables e below (s₁.setTop (mkF m 0 #[.val (.int (4 : Int32))] [])) t → Steps p.tables e below (s₁.setTop (entryFrame m #[(.int (4 : Int32))] 1)) t := fun t k => castTop (ef_4 m (4 : Int32)) k
  obtain ⟨T1, X1, e1, st1⟩ := getS2 X0 hx hZ hown (host := "") (Or.inl (W 26 rfl)) Via.refl e0 (S_w_ROLLBACK_BLOCKED.ext O.2) (g := (mkF m 40 #[iv 4] [])) rfl (hb hby d1_40)
  obtain ⟨fs, hr, hrun, hended, hW, hsame⟩ := X1.leave (v := some (.ref w_ROLLBACK_BLOCKED)) (fun h => by rw [Bd.returns] at h; cases h)
  refine ⟨_, _, pre0 _ ?_, hrun, hended, _, _, rfl, ?_, ⟨_, rfl⟩, hW, hsame.mono (by decide) (by decide)⟩
  · show Sq p e below m s₁ 0 #[iv 4] [] _
    refine XS.iloadN X0.here hx rfl (hb hby d1_0) rfl ?_
    refine XS.ifYes X0.here hx rfl (pc0 := 1) (pc' := 8) rfl (hb hby d1_1) rfl ((if0 _ _).trans (feq (by decide)).2) (by decide) (by decide) ?_
    show Sq p e below m s₁ 8 #[iv 4] [] _
    refine XS.iloadN X0.here hx rfl (hb hby d1_8) rfl ?_
    refine XS.iconst X0.here hx rfl (hb hby d1_9) ?_
    show Sq p e below m s₁ 10 #[iv 4] [.int 1, .int 4] _
    refine XS.icmpYes X0.here hx rfl (pc0 := 10) (pc' := 17) rfl (hb hby d1_10) rfl (feq (by decide)).2 (by decide) (by decide) ?_
    refine XS.iloadN X0.here hx rfl (hb hby d1_17) rfl ?_
    show Sq p e below m s₁ 18 #[iv 4] [.int 4] _
    refine XS.iconst X0.here hx rfl (hb hby d1_18) ?_
    refine XS.icmpYes X0.here hx rfl (pc0 := 19) (pc' := 26) rfl (hb hby d1_19) rfl (feq (by decide)).2 (by decide) (by decide) ?_
    show Sq p e below m s₁ 26 #[iv 4] [] _
    refine XS.iloadN X0.here hx rfl (hb hby d1_26) rfl ?_
    refine XS.iconst X0.here hx rfl (hb hby d1_27) ?_
    show Sq p e below m s₁ 28 #[iv 4] [.int 3, .int 4] _
    refine XS.icmpYes X0.here hx rfl (pc0 := 28) (pc' := 35) rfl (hb hby d1_28) rfl (feq (by decide)).2 (by decide) (by decide) ?_
    refine XS.iloadN X0.here hx rfl (hb hby d1_35) rfl ?_
    show Sq p e below m s₁ 36 #[iv 4] [.int 4] _
    refine XS.iconst X0.here hx rfl (hb hby d1_36) ?_
    refine XS.icmpNo X0.here hx rfl (hb hby d1_37) rfl (teq (rfl : (4 : Int32) = (4 : Int32))).2 ?_
    show Sq p e below m s₁ 40 #[iv 4] [] _
    refine st1 _ ?_
    show Sq p e below m T1 43 #[iv 4] [.ref w_ROLLBACK_BLOCKED] _
    jvm_step X1.here [X1.here.top, hx, (hb hby d1_43), X1.method', Bd.returns, Value.isRef, FieldType.isReference]
    first | (intro acts; rw [hr _ acts rfl rfl rfl]) | rw [hr _ _ rfl rfl rfl]
    exact Steps.refl _
  · show Q_pick4 Z w_ROLLBACK_BLOCKED h0 n0 _ T1.heap _
    rw [e1]
    exact ⟨rfl, N0, rfl⟩
theorem d1_44 : decode method_2_code 44 = .ok (.iload_n 0, 1) := by decide +kernel
theorem d1_45 : decode method_2_code 45 = .ok (.iconst 5, 1) := by decide +kernel
theorem d1_46 : decode method_2_code 46 = .ok (.if_icmp .ne 7, 3) := by decide +kernel
theorem d1_49 : decode method_2_code 49 = .ok (.getstatic 25, 3) := by decide +kernel
theorem d1_52 : decode method_2_code 52 = .ok (.areturn, 1) := by decide +kernel
def Q_pick5 (Z : State) (w_ROLLBACKED : Addr) (h0 : Heap) (n0 : Nat) (v : Option Value) (h : Heap) (L : List Loc) : Prop := v = some (.ref w_ROLLBACKED) ∧ Fr n0 L ∧ h = h0
theorem ef_5 (m : MethodId) (x0 : Int32) : entryFrame m #[(.int x0)] 1 = mkF m 0 #[.val (.int x0)] [] := by first | (simp [entryFrame, mkF, argsToLocals, Value.category]; done) | rfl
set_option maxRecDepth 65536 in
set_option maxHeartbeats 40000000 in
theorem pick5 (l : Launch) (Z : State) (a0 : Array Value) (hw : ∀ d ∈ tables_1, d.before a0 Z = true) (ws : List Jvm.Cond) (w_ROLLBACKED : Addr) (h0 : Heap) (n0 : Nat) (O : Old Z n0 h0) (S_w_ROLLBACKED : Sta Z Z.heap "com/example/concordat/concordat/GlobalStatus" "ROLLBACKED" "Lcom/example/concordat/concordat/GlobalStatus;" (.ref w_ROLLBACKED)) :
    Ctr l Z y_0 method_2_code 1 (some (.object "com/example/concordat/concordat/GlobalStatus")) ws ({ frames := 0, cells := 0, slots := 0, locals := 0 } : Room) #[(.int (5 : Int32))] h0 (Q_pick5 Z w_ROLLBACKED h0 n0) := by
  refine MetFree.of_bodySF (plainFor_of_name pn_0) hisR ?_
  intro p e s m args below meth c s₁ Bd hml0 hP hK
  obtain ⟨rfl, hZ, hh⟩ := hP
  have W := fun (i : Nat) {d : Jvm.Cond} (h : tables_1[i]? = some d) => hw d (List.mem_of_getElem? h)
  have hx := Bd.exec
  have hby := Bd.bytes
  have hml : c.maxLocals = 1 := hml0
  have hown : s.vm.findClass "com/example/concordat/concordat/GlobalStatusIsFinishedPinLaw" = some m.cls := findClass_of_methodNamed Bd.named
  have hnm := (name_of_methodNamed Bd.named Bd.method).1
  have X0 : Stand p l e ({ frames := 0, cells := 0, slots := 0, locals := 0 } : Room) s m #[(.int (5 : Int32))] below meth c s₁ [] 0 0 := Stand.of_body Bd
  have e0 : s₁.heap = h0 := by rw [← hh, Bd.state]; rfl
  have N0 := Fr.nil n0
  have pre0 : ∀ t, Steps p.tables e below (s₁.setTop (mkF m 0 #[.val (.int (5 : Int32))] [])) t → Steps p.tables e below (s₁.setTop (entryFrame m #[(.int (5 : Int32))] 1)) t := fun t k => castTop (ef_5 m (5 : Int32)) k
  obtain ⟨T1, X1, e1, st1⟩ := getS2 X0 hx hZ hown (host := "") (Or.inl (W 28 rfl)) Via.refl e0 (S_w_ROLLBACKED.ext O.2) (g := (mkF m 49 #[iv 5] [])) rfl (hb hby d1_49)
  obtain ⟨fs, hr, hrun, hended, hW, hsame⟩ := X1.leave (v := some (.ref w_ROLLBACKED)) (fun h => by rw [Bd.returns] at h; cases h)
  refine ⟨_, _, pre0 _ ?_, hrun, hended, _, _, rfl, ?_, ⟨_, rfl⟩, hW, hsame.mono (by decide) (by decide)⟩
  · show Sq p e below m s₁ 0 #[iv 5] [] _
    refine XS.iloadN X0.here hx rfl (hb hby d1_0) rfl ?_
    refine XS.ifYes X0.here hx rfl (pc0 := 1) (pc' := 8) rfl (hb hby d1_1) rfl ((if0 _ _).trans (feq (by decide)).2) (by decide) (by decide) ?_
    show Sq p e below m s₁ 8 #[iv 5] [] _
    refine XS.iloadN X0.here hx rfl (hb hby d1_8) rfl ?_
    refine XS.iconst X0.here hx rfl (hb hby d1_9) ?_
    show Sq p e below m s₁ 10 #[iv 5] [.int 1, .int 5] _
    refine XS.icmpYes X0.here hx rfl (pc0 := 10) (pc' := 17) rfl (hb hby d1_10) rfl (feq (by decide)).2 (by decide) (by decide) ?_
    refine XS.iloadN X0.here hx rfl (hb hby d1_17) rfl ?_
    show Sq p e below m s₁ 18 #[iv 5] [.int 5] _
    refine XS.iconst X0.here hx rfl (hb hby d1_18) ?_
    refine XS.icmpYes X0.here hx rfl (pc0 := 19) (pc' := 26) rfl (hb hby d1_19) rfl (feq (by decide)).2 (by decide) (by decide) ?_
    show Sq p e below m s₁ 26 #[iv 5] [] _
    refine XS.iloadN X0.here hx rfl (hb hby d1_26) rfl ?_
    refine XS.iconst X0.here hx rfl (hb hby d1_27) ?_
    show Sq p e below m s₁ 28 #[iv 5] [.int 3, .int 5] _
    refine XS.icmpYes X0.here hx rfl (pc0 := 28) (pc' := 35) rfl (hb hby d1_28) rfl (feq (by decide)).2 (by decide) (by decide) ?_
    refine XS.iloadN X0.here hx rfl (hb hby d1_35) rfl ?_
    show Sq p e below m s₁ 36 #[iv 5] [.int 5] _
    refine XS.iconst X0.here hx rfl (hb hby d1_36) ?_
    refine XS.icmpYes X0.here hx rfl (pc0 := 37) (pc' := 44) rfl (hb hby d1_37) rfl (feq (by decide)).2 (by decide) (by decide) ?_
    show Sq p e below m s₁ 44 #[iv 5] [] _
    refine XS.iloadN X0.here hx rfl (hb hby d1_44) rfl ?_
    refine XS.iconst X0.here hx rfl (hb hby d1_45) ?_
    show Sq p e below m s₁ 46 #[iv 5] [.int 5, .int 5] _
    refine XS.icmpNo X0.here hx rfl (hb hby d1_46) rfl (teq (rfl : (5 : Int32) = (5 : Int32))).2 ?_
    show Sq p e below m s₁ 49 #[iv 5] [] _
    refine st1 _ ?_
    show Sq p e below m T1 52 #[iv 5] [.ref w_ROLLBACKED] _
    jvm_step X1.here [X1.here.top, hx, (hb hby d1_52), X1.method', Bd.returns, Value.isRef, FieldType.isReference]
    first | (intro acts; rw [hr _ acts rfl rfl rfl]) | rw [hr _ _ rfl rfl rfl]
    exact Steps.refl _
  · show Q_pick5 Z w_ROLLBACKED h0 n0 _ T1.heap _
    rw [e1]
    exact ⟨rfl, N0, rfl⟩
theorem d1_53 : decode method_2_code 53 = .ok (.iload_n 0, 1) := by decide +kernel
theorem d1_54 : decode method_2_code 54 = .ok (.bipush 6, 2) := by decide +kernel
theorem d1_56 : decode method_2_code 56 = .ok (.if_icmp .ne 7, 3) := by decide +kernel
theorem d1_59 : decode method_2_code 59 = .ok (.getstatic 28, 3) := by decide +kernel
theorem d1_62 : decode method_2_code 62 = .ok (.areturn, 1) := by decide +kernel
def Q_pick6 (Z : State) (w_TIMEOUT_ROLLBACKED : Addr) (h0 : Heap) (n0 : Nat) (v : Option Value) (h : Heap) (L : List Loc) : Prop := v = some (.ref w_TIMEOUT_ROLLBACKED) ∧ Fr n0 L ∧ h = h0
theorem ef_6 (m : MethodId) (x0 : Int32) : entryFrame m #[(.int x0)] 1 = mkF m 0 #[.val (.int x0)] [] := by first | (simp [entryFrame, mkF, argsToLocals, Value.category]; done) | rfl
set_option maxRecDepth 65536 in
set_option maxHeartbeats 40000000 in
theorem pick6 (l : Launch) (Z : State) (a0 : Array Value) (hw : ∀ d ∈ tables_1, d.before a0 Z = true) (ws : List Jvm.Cond) (w_TIMEOUT_ROLLBACKED : Addr) (h0 : Heap) (n0 : Nat) (O : Old Z n0 h0) (S_w_TIMEOUT_ROLLBACKED : Sta Z Z.heap "com/example/concordat/concordat/GlobalStatus" "TIMEOUT_ROLLBACKED" "Lcom/example/concordat/concordat/GlobalStatus;" (.ref w_TIMEOUT_ROLLBACKED)) :
    Ctr l Z y_0 method_2_code 1 (some (.object "com/example/concordat/concordat/GlobalStatus")) ws ({ frames := 0, cells := 0, slots := 0, locals := 0 } : Room) #[(.int (6 : Int32))] h0 (Q_pick6 Z w_TIMEOUT_ROLLBACKED h0 n0) := by
  refine MetFree.of_bodySF (plainFor_of_name pn_0) hisR ?_
  intro p e s m args below meth c s₁ Bd hml0 hP hK
  obtain ⟨rfl, hZ, hh⟩ := hP
  have W := fun (i : Nat) {d : Jvm.Cond} (h : tables_1[i]? = some d) => hw d (List.mem_of_getElem? h)
  have hx := Bd.exec
  have hby := Bd.bytes
  have hml : c.maxLocals = 1 := hml0
  have hown : s.vm.findClass "com/example/concordat/concordat/GlobalStatusIsFinishedPinLaw" = some m.cls := findClass_of_methodNamed Bd.named
  have hnm := (name_of_methodNamed Bd.named Bd.method).1
  have X0 : Stand p l e ({ frames := 0, cells := 0, slots := 0, locals := 0 } : Room) s m #[(.int (6 : Int32))] below meth c s₁ [] 0 0 := Stand.of_body Bd
  have e0 : s₁.heap = h0 := by rw [← hh, Bd.state]; rfl
  have N0 := Fr.nil n0
  have pre0 : ∀ t, Steps p.tables e below (s₁.setTop (mkF m 0 #[.val (.int (6 : Int32))] [])) t → Steps p.tables e below (s₁.setTop (entryFrame m #[(.int (6 : Int32))] 1)) t := fun t k => castTop (ef_6 m (6 : Int32)) k
  obtain ⟨T1, X1, e1, st1⟩ := getS2 X0 hx hZ hown (host := "") (Or.inl (W 20 rfl)) Via.refl e0 (S_w_TIMEOUT_ROLLBACKED.ext O.2) (g := (mkF m 59 #[iv 6] [])) rfl (hb hby d1_59)
  obtain ⟨fs, hr, hrun, hended, hW, hsame⟩ := X1.leave (v := some (.ref w_TIMEOUT_ROLLBACKED)) (fun h => by rw [Bd.returns] at h; cases h)
  refine ⟨_, _, pre0 _ ?_, hrun, hended, _, _, rfl, ?_, ⟨_, rfl⟩, hW, hsame.mono (by decide) (by decide)⟩
  · show Sq p e below m s₁ 0 #[iv 6] [] _
    refine XS.iloadN X0.here hx rfl (hb hby d1_0) rfl ?_
    refine XS.ifYes X0.here hx rfl (pc0 := 1) (pc' := 8) rfl (hb hby d1_1) rfl ((if0 _ _).trans (feq (by decide)).2) (by decide) (by decide) ?_
    show Sq p e below m s₁ 8 #[iv 6] [] _
    refine XS.iloadN X0.here hx rfl (hb hby d1_8) rfl ?_
    refine XS.iconst X0.here hx rfl (hb hby d1_9) ?_
    show Sq p e below m s₁ 10 #[iv 6] [.int 1, .int 6] _
    refine XS.icmpYes X0.here hx rfl (pc0 := 10) (pc' := 17) rfl (hb hby d1_10) rfl (feq (by decide)).2 (by decide) (by decide) ?_
    refine XS.iloadN X0.here hx rfl (hb hby d1_17) rfl ?_
    show Sq p e below m s₁ 18 #[iv 6] [.int 6] _
    refine XS.iconst X0.here hx rfl (hb hby d1_18) ?_
    refine XS.icmpYes X0.here hx rfl (pc0 := 19) (pc' := 26) rfl (hb hby d1_19) rfl (feq (by decide)).2 (by decide) (by decide) ?_
    show Sq p e below m s₁ 26 #[iv 6] [] _
    refine XS.iloadN X0.here hx rfl (hb hby d1_26) rfl ?_
    refine XS.iconst X0.here hx rfl (hb hby d1_27) ?_
    show Sq p e below m s₁ 28 #[iv 6] [.int 3, .int 6] _
    refine XS.icmpYes X0.here hx rfl (pc0 := 28) (pc' := 35) rfl (hb hby d1_28) rfl (feq (by decide)).2 (by decide) (by decide) ?_
    refine XS.iloadN X0.here hx rfl (hb hby d1_35) rfl ?_
    show Sq p e below m s₁ 36 #[iv 6] [.int 6] _
    refine XS.iconst X0.here hx rfl (hb hby d1_36) ?_
    refine XS.icmpYes X0.here hx rfl (pc0 := 37) (pc' := 44) rfl (hb hby d1_37) rfl (feq (by decide)).2 (by decide) (by decide) ?_
    show Sq p e below m s₁ 44 #[iv 6] [] _
    refine XS.iloadN X0.here hx rfl (hb hby d1_44) rfl ?_
    refine XS.iconst X0.here hx rfl (hb hby d1_45) ?_
    show Sq p e below m s₁ 46 #[iv 6] [.int 5, .int 6] _
    refine XS.icmpYes X0.here hx rfl (pc0 := 46) (pc' := 53) rfl (hb hby d1_46) rfl (feq (by decide)).2 (by decide) (by decide) ?_
    refine XS.iloadN X0.here hx rfl (hb hby d1_53) rfl ?_
    show Sq p e below m s₁ 54 #[iv 6] [.int 6] _
    refine XS.bipush X0.here hx rfl (hb hby d1_54) ?_
    refine XS.icmpNo X0.here hx rfl (hb hby d1_56) rfl (teq (rfl : (6 : Int32) = (6 : Int32))).2 ?_
    show Sq p e below m s₁ 59 #[iv 6] [] _
    refine st1 _ ?_
    show Sq p e below m T1 62 #[iv 6] [.ref w_TIMEOUT_ROLLBACKED] _
    jvm_step X1.here [X1.here.top, hx, (hb hby d1_62), X1.method', Bd.returns, Value.isRef, FieldType.isReference]
    first | (intro acts; rw [hr _ acts rfl rfl rfl]) | rw [hr _ _ rfl rfl rfl]
    exact Steps.refl _
  · show Q_pick6 Z w_TIMEOUT_ROLLBACKED h0 n0 _ T1.heap _
    rw [e1]
    exact ⟨rfl, N0, rfl⟩
theorem d1_63 : decode method_2_code 63 = .ok (.getstatic 31, 3) := by decide +kernel
theorem d1_66 : decode method_2_code 66 = .ok (.areturn, 1) := by decide +kernel
def Q_pick7 (Z : State) (w_UNKNOWN : Addr) (h0 : Heap) (n0 : Nat) (v : Option Value) (h : Heap) (L : List Loc) : Prop := v = some (.ref w_UNKNOWN) ∧ Fr n0 L ∧ h = h0
theorem ef_7 (m : MethodId) (x0 : Int32) : entryFrame m #[(.int x0)] 1 = mkF m 0 #[.val (.int x0)] [] := by first | (simp [entryFrame, mkF, argsToLocals, Value.category]; done) | rfl
set_option maxRecDepth 65536 in
set_option maxHeartbeats 40000000 in
theorem pick7 (l : Launch) (Z : State) (a0 : Array Value) (hw : ∀ d ∈ tables_1, d.before a0 Z = true) (ws : List Jvm.Cond) (w_UNKNOWN : Addr) (h0 : Heap) (n0 : Nat) (O : Old Z n0 h0) (S_w_UNKNOWN : Sta Z Z.heap "com/example/concordat/concordat/GlobalStatus" "UNKNOWN" "Lcom/example/concordat/concordat/GlobalStatus;" (.ref w_UNKNOWN)) :
    Ctr l Z y_0 method_2_code 1 (some (.object "com/example/concordat/concordat/GlobalStatus")) ws ({ frames := 0, cells := 0, slots := 0, locals := 0 } : Room) #[(.int (7 : Int32))] h0 (Q_pick7 Z w_UNKNOWN h0 n0) := by
  refine MetFree.of_bodySF (plainFor_of_name pn_0) hisR ?_
  intro p e s m args below meth c s₁ Bd hml0 hP hK
  obtain ⟨rfl, hZ, hh⟩ := hP
  have W := fun (i : Nat) {d : Jvm.Cond} (h : tables_1[i]? = some d) => hw d (List.mem_of_getElem? h)
  have hx := Bd.exec
  have hby := Bd.bytes
  have hml : c.maxLocals = 1 := hml0
  have hown : s.vm.findClass "com/example/concordat/concordat/GlobalStatusIsFinishedPinLaw" = some m.cls := findClass_of_methodNamed Bd.named
  have hnm := (name_of_methodNamed Bd.named Bd.method).1
  have X0 : Stand p l e ({ frames := 0, cells := 0, slots := 0, locals := 0 } : Room) s m #[(.int (7 : Int32))] below meth c s₁ [] 0 0 := Stand.of_body Bd
  have e0 : s₁.heap = h0 := by rw [← hh, Bd.state]; rfl
  have N0 := Fr.nil n0
  have pre0 : ∀ t, Steps p.tables e below (s₁.setTop (mkF m 0 #[.val (.int (7 : Int32))] [])) t → Steps p.tables e below (s₁.setTop (entryFrame m #[(.int (7 : Int32))] 1)) t := fun t k => castTop (ef_7 m (7 : Int32)) k
  obtain ⟨T1, X1, e1, st1⟩ := getS2 X0 hx hZ hown (host := "") (Or.inl (W 21 rfl)) Via.refl e0 (S_w_UNKNOWN.ext O.2) (g := (mkF m 63 #[iv 7] [])) rfl (hb hby d1_63)
  obtain ⟨fs, hr, hrun, hended, hW, hsame⟩ := X1.leave (v := some (.ref w_UNKNOWN)) (fun h => by rw [Bd.returns] at h; cases h)
  refine ⟨_, _, pre0 _ ?_, hrun, hended, _, _, rfl, ?_, ⟨_, rfl⟩, hW, hsame.mono (by decide) (by decide)⟩
  · show Sq p e below m s₁ 0 #[iv 7] [] _
    refine XS.iloadN X0.here hx rfl (hb hby d1_0) rfl ?_
    refine XS.ifYes X0.here hx rfl (pc0 := 1) (pc' := 8) rfl (hb hby d1_1) rfl ((if0 _ _).trans (feq (by decide)).2) (by decide) (by decide) ?_
    show Sq p e below m s₁ 8 #[iv 7] [] _
    refine XS.iloadN X0.here hx rfl (hb hby d1_8) rfl ?_
    refine XS.iconst X0.here hx rfl (hb hby d1_9) ?_
    show Sq p e below m s₁ 10 #[iv 7] [.int 1, .int 7] _
    refine XS.icmpYes X0.here hx rfl (pc0 := 10) (pc' := 17) rfl (hb hby d1_10) rfl (feq (by decide)).2 (by decide) (by decide) ?_
    refine XS.iloadN X0.here hx rfl (hb hby d1_17) rfl ?_
    show Sq p e below m s₁ 18 #[iv 7] [.int 7] _
    refine XS.iconst X0.here hx rfl (hb hby d1_18) ?_
    refine XS.icmpYes X0.here hx rfl (pc0 := 19) (pc' := 26) rfl (hb hby d1_19) rfl (feq (by decide)).2 (by decide) (by decide) ?_
    show Sq p e below m s₁ 26 #[iv 7] [] _
    refine XS.iloadN X0.here hx rfl (hb hby d1_26) rfl ?_
    refine XS.iconst X0.here hx rfl (hb hby d1_27) ?_
    show Sq p e below m s₁ 28 #[iv 7] [.int 3, .int 7] _
    refine XS.icmpYes X0.here hx rfl (pc0 := 28) (pc' := 35) rfl (hb hby d1_28) rfl (feq (by decide)).2 (by decide) (by decide) ?_
    refine XS.iloadN X0.here hx rfl (hb hby d1_35) rfl ?_
    show Sq p e below m s₁ 36 #[iv 7] [.int 7] _
    refine XS.iconst X0.here hx rfl (hb hby d1_36) ?_
    refine XS.icmpYes X0.here hx rfl (pc0 := 37) (pc' := 44) rfl (hb hby d1_37) rfl (feq (by decide)).2 (by decide) (by decide) ?_
    show Sq p e below m s₁ 44 #[iv 7] [] _
    refine XS.iloadN X0.here hx rfl (hb hby d1_44) rfl ?_
    refine XS.iconst X0.here hx rfl (hb hby d1_45) ?_
    show Sq p e below m s₁ 46 #[iv 7] [.int 5, .int 7] _
    refine XS.icmpYes X0.here hx rfl (pc0 := 46) (pc' := 53) rfl (hb hby d1_46) rfl (feq (by decide)).2 (by decide) (by decide) ?_
    refine XS.iloadN X0.here hx rfl (hb hby d1_53) rfl ?_
    show Sq p e below m s₁ 54 #[iv 7] [.int 7] _
    refine XS.bipush X0.here hx rfl (hb hby d1_54) ?_
    refine XS.icmpYes X0.here hx rfl (pc0 := 56) (pc' := 63) rfl (hb hby d1_56) rfl (feq (by decide)).2 (by decide) (by decide) ?_
    show Sq p e below m s₁ 63 #[iv 7] [] _
    refine st1 _ ?_
    show Sq p e below m T1 66 #[iv 7] [.ref w_UNKNOWN] _
    jvm_step X1.here [X1.here.top, hx, (hb hby d1_66), X1.method', Bd.returns, Value.isRef, FieldType.isReference]
    first | (intro acts; rw [hr _ acts rfl rfl rfl]) | rw [hr _ _ rfl rfl rfl]
    exact Steps.refl _
  · show Q_pick7 Z w_UNKNOWN h0 n0 _ T1.heap _
    rw [e1]
    exact ⟨rfl, N0, rfl⟩
theorem d2_0 : decode prog_10_method_5_code 0 = .ok (.aload_n 0, 1) := by decide +kernel
theorem d2_1 : decode prog_10_method_5_code 1 = .ok (.getstatic 10, 3) := by decide +kernel
theorem d2_4 : decode prog_10_method_5_code 4 = .ok (.if_acmp .eq 17, 3) := by decide +kernel
theorem d2_21 : decode prog_10_method_5_code 21 = .ok (.iconst 1, 1) := by decide +kernel
theorem d2_22 : decode prog_10_method_5_code 22 = .ok (.goto 4, 3) := by decide +kernel
theorem d2_26 : decode prog_10_method_5_code 26 = .ok (.ireturn, 1) := by decide +kernel
def Q_fin2 (Z : State) (w_COMMITTED : Addr) (h0 : Heap) (n0 : Nat) (v : Option Value) (h : Heap) (L : List Loc) : Prop := v = some (.int (1 : Int32)) ∧ Fr n0 L ∧ h = h0
theorem ef_8 (m : MethodId) (x0 : Addr) : entryFrame m #[(.ref x0)] 1 = mkF m 0 #[.val (.ref x0)] [] := by first | (simp [entryFrame, mkF, argsToLocals, Value.category]; done) | rfl
theorem pn_1 : plainName "com/example/concordat/concordat/GlobalStatus" = true := by first | (simp [plainName, overriddenIn]; done) | decide +kernel
abbrev y_1 : MethodName := ⟨"com/example/concordat/concordat/GlobalStatus", "isFinished", "()Z"⟩
set_option maxRecDepth 65536 in
set_option maxHeartbeats 40000000 in
theorem fin2 (l : Launch) (Z : State) (a0 : Array Value) (hw : ∀ d ∈ tables_1, d.before a0 Z = true) (ws : List Jvm.Cond) (w_COMMITTED : Addr) (h0 : Heap) (n0 : Nat) (O : Old Z n0 h0) (S_w_COMMITTED : Sta Z Z.heap "com/example/concordat/concordat/GlobalStatus" "COMMITTED" "Lcom/example/concordat/concordat/GlobalStatus;" (.ref w_COMMITTED)) :
    Ctr l Z y_1 prog_10_method_5_code 1 (some .boolean) ws ({ frames := 0, cells := 0, slots := 0, locals := 0 } : Room) #[(.ref w_COMMITTED)] h0 (Q_fin2 Z w_COMMITTED h0 n0) := by
  refine MetFree.of_bodySF (plainFor_of_name pn_1) hisR ?_
  intro p e s m args below meth c s₁ Bd hml0 hP hK
  obtain ⟨rfl, hZ, hh⟩ := hP
  have W := fun (i : Nat) {d : Jvm.Cond} (h : tables_1[i]? = some d) => hw d (List.mem_of_getElem? h)
  have hx := Bd.exec
  have hby := Bd.bytes
  have hml : c.maxLocals = 1 := hml0
  have hown : s.vm.findClass "com/example/concordat/concordat/GlobalStatus" = some m.cls := findClass_of_methodNamed Bd.named
  have hnm := (name_of_methodNamed Bd.named Bd.method).1
  have X0 : Stand p l e ({ frames := 0, cells := 0, slots := 0, locals := 0 } : Room) s m #[(.ref w_COMMITTED)] below meth c s₁ [] 0 0 := Stand.of_body Bd
  have e0 : s₁.heap = h0 := by rw [← hh, Bd.state]; rfl
  have N0 := Fr.nil n0
  have pre0 : ∀ t, Steps p.tables e below (s₁.setTop (mkF m 0 #[.val (.ref w_COMMITTED)] [])) t → Steps p.tables e below (s₁.setTop (entryFrame m #[(.ref w_COMMITTED)] 1)) t := fun t k => castTop (ef_8 m w_COMMITTED) k
  obtain ⟨T1, X1, e1, st1⟩ := getS2 X0 hx hZ hown (host := "") (Or.inl (W 12 rfl)) Via.refl e0 (S_w_COMMITTED.ext O.2) (g := (mkF m 1 #[rv w_COMMITTED] [.ref w_COMMITTED])) rfl (hb hby d2_1)
  obtain ⟨fs, hr, hrun, hended, hW, hsame⟩ := X1.leave (v := some (.int (1 : Int32))) (fun h => by rw [Bd.returns] at h; cases h)
  refine ⟨_, _, pre0 _ ?_, hrun, hended, _, _, rfl, ?_, ⟨_, rfl⟩, hW, hsame.mono (by decide) (by decide)⟩
  · show Sq p e below m s₁ 0 #[rv w_COMMITTED] [] _
    refine XS.aloadN X0.here hx rfl (hb hby d2_0) rfl rfl ?_
    show Sq p e below m s₁ 1 #[rv w_COMMITTED] [.ref w_COMMITTED] _
    refine st1 _ ?_
    show Sq p e below m T1 4 #[rv w_COMMITTED] [.ref w_COMMITTED, .ref w_COMMITTED] _
    refine Jvm.RoadKit.acmp (g := (mkF m 4 #[rv w_COMMITTED] [.ref w_COMMITTED, .ref w_COMMITTED])) X1 hx rfl rfl rfl (pc0 := 4) (pc' := 21) (same := true) rfl (hb hby d2_4) rfl (decide_eq_true rfl) (by decide) (by decide) ?_
    show Sq p e below m T1 21 #[rv w_COMMITTED] [] _
    refine XS.iconst X1.here hx rfl (hb hby d2_21) ?_
    refine XS.goto X1.here hx rfl (pc0 := 22) (pc' := 26) rfl (hb hby d2_22) (by decide) (by decide) ?_
    show Sq p e below m T1 26 #[rv w_COMMITTED] [.int 1] _
    exact retN X1 hx (t := .boolean) Bd.returns (by simp) (hb hby d2_26) hr
  · show Q_fin2 Z w_COMMITTED h0 n0 _ T1.heap _
    rw [e1]
    exact ⟨rfl, N0, rfl⟩
theorem d2_7 : decode prog_10_method_5_code 7 = .ok (.aload_n 0, 1) := by decide +kernel
theorem d2_8 : decode prog_10_method_5_code 8 = .ok (.getstatic 19, 3) := by decide +kernel
theorem d2_11 : decode prog_10_method_5_code 11 = .ok (.if_acmp .eq 10, 3) := by decide +kernel
def Q_fin5 (Z : State) (w_COMMITTED : Addr) (w_ROLLBACKED : Addr) (h0 : Heap) (n0 : Nat) (v : Option Value) (h : Heap) (L : List Loc) : Prop := v = some (.int (1 : Int32)) ∧ Fr n0 L ∧ h = h0
set_option maxRecDepth 65536 in
set_option maxHeartbeats 40000000 in
theorem fin5 (l : Launch) (Z : State) (a0 : Array Value) (hw : ∀ d ∈ tables_1, d.before a0 Z = true) (ws : List Jvm.Cond) (w_COMMITTED : Addr) (w_ROLLBACKED : Addr) (h0 : Heap) (n0 : Nat) (O : Old Z n0 h0) (S_w_COMMITTED : Sta Z Z.heap "com/example/concordat/concordat/GlobalStatus" "COMMITTED" "Lcom/example/concordat/concordat/GlobalStatus;" (.ref w_COMMITTED)) (S_w_ROLLBACKED : Sta Z Z.heap "com/example/concordat/concordat/GlobalStatus" "ROLLBACKED" "Lcom/example/concordat/concordat/GlobalStatus;" (.ref w_ROLLBACKED)) (ne_w_ROLLBACKED_w_COMMITTED : w_ROLLBACKED ≠ w_COMMITTED) :
    Ctr l Z y_1 prog_10_method_5_code 1 (some .boolean) ws ({ frames := 0, cells := 0, slots := 0, locals := 0 } : Room) #[(.ref w_ROLLBACKED)] h0 (Q_fin5 Z w_COMMITTED w_ROLLBACKED h0 n0) := by
  refine MetFree.of_bodySF (plainFor_of_name pn_1) hisR ?_
  intro p e s m args below meth c s₁ Bd hml0 hP hK
  obtain ⟨rfl, hZ, hh⟩ := hP
  have W := fun (i : Nat) {d : Jvm.Cond} (h : tables_1[i]? = some d) => hw d (List.mem_of_getElem? h)
  have hx := Bd.exec
  have hby := Bd.bytes
  have hml : c.maxLocals = 1 := hml0
  have hown : s.vm.findClass "com/example/concordat/concordat/GlobalStatus" = some m.cls := findClass_of_methodNamed Bd.named
  have hnm := (name_of_methodNamed Bd.named Bd.method).1
  have X0 : Stand p l e ({ frames := 0, cells := 0, slots := 0, locals := 0 } : Room) s m #[(.ref w_ROLLBACKED)] below meth c s₁ [] 0 0 := Stand.of_body Bd
  have e0 : s₁.heap = h0 := by rw [← hh, Bd.state]; rfl
  have N0 := Fr.nil n0
  have pre0 : ∀ t, Steps p.tables e below (s₁.setTop (mkF m 0 #[.val (.ref w_ROLLBACKED)] [])) t → Steps p.tables e below (s₁.setTop (entryFrame m #[(.ref w_ROLLBACKED)] 1)) t := fun t k => castTop (ef_8 m w_ROLLBACKED) k
  obtain ⟨T1, X1, e1, st1⟩ := getS2 X0 hx hZ hown (host := "") (Or.inl (W 12 rfl)) Via.refl e0 (S_w_COMMITTED.ext O.2) (g := (mkF m 1 #[rv w_ROLLBACKED] [.ref w_ROLLBACKED])) rfl (hb hby d2_1)
  obtain ⟨T2, X2, e2, st2⟩ := getS2 X1 hx hZ hown (host := "") (Or.inl (W 14 rfl)) Via.refl e1 (S_w_ROLLBACKED.ext O.2) (g := (mkF m 8 #[rv w_ROLLBACKED] [.ref w_ROLLBACKED])) rfl (hb hby d2_8)
  obtain ⟨fs, hr, hrun, hended, hW, hsame⟩ := X2.leave (v := some (.int (1 : Int32))) (fun h => by rw [Bd.returns] at h; cases h)
  refine ⟨_, _, pre0 _ ?_, hrun, hended, _, _, rfl, ?_, ⟨_, rfl⟩, hW, hsame.mono (by decide) (by decide)⟩
  · show Sq p e below m s₁ 0 #[rv w_ROLLBACKED] [] _
    refine XS.aloadN X0.here hx rfl (hb hby d2_0) rfl rfl ?_
    show Sq p e below m s₁ 1 #[rv w_ROLLBACKED] [.ref w_ROLLBACKED] _
    refine st1 _ ?_
    show Sq p e below m T1 4 #[rv w_ROLLBACKED] [.ref w_COMMITTED, .ref w_ROLLBACKED] _
    refine Jvm.RoadKit.acmp (g := (mkF m 4 #[rv w_ROLLBACKED] [.ref w_COMMITTED, .ref w_ROLLBACKED])) X1 hx rfl rfl rfl (pc0 := 4) (pc' := 7) (same := false) rfl (hb hby d2_4) rfl (decide_eq_false fun q => ne_w_ROLLBACKED_w_COMMITTED (Value.ref.inj q)) (by decide) (by decide) ?_
    show Sq p e below m T1 7 #[rv w_ROLLBACKED] [] _
    refine XS.aloadN X1.here hx rfl (hb hby d2_7) rfl rfl ?_
    show Sq p e below m T1 8 #[rv w_ROLLBACKED] [.ref w_ROLLBACKED] _
    refine st2 _ ?_
    show Sq p e below m T2 11 #[rv w_ROLLBACKED] [.ref w_ROLLBACKED, .ref w_ROLLBACKED] _
    refine Jvm.RoadKit.acmp (g := (mkF m 11 #[rv w_ROLLBACKED] [.ref w_ROLLBACKED, .ref w_ROLLBACKED])) X2 hx rfl rfl rfl (pc0 := 11) (pc' := 21) (same := true) rfl (hb hby d2_11) rfl (decide_eq_true rfl) (by decide) (by decide) ?_
    show Sq p e below m T2 21 #[rv w_ROLLBACKED] [] _
    refine XS.iconst X2.here hx rfl (hb hby d2_21) ?_
    refine XS.goto X2.here hx rfl (pc0 := 22) (pc' := 26) rfl (hb hby d2_22) (by decide) (by decide) ?_
    show Sq p e below m T2 26 #[rv w_ROLLBACKED] [.int 1] _
    exact retN X2 hx (t := .boolean) Bd.returns (by simp) (hb hby d2_26) hr
  · show Q_fin5 Z w_COMMITTED w_ROLLBACKED h0 n0 _ T2.heap _
    rw [e2]
    exact ⟨rfl, N0, rfl⟩
theorem d2_14 : decode prog_10_method_5_code 14 = .ok (.aload_n 0, 1) := by decide +kernel
theorem d2_15 : decode prog_10_method_5_code 15 = .ok (.getstatic 22, 3) := by decide +kernel
theorem d2_18 : decode prog_10_method_5_code 18 = .ok (.if_acmp .ne 7, 3) := by decide +kernel
def Q_fin6 (Z : State) (w_COMMITTED : Addr) (w_ROLLBACKED : Addr) (w_TIMEOUT_ROLLBACKED : Addr) (h0 : Heap) (n0 : Nat) (v : Option Value) (h : Heap) (L : List Loc) : Prop := v = some (.int (1 : Int32)) ∧ Fr n0 L ∧ h = h0
set_option maxRecDepth 65536 in
set_option maxHeartbeats 40000000 in
theorem fin6 (l : Launch) (Z : State) (a0 : Array Value) (hw : ∀ d ∈ tables_1, d.before a0 Z = true) (ws : List Jvm.Cond) (w_COMMITTED : Addr) (w_ROLLBACKED : Addr) (w_TIMEOUT_ROLLBACKED : Addr) (h0 : Heap) (n0 : Nat) (O : Old Z n0 h0) (S_w_COMMITTED : Sta Z Z.heap "com/example/concordat/concordat/GlobalStatus" "COMMITTED" "Lcom/example/concordat/concordat/GlobalStatus;" (.ref w_COMMITTED)) (S_w_ROLLBACKED : Sta Z Z.heap "com/example/concordat/concordat/GlobalStatus" "ROLLBACKED" "Lcom/example/concordat/concordat/GlobalStatus;" (.ref w_ROLLBACKED)) (S_w_TIMEOUT_ROLLBACKED : Sta Z Z.heap "com/example/concordat/concordat/GlobalStatus" "TIMEOUT_ROLLBACKED" "Lcom/example/concordat/concordat/GlobalStatus;" (.ref w_TIMEOUT_ROLLBACKED)) (ne_w_TIMEOUT_ROLLBACKED_w_COMMITTED : w_TIMEOUT_ROLLBACKED ≠ w_COMMITTED) (ne_w_TIMEOUT_ROLLBACKED_w_ROLLBACKED : w_TIMEOUT_ROLLBACKED ≠ w_ROLLBACKED) :
    Ctr l Z y_1 prog_10_method_5_code 1 (some .boolean) ws ({ frames := 0, cells := 0, slots := 0, locals := 0 } : Room) #[(.ref w_TIMEOUT_ROLLBACKED)] h0 (Q_fin6 Z w_COMMITTED w_ROLLBACKED w_TIMEOUT_ROLLBACKED h0 n0) := by
  refine MetFree.of_bodySF (plainFor_of_name pn_1) hisR ?_
  intro p e s m args below meth c s₁ Bd hml0 hP hK
  obtain ⟨rfl, hZ, hh⟩ := hP
  have W := fun (i : Nat) {d : Jvm.Cond} (h : tables_1[i]? = some d) => hw d (List.mem_of_getElem? h)
  have hx := Bd.exec
  have hby := Bd.bytes
  have hml : c.maxLocals = 1 := hml0
  have hown : s.vm.findClass "com/example/concordat/concordat/GlobalStatus" = some m.cls := findClass_of_methodNamed Bd.named
  have hnm := (name_of_methodNamed Bd.named Bd.method).1
  have X0 : Stand p l e ({ frames := 0, cells := 0, slots := 0, locals := 0 } : Room) s m #[(.ref w_TIMEOUT_ROLLBACKED)] below meth c s₁ [] 0 0 := Stand.of_body Bd
  have e0 : s₁.heap = h0 := by rw [← hh, Bd.state]; rfl
  have N0 := Fr.nil n0
  have pre0 : ∀ t, Steps p.tables e below (s₁.setTop (mkF m 0 #[.val (.ref w_TIMEOUT_ROLLBACKED)] [])) t → Steps p.tables e below (s₁.setTop (entryFrame m #[(.ref w_TIMEOUT_ROLLBACKED)] 1)) t := fun t k => castTop (ef_8 m w_TIMEOUT_ROLLBACKED) k
  obtain ⟨T1, X1, e1, st1⟩ := getS2 X0 hx hZ hown (host := "") (Or.inl (W 12 rfl)) Via.refl e0 (S_w_COMMITTED.ext O.2) (g := (mkF m 1 #[rv w_TIMEOUT_ROLLBACKED] [.ref w_TIMEOUT_ROLLBACKED])) rfl (hb hby d2_1)
  obtain ⟨T2, X2, e2, st2⟩ := getS2 X1 hx hZ hown (host := "") (Or.inl (W 14 rfl)) Via.refl e1 (S_w_ROLLBACKED.ext O.2) (g := (mkF m 8 #[rv w_TIMEOUT_ROLLBACKED] [.ref w_TIMEOUT_ROLLBACKED])) rfl (hb hby d2_8)
  obtain ⟨T3, X3, e3, st3⟩ := getS2 X2 hx hZ hown (host := "") (Or.inl (W 16 rfl)) Via.refl e2 (S_w_TIMEOUT_ROLLBACKED.ext O.2) (g := (mkF m 15 #[rv w_TIMEOUT_ROLLBACKED] [.ref w_TIMEOUT_ROLLBACKED])) rfl (hb hby d2_15)
  obtain ⟨fs, hr, hrun, hended, hW, hsame⟩ := X3.leave (v := some (.int (1 : Int32))) (fun h => by rw [Bd.returns] at h; cases h)
  refine ⟨_, _, pre0 _ ?_, hrun, hended, _, _, rfl, ?_, ⟨_, rfl⟩, hW, hsame.mono (by decide) (by decide)⟩
  · show Sq p e below m s₁ 0 #[rv w_TIMEOUT_ROLLBACKED] [] _
    refine XS.aloadN X0.here hx rfl (hb hby d2_0) rfl rfl ?_
    show Sq p e below m s₁ 1 #[rv w_TIMEOUT_ROLLBACKED] [.ref w_TIMEOUT_ROLLBACKED] _
    refine st1 _ ?_
    show Sq p e below m T1 4 #[rv w_TIMEOUT_ROLLBACKED] [.ref w_COMMITTED, .ref w_TIMEOUT_ROLLBACKED] _
    refine Jvm.RoadKit.acmp (g := (mkF m 4 #[rv w_TIMEOUT_ROLLBACKED] [.ref w_COMMITTED, .ref w_TIMEOUT_ROLLBACKED])) X1 hx rfl rfl rfl (pc0 := 4) (pc' := 7) (same := false) rfl (hb hby d2_4) rfl (decide_eq_false fun q => ne_w_TIMEOUT_ROLLBACKED_w_COMMITTED (Value.ref.inj q)) (by decide) (by decide) ?_
    show Sq p e below m T1 7 #[rv w_TIMEOUT_ROLLBACKED] [] _
    refine XS.aloadN X1.here hx rfl (hb hby d2_7) rfl rfl ?_
    show Sq p e below m T1 8 #[rv w_TIMEOUT_ROLLBACKED] [.ref w_TIMEOUT_ROLLBACKED] _
    refine st2 _ ?_
    show Sq p e below m T2 11 #[rv w_TIMEOUT_ROLLBACKED] [.ref w_ROLLBACKED, .ref w_TIMEOUT_ROLLBACKED] _
    refine Jvm.RoadKit.acmp (g := (mkF m 11 #[rv w_TIMEOUT_ROLLBACKED] [.ref w_ROLLBACKED, .ref w_TIMEOUT_ROLLBACKED])) X2 hx rfl rfl rfl (pc0 := 11) (pc' := 14) (same := false) rfl (hb hby d2_11) rfl (decide_eq_false fun q => ne_w_TIMEOUT_ROLLBACKED_w_ROLLBACKED (Value.ref.inj q)) (by decide) (by decide) ?_
    show Sq p e below m T2 14 #[rv w_TIMEOUT_ROLLBACKED] [] _
    refine XS.aloadN X2.here hx rfl (hb hby d2_14) rfl rfl ?_
    show Sq p e below m T2 15 #[rv w_TIMEOUT_ROLLBACKED] [.ref w_TIMEOUT_ROLLBACKED] _
    refine st3 _ ?_
    show Sq p e below m T3 18 #[rv w_TIMEOUT_ROLLBACKED] [.ref w_TIMEOUT_ROLLBACKED, .ref w_TIMEOUT_ROLLBACKED] _
    refine Jvm.RoadKit.acmp (g := (mkF m 18 #[rv w_TIMEOUT_ROLLBACKED] [.ref w_TIMEOUT_ROLLBACKED, .ref w_TIMEOUT_ROLLBACKED])) X3 hx rfl rfl rfl (pc0 := 18) (pc' := 21) (same := true) rfl (hb hby d2_18) rfl (decide_eq_true rfl) (by decide) (by decide) ?_
    show Sq p e below m T3 21 #[rv w_TIMEOUT_ROLLBACKED] [] _
    refine XS.iconst X3.here hx rfl (hb hby d2_21) ?_
    refine XS.goto X3.here hx rfl (pc0 := 22) (pc' := 26) rfl (hb hby d2_22) (by decide) (by decide) ?_
    show Sq p e below m T3 26 #[rv w_TIMEOUT_ROLLBACKED] [.int 1] _
    exact retN X3 hx (t := .boolean) Bd.returns (by simp) (hb hby d2_26) hr
  · show Q_fin6 Z w_COMMITTED w_ROLLBACKED w_TIMEOUT_ROLLBACKED h0 n0 _ T3.heap _
    rw [e3]
    exact ⟨rfl, N0, rfl⟩
theorem d2_25 : decode prog_10_method_5_code 25 = .ok (.iconst 0, 1) := by decide +kernel
def Q_fin0 (Z : State) (a : Addr) (w_COMMITTED : Addr) (w_ROLLBACKED : Addr) (w_TIMEOUT_ROLLBACKED : Addr) (h0 : Heap) (n0 : Nat) (v : Option Value) (h : Heap) (L : List Loc) : Prop := v = some (.int (0 : Int32)) ∧ Fr n0 L ∧ h = h0
set_option maxRecDepth 65536 in
set_option maxHeartbeats 40000000 in
theorem fin0 (l : Launch) (Z : State) (a0 : Array Value) (hw : ∀ d ∈ tables_1, d.before a0 Z = true) (ws : List Jvm.Cond) (a : Addr) (w_COMMITTED : Addr) (w_ROLLBACKED : Addr) (w_TIMEOUT_ROLLBACKED : Addr) (h0 : Heap) (n0 : Nat) (O : Old Z n0 h0) (S_w_COMMITTED : Sta Z Z.heap "com/example/concordat/concordat/GlobalStatus" "COMMITTED" "Lcom/example/concordat/concordat/GlobalStatus;" (.ref w_COMMITTED)) (S_w_ROLLBACKED : Sta Z Z.heap "com/example/concordat/concordat/GlobalStatus" "ROLLBACKED" "Lcom/example/concordat/concordat/GlobalStatus;" (.ref w_ROLLBACKED)) (S_w_TIMEOUT_ROLLBACKED : Sta Z Z.heap "com/example/concordat/concordat/GlobalStatus" "TIMEOUT_ROLLBACKED" "Lcom/example/concordat/concordat/GlobalStatus;" (.ref w_TIMEOUT_ROLLBACKED)) (ne_a_w_COMMITTED : a ≠ w_COMMITTED) (ne_a_w_ROLLBACKED : a ≠ w_ROLLBACKED) (ne_a_w_TIMEOUT_ROLLBACKED : a ≠ w_TIMEOUT_ROLLBACKED) :
    Ctr l Z y_1 prog_10_method_5_code 1 (some .boolean) ws ({ frames := 0, cells := 0, slots := 0, locals := 0 } : Room) #[(.ref a)] h0 (Q_fin0 Z a w_COMMITTED w_ROLLBACKED w_TIMEOUT_ROLLBACKED h0 n0) := by
  refine MetFree.of_bodySF (plainFor_of_name pn_1) hisR ?_
  intro p e s m args below meth c s₁ Bd hml0 hP hK
  obtain ⟨rfl, hZ, hh⟩ := hP
  have W := fun (i : Nat) {d : Jvm.Cond} (h : tables_1[i]? = some d) => hw d (List.mem_of_getElem? h)
  have hx := Bd.exec
  have hby := Bd.bytes
  have hml : c.maxLocals = 1 := hml0
  have hown : s.vm.findClass "com/example/concordat/concordat/GlobalStatus" = some m.cls := findClass_of_methodNamed Bd.named
  have hnm := (name_of_methodNamed Bd.named Bd.method).1
  have X0 : Stand p l e ({ frames := 0, cells := 0, slots := 0, locals := 0 } : Room) s m #[(.ref a)] below meth c s₁ [] 0 0 := Stand.of_body Bd
  have e0 : s₁.heap = h0 := by rw [← hh, Bd.state]; rfl
  have N0 := Fr.nil n0
  have pre0 : ∀ t, Steps p.tables e below (s₁.setTop (mkF m 0 #[.val (.ref a)] [])) t → Steps p.tables e below (s₁.setTop (entryFrame m #[(.ref a)] 1)) t := fun t k => castTop (ef_8 m a) k
  obtain ⟨T1, X1, e1, st1⟩ := getS2 X0 hx hZ hown (host := "") (Or.inl (W 12 rfl)) Via.refl e0 (S_w_COMMITTED.ext O.2) (g := (mkF m 1 #[rv a] [.ref a])) rfl (hb hby d2_1)
  obtain ⟨T2, X2, e2, st2⟩ := getS2 X1 hx hZ hown (host := "") (Or.inl (W 14 rfl)) Via.refl e1 (S_w_ROLLBACKED.ext O.2) (g := (mkF m 8 #[rv a] [.ref a])) rfl (hb hby d2_8)
  obtain ⟨T3, X3, e3, st3⟩ := getS2 X2 hx hZ hown (host := "") (Or.inl (W 16 rfl)) Via.refl e2 (S_w_TIMEOUT_ROLLBACKED.ext O.2) (g := (mkF m 15 #[rv a] [.ref a])) rfl (hb hby d2_15)
  obtain ⟨fs, hr, hrun, hended, hW, hsame⟩ := X3.leave (v := some (.int (0 : Int32))) (fun h => by rw [Bd.returns] at h; cases h)
  refine ⟨_, _, pre0 _ ?_, hrun, hended, _, _, rfl, ?_, ⟨_, rfl⟩, hW, hsame.mono (by decide) (by decide)⟩
  · show Sq p e below m s₁ 0 #[rv a] [] _
    refine XS.aloadN X0.here hx rfl (hb hby d2_0) rfl rfl ?_
    show Sq p e below m s₁ 1 #[rv a] [.ref a] _
    refine st1 _ ?_
    show Sq p e below m T1 4 #[rv a] [.ref w_COMMITTED, .ref a] _
    refine Jvm.RoadKit.acmp (g := (mkF m 4 #[rv a] [.ref w_COMMITTED, .ref a])) X1 hx rfl rfl rfl (pc0 := 4) (pc' := 7) (same := false) rfl (hb hby d2_4) rfl (decide_eq_false fun q => ne_a_w_COMMITTED (Value.ref.inj q)) (by decide) (by decide) ?_
    show Sq p e below m T1 7 #[rv a] [] _
    refine XS.aloadN X1.here hx rfl (hb hby d2_7) rfl rfl ?_
    show Sq p e below m T1 8 #[rv a] [.ref a] _
    refine st2 _ ?_
    show Sq p e below m T2 11 #[rv a] [.ref w_ROLLBACKED, .ref a] _
    refine Jvm.RoadKit.acmp (g := (mkF m 11 #[rv a] [.ref w_ROLLBACKED, .ref a])) X2 hx rfl rfl rfl (pc0 := 11) (pc' := 14) (same := false) rfl (hb hby d2_11) rfl (decide_eq_false fun q => ne_a_w_ROLLBACKED (Value.ref.inj q)) (by decide) (by decide) ?_
    show Sq p e below m T2 14 #[rv a] [] _
    refine XS.aloadN X2.here hx rfl (hb hby d2_14) rfl rfl ?_
    show Sq p e below m T2 15 #[rv a] [.ref a] _
    refine st3 _ ?_
    show Sq p e below m T3 18 #[rv a] [.ref w_TIMEOUT_ROLLBACKED, .ref a] _
    refine Jvm.RoadKit.acmp (g := (mkF m 18 #[rv a] [.ref w_TIMEOUT_ROLLBACKED, .ref a])) X3 hx rfl rfl rfl (pc0 := 18) (pc' := 25) (same := false) rfl (hb hby d2_18) rfl (decide_eq_false fun q => ne_a_w_TIMEOUT_ROLLBACKED (Value.ref.inj q)) (by decide) (by decide) ?_
    show Sq p e below m T3 25 #[rv a] [] _
    refine XS.iconst X3.here hx rfl (hb hby d2_25) ?_
    show Sq p e below m T3 26 #[rv a] [.int 0] _
    exact retN X3 hx (t := .boolean) Bd.returns (by simp) (hb hby d2_26) hr
  · show Q_fin0 Z a w_COMMITTED w_ROLLBACKED w_TIMEOUT_ROLLBACKED h0 n0 _ T3.heap _
    rw [e3]
    exact ⟨rfl, N0, rfl⟩
theorem pd_0 : parseMethodDescriptor "(I)Lcom/example/concordat/concordat/GlobalStatus;" = some ⟨[.int], some (.object "com/example/concordat/concordat/GlobalStatus")⟩ := by decide +kernel
theorem pd_1 : parseMethodDescriptor "()Z" = some ⟨[], some .boolean⟩ := by decide +kernel
def Q_rm0 (Z : State) (p1 : Int32) (w_BEGIN : Addr) (w_COMMITTED : Addr) (w_ROLLBACKED : Addr) (w_TIMEOUT_ROLLBACKED : Addr) (w_ROLLBACKING : Addr) (w_UNKNOWN : Addr) (w_COMMITTING : Addr) (w_ROLLBACK_BLOCKED : Addr) (h0 : Heap) (n0 : Nat) (v : Option Value) (h : Heap) (L : List Loc) : Prop := v = some (.int (1 : Int32)) ∧ Fr n0 L
theorem ef_9 (m : MethodId) (x0 : Int32) : entryFrame m #[(.int x0)] maxLocals = mkF m 0 #[.val (.int x0), .unset, .unset, .unset] [] := by first | (simp [entryFrame, mkF, argsToLocals, Value.category, maxLocals]; done) | rfl
set_option maxRecDepth 65536 in
set_option maxHeartbeats 40000000 in
theorem rm0_0 (l : Launch) (Z : State) (a0 : Array Value) (hw : ∀ d ∈ tables_1, d.before a0 Z = true) (ws : List Jvm.Cond) (p1 : Int32) (w_BEGIN : Addr) (w_COMMITTED : Addr) (w_ROLLBACKED : Addr) (w_TIMEOUT_ROLLBACKED : Addr) (w_ROLLBACKING : Addr) (w_UNKNOWN : Addr) (w_COMMITTING : Addr) (w_ROLLBACK_BLOCKED : Addr) (h0 : Heap) (n0 : Nat) (O : Old Z n0 h0) (S_w_BEGIN : Sta Z Z.heap "com/example/concordat/concordat/GlobalStatus" "BEGIN" "Lcom/example/concordat/concordat/GlobalStatus;" (.ref w_BEGIN)) (E_w_BEGIN : Exa Z Z.heap w_BEGIN "com/example/concordat/concordat/GlobalStatus") (S_w_COMMITTED : Sta Z Z.heap "com/example/concordat/concordat/GlobalStatus" "COMMITTED" "Lcom/example/concordat/concordat/GlobalStatus;" (.ref w_COMMITTED)) (E_w_COMMITTED : Exa Z Z.heap w_COMMITTED "com/example/concordat/concordat/GlobalStatus") (S_w_ROLLBACKED : Sta Z Z.heap "com/example/concordat/concordat/GlobalStatus" "ROLLBACKED" "Lcom/example/concordat/concordat/GlobalStatus;" (.ref w_ROLLBACKED)) (E_w_ROLLBACKED : Exa Z Z.heap w_ROLLBACKED "com/example/concordat/concordat/GlobalStatus") (S_w_TIMEOUT_ROLLBACKED : Sta Z Z.heap "com/example/concordat/concordat/GlobalStatus" "TIMEOUT_ROLLBACKED" "Lcom/example/concordat/concordat/GlobalStatus;" (.ref w_TIMEOUT_ROLLBACKED)) (E_w_TIMEOUT_ROLLBACKED : Exa Z Z.heap w_TIMEOUT_ROLLBACKED "com/example/concordat/concordat/GlobalStatus") (S_w_ROLLBACKING : Sta Z Z.heap "com/example/concordat/concordat/GlobalStatus" "ROLLBACKING" "Lcom/example/concordat/concordat/GlobalStatus;" (.ref w_ROLLBACKING)) (E_w_ROLLBACKING : Exa Z Z.heap w_ROLLBACKING "com/example/concordat/concordat/GlobalStatus") (S_w_UNKNOWN : Sta Z Z.heap "com/example/concordat/concordat/GlobalStatus" "UNKNOWN" "Lcom/example/concordat/concordat/GlobalStatus;" (.ref w_UNKNOWN)) (E_w_UNKNOWN : Exa Z Z.heap w_UNKNOWN "com/example/concordat/concordat/GlobalStatus") (S_w_COMMITTING : Sta Z Z.heap "com/example/concordat/concordat/GlobalStatus" "COMMITTING" "Lcom/example/concordat/concordat/GlobalStatus;" (.ref w_COMMITTING)) (E_w_COMMITTING : Exa Z Z.heap w_COMMITTING "com/example/concordat/concordat/GlobalStatus") (S_w_ROLLBACK_BLOCKED : Sta Z Z.heap "com/example/concordat/concordat/GlobalStatus" "ROLLBACK_BLOCKED" "Lcom/example/concordat/concordat/GlobalStatus;" (.ref w_ROLLBACK_BLOCKED)) (E_w_ROLLBACK_BLOCKED : Exa Z Z.heap w_ROLLBACK_BLOCKED "com/example/concordat/concordat/GlobalStatus") (ne_0_2 : w_BEGIN ≠ w_COMMITTED) (ne_0_5 : w_BEGIN ≠ w_ROLLBACKED) (ne_0_6 : w_BEGIN ≠ w_TIMEOUT_ROLLBACKED) (ne_1_2 : w_COMMITTING ≠ w_COMMITTED) (ne_1_5 : w_COMMITTING ≠ w_ROLLBACKED) (ne_1_6 : w_COMMITTING ≠ w_TIMEOUT_ROLLBACKED) (ne_3_2 : w_ROLLBACKING ≠ w_COMMITTED) (ne_3_5 : w_ROLLBACKING ≠ w_ROLLBACKED) (ne_3_6 : w_ROLLBACKING ≠ w_TIMEOUT_ROLLBACKED) (ne_4_2 : w_ROLLBACK_BLOCKED ≠ w_COMMITTED) (ne_4_5 : w_ROLLBACK_BLOCKED ≠ w_ROLLBACKED) (ne_4_6 : w_ROLLBACK_BLOCKED ≠ w_TIMEOUT_ROLLBACKED) (ne_5_2 : w_ROLLBACKED ≠ w_COMMITTED) (ne_6_2 : w_TIMEOUT_ROLLBACKED ≠ w_COMMITTED) (ne_6_5 : w_TIMEOUT_ROLLBACKED ≠ w_ROLLBACKED) (ne_7_2 : w_UNKNOWN ≠ w_COMMITTED) (ne_7_5 : w_UNKNOWN ≠ w_ROLLBACKED) (ne_7_6 : w_UNKNOWN ≠ w_TIMEOUT_ROLLBACKED) (hk : (p1 &&& (7 : Int32)) = (0 : Int32)) :
    Ctr l Z x code maxLocals ret ws room_1 #[(.int p1)] h0 (Q_rm0 Z p1 w_BEGIN w_COMMITTED w_ROLLBACKED w_TIMEOUT_ROLLBACKED w_ROLLBACKING w_UNKNOWN w_COMMITTING w_ROLLBACK_BLOCKED h0 n0) := by
  refine MetFree.of_bodySF (plainFor_of_name pn_0) hisR ?_
  intro p e s m args below meth c s₁ Bd hml0 hP hK
  obtain ⟨rfl, hZ, hh⟩ := hP
  have W := fun (i : Nat) {d : Jvm.Cond} (h : tables_1[i]? = some d) => hw d (List.mem_of_getElem? h)
  have hx := Bd.exec
  have hby := Bd.bytes
  have hml : c.maxLocals = 4 := hml0
  have hown : s.vm.findClass "com/example/concordat/concordat/GlobalStatusIsFinishedPinLaw" = some m.cls := findClass_of_methodNamed Bd.named
  have hnm := (name_of_methodNamed Bd.named Bd.method).1
  have X0 : Stand p l e room_1 s m #[(.int p1)] below meth c s₁ [] 0 0 := Stand.of_body Bd
  have e0 : s₁.heap = h0 := by rw [← hh, Bd.state]; rfl
  have N0 := Fr.nil n0
  have pre0 : ∀ t, Steps p.tables e below (s₁.setTop (mkF m 0 #[.val (.int p1), .unset, .unset, .unset] [])) t → Steps p.tables e below (s₁.setTop (entryFrame m #[(.int p1)] maxLocals)) t := fun t k => castTop (ef_9 m p1) k
  obtain ⟨_, _, ⟨T1, L1, k1, n1⟩, -, X1, ⟨Lc1, hQ1, l1, y1, z1⟩, st1⟩ := Jvm.LawKit.callS X0 hx (y := y_0) hown (mvT hZ (W 0 rfl)) (mvT hZ (W 1 rfl)) (mvT hZ (W 2 rfl)) (mvT hZ (W 3 rfl)) (by decide) (backOf (W := 0) (pick0 l Z a0 hw [] w_BEGIN h0 n0 O S_w_BEGIN) hZ (W 3 rfl) (W 2 rfl) (by decide) (by decide)) (g := (mkF m 6 #[iv p1, iv 0, .unset, .unset] [.int 0])) rfl (by rw [hml]; rfl) (argsL := [.int 0]) (rest := []) (lenOf pd_0 rfl) rfl (by show 2 * 0 + _ ≤ _; exact Nat.le_of_eq rfl) (hb hby at_6) (fun _ _ => ⟨rfl, e0, (by decide : 0 + 0 ≤ _), (by decide : 0 + 0 ≤ _)⟩)
  dsimp only [Pt.U, Pt.locs, Pt.cells, Pt.slots] at X1 l1 y1 z1 st1 hQ1
  subst l1 y1 z1
  obtain ⟨h1, e1⟩ : ∃ z, T1.heap = z := ⟨_, rfl⟩
  rw [e1] at hQ1
  obtain ⟨rfl, N1q, p1_0⟩ := hQ1
  have N1 := Fr.app N0 N1q
  rw [p1_0] at e1
  obtain ⟨cq2, kq2, q2a, q2b, q2c⟩ := isOf hZ e1 (E_w_BEGIN.ext O.2)
  obtain ⟨_, _, ⟨T2, L2, k2, n2⟩, -, X2, ⟨Lc2, hQ2, l2, y2, z2⟩, st2⟩ := X1.virtualBack hx (y := y_1) (z := y_1) hown (mvT hZ (W 7 rfl)) (mvT hZ (W 8 rfl)) (notFace_of_selects (args := #[]) (mvT hZ (W 10 rfl))) (mvT hZ (W 10 rfl)) (mvT hZ (W 9 rfl)) (by decide) (backOf (W := 0) (fin0 l Z a0 hw [] w_BEGIN w_COMMITTED w_ROLLBACKED w_TIMEOUT_ROLLBACKED h0 n0 O S_w_COMMITTED S_w_ROLLBACKED S_w_TIMEOUT_ROLLBACKED ne_0_2 ne_0_5 ne_0_6) hZ (W 11 rfl) (W 5 rfl) (by decide) (by decide)) q2a q2c (g := (mkF m 33 #[iv p1, iv 0, rv w_BEGIN, iv 0] [.ref w_BEGIN])) rfl (by rw [hml]; rfl) (Steps.refl _) (argsL := []) (rest := []) (lenOf pd_1 rfl) rfl (by show 2 * 0 + _ ≤ _; exact Nat.le_of_eq rfl) (hb hby at_33) (fun _ _ => ⟨rfl, e1, (by decide : 0 + 0 ≤ _), (by decide : 0 + 0 ≤ _)⟩)
  dsimp only [Pt.U, Pt.locs, Pt.cells, Pt.slots] at X2 l2 y2 z2 st2 hQ2
  subst l2 y2 z2
  obtain ⟨h2, e2⟩ : ∃ z, T2.heap = z := ⟨_, rfl⟩
  rw [e2] at hQ2
  obtain ⟨rfl, N2q, p2_0⟩ := hQ2
  have N2 := Fr.app N1 N2q
  rw [p2_0] at e2
  obtain ⟨fs, hr, hrun, hended, hW, hsame⟩ := X2.leave (v := some (.int (1 : Int32))) (fun h => by rw [Bd.returns] at h; cases h)
  refine ⟨_, _, pre0 _ ?_, hrun, hended, _, _, rfl, ?_, ⟨_, rfl⟩, hW, hsame.mono (by decide) (by decide)⟩
  · show Sq p e below m s₁ 0 #[iv p1, .unset, .unset, .unset] [] _
    refine XS.iloadN X0.here hx rfl (hb hby at_0) rfl ?_
    refine XS.bipush X0.here hx rfl (hb hby at_1) ?_
    show Sq p e below m s₁ 3 #[iv p1, .unset, .unset, .unset] [.int 7, .int p1] _
    refine XS.iand X0.here hx rfl (hb hby at_3) rfl ?_
    show Sq p e below m s₁ 4 #[iv p1, .unset, .unset, .unset] [.int (p1 &&& (7 : Int32))] _
    rw [hk]
    show Sq p e below m s₁ 4 #[iv p1, .unset, .unset, .unset] [.int 0] _
    refine XS.istoreN X0.here hx rfl (hb hby at_4) rfl rfl ?_
    refine XS.iloadN X0.here hx rfl (hb hby at_5) rfl ?_
    show Sq p e below m s₁ 6 #[iv p1, iv 0, .unset, .unset] [.int 0] _
    refine st1 _ ?_
    show Sq p e below m T1 9 #[iv p1, iv 0, .unset, .unset] [.ref w_BEGIN] _
    refine XS.astoreN X1.here hx rfl (hb hby at_9) rfl rfl rfl ?_
    refine XS.iloadN X1.here hx rfl (hb hby at_10) rfl ?_
    show Sq p e below m T1 11 #[iv p1, iv 0, rv w_BEGIN, .unset] [.int 0] _
    refine XS.iconst X1.here hx rfl (hb hby at_11) ?_
    refine XS.icmpNo X1.here hx rfl (hb hby at_12) rfl (feq (by decide)).1 ?_
    show Sq p e below m T1 15 #[iv p1, iv 0, rv w_BEGIN, .unset] [] _
    refine XS.iloadN X1.here hx rfl (hb hby at_15) rfl ?_
    refine XS.iconst X1.here hx rfl (hb hby at_16) ?_
    show Sq p e below m T1 17 #[iv p1, iv 0, rv w_BEGIN, .unset] [.int 5, .int 0] _
    refine XS.icmpNo X1.here hx rfl (hb hby at_17) rfl (feq (by decide)).1 ?_
    refine XS.iloadN X1.here hx rfl (hb hby at_20) rfl ?_
    show Sq p e below m T1 21 #[iv p1, iv 0, rv w_BEGIN, .unset] [.int 0] _
    refine XS.bipush X1.here hx rfl (hb hby at_21) ?_
    refine XS.icmpYes X1.here hx rfl (pc0 := 23) (pc' := 30) rfl (hb hby at_23) rfl (feq (by decide)).2 (by decide) (by decide) ?_
    show Sq p e below m T1 30 #[iv p1, iv 0, rv w_BEGIN, .unset] [] _
    refine XS.iconst X1.here hx rfl (hb hby at_30) ?_
    refine XS.istoreN X1.here hx rfl (hb hby at_31) rfl rfl ?_
    show Sq p e below m T1 32 #[iv p1, iv 0, rv w_BEGIN, iv 0] [] _
    refine XS.aloadN X1.here hx rfl (hb hby at_32) rfl rfl ?_
    show Sq p e below m T1 33 #[iv p1, iv 0, rv w_BEGIN, iv 0] [.ref w_BEGIN] _
    refine st2.trans ?_
    show Sq p e below m T2 36 #[iv p1, iv 0, rv w_BEGIN, iv 0] [.int 0] _
    refine XS.iloadN X2.here hx rfl (hb hby at_36) rfl ?_
    refine XS.icmpNo X2.here hx rfl (hb hby at_37) rfl (teq (rfl : (0 : Int32) = (0 : Int32))).2 ?_
    show Sq p e below m T2 40 #[iv p1, iv 0, rv w_BEGIN, iv 0] [] _
    refine XS.iconst X2.here hx rfl (hb hby at_40) ?_
    refine XS.goto X2.here hx rfl (pc0 := 41) (pc' := 45) rfl (hb hby at_41) (by decide) (by decide) ?_
    show Sq p e below m T2 45 #[iv p1, iv 0, rv w_BEGIN, iv 0] [.int 1] _
    exact retN X2 hx (t := .boolean) Bd.returns (by simp) (hb hby at_45) hr
  · show Q_rm0 Z p1 w_BEGIN w_COMMITTED w_ROLLBACKED w_TIMEOUT_ROLLBACKED w_ROLLBACKING w_UNKNOWN w_COMMITTING w_ROLLBACK_BLOCKED h0 n0 _ T2.heap _
    rw [e2]
    exact ⟨rfl, N2⟩
set_option maxRecDepth 65536 in
set_option maxHeartbeats 40000000 in
theorem rm0_1 (l : Launch) (Z : State) (a0 : Array Value) (hw : ∀ d ∈ tables_1, d.before a0 Z = true) (ws : List Jvm.Cond) (p1 : Int32) (w_BEGIN : Addr) (w_COMMITTED : Addr) (w_ROLLBACKED : Addr) (w_TIMEOUT_ROLLBACKED : Addr) (w_ROLLBACKING : Addr) (w_UNKNOWN : Addr) (w_COMMITTING : Addr) (w_ROLLBACK_BLOCKED : Addr) (h0 : Heap) (n0 : Nat) (O : Old Z n0 h0) (S_w_BEGIN : Sta Z Z.heap "com/example/concordat/concordat/GlobalStatus" "BEGIN" "Lcom/example/concordat/concordat/GlobalStatus;" (.ref w_BEGIN)) (E_w_BEGIN : Exa Z Z.heap w_BEGIN "com/example/concordat/concordat/GlobalStatus") (S_w_COMMITTED : Sta Z Z.heap "com/example/concordat/concordat/GlobalStatus" "COMMITTED" "Lcom/example/concordat/concordat/GlobalStatus;" (.ref w_COMMITTED)) (E_w_COMMITTED : Exa Z Z.heap w_COMMITTED "com/example/concordat/concordat/GlobalStatus") (S_w_ROLLBACKED : Sta Z Z.heap "com/example/concordat/concordat/GlobalStatus" "ROLLBACKED" "Lcom/example/concordat/concordat/GlobalStatus;" (.ref w_ROLLBACKED)) (E_w_ROLLBACKED : Exa Z Z.heap w_ROLLBACKED "com/example/concordat/concordat/GlobalStatus") (S_w_TIMEOUT_ROLLBACKED : Sta Z Z.heap "com/example/concordat/concordat/GlobalStatus" "TIMEOUT_ROLLBACKED" "Lcom/example/concordat/concordat/GlobalStatus;" (.ref w_TIMEOUT_ROLLBACKED)) (E_w_TIMEOUT_ROLLBACKED : Exa Z Z.heap w_TIMEOUT_ROLLBACKED "com/example/concordat/concordat/GlobalStatus") (S_w_ROLLBACKING : Sta Z Z.heap "com/example/concordat/concordat/GlobalStatus" "ROLLBACKING" "Lcom/example/concordat/concordat/GlobalStatus;" (.ref w_ROLLBACKING)) (E_w_ROLLBACKING : Exa Z Z.heap w_ROLLBACKING "com/example/concordat/concordat/GlobalStatus") (S_w_UNKNOWN : Sta Z Z.heap "com/example/concordat/concordat/GlobalStatus" "UNKNOWN" "Lcom/example/concordat/concordat/GlobalStatus;" (.ref w_UNKNOWN)) (E_w_UNKNOWN : Exa Z Z.heap w_UNKNOWN "com/example/concordat/concordat/GlobalStatus") (S_w_COMMITTING : Sta Z Z.heap "com/example/concordat/concordat/GlobalStatus" "COMMITTING" "Lcom/example/concordat/concordat/GlobalStatus;" (.ref w_COMMITTING)) (E_w_COMMITTING : Exa Z Z.heap w_COMMITTING "com/example/concordat/concordat/GlobalStatus") (S_w_ROLLBACK_BLOCKED : Sta Z Z.heap "com/example/concordat/concordat/GlobalStatus" "ROLLBACK_BLOCKED" "Lcom/example/concordat/concordat/GlobalStatus;" (.ref w_ROLLBACK_BLOCKED)) (E_w_ROLLBACK_BLOCKED : Exa Z Z.heap w_ROLLBACK_BLOCKED "com/example/concordat/concordat/GlobalStatus") (ne_0_2 : w_BEGIN ≠ w_COMMITTED) (ne_0_5 : w_BEGIN ≠ w_ROLLBACKED) (ne_0_6 : w_BEGIN ≠ w_TIMEOUT_ROLLBACKED) (ne_1_2 : w_COMMITTING ≠ w_COMMITTED) (ne_1_5 : w_COMMITTING ≠ w_ROLLBACKED) (ne_1_6 : w_COMMITTING ≠ w_TIMEOUT_ROLLBACKED) (ne_3_2 : w_ROLLBACKING ≠ w_COMMITTED) (ne_3_5 : w_ROLLBACKING ≠ w_ROLLBACKED) (ne_3_6 : w_ROLLBACKING ≠ w_TIMEOUT_ROLLBACKED) (ne_4_2 : w_ROLLBACK_BLOCKED ≠ w_COMMITTED) (ne_4_5 : w_ROLLBACK_BLOCKED ≠ w_ROLLBACKED) (ne_4_6 : w_ROLLBACK_BLOCKED ≠ w_TIMEOUT_ROLLBACKED) (ne_5_2 : w_ROLLBACKED ≠ w_COMMITTED) (ne_6_2 : w_TIMEOUT_ROLLBACKED ≠ w_COMMITTED) (ne_6_5 : w_TIMEOUT_ROLLBACKED ≠ w_ROLLBACKED) (ne_7_2 : w_UNKNOWN ≠ w_COMMITTED) (ne_7_5 : w_UNKNOWN ≠ w_ROLLBACKED) (ne_7_6 : w_UNKNOWN ≠ w_TIMEOUT_ROLLBACKED) (hk : (p1 &&& (7 : Int32)) = (1 : Int32)) :
    Ctr l Z x code maxLocals ret ws room_1 #[(.int p1)] h0 (Q_rm0 Z p1 w_BEGIN w_COMMITTED w_ROLLBACKED w_TIMEOUT_ROLLBACKED w_ROLLBACKING w_UNKNOWN w_COMMITTING w_ROLLBACK_BLOCKED h0 n0) := by
  refine MetFree.of_bodySF (plainFor_of_name pn_0) hisR ?_
  intro p e s m args below meth c s₁ Bd hml0 hP hK
  obtain ⟨rfl, hZ, hh⟩ := hP
  have W := fun (i : Nat) {d : Jvm.Cond} (h : tables_1[i]? = some d) => hw d (List.mem_of_getElem? h)
  have hx := Bd.exec
  have hby := Bd.bytes
  have hml : c.maxLocals = 4 := hml0
  have hown : s.vm.findClass "com/example/concordat/concordat/GlobalStatusIsFinishedPinLaw" = some m.cls := findClass_of_methodNamed Bd.named
  have hnm := (name_of_methodNamed Bd.named Bd.method).1
  have X0 : Stand p l e room_1 s m #[(.int p1)] below meth c s₁ [] 0 0 := Stand.of_body Bd
  have e0 : s₁.heap = h0 := by rw [← hh, Bd.state]; rfl
  have N0 := Fr.nil n0
  have pre0 : ∀ t, Steps p.tables e below (s₁.setTop (mkF m 0 #[.val (.int p1), .unset, .unset, .unset] [])) t → Steps p.tables e below (s₁.setTop (entryFrame m #[(.int p1)] maxLocals)) t := fun t k => castTop (ef_9 m p1) k
  obtain ⟨_, _, ⟨T1, L1, k1, n1⟩, -, X1, ⟨Lc1, hQ1, l1, y1, z1⟩, st1⟩ := Jvm.LawKit.callS X0 hx (y := y_0) hown (mvT hZ (W 0 rfl)) (mvT hZ (W 1 rfl)) (mvT hZ (W 2 rfl)) (mvT hZ (W 3 rfl)) (by decide) (backOf (W := 0) (pick1 l Z a0 hw [] w_COMMITTING h0 n0 O S_w_COMMITTING) hZ (W 3 rfl) (W 2 rfl) (by decide) (by decide)) (g := (mkF m 6 #[iv p1, iv 1, .unset, .unset] [.int 1])) rfl (by rw [hml]; rfl) (argsL := [.int 1]) (rest := []) (lenOf pd_0 rfl) rfl (by show 2 * 0 + _ ≤ _; exact Nat.le_of_eq rfl) (hb hby at_6) (fun _ _ => ⟨rfl, e0, (by decide : 0 + 0 ≤ _), (by decide : 0 + 0 ≤ _)⟩)
  dsimp only [Pt.U, Pt.locs, Pt.cells, Pt.slots] at X1 l1 y1 z1 st1 hQ1
  subst l1 y1 z1
  obtain ⟨h1, e1⟩ : ∃ z, T1.heap = z := ⟨_, rfl⟩
  rw [e1] at hQ1
  obtain ⟨rfl, N1q, p1_0⟩ := hQ1
  have N1 := Fr.app N0 N1q
  rw [p1_0] at e1
  obtain ⟨cq2, kq2, q2a, q2b, q2c⟩ := isOf hZ e1 (E_w_COMMITTING.ext O.2)
  obtain ⟨_, _, ⟨T2, L2, k2, n2⟩, -, X2, ⟨Lc2, hQ2, l2, y2, z2⟩, st2⟩ := X1.virtualBack hx (y := y_1) (z := y_1) hown (mvT hZ (W 7 rfl)) (mvT hZ (W 8 rfl)) (notFace_of_selects (args := #[]) (mvT hZ (W 10 rfl))) (mvT hZ (W 10 rfl)) (mvT hZ (W 9 rfl)) (by decide) (backOf (W := 0) (fin0 l Z a0 hw [] w_COMMITTING w_COMMITTED w_ROLLBACKED w_TIMEOUT_ROLLBACKED h0 n0 O S_w_COMMITTED S_w_ROLLBACKED S_w_TIMEOUT_ROLLBACKED ne_1_2 ne_1_5 ne_1_6) hZ (W 11 rfl) (W 5 rfl) (by decide) (by decide)) q2a q2c (g := (mkF m 33 #[iv p1, iv 1, rv w_COMMITTING, iv 0] [.ref w_COMMITTING])) rfl (by rw [hml]; rfl) (Steps.refl _) (argsL := []) (rest := []) (lenOf pd_1 rfl) rfl (by show 2 * 0 + _ ≤ _; exact Nat.le_of_eq rfl) (hb hby at_33) (fun _ _ => ⟨rfl, e1, (by decide : 0 + 0 ≤ _), (by decide : 0 + 0 ≤ _)⟩)
  dsimp only [Pt.U, Pt.locs, Pt.cells, Pt.slots] at X2 l2 y2 z2 st2 hQ2
  subst l2 y2 z2
  obtain ⟨h2, e2⟩ : ∃ z, T2.heap = z := ⟨_, rfl⟩
  rw [e2] at hQ2
  obtain ⟨rfl, N2q, p2_0⟩ := hQ2
  have N2 := Fr.app N1 N2q
  rw [p2_0] at e2
  obtain ⟨fs, hr, hrun, hended, hW, hsame⟩ := X2.leave (v := some (.int (1 : Int32))) (fun h => by rw [Bd.returns] at h; cases h)
  refine ⟨_, _, pre0 _ ?_, hrun, hended, _, _, rfl, ?_, ⟨_, rfl⟩, hW, hsame.mono (by decide) (by decide)⟩
  · show Sq p e below m s₁ 0 #[iv p1, .unset, .unset, .unset] [] _
    refine XS.iloadN X0.here hx rfl (hb hby at_0) rfl ?_
    refine XS.bipush X0.here hx rfl (hb hby at_1) ?_
    show Sq p e below m s₁ 3 #[iv p1, .unset, .unset, .unset] [.int 7, .int p1] _
    refine XS.iand X0.here hx rfl (hb hby at_3) rfl ?_
    show Sq p e below m s₁ 4 #[iv p1, .unset, .unset, .unset] [.int (p1 &&& (7 : Int32))] _
    rw [hk]
    show Sq p e below m s₁ 4 #[iv p1, .unset, .unset, .unset] [.int 1] _
    refine XS.istoreN X0.here hx rfl (hb hby at_4) rfl rfl ?_
    refine XS.iloadN X0.here hx rfl (hb hby at_5) rfl ?_
    show Sq p e below m s₁ 6 #[iv p1, iv 1, .unset, .unset] [.int 1] _
    refine st1 _ ?_
    show Sq p e below m T1 9 #[iv p1, iv 1, .unset, .unset] [.ref w_COMMITTING] _
    refine XS.astoreN X1.here hx rfl (hb hby at_9) rfl rfl rfl ?_
    refine XS.iloadN X1.here hx rfl (hb hby at_10) rfl ?_
    show Sq p e below m T1 11 #[iv p1, iv 1, rv w_COMMITTING, .unset] [.int 1] _
    refine XS.iconst X1.here hx rfl (hb hby at_11) ?_
    refine XS.icmpNo X1.here hx rfl (hb hby at_12) rfl (feq (by decide)).1 ?_
    show Sq p e below m T1 15 #[iv p1, iv 1, rv w_COMMITTING, .unset] [] _
    refine XS.iloadN X1.here hx rfl (hb hby at_15) rfl ?_
    refine XS.iconst X1.here hx rfl (hb hby at_16) ?_
    show Sq p e below m T1 17 #[iv p1, iv 1, rv w_COMMITTING, .unset] [.int 5, .int 1] _
    refine XS.icmpNo X1.here hx rfl (hb hby at_17) rfl (feq (by decide)).1 ?_
    refine XS.iloadN X1.here hx rfl (hb hby at_20) rfl ?_
    show Sq p e below m T1 21 #[iv p1, iv 1, rv w_COMMITTING, .unset] [.int 1] _
    refine XS.bipush X1.here hx rfl (hb hby at_21) ?_
    refine XS.icmpYes X1.here hx rfl (pc0 := 23) (pc' := 30) rfl (hb hby at_23) rfl (feq (by decide)).2 (by decide) (by decide) ?_
    show Sq p e below m T1 30 #[iv p1, iv 1, rv w_COMMITTING, .unset] [] _
    refine XS.iconst X1.here hx rfl (hb hby at_30) ?_
    refine XS.istoreN X1.here hx rfl (hb hby at_31) rfl rfl ?_
    show Sq p e below m T1 32 #[iv p1, iv 1, rv w_COMMITTING, iv 0] [] _
    refine XS.aloadN X1.here hx rfl (hb hby at_32) rfl rfl ?_
    show Sq p e below m T1 33 #[iv p1, iv 1, rv w_COMMITTING, iv 0] [.ref w_COMMITTING] _
    refine st2.trans ?_
    show Sq p e below m T2 36 #[iv p1, iv 1, rv w_COMMITTING, iv 0] [.int 0] _
    refine XS.iloadN X2.here hx rfl (hb hby at_36) rfl ?_
    refine XS.icmpNo X2.here hx rfl (hb hby at_37) rfl (teq (rfl : (0 : Int32) = (0 : Int32))).2 ?_
    show Sq p e below m T2 40 #[iv p1, iv 1, rv w_COMMITTING, iv 0] [] _
    refine XS.iconst X2.here hx rfl (hb hby at_40) ?_
    refine XS.goto X2.here hx rfl (pc0 := 41) (pc' := 45) rfl (hb hby at_41) (by decide) (by decide) ?_
    show Sq p e below m T2 45 #[iv p1, iv 1, rv w_COMMITTING, iv 0] [.int 1] _
    exact retN X2 hx (t := .boolean) Bd.returns (by simp) (hb hby at_45) hr
  · show Q_rm0 Z p1 w_BEGIN w_COMMITTED w_ROLLBACKED w_TIMEOUT_ROLLBACKED w_ROLLBACKING w_UNKNOWN w_COMMITTING w_ROLLBACK_BLOCKED h0 n0 _ T2.heap _
    rw [e2]
    exact ⟨rfl, N2⟩
set_option maxRecDepth 65536 in
set_option maxHeartbeats 40000000 in
theorem rm0_2 (l : Launch) (Z : State) (a0 : Array Value) (hw : ∀ d ∈ tables_1, d.before a0 Z = true) (ws : List Jvm.Cond) (p1 : Int32) (w_BEGIN : Addr) (w_COMMITTED : Addr) (w_ROLLBACKED : Addr) (w_TIMEOUT_ROLLBACKED : Addr) (w_ROLLBACKING : Addr) (w_UNKNOWN : Addr) (w_COMMITTING : Addr) (w_ROLLBACK_BLOCKED : Addr) (h0 : Heap) (n0 : Nat) (O : Old Z n0 h0) (S_w_BEGIN : Sta Z Z.heap "com/example/concordat/concordat/GlobalStatus" "BEGIN" "Lcom/example/concordat/concordat/GlobalStatus;" (.ref w_BEGIN)) (E_w_BEGIN : Exa Z Z.heap w_BEGIN "com/example/concordat/concordat/GlobalStatus") (S_w_COMMITTED : Sta Z Z.heap "com/example/concordat/concordat/GlobalStatus" "COMMITTED" "Lcom/example/concordat/concordat/GlobalStatus;" (.ref w_COMMITTED)) (E_w_COMMITTED : Exa Z Z.heap w_COMMITTED "com/example/concordat/concordat/GlobalStatus") (S_w_ROLLBACKED : Sta Z Z.heap "com/example/concordat/concordat/GlobalStatus" "ROLLBACKED" "Lcom/example/concordat/concordat/GlobalStatus;" (.ref w_ROLLBACKED)) (E_w_ROLLBACKED : Exa Z Z.heap w_ROLLBACKED "com/example/concordat/concordat/GlobalStatus") (S_w_TIMEOUT_ROLLBACKED : Sta Z Z.heap "com/example/concordat/concordat/GlobalStatus" "TIMEOUT_ROLLBACKED" "Lcom/example/concordat/concordat/GlobalStatus;" (.ref w_TIMEOUT_ROLLBACKED)) (E_w_TIMEOUT_ROLLBACKED : Exa Z Z.heap w_TIMEOUT_ROLLBACKED "com/example/concordat/concordat/GlobalStatus") (S_w_ROLLBACKING : Sta Z Z.heap "com/example/concordat/concordat/GlobalStatus" "ROLLBACKING" "Lcom/example/concordat/concordat/GlobalStatus;" (.ref w_ROLLBACKING)) (E_w_ROLLBACKING : Exa Z Z.heap w_ROLLBACKING "com/example/concordat/concordat/GlobalStatus") (S_w_UNKNOWN : Sta Z Z.heap "com/example/concordat/concordat/GlobalStatus" "UNKNOWN" "Lcom/example/concordat/concordat/GlobalStatus;" (.ref w_UNKNOWN)) (E_w_UNKNOWN : Exa Z Z.heap w_UNKNOWN "com/example/concordat/concordat/GlobalStatus") (S_w_COMMITTING : Sta Z Z.heap "com/example/concordat/concordat/GlobalStatus" "COMMITTING" "Lcom/example/concordat/concordat/GlobalStatus;" (.ref w_COMMITTING)) (E_w_COMMITTING : Exa Z Z.heap w_COMMITTING "com/example/concordat/concordat/GlobalStatus") (S_w_ROLLBACK_BLOCKED : Sta Z Z.heap "com/example/concordat/concordat/GlobalStatus" "ROLLBACK_BLOCKED" "Lcom/example/concordat/concordat/GlobalStatus;" (.ref w_ROLLBACK_BLOCKED)) (E_w_ROLLBACK_BLOCKED : Exa Z Z.heap w_ROLLBACK_BLOCKED "com/example/concordat/concordat/GlobalStatus") (ne_0_2 : w_BEGIN ≠ w_COMMITTED) (ne_0_5 : w_BEGIN ≠ w_ROLLBACKED) (ne_0_6 : w_BEGIN ≠ w_TIMEOUT_ROLLBACKED) (ne_1_2 : w_COMMITTING ≠ w_COMMITTED) (ne_1_5 : w_COMMITTING ≠ w_ROLLBACKED) (ne_1_6 : w_COMMITTING ≠ w_TIMEOUT_ROLLBACKED) (ne_3_2 : w_ROLLBACKING ≠ w_COMMITTED) (ne_3_5 : w_ROLLBACKING ≠ w_ROLLBACKED) (ne_3_6 : w_ROLLBACKING ≠ w_TIMEOUT_ROLLBACKED) (ne_4_2 : w_ROLLBACK_BLOCKED ≠ w_COMMITTED) (ne_4_5 : w_ROLLBACK_BLOCKED ≠ w_ROLLBACKED) (ne_4_6 : w_ROLLBACK_BLOCKED ≠ w_TIMEOUT_ROLLBACKED) (ne_5_2 : w_ROLLBACKED ≠ w_COMMITTED) (ne_6_2 : w_TIMEOUT_ROLLBACKED ≠ w_COMMITTED) (ne_6_5 : w_TIMEOUT_ROLLBACKED ≠ w_ROLLBACKED) (ne_7_2 : w_UNKNOWN ≠ w_COMMITTED) (ne_7_5 : w_UNKNOWN ≠ w_ROLLBACKED) (ne_7_6 : w_UNKNOWN ≠ w_TIMEOUT_ROLLBACKED) (hk : (p1 &&& (7 : Int32)) = (2 : Int32)) :
    Ctr l Z x code maxLocals ret ws room_1 #[(.int p1)] h0 (Q_rm0 Z p1 w_BEGIN w_COMMITTED w_ROLLBACKED w_TIMEOUT_ROLLBACKED w_ROLLBACKING w_UNKNOWN w_COMMITTING w_ROLLBACK_BLOCKED h0 n0) := by
  refine MetFree.of_bodySF (plainFor_of_name pn_0) hisR ?_
  intro p e s m args below meth c s₁ Bd hml0 hP hK
  obtain ⟨rfl, hZ, hh⟩ := hP
  have W := fun (i : Nat) {d : Jvm.Cond} (h : tables_1[i]? = some d) => hw d (List.mem_of_getElem? h)
  have hx := Bd.exec
  have hby := Bd.bytes
  have hml : c.maxLocals = 4 := hml0
  have hown : s.vm.findClass "com/example/concordat/concordat/GlobalStatusIsFinishedPinLaw" = some m.cls := findClass_of_methodNamed Bd.named
  have hnm := (name_of_methodNamed Bd.named Bd.method).1
  have X0 : Stand p l e room_1 s m #[(.int p1)] below meth c s₁ [] 0 0 := Stand.of_body Bd
  have e0 : s₁.heap = h0 := by rw [← hh, Bd.state]; rfl
  have N0 := Fr.nil n0
  have pre0 : ∀ t, Steps p.tables e below (s₁.setTop (mkF m 0 #[.val (.int p1), .unset, .unset, .unset] [])) t → Steps p.tables e below (s₁.setTop (entryFrame m #[(.int p1)] maxLocals)) t := fun t k => castTop (ef_9 m p1) k
  obtain ⟨_, _, ⟨T1, L1, k1, n1⟩, -, X1, ⟨Lc1, hQ1, l1, y1, z1⟩, st1⟩ := Jvm.LawKit.callS X0 hx (y := y_0) hown (mvT hZ (W 0 rfl)) (mvT hZ (W 1 rfl)) (mvT hZ (W 2 rfl)) (mvT hZ (W 3 rfl)) (by decide) (backOf (W := 0) (pick2 l Z a0 hw [] w_COMMITTED h0 n0 O S_w_COMMITTED) hZ (W 3 rfl) (W 2 rfl) (by decide) (by decide)) (g := (mkF m 6 #[iv p1, iv 2, .unset, .unset] [.int 2])) rfl (by rw [hml]; rfl) (argsL := [.int 2]) (rest := []) (lenOf pd_0 rfl) rfl (by show 2 * 0 + _ ≤ _; exact Nat.le_of_eq rfl) (hb hby at_6) (fun _ _ => ⟨rfl, e0, (by decide : 0 + 0 ≤ _), (by decide : 0 + 0 ≤ _)⟩)
  dsimp only [Pt.U, Pt.locs, Pt.cells, Pt.slots] at X1 l1 y1 z1 st1 hQ1
  subst l1 y1 z1
  obtain ⟨h1, e1⟩ : ∃ z, T1.heap = z := ⟨_, rfl⟩
  rw [e1] at hQ1
  obtain ⟨rfl, N1q, p1_0⟩ := hQ1
  have N1 := Fr.app N0 N1q
  rw [p1_0] at e1
  obtain ⟨cq2, kq2, q2a, q2b, q2c⟩ := isOf hZ e1 (E_w_COMMITTED.ext O.2)
  obtain ⟨_, _, ⟨T2, L2, k2, n2⟩, -, X2, ⟨Lc2, hQ2, l2, y2, z2⟩, st2⟩ := X1.virtualBack hx (y := y_1) (z := y_1) hown (mvT hZ (W 7 rfl)) (mvT hZ (W 8 rfl)) (notFace_of_selects (args := #[]) (mvT hZ (W 10 rfl))) (mvT hZ (W 10 rfl)) (mvT hZ (W 9 rfl)) (by decide) (backOf (W := 0) (fin2 l Z a0 hw [] w_COMMITTED h0 n0 O S_w_COMMITTED) hZ (W 11 rfl) (W 5 rfl) (by decide) (by decide)) q2a q2c (g := (mkF m 33 #[iv p1, iv 2, rv w_COMMITTED, iv 1] [.ref w_COMMITTED])) rfl (by rw [hml]; rfl) (Steps.refl _) (argsL := []) (rest := []) (lenOf pd_1 rfl) rfl (by show 2 * 0 + _ ≤ _; exact Nat.le_of_eq rfl) (hb hby at_33) (fun _ _ => ⟨rfl, e1, (by decide : 0 + 0 ≤ _), (by decide : 0 + 0 ≤ _)⟩)
  dsimp only [Pt.U, Pt.locs, Pt.cells, Pt.slots] at X2 l2 y2 z2 st2 hQ2
  subst l2 y2 z2
  obtain ⟨h2, e2⟩ : ∃ z, T2.heap = z := ⟨_, rfl⟩
  rw [e2] at hQ2
  obtain ⟨rfl, N2q, p2_0⟩ := hQ2
  have N2 := Fr.app N1 N2q
  rw [p2_0] at e2
  obtain ⟨fs, hr, hrun, hended, hW, hsame⟩ := X2.leave (v := some (.int (1 : Int32))) (fun h => by rw [Bd.returns] at h; cases h)
  refine ⟨_, _, pre0 _ ?_, hrun, hended, _, _, rfl, ?_, ⟨_, rfl⟩, hW, hsame.mono (by decide) (by decide)⟩
  · show Sq p e below m s₁ 0 #[iv p1, .unset, .unset, .unset] [] _
    refine XS.iloadN X0.here hx rfl (hb hby at_0) rfl ?_
    refine XS.bipush X0.here hx rfl (hb hby at_1) ?_
    show Sq p e below m s₁ 3 #[iv p1, .unset, .unset, .unset] [.int 7, .int p1] _
    refine XS.iand X0.here hx rfl (hb hby at_3) rfl ?_
    show Sq p e below m s₁ 4 #[iv p1, .unset, .unset, .unset] [.int (p1 &&& (7 : Int32))] _
    rw [hk]
    show Sq p e below m s₁ 4 #[iv p1, .unset, .unset, .unset] [.int 2] _
    refine XS.istoreN X0.here hx rfl (hb hby at_4) rfl rfl ?_
    refine XS.iloadN X0.here hx rfl (hb hby at_5) rfl ?_
    show Sq p e below m s₁ 6 #[iv p1, iv 2, .unset, .unset] [.int 2] _
    refine st1 _ ?_
    show Sq p e below m T1 9 #[iv p1, iv 2, .unset, .unset] [.ref w_COMMITTED] _
    refine XS.astoreN X1.here hx rfl (hb hby at_9) rfl rfl rfl ?_
    refine XS.iloadN X1.here hx rfl (hb hby at_10) rfl ?_
    show Sq p e below m T1 11 #[iv p1, iv 2, rv w_COMMITTED, .unset] [.int 2] _
    refine XS.iconst X1.here hx rfl (hb hby at_11) ?_
    refine XS.icmpYes X1.here hx rfl (pc0 := 12) (pc' := 26) rfl (hb hby at_12) rfl (teq (rfl : (2 : Int32) = (2 : Int32))).1 (by decide) (by decide) ?_
    show Sq p e below m T1 26 #[iv p1, iv 2, rv w_COMMITTED, .unset] [] _
    refine XS.iconst X1.here hx rfl (hb hby at_26) ?_
    refine XS.goto X1.here hx rfl (pc0 := 27) (pc' := 31) rfl (hb hby at_27) (by decide) (by decide) ?_
    show Sq p e below m T1 31 #[iv p1, iv 2, rv w_COMMITTED, .unset] [.int 1] _
    refine XS.istoreN X1.here hx rfl (hb hby at_31) rfl rfl ?_
    refine XS.aloadN X1.here hx rfl (hb hby at_32) rfl rfl ?_
    show Sq p e below m T1 33 #[iv p1, iv 2, rv w_COMMITTED, iv 1] [.ref w_COMMITTED] _
    refine st2.trans ?_
    show Sq p e below m T2 36 #[iv p1, iv 2, rv w_COMMITTED, iv 1] [.int 1] _
    refine XS.iloadN X2.here hx rfl (hb hby at_36) rfl ?_
    refine XS.icmpNo X2.here hx rfl (hb hby at_37) rfl (teq (rfl : (1 : Int32) = (1 : Int32))).2 ?_
    show Sq p e below m T2 40 #[iv p1, iv 2, rv w_COMMITTED, iv 1] [] _
    refine XS.iconst X2.here hx rfl (hb hby at_40) ?_
    refine XS.goto X2.here hx rfl (pc0 := 41) (pc' := 45) rfl (hb hby at_41) (by decide) (by decide) ?_
    show Sq p e below m T2 45 #[iv p1, iv 2, rv w_COMMITTED, iv 1] [.int 1] _
    exact retN X2 hx (t := .boolean) Bd.returns (by simp) (hb hby at_45) hr
  · show Q_rm0 Z p1 w_BEGIN w_COMMITTED w_ROLLBACKED w_TIMEOUT_ROLLBACKED w_ROLLBACKING w_UNKNOWN w_COMMITTING w_ROLLBACK_BLOCKED h0 n0 _ T2.heap _
    rw [e2]
    exact ⟨rfl, N2⟩
set_option maxRecDepth 65536 in
set_option maxHeartbeats 40000000 in
theorem rm0_3 (l : Launch) (Z : State) (a0 : Array Value) (hw : ∀ d ∈ tables_1, d.before a0 Z = true) (ws : List Jvm.Cond) (p1 : Int32) (w_BEGIN : Addr) (w_COMMITTED : Addr) (w_ROLLBACKED : Addr) (w_TIMEOUT_ROLLBACKED : Addr) (w_ROLLBACKING : Addr) (w_UNKNOWN : Addr) (w_COMMITTING : Addr) (w_ROLLBACK_BLOCKED : Addr) (h0 : Heap) (n0 : Nat) (O : Old Z n0 h0) (S_w_BEGIN : Sta Z Z.heap "com/example/concordat/concordat/GlobalStatus" "BEGIN" "Lcom/example/concordat/concordat/GlobalStatus;" (.ref w_BEGIN)) (E_w_BEGIN : Exa Z Z.heap w_BEGIN "com/example/concordat/concordat/GlobalStatus") (S_w_COMMITTED : Sta Z Z.heap "com/example/concordat/concordat/GlobalStatus" "COMMITTED" "Lcom/example/concordat/concordat/GlobalStatus;" (.ref w_COMMITTED)) (E_w_COMMITTED : Exa Z Z.heap w_COMMITTED "com/example/concordat/concordat/GlobalStatus") (S_w_ROLLBACKED : Sta Z Z.heap "com/example/concordat/concordat/GlobalStatus" "ROLLBACKED" "Lcom/example/concordat/concordat/GlobalStatus;" (.ref w_ROLLBACKED)) (E_w_ROLLBACKED : Exa Z Z.heap w_ROLLBACKED "com/example/concordat/concordat/GlobalStatus") (S_w_TIMEOUT_ROLLBACKED : Sta Z Z.heap "com/example/concordat/concordat/GlobalStatus" "TIMEOUT_ROLLBACKED" "Lcom/example/concordat/concordat/GlobalStatus;" (.ref w_TIMEOUT_ROLLBACKED)) (E_w_TIMEOUT_ROLLBACKED : Exa Z Z.heap w_TIMEOUT_ROLLBACKED "com/example/concordat/concordat/GlobalStatus") (S_w_ROLLBACKING : Sta Z Z.heap "com/example/concordat/concordat/GlobalStatus" "ROLLBACKING" "Lcom/example/concordat/concordat/GlobalStatus;" (.ref w_ROLLBACKING)) (E_w_ROLLBACKING : Exa Z Z.heap w_ROLLBACKING "com/example/concordat/concordat/GlobalStatus") (S_w_UNKNOWN : Sta Z Z.heap "com/example/concordat/concordat/GlobalStatus" "UNKNOWN" "Lcom/example/concordat/concordat/GlobalStatus;" (.ref w_UNKNOWN)) (E_w_UNKNOWN : Exa Z Z.heap w_UNKNOWN "com/example/concordat/concordat/GlobalStatus") (S_w_COMMITTING : Sta Z Z.heap "com/example/concordat/concordat/GlobalStatus" "COMMITTING" "Lcom/example/concordat/concordat/GlobalStatus;" (.ref w_COMMITTING)) (E_w_COMMITTING : Exa Z Z.heap w_COMMITTING "com/example/concordat/concordat/GlobalStatus") (S_w_ROLLBACK_BLOCKED : Sta Z Z.heap "com/example/concordat/concordat/GlobalStatus" "ROLLBACK_BLOCKED" "Lcom/example/concordat/concordat/GlobalStatus;" (.ref w_ROLLBACK_BLOCKED)) (E_w_ROLLBACK_BLOCKED : Exa Z Z.heap w_ROLLBACK_BLOCKED "com/example/concordat/concordat/GlobalStatus") (ne_0_2 : w_BEGIN ≠ w_COMMITTED) (ne_0_5 : w_BEGIN ≠ w_ROLLBACKED) (ne_0_6 : w_BEGIN ≠ w_TIMEOUT_ROLLBACKED) (ne_1_2 : w_COMMITTING ≠ w_COMMITTED) (ne_1_5 : w_COMMITTING ≠ w_ROLLBACKED) (ne_1_6 : w_COMMITTING ≠ w_TIMEOUT_ROLLBACKED) (ne_3_2 : w_ROLLBACKING ≠ w_COMMITTED) (ne_3_5 : w_ROLLBACKING ≠ w_ROLLBACKED) (ne_3_6 : w_ROLLBACKING ≠ w_TIMEOUT_ROLLBACKED) (ne_4_2 : w_ROLLBACK_BLOCKED ≠ w_COMMITTED) (ne_4_5 : w_ROLLBACK_BLOCKED ≠ w_ROLLBACKED) (ne_4_6 : w_ROLLBACK_BLOCKED ≠ w_TIMEOUT_ROLLBACKED) (ne_5_2 : w_ROLLBACKED ≠ w_COMMITTED) (ne_6_2 : w_TIMEOUT_ROLLBACKED ≠ w_COMMITTED) (ne_6_5 : w_TIMEOUT_ROLLBACKED ≠ w_ROLLBACKED) (ne_7_2 : w_UNKNOWN ≠ w_COMMITTED) (ne_7_5 : w_UNKNOWN ≠ w_ROLLBACKED) (ne_7_6 : w_UNKNOWN ≠ w_TIMEOUT_ROLLBACKED) (hk : (p1 &&& (7 : Int32)) = (3 : Int32)) :
    Ctr l Z x code maxLocals ret ws room_1 #[(.int p1)] h0 (Q_rm0 Z p1 w_BEGIN w_COMMITTED w_ROLLBACKED w_TIMEOUT_ROLLBACKED w_ROLLBACKING w_UNKNOWN w_COMMITTING w_ROLLBACK_BLOCKED h0 n0) := by
  refine MetFree.of_bodySF (plainFor_of_name pn_0) hisR ?_
  intro p e s m args below meth c s₁ Bd hml0 hP hK
  obtain ⟨rfl, hZ, hh⟩ := hP
  have W := fun (i : Nat) {d : Jvm.Cond} (h : tables_1[i]? = some d) => hw d (List.mem_of_getElem? h)
  have hx := Bd.exec
  have hby := Bd.bytes
  have hml : c.maxLocals = 4 := hml0
  have hown : s.vm.findClass "com/example/concordat/concordat/GlobalStatusIsFinishedPinLaw" = some m.cls := findClass_of_methodNamed Bd.named
  have hnm := (name_of_methodNamed Bd.named Bd.method).1
  have X0 : Stand p l e room_1 s m #[(.int p1)] below meth c s₁ [] 0 0 := Stand.of_body Bd
  have e0 : s₁.heap = h0 := by rw [← hh, Bd.state]; rfl
  have N0 := Fr.nil n0
  have pre0 : ∀ t, Steps p.tables e below (s₁.setTop (mkF m 0 #[.val (.int p1), .unset, .unset, .unset] [])) t → Steps p.tables e below (s₁.setTop (entryFrame m #[(.int p1)] maxLocals)) t := fun t k => castTop (ef_9 m p1) k
  obtain ⟨_, _, ⟨T1, L1, k1, n1⟩, -, X1, ⟨Lc1, hQ1, l1, y1, z1⟩, st1⟩ := Jvm.LawKit.callS X0 hx (y := y_0) hown (mvT hZ (W 0 rfl)) (mvT hZ (W 1 rfl)) (mvT hZ (W 2 rfl)) (mvT hZ (W 3 rfl)) (by decide) (backOf (W := 0) (pick3 l Z a0 hw [] w_ROLLBACKING h0 n0 O S_w_ROLLBACKING) hZ (W 3 rfl) (W 2 rfl) (by decide) (by decide)) (g := (mkF m 6 #[iv p1, iv 3, .unset, .unset] [.int 3])) rfl (by rw [hml]; rfl) (argsL := [.int 3]) (rest := []) (lenOf pd_0 rfl) rfl (by show 2 * 0 + _ ≤ _; exact Nat.le_of_eq rfl) (hb hby at_6) (fun _ _ => ⟨rfl, e0, (by decide : 0 + 0 ≤ _), (by decide : 0 + 0 ≤ _)⟩)
  dsimp only [Pt.U, Pt.locs, Pt.cells, Pt.slots] at X1 l1 y1 z1 st1 hQ1
  subst l1 y1 z1
  obtain ⟨h1, e1⟩ : ∃ z, T1.heap = z := ⟨_, rfl⟩
  rw [e1] at hQ1
  obtain ⟨rfl, N1q, p1_0⟩ := hQ1
  have N1 := Fr.app N0 N1q
  rw [p1_0] at e1
  obtain ⟨cq2, kq2, q2a, q2b, q2c⟩ := isOf hZ e1 (E_w_ROLLBACKING.ext O.2)
  obtain ⟨_, _, ⟨T2, L2, k2, n2⟩, -, X2, ⟨Lc2, hQ2, l2, y2, z2⟩, st2⟩ := X1.virtualBack hx (y := y_1) (z := y_1) hown (mvT hZ (W 7 rfl)) (mvT hZ (W 8 rfl)) (notFace_of_selects (args := #[]) (mvT hZ (W 10 rfl))) (mvT hZ (W 10 rfl)) (mvT hZ (W 9 rfl)) (by decide) (backOf (W := 0) (fin0 l Z a0 hw [] w_ROLLBACKING w_COMMITTED w_ROLLBACKED w_TIMEOUT_ROLLBACKED h0 n0 O S_w_COMMITTED S_w_ROLLBACKED S_w_TIMEOUT_ROLLBACKED ne_3_2 ne_3_5 ne_3_6) hZ (W 11 rfl) (W 5 rfl) (by decide) (by decide)) q2a q2c (g := (mkF m 33 #[iv p1, iv 3, rv w_ROLLBACKING, iv 0] [.ref w_ROLLBACKING])) rfl (by rw [hml]; rfl) (Steps.refl _) (argsL := []) (rest := []) (lenOf pd_1 rfl) rfl (by show 2 * 0 + _ ≤ _; exact Nat.le_of_eq rfl) (hb hby at_33) (fun _ _ => ⟨rfl, e1, (by decide : 0 + 0 ≤ _), (by decide : 0 + 0 ≤ _)⟩)
  dsimp only [Pt.U, Pt.locs, Pt.cells, Pt.slots] at X2 l2 y2 z2 st2 hQ2
  subst l2 y2 z2
  obtain ⟨h2, e2⟩ : ∃ z, T2.heap = z := ⟨_, rfl⟩
  rw [e2] at hQ2
  obtain ⟨rfl, N2q, p2_0⟩ := hQ2
  have N2 := Fr.app N1 N2q
  rw [p2_0] at e2
  obtain ⟨fs, hr, hrun, hended, hW, hsame⟩ := X2.leave (v := some (.int (1 : Int32))) (fun h => by rw [Bd.returns] at h; cases h)
  refine ⟨_, _, pre0 _ ?_, hrun, hended, _, _, rfl, ?_, ⟨_, rfl⟩, hW, hsame.mono (by decide) (by decide)⟩
  · show Sq p e below m s₁ 0 #[iv p1, .unset, .unset, .unset] [] _
    refine XS.iloadN X0.here hx rfl (hb hby at_0) rfl ?_
    refine XS.bipush X0.here hx rfl (hb hby at_1) ?_
    show Sq p e below m s₁ 3 #[iv p1, .unset, .unset, .unset] [.int 7, .int p1] _
    refine XS.iand X0.here hx rfl (hb hby at_3) rfl ?_
    show Sq p e below m s₁ 4 #[iv p1, .unset, .unset, .unset] [.int (p1 &&& (7 : Int32))] _
    rw [hk]
    show Sq p e below m s₁ 4 #[iv p1, .unset, .unset, .unset] [.int 3] _
    refine XS.istoreN X0.here hx rfl (hb hby at_4) rfl rfl ?_
    refine XS.iloadN X0.here hx rfl (hb hby at_5) rfl ?_
    show Sq p e below m s₁ 6 #[iv p1, iv 3, .unset, .unset] [.int 3] _
    refine st1 _ ?_
    show Sq p e below m T1 9 #[iv p1, iv 3, .unset, .unset] [.ref w_ROLLBACKING] _
    refine XS.astoreN X1.here hx rfl (hb hby at_9) rfl rfl rfl ?_
    refine XS.iloadN X1.here hx rfl (hb hby at_10) rfl ?_
    show Sq p e below m T1 11 #[iv p1, iv 3, rv w_ROLLBACKING, .unset] [.int 3] _
    refine XS.iconst X1.here hx rfl (hb hby at_11) ?_
    refine XS.icmpNo X1.here hx rfl (hb hby at_12) rfl (feq (by decide)).1 ?_
    show Sq p e below m T1 15 #[iv p1, iv 3, rv w_ROLLBACKING, .unset] [] _
    refine XS.iloadN X1.here hx rfl (hb hby at_15) rfl ?_
    refine XS.iconst X1.here hx rfl (hb hby at_16) ?_
    show Sq p e below m T1 17 #[iv p1, iv 3, rv w_ROLLBACKING, .unset] [.int 5, .int 3] _
    refine XS.icmpNo X1.here hx rfl (hb hby at_17) rfl (feq (by decide)).1 ?_
    refine XS.iloadN X1.here hx rfl (hb hby at_20) rfl ?_
    show Sq p e below m T1 21 #[iv p1, iv 3, rv w_ROLLBACKING, .unset] [.int 3] _
    refine XS.bipush X1.here hx rfl (hb hby at_21) ?_
    refine XS.icmpYes X1.here hx rfl (pc0 := 23) (pc' := 30) rfl (hb hby at_23) rfl (feq (by decide)).2 (by decide) (by decide) ?_
    show Sq p e below m T1 30 #[iv p1, iv 3, rv w_ROLLBACKING, .unset] [] _
    refine XS.iconst X1.here hx rfl (hb hby at_30) ?_
    refine XS.istoreN X1.here hx rfl (hb hby at_31) rfl rfl ?_
    show Sq p e below m T1 32 #[iv p1, iv 3, rv w_ROLLBACKING, iv 0] [] _
    refine XS.aloadN X1.here hx rfl (hb hby at_32) rfl rfl ?_
    show Sq p e below m T1 33 #[iv p1, iv 3, rv w_ROLLBACKING, iv 0] [.ref w_ROLLBACKING] _
    refine st2.trans ?_
    show Sq p e below m T2 36 #[iv p1, iv 3, rv w_ROLLBACKING, iv 0] [.int 0] _
    refine XS.iloadN X2.here hx rfl (hb hby at_36) rfl ?_
    refine XS.icmpNo X2.here hx rfl (hb hby at_37) rfl (teq (rfl : (0 : Int32) = (0 : Int32))).2 ?_
    show Sq p e below m T2 40 #[iv p1, iv 3, rv w_ROLLBACKING, iv 0] [] _
    refine XS.iconst X2.here hx rfl (hb hby at_40) ?_
    refine XS.goto X2.here hx rfl (pc0 := 41) (pc' := 45) rfl (hb hby at_41) (by decide) (by decide) ?_
    show Sq p e below m T2 45 #[iv p1, iv 3, rv w_ROLLBACKING, iv 0] [.int 1] _
    exact retN X2 hx (t := .boolean) Bd.returns (by simp) (hb hby at_45) hr
  · show Q_rm0 Z p1 w_BEGIN w_COMMITTED w_ROLLBACKED w_TIMEOUT_ROLLBACKED w_ROLLBACKING w_UNKNOWN w_COMMITTING w_ROLLBACK_BLOCKED h0 n0 _ T2.heap _
    rw [e2]
    exact ⟨rfl, N2⟩
set_option maxRecDepth 65536 in
set_option maxHeartbeats 40000000 in
theorem rm0_4 (l : Launch) (Z : State) (a0 : Array Value) (hw : ∀ d ∈ tables_1, d.before a0 Z = true) (ws : List Jvm.Cond) (p1 : Int32) (w_BEGIN : Addr) (w_COMMITTED : Addr) (w_ROLLBACKED : Addr) (w_TIMEOUT_ROLLBACKED : Addr) (w_ROLLBACKING : Addr) (w_UNKNOWN : Addr) (w_COMMITTING : Addr) (w_ROLLBACK_BLOCKED : Addr) (h0 : Heap) (n0 : Nat) (O : Old Z n0 h0) (S_w_BEGIN : Sta Z Z.heap "com/example/concordat/concordat/GlobalStatus" "BEGIN" "Lcom/example/concordat/concordat/GlobalStatus;" (.ref w_BEGIN)) (E_w_BEGIN : Exa Z Z.heap w_BEGIN "com/example/concordat/concordat/GlobalStatus") (S_w_COMMITTED : Sta Z Z.heap "com/example/concordat/concordat/GlobalStatus" "COMMITTED" "Lcom/example/concordat/concordat/GlobalStatus;" (.ref w_COMMITTED)) (E_w_COMMITTED : Exa Z Z.heap w_COMMITTED "com/example/concordat/concordat/GlobalStatus") (S_w_ROLLBACKED : Sta Z Z.heap "com/example/concordat/concordat/GlobalStatus" "ROLLBACKED" "Lcom/example/concordat/concordat/GlobalStatus;" (.ref w_ROLLBACKED)) (E_w_ROLLBACKED : Exa Z Z.heap w_ROLLBACKED "com/example/concordat/concordat/GlobalStatus") (S_w_TIMEOUT_ROLLBACKED : Sta Z Z.heap "com/example/concordat/concordat/GlobalStatus" "TIMEOUT_ROLLBACKED" "Lcom/example/concordat/concordat/GlobalStatus;" (.ref w_TIMEOUT_ROLLBACKED)) (E_w_TIMEOUT_ROLLBACKED : Exa Z Z.heap w_TIMEOUT_ROLLBACKED "com/example/concordat/concordat/GlobalStatus") (S_w_ROLLBACKING : Sta Z Z.heap "com/example/concordat/concordat/GlobalStatus" "ROLLBACKING" "Lcom/example/concordat/concordat/GlobalStatus;" (.ref w_ROLLBACKING)) (E_w_ROLLBACKING : Exa Z Z.heap w_ROLLBACKING "com/example/concordat/concordat/GlobalStatus") (S_w_UNKNOWN : Sta Z Z.heap "com/example/concordat/concordat/GlobalStatus" "UNKNOWN" "Lcom/example/concordat/concordat/GlobalStatus;" (.ref w_UNKNOWN)) (E_w_UNKNOWN : Exa Z Z.heap w_UNKNOWN "com/example/concordat/concordat/GlobalStatus") (S_w_COMMITTING : Sta Z Z.heap "com/example/concordat/concordat/GlobalStatus" "COMMITTING" "Lcom/example/concordat/concordat/GlobalStatus;" (.ref w_COMMITTING)) (E_w_COMMITTING : Exa Z Z.heap w_COMMITTING "com/example/concordat/concordat/GlobalStatus") (S_w_ROLLBACK_BLOCKED : Sta Z Z.heap "com/example/concordat/concordat/GlobalStatus" "ROLLBACK_BLOCKED" "Lcom/example/concordat/concordat/GlobalStatus;" (.ref w_ROLLBACK_BLOCKED)) (E_w_ROLLBACK_BLOCKED : Exa Z Z.heap w_ROLLBACK_BLOCKED "com/example/concordat/concordat/GlobalStatus") (ne_0_2 : w_BEGIN ≠ w_COMMITTED) (ne_0_5 : w_BEGIN ≠ w_ROLLBACKED) (ne_0_6 : w_BEGIN ≠ w_TIMEOUT_ROLLBACKED) (ne_1_2 : w_COMMITTING ≠ w_COMMITTED) (ne_1_5 : w_COMMITTING ≠ w_ROLLBACKED) (ne_1_6 : w_COMMITTING ≠ w_TIMEOUT_ROLLBACKED) (ne_3_2 : w_ROLLBACKING ≠ w_COMMITTED) (ne_3_5 : w_ROLLBACKING ≠ w_ROLLBACKED) (ne_3_6 : w_ROLLBACKING ≠ w_TIMEOUT_ROLLBACKED) (ne_4_2 : w_ROLLBACK_BLOCKED ≠ w_COMMITTED) (ne_4_5 : w_ROLLBACK_BLOCKED ≠ w_ROLLBACKED) (ne_4_6 : w_ROLLBACK_BLOCKED ≠ w_TIMEOUT_ROLLBACKED) (ne_5_2 : w_ROLLBACKED ≠ w_COMMITTED) (ne_6_2 : w_TIMEOUT_ROLLBACKED ≠ w_COMMITTED) (ne_6_5 : w_TIMEOUT_ROLLBACKED ≠ w_ROLLBACKED) (ne_7_2 : w_UNKNOWN ≠ w_COMMITTED) (ne_7_5 : w_UNKNOWN ≠ w_ROLLBACKED) (ne_7_6 : w_UNKNOWN ≠ w_TIMEOUT_ROLLBACKED) (hk : (p1 &&& (7 : Int32)) = (4 : Int32)) :
    Ctr l Z x code maxLocals ret ws room_1 #[(.int p1)] h0 (Q_rm0 Z p1 w_BEGIN w_COMMITTED w_ROLLBACKED w_TIMEOUT_ROLLBACKED w_ROLLBACKING w_UNKNOWN w_COMMITTING w_ROLLBACK_BLOCKED h0 n0) := by
  refine MetFree.of_bodySF (plainFor_of_name pn_0) hisR ?_
  intro p e s m args below meth c s₁ Bd hml0 hP hK
  obtain ⟨rfl, hZ, hh⟩ := hP
  have W := fun (i : Nat) {d : Jvm.Cond} (h : tables_1[i]? = some d) => hw d (List.mem_of_getElem? h)
  have hx := Bd.exec
  have hby := Bd.bytes
  have hml : c.maxLocals = 4 := hml0
  have hown : s.vm.findClass "com/example/concordat/concordat/GlobalStatusIsFinishedPinLaw" = some m.cls := findClass_of_methodNamed Bd.named
  have hnm := (name_of_methodNamed Bd.named Bd.method).1
  have X0 : Stand p l e room_1 s m #[(.int p1)] below meth c s₁ [] 0 0 := Stand.of_body Bd
  have e0 : s₁.heap = h0 := by rw [← hh, Bd.state]; rfl
  have N0 := Fr.nil n0
  have pre0 : ∀ t, Steps p.tables e below (s₁.setTop (mkF m 0 #[.val (.int p1), .unset, .unset, .unset] [])) t → Steps p.tables e below (s₁.setTop (entryFrame m #[(.int p1)] maxLocals)) t := fun t k => castTop (ef_9 m p1) k
  obtain ⟨_, _, ⟨T1, L1, k1, n1⟩, -, X1, ⟨Lc1, hQ1, l1, y1, z1⟩, st1⟩ := Jvm.LawKit.callS X0 hx (y := y_0) hown (mvT hZ (W 0 rfl)) (mvT hZ (W 1 rfl)) (mvT hZ (W 2 rfl)) (mvT hZ (W 3 rfl)) (by decide) (backOf (W := 0) (pick4 l Z a0 hw [] w_ROLLBACK_BLOCKED h0 n0 O S_w_ROLLBACK_BLOCKED) hZ (W 3 rfl) (W 2 rfl) (by decide) (by decide)) (g := (mkF m 6 #[iv p1, iv 4, .unset, .unset] [.int 4])) rfl (by rw [hml]; rfl) (argsL := [.int 4]) (rest := []) (lenOf pd_0 rfl) rfl (by show 2 * 0 + _ ≤ _; exact Nat.le_of_eq rfl) (hb hby at_6) (fun _ _ => ⟨rfl, e0, (by decide : 0 + 0 ≤ _), (by decide : 0 + 0 ≤ _)⟩)
  dsimp only [Pt.U, Pt.locs, Pt.cells, Pt.slots] at X1 l1 y1 z1 st1 hQ1
  subst l1 y1 z1
  obtain ⟨h1, e1⟩ : ∃ z, T1.heap = z := ⟨_, rfl⟩
  rw [e1] at hQ1
  obtain ⟨rfl, N1q, p1_0⟩ := hQ1
  have N1 := Fr.app N0 N1q
  rw [p1_0] at e1
  obtain ⟨cq2, kq2, q2a, q2b, q2c⟩ := isOf hZ e1 (E_w_ROLLBACK_BLOCKED.ext O.2)
  obtain ⟨_, _, ⟨T2, L2, k2, n2⟩, -, X2, ⟨Lc2, hQ2, l2, y2, z2⟩, st2⟩ := X1.virtualBack hx (y := y_1) (z := y_1) hown (mvT hZ (W 7 rfl)) (mvT hZ (W 8 rfl)) (notFace_of_selects (args := #[]) (mvT hZ (W 10 rfl))) (mvT hZ (W 10 rfl)) (mvT hZ (W 9 rfl)) (by decide) (backOf (W := 0) (fin0 l Z a0 hw [] w_ROLLBACK_BLOCKED w_COMMITTED w_ROLLBACKED w_TIMEOUT_ROLLBACKED h0 n0 O S_w_COMMITTED S_w_ROLLBACKED S_w_TIMEOUT_ROLLBACKED ne_4_2 ne_4_5 ne_4_6) hZ (W 11 rfl) (W 5 rfl) (by decide) (by decide)) q2a q2c (g := (mkF m 33 #[iv p1, iv 4, rv w_ROLLBACK_BLOCKED, iv 0] [.ref w_ROLLBACK_BLOCKED])) rfl (by rw [hml]; rfl) (Steps.refl _) (argsL := []) (rest := []) (lenOf pd_1 rfl) rfl (by show 2 * 0 + _ ≤ _; exact Nat.le_of_eq rfl) (hb hby at_33) (fun _ _ => ⟨rfl, e1, (by decide : 0 + 0 ≤ _), (by decide : 0 + 0 ≤ _)⟩)
  dsimp only [Pt.U, Pt.locs, Pt.cells, Pt.slots] at X2 l2 y2 z2 st2 hQ2
  subst l2 y2 z2
  obtain ⟨h2, e2⟩ : ∃ z, T2.heap = z := ⟨_, rfl⟩
  rw [e2] at hQ2
  obtain ⟨rfl, N2q, p2_0⟩ := hQ2
  have N2 := Fr.app N1 N2q
  rw [p2_0] at e2
  obtain ⟨fs, hr, hrun, hended, hW, hsame⟩ := X2.leave (v := some (.int (1 : Int32))) (fun h => by rw [Bd.returns] at h; cases h)
  refine ⟨_, _, pre0 _ ?_, hrun, hended, _, _, rfl, ?_, ⟨_, rfl⟩, hW, hsame.mono (by decide) (by decide)⟩
  · show Sq p e below m s₁ 0 #[iv p1, .unset, .unset, .unset] [] _
    refine XS.iloadN X0.here hx rfl (hb hby at_0) rfl ?_
    refine XS.bipush X0.here hx rfl (hb hby at_1) ?_
    show Sq p e below m s₁ 3 #[iv p1, .unset, .unset, .unset] [.int 7, .int p1] _
    refine XS.iand X0.here hx rfl (hb hby at_3) rfl ?_
    show Sq p e below m s₁ 4 #[iv p1, .unset, .unset, .unset] [.int (p1 &&& (7 : Int32))] _
    rw [hk]
    show Sq p e below m s₁ 4 #[iv p1, .unset, .unset, .unset] [.int 4] _
    refine XS.istoreN X0.here hx rfl (hb hby at_4) rfl rfl ?_
    refine XS.iloadN X0.here hx rfl (hb hby at_5) rfl ?_
    show Sq p e below m s₁ 6 #[iv p1, iv 4, .unset, .unset] [.int 4] _
    refine st1 _ ?_
    show Sq p e below m T1 9 #[iv p1, iv 4, .unset, .unset] [.ref w_ROLLBACK_BLOCKED] _
    refine XS.astoreN X1.here hx rfl (hb hby at_9) rfl rfl rfl ?_
    refine XS.iloadN X1.here hx rfl (hb hby at_10) rfl ?_
    show Sq p e below m T1 11 #[iv p1, iv 4, rv w_ROLLBACK_BLOCKED, .unset] [.int 4] _
    refine XS.iconst X1.here hx rfl (hb hby at_11) ?_
    refine XS.icmpNo X1.here hx rfl (hb hby at_12) rfl (feq (by decide)).1 ?_
    show Sq p e below m T1 15 #[iv p1, iv 4, rv w_ROLLBACK_BLOCKED, .unset] [] _
    refine XS.iloadN X1.here hx rfl (hb hby at_15) rfl ?_
    refine XS.iconst X1.here hx rfl (hb hby at_16) ?_
    show Sq p e below m T1 17 #[iv p1, iv 4, rv w_ROLLBACK_BLOCKED, .unset] [.int 5, .int 4] _
    refine XS.icmpNo X1.here hx rfl (hb hby at_17) rfl (feq (by decide)).1 ?_
    refine XS.iloadN X1.here hx rfl (hb hby at_20) rfl ?_
    show Sq p e below m T1 21 #[iv p1, iv 4, rv w_ROLLBACK_BLOCKED, .unset] [.int 4] _
    refine XS.bipush X1.here hx rfl (hb hby at_21) ?_
    refine XS.icmpYes X1.here hx rfl (pc0 := 23) (pc' := 30) rfl (hb hby at_23) rfl (feq (by decide)).2 (by decide) (by decide) ?_
    show Sq p e below m T1 30 #[iv p1, iv 4, rv w_ROLLBACK_BLOCKED, .unset] [] _
    refine XS.iconst X1.here hx rfl (hb hby at_30) ?_
    refine XS.istoreN X1.here hx rfl (hb hby at_31) rfl rfl ?_
    show Sq p e below m T1 32 #[iv p1, iv 4, rv w_ROLLBACK_BLOCKED, iv 0] [] _
    refine XS.aloadN X1.here hx rfl (hb hby at_32) rfl rfl ?_
    show Sq p e below m T1 33 #[iv p1, iv 4, rv w_ROLLBACK_BLOCKED, iv 0] [.ref w_ROLLBACK_BLOCKED] _
    refine st2.trans ?_
    show Sq p e below m T2 36 #[iv p1, iv 4, rv w_ROLLBACK_BLOCKED, iv 0] [.int 0] _
    refine XS.iloadN X2.here hx rfl (hb hby at_36) rfl ?_
    refine XS.icmpNo X2.here hx rfl (hb hby at_37) rfl (teq (rfl : (0 : Int32) = (0 : Int32))).2 ?_
    show Sq p e below m T2 40 #[iv p1, iv 4, rv w_ROLLBACK_BLOCKED, iv 0] [] _
    refine XS.iconst X2.here hx rfl (hb hby at_40) ?_
    refine XS.goto X2.here hx rfl (pc0 := 41) (pc' := 45) rfl (hb hby at_41) (by decide) (by decide) ?_
    show Sq p e below m T2 45 #[iv p1, iv 4, rv w_ROLLBACK_BLOCKED, iv 0] [.int 1] _
    exact retN X2 hx (t := .boolean) Bd.returns (by simp) (hb hby at_45) hr
  · show Q_rm0 Z p1 w_BEGIN w_COMMITTED w_ROLLBACKED w_TIMEOUT_ROLLBACKED w_ROLLBACKING w_UNKNOWN w_COMMITTING w_ROLLBACK_BLOCKED h0 n0 _ T2.heap _
    rw [e2]
    exact ⟨rfl, N2⟩
set_option maxRecDepth 65536 in
set_option maxHeartbeats 40000000 in
theorem rm0_5 (l : Launch) (Z : State) (a0 : Array Value) (hw : ∀ d ∈ tables_1, d.before a0 Z = true) (ws : List Jvm.Cond) (p1 : Int32) (w_BEGIN : Addr) (w_COMMITTED : Addr) (w_ROLLBACKED : Addr) (w_TIMEOUT_ROLLBACKED : Addr) (w_ROLLBACKING : Addr) (w_UNKNOWN : Addr) (w_COMMITTING : Addr) (w_ROLLBACK_BLOCKED : Addr) (h0 : Heap) (n0 : Nat) (O : Old Z n0 h0) (S_w_BEGIN : Sta Z Z.heap "com/example/concordat/concordat/GlobalStatus" "BEGIN" "Lcom/example/concordat/concordat/GlobalStatus;" (.ref w_BEGIN)) (E_w_BEGIN : Exa Z Z.heap w_BEGIN "com/example/concordat/concordat/GlobalStatus") (S_w_COMMITTED : Sta Z Z.heap "com/example/concordat/concordat/GlobalStatus" "COMMITTED" "Lcom/example/concordat/concordat/GlobalStatus;" (.ref w_COMMITTED)) (E_w_COMMITTED : Exa Z Z.heap w_COMMITTED "com/example/concordat/concordat/GlobalStatus") (S_w_ROLLBACKED : Sta Z Z.heap "com/example/concordat/concordat/GlobalStatus" "ROLLBACKED" "Lcom/example/concordat/concordat/GlobalStatus;" (.ref w_ROLLBACKED)) (E_w_ROLLBACKED : Exa Z Z.heap w_ROLLBACKED "com/example/concordat/concordat/GlobalStatus") (S_w_TIMEOUT_ROLLBACKED : Sta Z Z.heap "com/example/concordat/concordat/GlobalStatus" "TIMEOUT_ROLLBACKED" "Lcom/example/concordat/concordat/GlobalStatus;" (.ref w_TIMEOUT_ROLLBACKED)) (E_w_TIMEOUT_ROLLBACKED : Exa Z Z.heap w_TIMEOUT_ROLLBACKED "com/example/concordat/concordat/GlobalStatus") (S_w_ROLLBACKING : Sta Z Z.heap "com/example/concordat/concordat/GlobalStatus" "ROLLBACKING" "Lcom/example/concordat/concordat/GlobalStatus;" (.ref w_ROLLBACKING)) (E_w_ROLLBACKING : Exa Z Z.heap w_ROLLBACKING "com/example/concordat/concordat/GlobalStatus") (S_w_UNKNOWN : Sta Z Z.heap "com/example/concordat/concordat/GlobalStatus" "UNKNOWN" "Lcom/example/concordat/concordat/GlobalStatus;" (.ref w_UNKNOWN)) (E_w_UNKNOWN : Exa Z Z.heap w_UNKNOWN "com/example/concordat/concordat/GlobalStatus") (S_w_COMMITTING : Sta Z Z.heap "com/example/concordat/concordat/GlobalStatus" "COMMITTING" "Lcom/example/concordat/concordat/GlobalStatus;" (.ref w_COMMITTING)) (E_w_COMMITTING : Exa Z Z.heap w_COMMITTING "com/example/concordat/concordat/GlobalStatus") (S_w_ROLLBACK_BLOCKED : Sta Z Z.heap "com/example/concordat/concordat/GlobalStatus" "ROLLBACK_BLOCKED" "Lcom/example/concordat/concordat/GlobalStatus;" (.ref w_ROLLBACK_BLOCKED)) (E_w_ROLLBACK_BLOCKED : Exa Z Z.heap w_ROLLBACK_BLOCKED "com/example/concordat/concordat/GlobalStatus") (ne_0_2 : w_BEGIN ≠ w_COMMITTED) (ne_0_5 : w_BEGIN ≠ w_ROLLBACKED) (ne_0_6 : w_BEGIN ≠ w_TIMEOUT_ROLLBACKED) (ne_1_2 : w_COMMITTING ≠ w_COMMITTED) (ne_1_5 : w_COMMITTING ≠ w_ROLLBACKED) (ne_1_6 : w_COMMITTING ≠ w_TIMEOUT_ROLLBACKED) (ne_3_2 : w_ROLLBACKING ≠ w_COMMITTED) (ne_3_5 : w_ROLLBACKING ≠ w_ROLLBACKED) (ne_3_6 : w_ROLLBACKING ≠ w_TIMEOUT_ROLLBACKED) (ne_4_2 : w_ROLLBACK_BLOCKED ≠ w_COMMITTED) (ne_4_5 : w_ROLLBACK_BLOCKED ≠ w_ROLLBACKED) (ne_4_6 : w_ROLLBACK_BLOCKED ≠ w_TIMEOUT_ROLLBACKED) (ne_5_2 : w_ROLLBACKED ≠ w_COMMITTED) (ne_6_2 : w_TIMEOUT_ROLLBACKED ≠ w_COMMITTED) (ne_6_5 : w_TIMEOUT_ROLLBACKED ≠ w_ROLLBACKED) (ne_7_2 : w_UNKNOWN ≠ w_COMMITTED) (ne_7_5 : w_UNKNOWN ≠ w_ROLLBACKED) (ne_7_6 : w_UNKNOWN ≠ w_TIMEOUT_ROLLBACKED) (hk : (p1 &&& (7 : Int32)) = (5 : Int32)) :
    Ctr l Z x code maxLocals ret ws room_1 #[(.int p1)] h0 (Q_rm0 Z p1 w_BEGIN w_COMMITTED w_ROLLBACKED w_TIMEOUT_ROLLBACKED w_ROLLBACKING w_UNKNOWN w_COMMITTING w_ROLLBACK_BLOCKED h0 n0) := by
  refine MetFree.of_bodySF (plainFor_of_name pn_0) hisR ?_
  intro p e s m args below meth c s₁ Bd hml0 hP hK
  obtain ⟨rfl, hZ, hh⟩ := hP
  have W := fun (i : Nat) {d : Jvm.Cond} (h : tables_1[i]? = some d) => hw d (List.mem_of_getElem? h)
  have hx := Bd.exec
  have hby := Bd.bytes
  have hml : c.maxLocals = 4 := hml0
  have hown : s.vm.findClass "com/example/concordat/concordat/GlobalStatusIsFinishedPinLaw" = some m.cls := findClass_of_methodNamed Bd.named
  have hnm := (name_of_methodNamed Bd.named Bd.method).1
  have X0 : Stand p l e room_1 s m #[(.int p1)] below meth c s₁ [] 0 0 := Stand.of_body Bd
  have e0 : s₁.heap = h0 := by rw [← hh, Bd.state]; rfl
  have N0 := Fr.nil n0
  have pre0 : ∀ t, Steps p.tables e below (s₁.setTop (mkF m 0 #[.val (.int p1), .unset, .unset, .unset] [])) t → Steps p.tables e below (s₁.setTop (entryFrame m #[(.int p1)] maxLocals)) t := fun t k => castTop (ef_9 m p1) k
  obtain ⟨_, _, ⟨T1, L1, k1, n1⟩, -, X1, ⟨Lc1, hQ1, l1, y1, z1⟩, st1⟩ := Jvm.LawKit.callS X0 hx (y := y_0) hown (mvT hZ (W 0 rfl)) (mvT hZ (W 1 rfl)) (mvT hZ (W 2 rfl)) (mvT hZ (W 3 rfl)) (by decide) (backOf (W := 0) (pick5 l Z a0 hw [] w_ROLLBACKED h0 n0 O S_w_ROLLBACKED) hZ (W 3 rfl) (W 2 rfl) (by decide) (by decide)) (g := (mkF m 6 #[iv p1, iv 5, .unset, .unset] [.int 5])) rfl (by rw [hml]; rfl) (argsL := [.int 5]) (rest := []) (lenOf pd_0 rfl) rfl (by show 2 * 0 + _ ≤ _; exact Nat.le_of_eq rfl) (hb hby at_6) (fun _ _ => ⟨rfl, e0, (by decide : 0 + 0 ≤ _), (by decide : 0 + 0 ≤ _)⟩)
  dsimp only [Pt.U, Pt.locs, Pt.cells, Pt.slots] at X1 l1 y1 z1 st1 hQ1
  subst l1 y1 z1
  obtain ⟨h1, e1⟩ : ∃ z, T1.heap = z := ⟨_, rfl⟩
  rw [e1] at hQ1
  obtain ⟨rfl, N1q, p1_0⟩ := hQ1
  have N1 := Fr.app N0 N1q
  rw [p1_0] at e1
  obtain ⟨cq2, kq2, q2a, q2b, q2c⟩ := isOf hZ e1 (E_w_ROLLBACKED.ext O.2)
  obtain ⟨_, _, ⟨T2, L2, k2, n2⟩, -, X2, ⟨Lc2, hQ2, l2, y2, z2⟩, st2⟩ := X1.virtualBack hx (y := y_1) (z := y_1) hown (mvT hZ (W 7 rfl)) (mvT hZ (W 8 rfl)) (notFace_of_selects (args := #[]) (mvT hZ (W 10 rfl))) (mvT hZ (W 10 rfl)) (mvT hZ (W 9 rfl)) (by decide) (backOf (W := 0) (fin5 l Z a0 hw [] w_COMMITTED w_ROLLBACKED h0 n0 O S_w_COMMITTED S_w_ROLLBACKED ne_5_2) hZ (W 11 rfl) (W 5 rfl) (by decide) (by decide)) q2a q2c (g := (mkF m 33 #[iv p1, iv 5, rv w_ROLLBACKED, iv 1] [.ref w_ROLLBACKED])) rfl (by rw [hml]; rfl) (Steps.refl _) (argsL := []) (rest := []) (lenOf pd_1 rfl) rfl (by show 2 * 0 + _ ≤ _; exact Nat.le_of_eq rfl) (hb hby at_33) (fun _ _ => ⟨rfl, e1, (by decide : 0 + 0 ≤ _), (by decide : 0 + 0 ≤ _)⟩)
  dsimp only [Pt.U, Pt.locs, Pt.cells, Pt.slots] at X2 l2 y2 z2 st2 hQ2
  subst l2 y2 z2
  obtain ⟨h2, e2⟩ : ∃ z, T2.heap = z := ⟨_, rfl⟩
  rw [e2] at hQ2
  obtain ⟨rfl, N2q, p2_0⟩ := hQ2
  have N2 := Fr.app N1 N2q
  rw [p2_0] at e2
  obtain ⟨fs, hr, hrun, hended, hW, hsame⟩ := X2.leave (v := some (.int (1 : Int32))) (fun h => by rw [Bd.returns] at h; cases h)
  refine ⟨_, _, pre0 _ ?_, hrun, hended, _, _, rfl, ?_, ⟨_, rfl⟩, hW, hsame.mono (by decide) (by decide)⟩
  · show Sq p e below m s₁ 0 #[iv p1, .unset, .unset, .unset] [] _
    refine XS.iloadN X0.here hx rfl (hb hby at_0) rfl ?_
    refine XS.bipush X0.here hx rfl (hb hby at_1) ?_
    show Sq p e below m s₁ 3 #[iv p1, .unset, .unset, .unset] [.int 7, .int p1] _
    refine XS.iand X0.here hx rfl (hb hby at_3) rfl ?_
    show Sq p e below m s₁ 4 #[iv p1, .unset, .unset, .unset] [.int (p1 &&& (7 : Int32))] _
    rw [hk]
    show Sq p e below m s₁ 4 #[iv p1, .unset, .unset, .unset] [.int 5] _
    refine XS.istoreN X0.here hx rfl (hb hby at_4) rfl rfl ?_
    refine XS.iloadN X0.here hx rfl (hb hby at_5) rfl ?_
    show Sq p e below m s₁ 6 #[iv p1, iv 5, .unset, .unset] [.int 5] _
    refine st1 _ ?_
    show Sq p e below m T1 9 #[iv p1, iv 5, .unset, .unset] [.ref w_ROLLBACKED] _
    refine XS.astoreN X1.here hx rfl (hb hby at_9) rfl rfl rfl ?_
    refine XS.iloadN X1.here hx rfl (hb hby at_10) rfl ?_
    show Sq p e below m T1 11 #[iv p1, iv 5, rv w_ROLLBACKED, .unset] [.int 5] _
    refine XS.iconst X1.here hx rfl (hb hby at_11) ?_
    refine XS.icmpNo X1.here hx rfl (hb hby at_12) rfl (feq (by decide)).1 ?_
    show Sq p e below m T1 15 #[iv p1, iv 5, rv w_ROLLBACKED, .unset] [] _
    refine XS.iloadN X1.here hx rfl (hb hby at_15) rfl ?_
    refine XS.iconst X1.here hx rfl (hb hby at_16) ?_
    show Sq p e below m T1 17 #[iv p1, iv 5, rv w_ROLLBACKED, .unset] [.int 5, .int 5] _
    refine XS.icmpYes X1.here hx rfl (pc0 := 17) (pc' := 26) rfl (hb hby at_17) rfl (teq (rfl : (5 : Int32) = (5 : Int32))).1 (by decide) (by decide) ?_
    refine XS.iconst X1.here hx rfl (hb hby at_26) ?_
    show Sq p e below m T1 27 #[iv p1, iv 5, rv w_ROLLBACKED, .unset] [.int 1] _
    refine XS.goto X1.here hx rfl (pc0 := 27) (pc' := 31) rfl (hb hby at_27) (by decide) (by decide) ?_
    refine XS.istoreN X1.here hx rfl (hb hby at_31) rfl rfl ?_
    show Sq p e below m T1 32 #[iv p1, iv 5, rv w_ROLLBACKED, iv 1] [] _
    refine XS.aloadN X1.here hx rfl (hb hby at_32) rfl rfl ?_
    show Sq p e below m T1 33 #[iv p1, iv 5, rv w_ROLLBACKED, iv 1] [.ref w_ROLLBACKED] _
    refine st2.trans ?_
    show Sq p e below m T2 36 #[iv p1, iv 5, rv w_ROLLBACKED, iv 1] [.int 1] _
    refine XS.iloadN X2.here hx rfl (hb hby at_36) rfl ?_
    refine XS.icmpNo X2.here hx rfl (hb hby at_37) rfl (teq (rfl : (1 : Int32) = (1 : Int32))).2 ?_
    show Sq p e below m T2 40 #[iv p1, iv 5, rv w_ROLLBACKED, iv 1] [] _
    refine XS.iconst X2.here hx rfl (hb hby at_40) ?_
    refine XS.goto X2.here hx rfl (pc0 := 41) (pc' := 45) rfl (hb hby at_41) (by decide) (by decide) ?_
    show Sq p e below m T2 45 #[iv p1, iv 5, rv w_ROLLBACKED, iv 1] [.int 1] _
    exact retN X2 hx (t := .boolean) Bd.returns (by simp) (hb hby at_45) hr
  · show Q_rm0 Z p1 w_BEGIN w_COMMITTED w_ROLLBACKED w_TIMEOUT_ROLLBACKED w_ROLLBACKING w_UNKNOWN w_COMMITTING w_ROLLBACK_BLOCKED h0 n0 _ T2.heap _
    rw [e2]
    exact ⟨rfl, N2⟩
set_option maxRecDepth 65536 in
set_option maxHeartbeats 40000000 in
theorem rm0_6 (l : Launch) (Z : State) (a0 : Array Value) (hw : ∀ d ∈ tables_1, d.before a0 Z = true) (ws : List Jvm.Cond) (p1 : Int32) (w_BEGIN : Addr) (w_COMMITTED : Addr) (w_ROLLBACKED : Addr) (w_TIMEOUT_ROLLBACKED : Addr) (w_ROLLBACKING : Addr) (w_UNKNOWN : Addr) (w_COMMITTING : Addr) (w_ROLLBACK_BLOCKED : Addr) (h0 : Heap) (n0 : Nat) (O : Old Z n0 h0) (S_w_BEGIN : Sta Z Z.heap "com/example/concordat/concordat/GlobalStatus" "BEGIN" "Lcom/example/concordat/concordat/GlobalStatus;" (.ref w_BEGIN)) (E_w_BEGIN : Exa Z Z.heap w_BEGIN "com/example/concordat/concordat/GlobalStatus") (S_w_COMMITTED : Sta Z Z.heap "com/example/concordat/concordat/GlobalStatus" "COMMITTED" "Lcom/example/concordat/concordat/GlobalStatus;" (.ref w_COMMITTED)) (E_w_COMMITTED : Exa Z Z.heap w_COMMITTED "com/example/concordat/concordat/GlobalStatus") (S_w_ROLLBACKED : Sta Z Z.heap "com/example/concordat/concordat/GlobalStatus" "ROLLBACKED" "Lcom/example/concordat/concordat/GlobalStatus;" (.ref w_ROLLBACKED)) (E_w_ROLLBACKED : Exa Z Z.heap w_ROLLBACKED "com/example/concordat/concordat/GlobalStatus") (S_w_TIMEOUT_ROLLBACKED : Sta Z Z.heap "com/example/concordat/concordat/GlobalStatus" "TIMEOUT_ROLLBACKED" "Lcom/example/concordat/concordat/GlobalStatus;" (.ref w_TIMEOUT_ROLLBACKED)) (E_w_TIMEOUT_ROLLBACKED : Exa Z Z.heap w_TIMEOUT_ROLLBACKED "com/example/concordat/concordat/GlobalStatus") (S_w_ROLLBACKING : Sta Z Z.heap "com/example/concordat/concordat/GlobalStatus" "ROLLBACKING" "Lcom/example/concordat/concordat/GlobalStatus;" (.ref w_ROLLBACKING)) (E_w_ROLLBACKING : Exa Z Z.heap w_ROLLBACKING "com/example/concordat/concordat/GlobalStatus") (S_w_UNKNOWN : Sta Z Z.heap "com/example/concordat/concordat/GlobalStatus" "UNKNOWN" "Lcom/example/concordat/concordat/GlobalStatus;" (.ref w_UNKNOWN)) (E_w_UNKNOWN : Exa Z Z.heap w_UNKNOWN "com/example/concordat/concordat/GlobalStatus") (S_w_COMMITTING : Sta Z Z.heap "com/example/concordat/concordat/GlobalStatus" "COMMITTING" "Lcom/example/concordat/concordat/GlobalStatus;" (.ref w_COMMITTING)) (E_w_COMMITTING : Exa Z Z.heap w_COMMITTING "com/example/concordat/concordat/GlobalStatus") (S_w_ROLLBACK_BLOCKED : Sta Z Z.heap "com/example/concordat/concordat/GlobalStatus" "ROLLBACK_BLOCKED" "Lcom/example/concordat/concordat/GlobalStatus;" (.ref w_ROLLBACK_BLOCKED)) (E_w_ROLLBACK_BLOCKED : Exa Z Z.heap w_ROLLBACK_BLOCKED "com/example/concordat/concordat/GlobalStatus") (ne_0_2 : w_BEGIN ≠ w_COMMITTED) (ne_0_5 : w_BEGIN ≠ w_ROLLBACKED) (ne_0_6 : w_BEGIN ≠ w_TIMEOUT_ROLLBACKED) (ne_1_2 : w_COMMITTING ≠ w_COMMITTED) (ne_1_5 : w_COMMITTING ≠ w_ROLLBACKED) (ne_1_6 : w_COMMITTING ≠ w_TIMEOUT_ROLLBACKED) (ne_3_2 : w_ROLLBACKING ≠ w_COMMITTED) (ne_3_5 : w_ROLLBACKING ≠ w_ROLLBACKED) (ne_3_6 : w_ROLLBACKING ≠ w_TIMEOUT_ROLLBACKED) (ne_4_2 : w_ROLLBACK_BLOCKED ≠ w_COMMITTED) (ne_4_5 : w_ROLLBACK_BLOCKED ≠ w_ROLLBACKED) (ne_4_6 : w_ROLLBACK_BLOCKED ≠ w_TIMEOUT_ROLLBACKED) (ne_5_2 : w_ROLLBACKED ≠ w_COMMITTED) (ne_6_2 : w_TIMEOUT_ROLLBACKED ≠ w_COMMITTED) (ne_6_5 : w_TIMEOUT_ROLLBACKED ≠ w_ROLLBACKED) (ne_7_2 : w_UNKNOWN ≠ w_COMMITTED) (ne_7_5 : w_UNKNOWN ≠ w_ROLLBACKED) (ne_7_6 : w_UNKNOWN ≠ w_TIMEOUT_ROLLBACKED) (hk : (p1 &&& (7 : Int32)) = (6 : Int32)) :
    Ctr l Z x code maxLocals ret ws room_1 #[(.int p1)] h0 (Q_rm0 Z p1 w_BEGIN w_COMMITTED w_ROLLBACKED w_TIMEOUT_ROLLBACKED w_ROLLBACKING w_UNKNOWN w_COMMITTING w_ROLLBACK_BLOCKED h0 n0) := by
  refine MetFree.of_bodySF (plainFor_of_name pn_0) hisR ?_
  intro p e s m args below meth c s₁ Bd hml0 hP hK
  obtain ⟨rfl, hZ, hh⟩ := hP
  have W := fun (i : Nat) {d : Jvm.Cond} (h : tables_1[i]? = some d) => hw d (List.mem_of_getElem? h)
  have hx := Bd.exec
  have hby := Bd.bytes
  have hml : c.maxLocals = 4 := hml0
  have hown : s.vm.findClass "com/example/concordat/concordat/GlobalStatusIsFinishedPinLaw" = some m.cls := findClass_of_methodNamed Bd.named
  have hnm := (name_of_methodNamed Bd.named Bd.method).1
  have X0 : Stand p l e room_1 s m #[(.int p1)] below meth c s₁ [] 0 0 := Stand.of_body Bd
  have e0 : s₁.heap = h0 := by rw [← hh, Bd.state]; rfl
  have N0 := Fr.nil n0
  have pre0 : ∀ t, Steps p.tables e below (s₁.setTop (mkF m 0 #[.val (.int p1), .unset, .unset, .unset] [])) t → Steps p.tables e below (s₁.setTop (entryFrame m #[(.int p1)] maxLocals)) t := fun t k => castTop (ef_9 m p1) k
  obtain ⟨_, _, ⟨T1, L1, k1, n1⟩, -, X1, ⟨Lc1, hQ1, l1, y1, z1⟩, st1⟩ := Jvm.LawKit.callS X0 hx (y := y_0) hown (mvT hZ (W 0 rfl)) (mvT hZ (W 1 rfl)) (mvT hZ (W 2 rfl)) (mvT hZ (W 3 rfl)) (by decide) (backOf (W := 0) (pick6 l Z a0 hw [] w_TIMEOUT_ROLLBACKED h0 n0 O S_w_TIMEOUT_ROLLBACKED) hZ (W 3 rfl) (W 2 rfl) (by decide) (by decide)) (g := (mkF m 6 #[iv p1, iv 6, .unset, .unset] [.int 6])) rfl (by rw [hml]; rfl) (argsL := [.int 6]) (rest := []) (lenOf pd_0 rfl) rfl (by show 2 * 0 + _ ≤ _; exact Nat.le_of_eq rfl) (hb hby at_6) (fun _ _ => ⟨rfl, e0, (by decide : 0 + 0 ≤ _), (by decide : 0 + 0 ≤ _)⟩)
  dsimp only [Pt.U, Pt.locs, Pt.cells, Pt.slots] at X1 l1 y1 z1 st1 hQ1
  subst l1 y1 z1
  obtain ⟨h1, e1⟩ : ∃ z, T1.heap = z := ⟨_, rfl⟩
  rw [e1] at hQ1
  obtain ⟨rfl, N1q, p1_0⟩ := hQ1
  have N1 := Fr.app N0 N1q
  rw [p1_0] at e1
  obtain ⟨cq2, kq2, q2a, q2b, q2c⟩ := isOf hZ e1 (E_w_TIMEOUT_ROLLBACKED.ext O.2)
  obtain ⟨_, _, ⟨T2, L2, k2, n2⟩, -, X2, ⟨Lc2, hQ2, l2, y2, z2⟩, st2⟩ := X1.virtualBack hx (y := y_1) (z := y_1) hown (mvT hZ (W 7 rfl)) (mvT hZ (W 8 rfl)) (notFace_of_selects (args := #[]) (mvT hZ (W 10 rfl))) (mvT hZ (W 10 rfl)) (mvT hZ (W 9 rfl)) (by decide) (backOf (W := 0) (fin6 l Z a0 hw [] w_COMMITTED w_ROLLBACKED w_TIMEOUT_ROLLBACKED h0 n0 O S_w_COMMITTED S_w_ROLLBACKED S_w_TIMEOUT_ROLLBACKED ne_6_2 ne_6_5) hZ (W 11 rfl) (W 5 rfl) (by decide) (by decide)) q2a q2c (g := (mkF m 33 #[iv p1, iv 6, rv w_TIMEOUT_ROLLBACKED, iv 1] [.ref w_TIMEOUT_ROLLBACKED])) rfl (by rw [hml]; rfl) (Steps.refl _) (argsL := []) (rest := []) (lenOf pd_1 rfl) rfl (by show 2 * 0 + _ ≤ _; exact Nat.le_of_eq rfl) (hb hby at_33) (fun _ _ => ⟨rfl, e1, (by decide : 0 + 0 ≤ _), (by decide : 0 + 0 ≤ _)⟩)
  dsimp only [Pt.U, Pt.locs, Pt.cells, Pt.slots] at X2 l2 y2 z2 st2 hQ2
  subst l2 y2 z2
  obtain ⟨h2, e2⟩ : ∃ z, T2.heap = z := ⟨_, rfl⟩
  rw [e2] at hQ2
  obtain ⟨rfl, N2q, p2_0⟩ := hQ2
  have N2 := Fr.app N1 N2q
  rw [p2_0] at e2
  obtain ⟨fs, hr, hrun, hended, hW, hsame⟩ := X2.leave (v := some (.int (1 : Int32))) (fun h => by rw [Bd.returns] at h; cases h)
  refine ⟨_, _, pre0 _ ?_, hrun, hended, _, _, rfl, ?_, ⟨_, rfl⟩, hW, hsame.mono (by decide) (by decide)⟩
  · show Sq p e below m s₁ 0 #[iv p1, .unset, .unset, .unset] [] _
    refine XS.iloadN X0.here hx rfl (hb hby at_0) rfl ?_
    refine XS.bipush X0.here hx rfl (hb hby at_1) ?_
    show Sq p e below m s₁ 3 #[iv p1, .unset, .unset, .unset] [.int 7, .int p1] _
    refine XS.iand X0.here hx rfl (hb hby at_3) rfl ?_
    show Sq p e below m s₁ 4 #[iv p1, .unset, .unset, .unset] [.int (p1 &&& (7 : Int32))] _
    rw [hk]
    show Sq p e below m s₁ 4 #[iv p1, .unset, .unset, .unset] [.int 6] _
    refine XS.istoreN X0.here hx rfl (hb hby at_4) rfl rfl ?_
    refine XS.iloadN X0.here hx rfl (hb hby at_5) rfl ?_
    show Sq p e below m s₁ 6 #[iv p1, iv 6, .unset, .unset] [.int 6] _
    refine st1 _ ?_
    show Sq p e below m T1 9 #[iv p1, iv 6, .unset, .unset] [.ref w_TIMEOUT_ROLLBACKED] _
    refine XS.astoreN X1.here hx rfl (hb hby at_9) rfl rfl rfl ?_
    refine XS.iloadN X1.here hx rfl (hb hby at_10) rfl ?_
    show Sq p e below m T1 11 #[iv p1, iv 6, rv w_TIMEOUT_ROLLBACKED, .unset] [.int 6] _
    refine XS.iconst X1.here hx rfl (hb hby at_11) ?_
    refine XS.icmpNo X1.here hx rfl (hb hby at_12) rfl (feq (by decide)).1 ?_
    show Sq p e below m T1 15 #[iv p1, iv 6, rv w_TIMEOUT_ROLLBACKED, .unset] [] _
    refine XS.iloadN X1.here hx rfl (hb hby at_15) rfl ?_
    refine XS.iconst X1.here hx rfl (hb hby at_16) ?_
    show Sq p e below m T1 17 #[iv p1, iv 6, rv w_TIMEOUT_ROLLBACKED, .unset] [.int 5, .int 6] _
    refine XS.icmpNo X1.here hx rfl (hb hby at_17) rfl (feq (by decide)).1 ?_
    refine XS.iloadN X1.here hx rfl (hb hby at_20) rfl ?_
    show Sq p e below m T1 21 #[iv p1, iv 6, rv w_TIMEOUT_ROLLBACKED, .unset] [.int 6] _
    refine XS.bipush X1.here hx rfl (hb hby at_21) ?_
    refine XS.icmpNo X1.here hx rfl (hb hby at_23) rfl (teq (rfl : (6 : Int32) = (6 : Int32))).2 ?_
    show Sq p e below m T1 26 #[iv p1, iv 6, rv w_TIMEOUT_ROLLBACKED, .unset] [] _
    refine XS.iconst X1.here hx rfl (hb hby at_26) ?_
    refine XS.goto X1.here hx rfl (pc0 := 27) (pc' := 31) rfl (hb hby at_27) (by decide) (by decide) ?_
    show Sq p e below m T1 31 #[iv p1, iv 6, rv w_TIMEOUT_ROLLBACKED, .unset] [.int 1] _
    refine XS.istoreN X1.here hx rfl (hb hby at_31) rfl rfl ?_
    refine XS.aloadN X1.here hx rfl (hb hby at_32) rfl rfl ?_
    show Sq p e below m T1 33 #[iv p1, iv 6, rv w_TIMEOUT_ROLLBACKED, iv 1] [.ref w_TIMEOUT_ROLLBACKED] _
    refine st2.trans ?_
    show Sq p e below m T2 36 #[iv p1, iv 6, rv w_TIMEOUT_ROLLBACKED, iv 1] [.int 1] _
    refine XS.iloadN X2.here hx rfl (hb hby at_36) rfl ?_
    refine XS.icmpNo X2.here hx rfl (hb hby at_37) rfl (teq (rfl : (1 : Int32) = (1 : Int32))).2 ?_
    show Sq p e below m T2 40 #[iv p1, iv 6, rv w_TIMEOUT_ROLLBACKED, iv 1] [] _
    refine XS.iconst X2.here hx rfl (hb hby at_40) ?_
    refine XS.goto X2.here hx rfl (pc0 := 41) (pc' := 45) rfl (hb hby at_41) (by decide) (by decide) ?_
    show Sq p e below m T2 45 #[iv p1, iv 6, rv w_TIMEOUT_ROLLBACKED, iv 1] [.int 1] _
    exact retN X2 hx (t := .boolean) Bd.returns (by simp) (hb hby at_45) hr
  · show Q_rm0 Z p1 w_BEGIN w_COMMITTED w_ROLLBACKED w_TIMEOUT_ROLLBACKED w_ROLLBACKING w_UNKNOWN w_COMMITTING w_ROLLBACK_BLOCKED h0 n0 _ T2.heap _
    rw [e2]
    exact ⟨rfl, N2⟩
set_option maxRecDepth 65536 in
set_option maxHeartbeats 40000000 in
theorem rm0_7 (l : Launch) (Z : State) (a0 : Array Value) (hw : ∀ d ∈ tables_1, d.before a0 Z = true) (ws : List Jvm.Cond) (p1 : Int32) (w_BEGIN : Addr) (w_COMMITTED : Addr) (w_ROLLBACKED : Addr) (w_TIMEOUT_ROLLBACKED : Addr) (w_ROLLBACKING : Addr) (w_UNKNOWN : Addr) (w_COMMITTING : Addr) (w_ROLLBACK_BLOCKED : Addr) (h0 : Heap) (n0 : Nat) (O : Old Z n0 h0) (S_w_BEGIN : Sta Z Z.heap "com/example/concordat/concordat/GlobalStatus" "BEGIN" "Lcom/example/concordat/concordat/GlobalStatus;" (.ref w_BEGIN)) (E_w_BEGIN : Exa Z Z.heap w_BEGIN "com/example/concordat/concordat/GlobalStatus") (S_w_COMMITTED : Sta Z Z.heap "com/example/concordat/concordat/GlobalStatus" "COMMITTED" "Lcom/example/concordat/concordat/GlobalStatus;" (.ref w_COMMITTED)) (E_w_COMMITTED : Exa Z Z.heap w_COMMITTED "com/example/concordat/concordat/GlobalStatus") (S_w_ROLLBACKED : Sta Z Z.heap "com/example/concordat/concordat/GlobalStatus" "ROLLBACKED" "Lcom/example/concordat/concordat/GlobalStatus;" (.ref w_ROLLBACKED)) (E_w_ROLLBACKED : Exa Z Z.heap w_ROLLBACKED "com/example/concordat/concordat/GlobalStatus") (S_w_TIMEOUT_ROLLBACKED : Sta Z Z.heap "com/example/concordat/concordat/GlobalStatus" "TIMEOUT_ROLLBACKED" "Lcom/example/concordat/concordat/GlobalStatus;" (.ref w_TIMEOUT_ROLLBACKED)) (E_w_TIMEOUT_ROLLBACKED : Exa Z Z.heap w_TIMEOUT_ROLLBACKED "com/example/concordat/concordat/GlobalStatus") (S_w_ROLLBACKING : Sta Z Z.heap "com/example/concordat/concordat/GlobalStatus" "ROLLBACKING" "Lcom/example/concordat/concordat/GlobalStatus;" (.ref w_ROLLBACKING)) (E_w_ROLLBACKING : Exa Z Z.heap w_ROLLBACKING "com/example/concordat/concordat/GlobalStatus") (S_w_UNKNOWN : Sta Z Z.heap "com/example/concordat/concordat/GlobalStatus" "UNKNOWN" "Lcom/example/concordat/concordat/GlobalStatus;" (.ref w_UNKNOWN)) (E_w_UNKNOWN : Exa Z Z.heap w_UNKNOWN "com/example/concordat/concordat/GlobalStatus") (S_w_COMMITTING : Sta Z Z.heap "com/example/concordat/concordat/GlobalStatus" "COMMITTING" "Lcom/example/concordat/concordat/GlobalStatus;" (.ref w_COMMITTING)) (E_w_COMMITTING : Exa Z Z.heap w_COMMITTING "com/example/concordat/concordat/GlobalStatus") (S_w_ROLLBACK_BLOCKED : Sta Z Z.heap "com/example/concordat/concordat/GlobalStatus" "ROLLBACK_BLOCKED" "Lcom/example/concordat/concordat/GlobalStatus;" (.ref w_ROLLBACK_BLOCKED)) (E_w_ROLLBACK_BLOCKED : Exa Z Z.heap w_ROLLBACK_BLOCKED "com/example/concordat/concordat/GlobalStatus") (ne_0_2 : w_BEGIN ≠ w_COMMITTED) (ne_0_5 : w_BEGIN ≠ w_ROLLBACKED) (ne_0_6 : w_BEGIN ≠ w_TIMEOUT_ROLLBACKED) (ne_1_2 : w_COMMITTING ≠ w_COMMITTED) (ne_1_5 : w_COMMITTING ≠ w_ROLLBACKED) (ne_1_6 : w_COMMITTING ≠ w_TIMEOUT_ROLLBACKED) (ne_3_2 : w_ROLLBACKING ≠ w_COMMITTED) (ne_3_5 : w_ROLLBACKING ≠ w_ROLLBACKED) (ne_3_6 : w_ROLLBACKING ≠ w_TIMEOUT_ROLLBACKED) (ne_4_2 : w_ROLLBACK_BLOCKED ≠ w_COMMITTED) (ne_4_5 : w_ROLLBACK_BLOCKED ≠ w_ROLLBACKED) (ne_4_6 : w_ROLLBACK_BLOCKED ≠ w_TIMEOUT_ROLLBACKED) (ne_5_2 : w_ROLLBACKED ≠ w_COMMITTED) (ne_6_2 : w_TIMEOUT_ROLLBACKED ≠ w_COMMITTED) (ne_6_5 : w_TIMEOUT_ROLLBACKED ≠ w_ROLLBACKED) (ne_7_2 : w_UNKNOWN ≠ w_COMMITTED) (ne_7_5 : w_UNKNOWN ≠ w_ROLLBACKED) (ne_7_6 : w_UNKNOWN ≠ w_TIMEOUT_ROLLBACKED) (hk : (p1 &&& (7 : Int32)) = (7 : Int32)) :
    Ctr l Z x code maxLocals ret ws room_1 #[(.int p1)] h0 (Q_rm0 Z p1 w_BEGIN w_COMMITTED w_ROLLBACKED w_TIMEOUT_ROLLBACKED w_ROLLBACKING w_UNKNOWN w_COMMITTING w_ROLLBACK_BLOCKED h0 n0) := by
  refine MetFree.of_bodySF (plainFor_of_name pn_0) hisR ?_
  intro p e s m args below meth c s₁ Bd hml0 hP hK
  obtain ⟨rfl, hZ, hh⟩ := hP
  have W := fun (i : Nat) {d : Jvm.Cond} (h : tables_1[i]? = some d) => hw d (List.mem_of_getElem? h)
  have hx := Bd.exec
  have hby := Bd.bytes
  have hml : c.maxLocals = 4 := hml0
  have hown : s.vm.findClass "com/example/concordat/concordat/GlobalStatusIsFinishedPinLaw" = some m.cls := findClass_of_methodNamed Bd.named
  have hnm := (name_of_methodNamed Bd.named Bd.method).1
  have X0 : Stand p l e room_1 s m #[(.int p1)] below meth c s₁ [] 0 0 := Stand.of_body Bd
  have e0 : s₁.heap = h0 := by rw [← hh, Bd.state]; rfl
  have N0 := Fr.nil n0
  have pre0 : ∀ t, Steps p.tables e below (s₁.setTop (mkF m 0 #[.val (.int p1), .unset, .unset, .unset] [])) t → Steps p.tables e below (s₁.setTop (entryFrame m #[(.int p1)] maxLocals)) t := fun t k => castTop (ef_9 m p1) k
  obtain ⟨_, _, ⟨T1, L1, k1, n1⟩, -, X1, ⟨Lc1, hQ1, l1, y1, z1⟩, st1⟩ := Jvm.LawKit.callS X0 hx (y := y_0) hown (mvT hZ (W 0 rfl)) (mvT hZ (W 1 rfl)) (mvT hZ (W 2 rfl)) (mvT hZ (W 3 rfl)) (by decide) (backOf (W := 0) (pick7 l Z a0 hw [] w_UNKNOWN h0 n0 O S_w_UNKNOWN) hZ (W 3 rfl) (W 2 rfl) (by decide) (by decide)) (g := (mkF m 6 #[iv p1, iv 7, .unset, .unset] [.int 7])) rfl (by rw [hml]; rfl) (argsL := [.int 7]) (rest := []) (lenOf pd_0 rfl) rfl (by show 2 * 0 + _ ≤ _; exact Nat.le_of_eq rfl) (hb hby at_6) (fun _ _ => ⟨rfl, e0, (by decide : 0 + 0 ≤ _), (by decide : 0 + 0 ≤ _)⟩)
  dsimp only [Pt.U, Pt.locs, Pt.cells, Pt.slots] at X1 l1 y1 z1 st1 hQ1
  subst l1 y1 z1
  obtain ⟨h1, e1⟩ : ∃ z, T1.heap = z := ⟨_, rfl⟩
  rw [e1] at hQ1
  obtain ⟨rfl, N1q, p1_0⟩ := hQ1
  have N1 := Fr.app N0 N1q
  rw [p1_0] at e1
  obtain ⟨cq2, kq2, q2a, q2b, q2c⟩ := isOf hZ e1 (E_w_UNKNOWN.ext O.2)
  obtain ⟨_, _, ⟨T2, L2, k2, n2⟩, -, X2, ⟨Lc2, hQ2, l2, y2, z2⟩, st2⟩ := X1.virtualBack hx (y := y_1) (z := y_1) hown (mvT hZ (W 7 rfl)) (mvT hZ (W 8 rfl)) (notFace_of_selects (args := #[]) (mvT hZ (W 10 rfl))) (mvT hZ (W 10 rfl)) (mvT hZ (W 9 rfl)) (by decide) (backOf (W := 0) (fin0 l Z a0 hw [] w_UNKNOWN w_COMMITTED w_ROLLBACKED w_TIMEOUT_ROLLBACKED h0 n0 O S_w_COMMITTED S_w_ROLLBACKED S_w_TIMEOUT_ROLLBACKED ne_7_2 ne_7_5 ne_7_6) hZ (W 11 rfl) (W 5 rfl) (by decide) (by decide)) q2a q2c (g := (mkF m 33 #[iv p1, iv 7, rv w_UNKNOWN, iv 0] [.ref w_UNKNOWN])) rfl (by rw [hml]; rfl) (Steps.refl _) (argsL := []) (rest := []) (lenOf pd_1 rfl) rfl (by show 2 * 0 + _ ≤ _; exact Nat.le_of_eq rfl) (hb hby at_33) (fun _ _ => ⟨rfl, e1, (by decide : 0 + 0 ≤ _), (by decide : 0 + 0 ≤ _)⟩)
  dsimp only [Pt.U, Pt.locs, Pt.cells, Pt.slots] at X2 l2 y2 z2 st2 hQ2
  subst l2 y2 z2
  obtain ⟨h2, e2⟩ : ∃ z, T2.heap = z := ⟨_, rfl⟩
  rw [e2] at hQ2
  obtain ⟨rfl, N2q, p2_0⟩ := hQ2
  have N2 := Fr.app N1 N2q
  rw [p2_0] at e2
  obtain ⟨fs, hr, hrun, hended, hW, hsame⟩ := X2.leave (v := some (.int (1 : Int32))) (fun h => by rw [Bd.returns] at h; cases h)
  refine ⟨_, _, pre0 _ ?_, hrun, hended, _, _, rfl, ?_, ⟨_, rfl⟩, hW, hsame.mono (by decide) (by decide)⟩
  · show Sq p e below m s₁ 0 #[iv p1, .unset, .unset, .unset] [] _
    refine XS.iloadN X0.here hx rfl (hb hby at_0) rfl ?_
    refine XS.bipush X0.here hx rfl (hb hby at_1) ?_
    show Sq p e below m s₁ 3 #[iv p1, .unset, .unset, .unset] [.int 7, .int p1] _
    refine XS.iand X0.here hx rfl (hb hby at_3) rfl ?_
    show Sq p e below m s₁ 4 #[iv p1, .unset, .unset, .unset] [.int (p1 &&& (7 : Int32))] _
    rw [hk]
    show Sq p e below m s₁ 4 #[iv p1, .unset, .unset, .unset] [.int 7] _
    refine XS.istoreN X0.here hx rfl (hb hby at_4) rfl rfl ?_
    refine XS.iloadN X0.here hx rfl (hb hby at_5) rfl ?_
    show Sq p e below m s₁ 6 #[iv p1, iv 7, .unset, .unset] [.int 7] _
    refine st1 _ ?_
    show Sq p e below m T1 9 #[iv p1, iv 7, .unset, .unset] [.ref w_UNKNOWN] _
    refine XS.astoreN X1.here hx rfl (hb hby at_9) rfl rfl rfl ?_
    refine XS.iloadN X1.here hx rfl (hb hby at_10) rfl ?_
    show Sq p e below m T1 11 #[iv p1, iv 7, rv w_UNKNOWN, .unset] [.int 7] _
    refine XS.iconst X1.here hx rfl (hb hby at_11) ?_
    refine XS.icmpNo X1.here hx rfl (hb hby at_12) rfl (feq (by decide)).1 ?_
    show Sq p e below m T1 15 #[iv p1, iv 7, rv w_UNKNOWN, .unset] [] _
    refine XS.iloadN X1.here hx rfl (hb hby at_15) rfl ?_
    refine XS.iconst X1.here hx rfl (hb hby at_16) ?_
    show Sq p e below m T1 17 #[iv p1, iv 7, rv w_UNKNOWN, .unset] [.int 5, .int 7] _
    refine XS.icmpNo X1.here hx rfl (hb hby at_17) rfl (feq (by decide)).1 ?_
    refine XS.iloadN X1.here hx rfl (hb hby at_20) rfl ?_
    show Sq p e below m T1 21 #[iv p1, iv 7, rv w_UNKNOWN, .unset] [.int 7] _
    refine XS.bipush X1.here hx rfl (hb hby at_21) ?_
    refine XS.icmpYes X1.here hx rfl (pc0 := 23) (pc' := 30) rfl (hb hby at_23) rfl (feq (by decide)).2 (by decide) (by decide) ?_
    show Sq p e below m T1 30 #[iv p1, iv 7, rv w_UNKNOWN, .unset] [] _
    refine XS.iconst X1.here hx rfl (hb hby at_30) ?_
    refine XS.istoreN X1.here hx rfl (hb hby at_31) rfl rfl ?_
    show Sq p e below m T1 32 #[iv p1, iv 7, rv w_UNKNOWN, iv 0] [] _
    refine XS.aloadN X1.here hx rfl (hb hby at_32) rfl rfl ?_
    show Sq p e below m T1 33 #[iv p1, iv 7, rv w_UNKNOWN, iv 0] [.ref w_UNKNOWN] _
    refine st2.trans ?_
    show Sq p e below m T2 36 #[iv p1, iv 7, rv w_UNKNOWN, iv 0] [.int 0] _
    refine XS.iloadN X2.here hx rfl (hb hby at_36) rfl ?_
    refine XS.icmpNo X2.here hx rfl (hb hby at_37) rfl (teq (rfl : (0 : Int32) = (0 : Int32))).2 ?_
    show Sq p e below m T2 40 #[iv p1, iv 7, rv w_UNKNOWN, iv 0] [] _
    refine XS.iconst X2.here hx rfl (hb hby at_40) ?_
    refine XS.goto X2.here hx rfl (pc0 := 41) (pc' := 45) rfl (hb hby at_41) (by decide) (by decide) ?_
    show Sq p e below m T2 45 #[iv p1, iv 7, rv w_UNKNOWN, iv 0] [.int 1] _
    exact retN X2 hx (t := .boolean) Bd.returns (by simp) (hb hby at_45) hr
  · show Q_rm0 Z p1 w_BEGIN w_COMMITTED w_ROLLBACKED w_TIMEOUT_ROLLBACKED w_ROLLBACKING w_UNKNOWN w_COMMITTING w_ROLLBACK_BLOCKED h0 n0 _ T2.heap _
    rw [e2]
    exact ⟨rfl, N2⟩
set_option maxRecDepth 65536 in
theorem rm0 (l : Launch) (Z : State) (a0 : Array Value) (hw : ∀ d ∈ tables_1, d.before a0 Z = true) (ws : List Jvm.Cond) (p1 : Int32) (w_BEGIN : Addr) (w_COMMITTED : Addr) (w_ROLLBACKED : Addr) (w_TIMEOUT_ROLLBACKED : Addr) (w_ROLLBACKING : Addr) (w_UNKNOWN : Addr) (w_COMMITTING : Addr) (w_ROLLBACK_BLOCKED : Addr) (h0 : Heap) (n0 : Nat) (O : Old Z n0 h0) (S_w_BEGIN : Sta Z Z.heap "com/example/concordat/concordat/GlobalStatus" "BEGIN" "Lcom/example/concordat/concordat/GlobalStatus;" (.ref w_BEGIN)) (E_w_BEGIN : Exa Z Z.heap w_BEGIN "com/example/concordat/concordat/GlobalStatus") (S_w_COMMITTED : Sta Z Z.heap "com/example/concordat/concordat/GlobalStatus" "COMMITTED" "Lcom/example/concordat/concordat/GlobalStatus;" (.ref w_COMMITTED)) (E_w_COMMITTED : Exa Z Z.heap w_COMMITTED "com/example/concordat/concordat/GlobalStatus") (S_w_ROLLBACKED : Sta Z Z.heap "com/example/concordat/concordat/GlobalStatus" "ROLLBACKED" "Lcom/example/concordat/concordat/GlobalStatus;" (.ref w_ROLLBACKED)) (E_w_ROLLBACKED : Exa Z Z.heap w_ROLLBACKED "com/example/concordat/concordat/GlobalStatus") (S_w_TIMEOUT_ROLLBACKED : Sta Z Z.heap "com/example/concordat/concordat/GlobalStatus" "TIMEOUT_ROLLBACKED" "Lcom/example/concordat/concordat/GlobalStatus;" (.ref w_TIMEOUT_ROLLBACKED)) (E_w_TIMEOUT_ROLLBACKED : Exa Z Z.heap w_TIMEOUT_ROLLBACKED "com/example/concordat/concordat/GlobalStatus") (S_w_ROLLBACKING : Sta Z Z.heap "com/example/concordat/concordat/GlobalStatus" "ROLLBACKING" "Lcom/example/concordat/concordat/GlobalStatus;" (.ref w_ROLLBACKING)) (E_w_ROLLBACKING : Exa Z Z.heap w_ROLLBACKING "com/example/concordat/concordat/GlobalStatus") (S_w_UNKNOWN : Sta Z Z.heap "com/example/concordat/concordat/GlobalStatus" "UNKNOWN" "Lcom/example/concordat/concordat/GlobalStatus;" (.ref w_UNKNOWN)) (E_w_UNKNOWN : Exa Z Z.heap w_UNKNOWN "com/example/concordat/concordat/GlobalStatus") (S_w_COMMITTING : Sta Z Z.heap "com/example/concordat/concordat/GlobalStatus" "COMMITTING" "Lcom/example/concordat/concordat/GlobalStatus;" (.ref w_COMMITTING)) (E_w_COMMITTING : Exa Z Z.heap w_COMMITTING "com/example/concordat/concordat/GlobalStatus") (S_w_ROLLBACK_BLOCKED : Sta Z Z.heap "com/example/concordat/concordat/GlobalStatus" "ROLLBACK_BLOCKED" "Lcom/example/concordat/concordat/GlobalStatus;" (.ref w_ROLLBACK_BLOCKED)) (E_w_ROLLBACK_BLOCKED : Exa Z Z.heap w_ROLLBACK_BLOCKED "com/example/concordat/concordat/GlobalStatus") (ne_0_2 : w_BEGIN ≠ w_COMMITTED) (ne_0_5 : w_BEGIN ≠ w_ROLLBACKED) (ne_0_6 : w_BEGIN ≠ w_TIMEOUT_ROLLBACKED) (ne_1_2 : w_COMMITTING ≠ w_COMMITTED) (ne_1_5 : w_COMMITTING ≠ w_ROLLBACKED) (ne_1_6 : w_COMMITTING ≠ w_TIMEOUT_ROLLBACKED) (ne_3_2 : w_ROLLBACKING ≠ w_COMMITTED) (ne_3_5 : w_ROLLBACKING ≠ w_ROLLBACKED) (ne_3_6 : w_ROLLBACKING ≠ w_TIMEOUT_ROLLBACKED) (ne_4_2 : w_ROLLBACK_BLOCKED ≠ w_COMMITTED) (ne_4_5 : w_ROLLBACK_BLOCKED ≠ w_ROLLBACKED) (ne_4_6 : w_ROLLBACK_BLOCKED ≠ w_TIMEOUT_ROLLBACKED) (ne_5_2 : w_ROLLBACKED ≠ w_COMMITTED) (ne_6_2 : w_TIMEOUT_ROLLBACKED ≠ w_COMMITTED) (ne_6_5 : w_TIMEOUT_ROLLBACKED ≠ w_ROLLBACKED) (ne_7_2 : w_UNKNOWN ≠ w_COMMITTED) (ne_7_5 : w_UNKNOWN ≠ w_ROLLBACKED) (ne_7_6 : w_UNKNOWN ≠ w_TIMEOUT_ROLLBACKED) :
    Ctr l Z x code maxLocals ret ws room_1 #[(.int p1)] h0 (Q_rm0 Z p1 w_BEGIN w_COMMITTED w_ROLLBACKED w_TIMEOUT_ROLLBACKED w_ROLLBACKING w_UNKNOWN w_COMMITTING w_ROLLBACK_BLOCKED h0 n0) := by
  rcases own_and7 p1 with hk | hk | hk | hk | hk | hk | hk | hk
  · exact rm0_0 l Z a0 hw ws p1 w_BEGIN w_COMMITTED w_ROLLBACKED w_TIMEOUT_ROLLBACKED w_ROLLBACKING w_UNKNOWN w_COMMITTING w_ROLLBACK_BLOCKED h0 n0 O S_w_BEGIN E_w_BEGIN S_w_COMMITTED E_w_COMMITTED S_w_ROLLBACKED E_w_ROLLBACKED S_w_TIMEOUT_ROLLBACKED E_w_TIMEOUT_ROLLBACKED S_w_ROLLBACKING E_w_ROLLBACKING S_w_UNKNOWN E_w_UNKNOWN S_w_COMMITTING E_w_COMMITTING S_w_ROLLBACK_BLOCKED E_w_ROLLBACK_BLOCKED ne_0_2 ne_0_5 ne_0_6 ne_1_2 ne_1_5 ne_1_6 ne_3_2 ne_3_5 ne_3_6 ne_4_2 ne_4_5 ne_4_6 ne_5_2 ne_6_2 ne_6_5 ne_7_2 ne_7_5 ne_7_6 hk
  · exact rm0_1 l Z a0 hw ws p1 w_BEGIN w_COMMITTED w_ROLLBACKED w_TIMEOUT_ROLLBACKED w_ROLLBACKING w_UNKNOWN w_COMMITTING w_ROLLBACK_BLOCKED h0 n0 O S_w_BEGIN E_w_BEGIN S_w_COMMITTED E_w_COMMITTED S_w_ROLLBACKED E_w_ROLLBACKED S_w_TIMEOUT_ROLLBACKED E_w_TIMEOUT_ROLLBACKED S_w_ROLLBACKING E_w_ROLLBACKING S_w_UNKNOWN E_w_UNKNOWN S_w_COMMITTING E_w_COMMITTING S_w_ROLLBACK_BLOCKED E_w_ROLLBACK_BLOCKED ne_0_2 ne_0_5 ne_0_6 ne_1_2 ne_1_5 ne_1_6 ne_3_2 ne_3_5 ne_3_6 ne_4_2 ne_4_5 ne_4_6 ne_5_2 ne_6_2 ne_6_5 ne_7_2 ne_7_5 ne_7_6 hk
  · exact rm0_2 l Z a0 hw ws p1 w_BEGIN w_COMMITTED w_ROLLBACKED w_TIMEOUT_ROLLBACKED w_ROLLBACKING w_UNKNOWN w_COMMITTING w_ROLLBACK_BLOCKED h0 n0 O S_w_BEGIN E_w_BEGIN S_w_COMMITTED E_w_COMMITTED S_w_ROLLBACKED E_w_ROLLBACKED S_w_TIMEOUT_ROLLBACKED E_w_TIMEOUT_ROLLBACKED S_w_ROLLBACKING E_w_ROLLBACKING S_w_UNKNOWN E_w_UNKNOWN S_w_COMMITTING E_w_COMMITTING S_w_ROLLBACK_BLOCKED E_w_ROLLBACK_BLOCKED ne_0_2 ne_0_5 ne_0_6 ne_1_2 ne_1_5 ne_1_6 ne_3_2 ne_3_5 ne_3_6 ne_4_2 ne_4_5 ne_4_6 ne_5_2 ne_6_2 ne_6_5 ne_7_2 ne_7_5 ne_7_6 hk
  · exact rm0_3 l Z a0 hw ws p1 w_BEGIN w_COMMITTED w_ROLLBACKED w_TIMEOUT_ROLLBACKED w_ROLLBACKING w_UNKNOWN w_COMMITTING w_ROLLBACK_BLOCKED h0 n0 O S_w_BEGIN E_w_BEGIN S_w_COMMITTED E_w_COMMITTED S_w_ROLLBACKED E_w_ROLLBACKED S_w_TIMEOUT_ROLLBACKED E_w_TIMEOUT_ROLLBACKED S_w_ROLLBACKING E_w_ROLLBACKING S_w_UNKNOWN E_w_UNKNOWN S_w_COMMITTING E_w_COMMITTING S_w_ROLLBACK_BLOCKED E_w_ROLLBACK_BLOCKED ne_0_2 ne_0_5 ne_0_6 ne_1_2 ne_1_5 ne_1_6 ne_3_2 ne_3_5 ne_3_6 ne_4_2 ne_4_5 ne_4_6 ne_5_2 ne_6_2 ne_6_5 ne_7_2 ne_7_5 ne_7_6 hk
  · exact rm0_4 l Z a0 hw ws p1 w_BEGIN w_COMMITTED w_ROLLBACKED w_TIMEOUT_ROLLBACKED w_ROLLBACKING w_UNKNOWN w_COMMITTING w_ROLLBACK_BLOCKED h0 n0 O S_w_BEGIN E_w_BEGIN S_w_COMMITTED E_w_COMMITTED S_w_ROLLBACKED E_w_ROLLBACKED S_w_TIMEOUT_ROLLBACKED E_w_TIMEOUT_ROLLBACKED S_w_ROLLBACKING E_w_ROLLBACKING S_w_UNKNOWN E_w_UNKNOWN S_w_COMMITTING E_w_COMMITTING S_w_ROLLBACK_BLOCKED E_w_ROLLBACK_BLOCKED ne_0_2 ne_0_5 ne_0_6 ne_1_2 ne_1_5 ne_1_6 ne_3_2 ne_3_5 ne_3_6 ne_4_2 ne_4_5 ne_4_6 ne_5_2 ne_6_2 ne_6_5 ne_7_2 ne_7_5 ne_7_6 hk
  · exact rm0_5 l Z a0 hw ws p1 w_BEGIN w_COMMITTED w_ROLLBACKED w_TIMEOUT_ROLLBACKED w_ROLLBACKING w_UNKNOWN w_COMMITTING w_ROLLBACK_BLOCKED h0 n0 O S_w_BEGIN E_w_BEGIN S_w_COMMITTED E_w_COMMITTED S_w_ROLLBACKED E_w_ROLLBACKED S_w_TIMEOUT_ROLLBACKED E_w_TIMEOUT_ROLLBACKED S_w_ROLLBACKING E_w_ROLLBACKING S_w_UNKNOWN E_w_UNKNOWN S_w_COMMITTING E_w_COMMITTING S_w_ROLLBACK_BLOCKED E_w_ROLLBACK_BLOCKED ne_0_2 ne_0_5 ne_0_6 ne_1_2 ne_1_5 ne_1_6 ne_3_2 ne_3_5 ne_3_6 ne_4_2 ne_4_5 ne_4_6 ne_5_2 ne_6_2 ne_6_5 ne_7_2 ne_7_5 ne_7_6 hk
  · exact rm0_6 l Z a0 hw ws p1 w_BEGIN w_COMMITTED w_ROLLBACKED w_TIMEOUT_ROLLBACKED w_ROLLBACKING w_UNKNOWN w_COMMITTING w_ROLLBACK_BLOCKED h0 n0 O S_w_BEGIN E_w_BEGIN S_w_COMMITTED E_w_COMMITTED S_w_ROLLBACKED E_w_ROLLBACKED S_w_TIMEOUT_ROLLBACKED E_w_TIMEOUT_ROLLBACKED S_w_ROLLBACKING E_w_ROLLBACKING S_w_UNKNOWN E_w_UNKNOWN S_w_COMMITTING E_w_COMMITTING S_w_ROLLBACK_BLOCKED E_w_ROLLBACK_BLOCKED ne_0_2 ne_0_5 ne_0_6 ne_1_2 ne_1_5 ne_1_6 ne_3_2 ne_3_5 ne_3_6 ne_4_2 ne_4_5 ne_4_6 ne_5_2 ne_6_2 ne_6_5 ne_7_2 ne_7_5 ne_7_6 hk
  · exact rm0_7 l Z a0 hw ws p1 w_BEGIN w_COMMITTED w_ROLLBACKED w_TIMEOUT_ROLLBACKED w_ROLLBACKING w_UNKNOWN w_COMMITTING w_ROLLBACK_BLOCKED h0 n0 O S_w_BEGIN E_w_BEGIN S_w_COMMITTED E_w_COMMITTED S_w_ROLLBACKED E_w_ROLLBACKED S_w_TIMEOUT_ROLLBACKED E_w_TIMEOUT_ROLLBACKED S_w_ROLLBACKING E_w_ROLLBACKING S_w_UNKNOWN E_w_UNKNOWN S_w_COMMITTING E_w_COMMITTING S_w_ROLLBACK_BLOCKED E_w_ROLLBACK_BLOCKED ne_0_2 ne_0_5 ne_0_6 ne_1_2 ne_1_5 ne_1_6 ne_3_2 ne_3_5 ne_3_6 ne_4_2 ne_4_5 ne_4_6 ne_5_2 ne_6_2 ne_6_5 ne_7_2 ne_7_5 ne_7_6 hk
set_option maxRecDepth 65536 in
set_option maxHeartbeats 40000000 in
theorem comes_1 {Post : Tables → Env → Array Value → State → Outcome → State → Prop} (hpost : ∀ tb e args s v u, (limb_1_1.after args s (.returned v) u = true ∧ limb_1_2.after args s (.returned v) u = true ∧ True) → FrameEnd s (.returned v) u (Jvm.fieldLocs frame_1_writes args s ++ Jvm.arrayLocs frame_1_arrays args s ++ Jvm.staticLocs frame_1_statics s) 0 0 → Post tb e args s (.returned v) u) :
    ArmFor flags0 classFile x code maxLocals ret World_1 tables_1 room_1 Calls_1 rest_1 Pre_1 Post := by
  intro l hfl _ _ p e ha hc hk s m args below hf hA hF happ hP
  obtain ⟨hcalls, hrest, hpre⟩ := hP
  obtain ⟨-, -, -, hnamed, -, -, -, hat⟩ := (Spec.applies_iff hf).mp happ
  obtain ⟨hg, hn⟩ := and_e (Cond.before_iff.mp (show (Jvm.Cond.and given_1 narrow_1).before args s = true from hpre))
  obtain ⟨gc, gr0⟩ := and_e hg
  obtain ⟨w0, rfl⟩ : ∃ w0 : Value, args = #[w0] := by
    have hs : args.size = 1 := by simpa [Cond.value, given_1] using gc
    obtain ⟨L⟩ := args
    match L, hs with
    | [w0], _ => exact ⟨w0, rfl⟩
  have hw := fun d (hd : d ∈ tables_1) => atoms_spec (ws := Jvm.Cond.code x code maxLocals ret :: tables_1) hat d (List.mem_cons_of_mem _ hd)
  have W := fun (i : Nat) {d : Jvm.Cond} (h : tables_1[i]? = some d) => hw d (List.mem_of_getElem? h)
  obtain ⟨i0, ei0⟩ := is_v gr0
  obtain rfl : w0 = (.int i0) := Option.some.inj ei0
  obtain ⟨c0, cr0⟩ := and_e hn
  obtain ⟨c1, cr1⟩ := and_e cr0
  obtain ⟨c2, cr2⟩ := and_e cr1
  obtain ⟨c3, cr3⟩ := and_e cr2
  obtain ⟨c4, cr4⟩ := and_e cr3
  obtain ⟨c5, cr5⟩ := and_e cr4
  obtain ⟨c6, cr6⟩ := and_e cr5
  obtain ⟨c7, cr7⟩ := and_e cr6
  obtain ⟨c8, cr8⟩ := and_e cr7
  obtain ⟨c9, cr9⟩ := and_e cr8
  obtain ⟨c10, cr10⟩ := and_e cr9
  obtain ⟨c11, cr11⟩ := and_e cr10
  obtain ⟨c12, cr12⟩ := and_e cr11
  obtain ⟨c13, cr13⟩ := and_e cr12
  obtain ⟨c14, cr14⟩ := and_e cr13
  have c15 := cr14
  obtain ⟨w_BEGIN, S_w_BEGIN, E_w_BEGIN, ev_w_BEGIN⟩ := own_static c0 (Or.inr ⟨(W 5 rfl), (W 6 rfl)⟩)
  obtain ⟨w_COMMITTED, S_w_COMMITTED, E_w_COMMITTED, ev_w_COMMITTED⟩ := own_static c1 (Or.inr ⟨(W 5 rfl), (W 13 rfl)⟩)
  obtain ⟨w_ROLLBACKED, S_w_ROLLBACKED, E_w_ROLLBACKED, ev_w_ROLLBACKED⟩ := own_static c4 (Or.inr ⟨(W 5 rfl), (W 15 rfl)⟩)
  obtain ⟨w_TIMEOUT_ROLLBACKED, S_w_TIMEOUT_ROLLBACKED, E_w_TIMEOUT_ROLLBACKED, ev_w_TIMEOUT_ROLLBACKED⟩ := own_static c6 (Or.inr ⟨(W 5 rfl), (W 17 rfl)⟩)
  obtain ⟨w_ROLLBACKING, S_w_ROLLBACKING, E_w_ROLLBACKING, ev_w_ROLLBACKING⟩ := own_static c8 (Or.inr ⟨(W 5 rfl), (W 19 rfl)⟩)
  obtain ⟨w_UNKNOWN, S_w_UNKNOWN, E_w_UNKNOWN, ev_w_UNKNOWN⟩ := own_static c10 (Or.inr ⟨(W 5 rfl), (W 22 rfl)⟩)
  obtain ⟨w_COMMITTING, S_w_COMMITTING, E_w_COMMITTING, ev_w_COMMITTING⟩ := own_static c12 (Or.inr ⟨(W 5 rfl), (W 25 rfl)⟩)
  obtain ⟨w_ROLLBACK_BLOCKED, S_w_ROLLBACK_BLOCKED, E_w_ROLLBACK_BLOCKED, ev_w_ROLLBACK_BLOCKED⟩ := own_static c14 (Or.inr ⟨(W 5 rfl), (W 27 rfl)⟩)
  have F_w_BEGIN_ordinal := own_field ev_w_BEGIN c2
  have F_w_COMMITTED_ordinal := own_field ev_w_COMMITTED c3
  have F_w_ROLLBACKED_ordinal := own_field ev_w_ROLLBACKED c5
  have F_w_TIMEOUT_ROLLBACKED_ordinal := own_field ev_w_TIMEOUT_ROLLBACKED c7
  have F_w_ROLLBACKING_ordinal := own_field ev_w_ROLLBACKING c9
  have F_w_UNKNOWN_ordinal := own_field ev_w_UNKNOWN c11
  have F_w_COMMITTING_ordinal := own_field ev_w_COMMITTING c13
  have F_w_ROLLBACK_BLOCKED_ordinal := own_field ev_w_ROLLBACK_BLOCKED c15
  have ne_0_2 := own_ne F_w_BEGIN_ordinal F_w_COMMITTED_ordinal (by decide)
  have ne_0_5 := own_ne F_w_BEGIN_ordinal F_w_ROLLBACKED_ordinal (by decide)
  have ne_0_6 := own_ne F_w_BEGIN_ordinal F_w_TIMEOUT_ROLLBACKED_ordinal (by decide)
  have ne_1_2 := own_ne F_w_COMMITTING_ordinal F_w_COMMITTED_ordinal (by decide)
  have ne_1_5 := own_ne F_w_COMMITTING_ordinal F_w_ROLLBACKED_ordinal (by decide)
  have ne_1_6 := own_ne F_w_COMMITTING_ordinal F_w_TIMEOUT_ROLLBACKED_ordinal (by decide)
  have ne_3_2 := own_ne F_w_ROLLBACKING_ordinal F_w_COMMITTED_ordinal (by decide)
  have ne_3_5 := own_ne F_w_ROLLBACKING_ordinal F_w_ROLLBACKED_ordinal (by decide)
  have ne_3_6 := own_ne F_w_ROLLBACKING_ordinal F_w_TIMEOUT_ROLLBACKED_ordinal (by decide)
  have ne_4_2 := own_ne F_w_ROLLBACK_BLOCKED_ordinal F_w_COMMITTED_ordinal (by decide)
  have ne_4_5 := own_ne F_w_ROLLBACK_BLOCKED_ordinal F_w_ROLLBACKED_ordinal (by decide)
  have ne_4_6 := own_ne F_w_ROLLBACK_BLOCKED_ordinal F_w_TIMEOUT_ROLLBACKED_ordinal (by decide)
  have ne_5_2 := own_ne F_w_ROLLBACKED_ordinal F_w_COMMITTED_ordinal (by decide)
  have ne_6_2 := own_ne F_w_TIMEOUT_ROLLBACKED_ordinal F_w_COMMITTED_ordinal (by decide)
  have ne_6_5 := own_ne F_w_TIMEOUT_ROLLBACKED_ordinal F_w_ROLLBACKED_ordinal (by decide)
  have ne_7_2 := own_ne F_w_UNKNOWN_ordinal F_w_COMMITTED_ordinal (by decide)
  have ne_7_5 := own_ne F_w_UNKNOWN_ordinal F_w_ROLLBACKED_ordinal (by decide)
  have ne_7_6 := own_ne F_w_UNKNOWN_ordinal F_w_TIMEOUT_ROLLBACKED_ordinal (by decide)
  obtain ⟨n, o, h1, h2, h3, _, L, rfl, ⟨rfl, N⟩, hq⟩ := rm0 l s _ hw tables_1 i0 w_BEGIN w_COMMITTED w_ROLLBACKED w_TIMEOUT_ROLLBACKED w_ROLLBACKING w_UNKNOWN w_COMMITTING w_ROLLBACK_BLOCKED s.heap s.heap.size (Old.start s) S_w_BEGIN E_w_BEGIN S_w_COMMITTED E_w_COMMITTED S_w_ROLLBACKED E_w_ROLLBACKED S_w_TIMEOUT_ROLLBACKED E_w_TIMEOUT_ROLLBACKED S_w_ROLLBACKING E_w_ROLLBACKING S_w_UNKNOWN E_w_UNKNOWN S_w_COMMITTING E_w_COMMITTING S_w_ROLLBACK_BLOCKED E_w_ROLLBACK_BLOCKED ne_0_2 ne_0_5 ne_0_6 ne_1_2 ne_1_5 ne_1_6 ne_3_2 ne_3_5 ne_3_6 ne_4_2 ne_4_5 ne_4_6 ne_5_2 ne_6_2 ne_6_5 ne_7_2 ne_7_5 ne_7_6 p e ha hc hk s m _ below hf ((Spec.applies_iff_loose hf).mp happ).1 ⟨rfl, State.Warmed39.refl s, rfl⟩ trivial
  refine ⟨n, _, h1, h2, h3, hpost _ _ _ _ _ _ ⟨Cond.after_iff.mpr rfl, Cond.after_iff.mpr (eq_i res_at (Term.int_eval (1)) rfl), trivial⟩ ⟨hq.1, hq.2.1, (hq.2.2.sift fun y hy => Or.inr (N y hy)).mono (by decide) (by decide)⟩⟩
theorem main_1_1 : Claimed_1_1 := comes_1 fun _ _ _ _ _ _ h hF => ⟨h.1, hF⟩
theorem main_1_2 : Claimed_1_2 := comes_1 fun _ _ _ _ _ _ h hF => ⟨h.2.1, hF⟩
end Jvm.Pilot.@@N@@
namespace Jvm.Pilot.@@N@@
open Jvm Jvm.ClassFile Sem Op Lib Jvm.Free Jvm.Stand Jvm.Pilot.@@N@@.Jvm.D
/-! MADE BY PROGRAM (witnessworld.py) out of the Statement's table words and the real class files: 12 classes; the members and pool entries that the words name. The judged class is class 1, her method 2. -/
namespace start1
open Jvm.ClassFile
def u (s : String) : CpInfo := .utf8 (stringToUtf16 s)
/-- a pool by its gaps: so many unusable entries, then the entry; so many at the end -/
def gap : Nat → List CpInfo → List CpInfo
  | 0, r => r
  | n + 1, r => .unusable :: gap n r
def poolList (es : List (Nat × CpInfo)) (last : Nat) : List CpInfo := es.foldr (fun e r => gap e.1 (e.2 :: r)) (gap last [])
def pool (es : List (Nat × CpInfo)) (last : Nat) : Array CpInfo := ⟨poolList es last⟩
def fileOf (pool : Array CpInfo) (this : Nat) (attrs : Array Attribute := #[]) (ms : Array MethodInfo := #[]) (fl : Nat := 33) (sup : Nat := 0) (ifs : Array Nat := #[]) (fds : Array FieldInfo := #[]) : ClassFile where
  minorVersion := 0
  majorVersion := 65
  constantPool := pool
  accessFlags := fl
  thisClass := this
  superClass := sup
  interfaces := ifs
  fields := fds
  methods := ms
  attributes := attrs
def plain (name : String) (sup : Option ClassId) : Class where
  name := name
  kind := .ordinary
  loader := none
  accessFlags := 33
  super := sup
  interfaces := #[]
  cf := none
  fields := #[]
  methods := #[]
  instanceTypes := #[]
  staticTypes := #[]
  resolved := #[]
  callSites := []
  init := .initialized
  statics := none
  mirror := none

def pool0 : Array CpInfo := pool [(5, u "<init>"), (0, u "()V"), (1, .class_ 10), (1, u "java/lang/Object")] 113

def k0m0 : Method := { name := "<init>", desc := "()V", sig := { parameters := [], returnType := none }, accessFlags := 1, code := none }
/-- java/lang/Object -/
def k0 : Class := { plain "java/lang/Object" none with
  accessFlags := 33
  interfaces := #[]
  cf := some (fileOf pool0 8 #[] #[{ accessFlags := 1, nameIndex := 5, descriptorIndex := 6, attributes := #[] }] 33 0 #[] #[])
  fields := #[]
  methods := #[k0m0]
  instanceTypes := #[]
  staticTypes := #[]
  resolved := Array.replicate 124 none
  statics := none }

def pool1 : Array CpInfo := pool [(2, .class_ 4), (1, u "java/lang/Object"), (0, u "<init>"), (0, u "()V"), (0, .fieldref 8 9), (0, .class_ 10), (0, .nameAndType 11 12), (0, u "com/example/concordat/concordat/GlobalStatus"), (0, u "BEGIN"), (0, u "Lcom/example/concordat/concordat/GlobalStatus;"), (0, .fieldref 8 14), (0, .nameAndType 15 12), (0, u "COMMITTING"), (0, .fieldref 8 17), (0, .nameAndType 18 12), (0, u "COMMITTED"), (0, .fieldref 8 20), (0, .nameAndType 21 12), (0, u "ROLLBACKING"), (0, .fieldref 8 23), (0, .nameAndType 24 12), (0, u "ROLLBACK_BLOCKED"), (0, .fieldref 8 26), (0, .nameAndType 27 12), (0, u "ROLLBACKED"), (0, .fieldref 8 29), (0, .nameAndType 30 12), (0, u "TIMEOUT_ROLLBACKED"), (0, .fieldref 8 32), (0, .nameAndType 33 12), (0, u "UNKNOWN"), (0, .methodref 35 36), (0, .class_ 37), (0, .nameAndType 38 39), (0, u "com/example/concordat/concordat/GlobalStatusIsFinishedPinLaw"), (0, u "pick"), (0, u "(I)Lcom/example/concordat/concordat/GlobalStatus;"), (0, .methodref 8 41), (0, .nameAndType 42 43), (0, u "isFinished"), (0, u "()Z"), (3, u "law"), (0, u "(I)Z")] 2

def k1m0 : Method := { name := "<init>", desc := "()V", sig := { parameters := [], returnType := none }, accessFlags := 1, code := none }
def k1c1 : Code := { maxStack := 2, maxLocals := 1, code := method_2_code, exceptionTable := #[], attributes := #[] }
def k1m1 : Method := { name := "pick", desc := "(I)Lcom/example/concordat/concordat/GlobalStatus;", sig := { parameters := [.int], returnType := some (.object "com/example/concordat/concordat/GlobalStatus") }, accessFlags := 10, code := some k1c1 }
def k1c2 : Code := { maxStack := 2, maxLocals := 4, code := code, exceptionTable := #[], attributes := #[] }
def k1m2 : Method := { name := "law", desc := "(I)Z", sig := { parameters := [.int], returnType := some .boolean }, accessFlags := 9, code := some k1c2 }
/-- com/example/concordat/concordat/GlobalStatusIsFinishedPinLaw -/
def k1 : Class := { plain "com/example/concordat/concordat/GlobalStatusIsFinishedPinLaw" (some 0) with
  accessFlags := 49
  interfaces := #[]
  cf := some (fileOf pool1 35 #[] #[{ accessFlags := 1, nameIndex := 5, descriptorIndex := 6, attributes := #[] }, { accessFlags := 10, nameIndex := 38, descriptorIndex := 39, attributes := #[] }, { accessFlags := 9, nameIndex := 47, descriptorIndex := 48, attributes := #[] }] 49 2 #[] #[])
  fields := #[]
  methods := #[k1m0, k1m1, k1m2]
  instanceTypes := #[]
  staticTypes := #[]
  resolved := Array.replicate 51 none
  statics := none }

def pool2 : Array CpInfo := pool [(1, .class_ 2), (0, u "java/lang/constant/Constable"), (0, .class_ 4), (0, u "java/lang/Object")] 6

/-- java/lang/constant/Constable -/
def k2 : Class := { plain "java/lang/constant/Constable" (some 0) with
  accessFlags := 1537
  interfaces := #[]
  cf := some (fileOf pool2 1 #[] #[] 1537 3 #[] #[])
  fields := #[]
  methods := #[]
  instanceTypes := #[]
  staticTypes := #[]
  resolved := Array.replicate 11 none
  statics := none }

def pool3 : Array CpInfo := pool [(1, .class_ 2), (0, u "java/lang/Comparable"), (0, .class_ 4), (0, u "java/lang/Object")] 7

/-- java/lang/Comparable -/
def k3 : Class := { plain "java/lang/Comparable" (some 0) with
  accessFlags := 1537
  interfaces := #[]
  cf := some (fileOf pool3 1 #[] #[] 1537 3 #[] #[])
  fields := #[]
  methods := #[]
  instanceTypes := #[]
  staticTypes := #[]
  resolved := Array.replicate 12 none
  statics := none }

def pool4 : Array CpInfo := pool [(1, .class_ 2), (0, u "java/io/Serializable"), (0, .class_ 4), (0, u "java/lang/Object")] 2

/-- java/io/Serializable -/
def k4 : Class := { plain "java/io/Serializable" (some 0) with
  accessFlags := 1537
  interfaces := #[]
  cf := some (fileOf pool4 1 #[] #[] 1537 3 #[] #[])
  fields := #[]
  methods := #[]
  instanceTypes := #[]
  staticTypes := #[]
  resolved := Array.replicate 7 none
  statics := none }

def pool5 : Array CpInfo := pool [(2, .class_ 4), (1, u "java/lang/Enum"), (0, u "name"), (0, u "Ljava/lang/String;"), (2, u "ordinal"), (0, u "I"), (1, .class_ 14), (1, u "java/lang/Object"), (4, u "hash"), (86, .class_ 108), (1, u "java/lang/Enum$EnumDesc"), (2, .class_ 112), (0, u "java/lang/constant/Constable"), (0, .class_ 114), (0, u "java/lang/Comparable"), (0, .class_ 116), (0, u "java/io/Serializable")] 87

/-- java/lang/Enum -/
def k5 : Class := { plain "java/lang/Enum" (some 0) with
  accessFlags := 1057
  interfaces := #[2, 3, 4]
  cf := some (fileOf pool5 2 #[.nestMembers #[106]] #[] 1057 12 #[111, 113, 115] #[{ accessFlags := 18, nameIndex := 5, descriptorIndex := 6, attributes := #[] }, { accessFlags := 18, nameIndex := 9, descriptorIndex := 10, attributes := #[] }, { accessFlags := 2, nameIndex := 19, descriptorIndex := 10, attributes := #[] }])
  fields := #[{ name := "name", type := (.object "java/lang/String"), accessFlags := 18, slot := 0, constantValue := 0 }, { name := "ordinal", type := .int, accessFlags := 18, slot := 1, constantValue := 0 }, { name := "hash", type := .int, accessFlags := 2, slot := 2, constantValue := 0 }]
  methods := #[]
  instanceTypes := #[(.object "java/lang/String"), .int, .int]
  staticTypes := #[]
  resolved := Array.replicate 204 none
  statics := none }

def pool6 : Array CpInfo := pool [(1, .class_ 2), (0, u "com/example/concordat/concordat/GlobalStatus"), (2, u "BEGIN"), (0, u "Lcom/example/concordat/concordat/GlobalStatus;"), (2, u "COMMITTING"), (0, .fieldref 1 11), (0, .nameAndType 12 6), (0, u "COMMITTED"), (2, u "ROLLBACKING"), (2, u "ROLLBACK_BLOCKED"), (0, .fieldref 1 20), (0, .nameAndType 21 6), (0, u "ROLLBACKED"), (0, .fieldref 1 23), (0, .nameAndType 24 6), (0, u "TIMEOUT_ROLLBACKED"), (2, u "UNKNOWN"), (2, u "$VALUES"), (0, u "[Lcom/example/concordat/concordat/GlobalStatus;"), (6, .class_ 40), (1, u "java/lang/Enum"), (8, u "statusName"), (0, u "Ljava/lang/String;"), (47, u "isFinished"), (0, u "()Z")] 8

def k6c0 : Code := { maxStack := 2, maxLocals := 1, code := prog_10_method_5_code, exceptionTable := #[], attributes := #[] }
def k6m0 : Method := { name := "isFinished", desc := "()Z", sig := { parameters := [], returnType := some .boolean }, accessFlags := 1, code := some k6c0 }
/-- com/example/concordat/concordat/GlobalStatus -/
def k6 : Class := { plain "com/example/concordat/concordat/GlobalStatus" (some 5) with
  accessFlags := 16433
  interfaces := #[]
  cf := some (fileOf pool6 1 #[] #[{ accessFlags := 1, nameIndex := 98, descriptorIndex := 99, attributes := #[] }] 16433 38 #[] #[{ accessFlags := 16409, nameIndex := 5, descriptorIndex := 6, attributes := #[] }, { accessFlags := 16409, nameIndex := 9, descriptorIndex := 6, attributes := #[] }, { accessFlags := 16409, nameIndex := 12, descriptorIndex := 6, attributes := #[] }, { accessFlags := 16409, nameIndex := 15, descriptorIndex := 6, attributes := #[] }, { accessFlags := 16409, nameIndex := 18, descriptorIndex := 6, attributes := #[] }, { accessFlags := 16409, nameIndex := 21, descriptorIndex := 6, attributes := #[] }, { accessFlags := 16409, nameIndex := 24, descriptorIndex := 6, attributes := #[] }, { accessFlags := 16409, nameIndex := 27, descriptorIndex := 6, attributes := #[] }, { accessFlags := 18, nameIndex := 49, descriptorIndex := 50, attributes := #[] }, { accessFlags := 4122, nameIndex := 30, descriptorIndex := 31, attributes := #[] }])
  fields := #[{ name := "BEGIN", type := (.object "com/example/concordat/concordat/GlobalStatus"), accessFlags := 16409, slot := 0, constantValue := 0 }, { name := "COMMITTING", type := (.object "com/example/concordat/concordat/GlobalStatus"), accessFlags := 16409, slot := 1, constantValue := 0 }, { name := "COMMITTED", type := (.object "com/example/concordat/concordat/GlobalStatus"), accessFlags := 16409, slot := 2, constantValue := 0 }, { name := "ROLLBACKING", type := (.object "com/example/concordat/concordat/GlobalStatus"), accessFlags := 16409, slot := 3, constantValue := 0 }, { name := "ROLLBACK_BLOCKED", type := (.object "com/example/concordat/concordat/GlobalStatus"), accessFlags := 16409, slot := 4, constantValue := 0 }, { name := "ROLLBACKED", type := (.object "com/example/concordat/concordat/GlobalStatus"), accessFlags := 16409, slot := 5, constantValue := 0 }, { name := "TIMEOUT_ROLLBACKED", type := (.object "com/example/concordat/concordat/GlobalStatus"), accessFlags := 16409, slot := 6, constantValue := 0 }, { name := "UNKNOWN", type := (.object "com/example/concordat/concordat/GlobalStatus"), accessFlags := 16409, slot := 7, constantValue := 0 }, { name := "statusName", type := (.object "java/lang/String"), accessFlags := 18, slot := 3, constantValue := 0 }, { name := "$VALUES", type := (.array (.object "com/example/concordat/concordat/GlobalStatus")), accessFlags := 4122, slot := 8, constantValue := 0 }]
  methods := #[k6m0]
  instanceTypes := #[(.object "java/lang/String"), .int, .int, (.object "java/lang/String")]
  staticTypes := #[(.object "com/example/concordat/concordat/GlobalStatus"), (.object "com/example/concordat/concordat/GlobalStatus"), (.object "com/example/concordat/concordat/GlobalStatus"), (.object "com/example/concordat/concordat/GlobalStatus"), (.object "com/example/concordat/concordat/GlobalStatus"), (.object "com/example/concordat/concordat/GlobalStatus"), (.object "com/example/concordat/concordat/GlobalStatus"), (.object "com/example/concordat/concordat/GlobalStatus"), (.array (.object "com/example/concordat/concordat/GlobalStatus"))]
  resolved := Array.replicate 108 none
  statics := some 0 }

def pool7 : Array CpInfo := pool [(1, u "java/lang/Cloneable"), (0, .class_ 1), (0, u "java/lang/Object"), (0, .class_ 3)] 3

/-- java/lang/Cloneable -/
def k7 : Class := { plain "java/lang/Cloneable" (some 0) with
  accessFlags := 1537
  interfaces := #[]
  cf := some (fileOf pool7 2 #[] #[] 1537 4 #[] #[])
  fields := #[]
  methods := #[]
  instanceTypes := #[]
  staticTypes := #[]
  resolved := Array.replicate 8 none
  statics := none }

/-- the primitive byte -/
def k8 : Class := { plain "byte" none with kind := .primitive 'B', accessFlags := 0x411 }
/-- [B -/
def k9 : Class := { plain "[B" (some 0) with kind := .array 8 .byte, interfaces := #[7, 4], accessFlags := 1041 }

/-- the primitive int -/
def k10 : Class := { plain "int" none with kind := .primitive 'I', accessFlags := 0x411 }
/-- [I -/
def k11 : Class := { plain "[I" (some 0) with kind := .array 10 .int, interfaces := #[7, 4], accessFlags := 1041 }

def heap : Heap := #[{ cls := 6, slots := #[.ref 1, .ref 2, .ref 3, .ref 4, .ref 5, .ref 6, .ref 7, .ref 8, .null], vm := .statics 6 },
  { cls := 6, slots := #[.null, .int 0, .int 0, .null], vm := .none },
  { cls := 6, slots := #[.null, .int 1, .int 0, .null], vm := .none },
  { cls := 6, slots := #[.null, .int 2, .int 0, .null], vm := .none },
  { cls := 6, slots := #[.null, .int 3, .int 0, .null], vm := .none },
  { cls := 6, slots := #[.null, .int 4, .int 0, .null], vm := .none },
  { cls := 6, slots := #[.null, .int 5, .int 0, .null], vm := .none },
  { cls := 6, slots := #[.null, .int 6, .int 0, .null], vm := .none },
  { cls := 6, slots := #[.null, .int 7, .int 0, .null], vm := .none }]
def classes : Array Class := #[k0, k1, k2, k3, k4, k5, k6, k7, k8, k9, k10, k11]
def interned : List (Array UInt16 × Addr) := []
def slotsUsed : Nat := 41
def theMethod : MethodId := ⟨1, 2⟩
def args0 : Array Value := #[.int 5]
def aboutOver (below : List Frame) : State where
  vm := { classes := classes, interned := interned.toArray }
  heap := heap
  slotsUsed := slotsUsed
  threads := #[{ frames := .invoking theMethod args0 :: below }]
def below0 : List Frame := [.native { method := ⟨0, 0⟩, args := #[] }]
def about1 : State := aboutOver below0
def p0 : Program := .bare "" "" ""
def e0 : Env := launch0.env 0 0 0
theorem w_frames : about1.frames = Frame.invoking theMethod args0 :: below0 := rfl
set_option maxRecDepth 65536 in
theorem w_args : argsFit about1.vm theMethod args0 = true := by decide +kernel
set_option maxRecDepth 65536 in
theorem w_heap : heapFits about1 = true := by decide +kernel
set_option maxRecDepth 65536 in
theorem w_runnable : about1.curStatus? = some .runnable := by decide +kernel
set_option maxRecDepth 65536 in
theorem w_alone : about1.alone = true := by decide +kernel
set_option maxRecDepth 65536 in
theorem w_named : about1.methodNamed? x = some theMethod := by decide +kernel
set_option maxRecDepth 65536 in
theorem w_hears : about1.hears theMethod below0 = true := by decide +kernel
set_option maxRecDepth 65536 in
theorem w_ripe : about1.ripe theMethod args0 below0 = true := by decide +kernel
theorem w_running : about1.status = .running := rfl
set_option maxRecDepth 65536 in
theorem w_room : about1.hasRoom e0.platform room_1 = true :=
  launch0.hasRoom_least _ room_1 (by decide +kernel) (by decide +kernel) (by decide +kernel) (by decide +kernel) (by decide +kernel) (by decide +kernel)
theorem allAtoms_all (ts : List Jvm.Cond) (a : Array Jvm.Value) (st : Jvm.State) : (allAtoms ts).before a st = ts.all (fun c => c.before a st) := by
  induction ts with
  | nil => rfl
  | cons c t ih =>
    show (Jvm.Cond.and c (allAtoms t)).before a st = _
    rw [Jvm.Cond.before_and, ih, List.all_cons]
def words1 : List Jvm.Cond := Jvm.Cond.code x code maxLocals ret :: tables_1
/-- a 'code' word, met by the world's own term for the bytes: nothing is compared byte by byte -/
theorem code_word {y : MethodName} {bytes : ByteArray} {mx : Nat} {rt : Option FieldType} {a : Array Value} {s : State} {m : MethodId} {meth : Method} {c : Code} (h1 : s.methodNamed? y = some m) (h2 : s.vm.method? m = some meth) (h3 : meth.code = some c) (h4 : c.code = bytes)
    (h5 : (c.maxLocals == mx && c.exceptionTable.isEmpty && decide (c.maxStack ≤ mostOperands) && decide (meth.sig.returnType = rt) && !meth.locks && decide (parseMethodDescriptor y.desc = some meth.sig)) = true) : (Jvm.Cond.code y bytes mx rt).before a s = true := by
  simp only [Bool.and_eq_true, beq_iff_eq, Bool.not_eq_true', decide_eq_true_eq] at h5
  obtain ⟨⟨⟨⟨⟨g1, g2⟩, g3⟩, g4⟩, g5⟩, g6⟩ := h5
  simp [Cond.before, Cond.holds, Cond.value, h1, h2, h3, h4, g1, g2, g3, g4, g5, g6]
def isCode : Jvm.Cond → Bool
  | .code _ _ _ _ => true
  | _ => false
theorem all_split {L : List Jvm.Cond} {P : Jvm.Cond → Bool} (h1 : L.all (fun c => isCode c || P c) = true) (h2 : ∀ c ∈ L.filter isCode, P c = true) : L.all P = true := by
  refine List.all_eq_true.mpr fun c hc => ?_
  have h := List.all_eq_true.mp h1 c hc
  rcases Bool.eq_false_or_eq_true (isCode c) with hi | hi
  · exact h2 c (List.mem_filter.mpr ⟨hc, hi⟩)
  · simpa [hi] using h
set_option maxRecDepth 65536 in
theorem w_c0 : (Jvm.Cond.code x code maxLocals ret).before args0 about1 = true := code_word (m := ⟨1, 2⟩) (meth := k1m2) (c := k1c2) (by decide +kernel) rfl rfl rfl (by decide +kernel)
set_option maxRecDepth 65536 in
theorem w_c1 : (Jvm.Cond.code ({ cls := "com/example/concordat/concordat/GlobalStatusIsFinishedPinLaw", name := "pick", desc := "(I)Lcom/example/concordat/concordat/GlobalStatus;" } : Jvm.MethodName) method_2_code (1 : Nat) (Option.some (Jvm.ClassFile.FieldType.object "com/example/concordat/concordat/GlobalStatus"))).before args0 about1 = true := code_word (m := ⟨1, 1⟩) (meth := k1m1) (c := k1c1) (by decide +kernel) rfl rfl rfl (by decide +kernel)
set_option maxRecDepth 65536 in
theorem w_c2 : (Jvm.Cond.code ({ cls := "com/example/concordat/concordat/GlobalStatus", name := "isFinished", desc := "()Z" } : Jvm.MethodName) prog_10_method_5_code (1 : Nat) (Option.some Jvm.ClassFile.FieldType.boolean)).before args0 about1 = true := code_word (m := ⟨6, 0⟩) (meth := k6m0) (c := k6c0) (by decide +kernel) rfl rfl rfl (by decide +kernel)
def codes1 : List Jvm.Cond := [Jvm.Cond.code x code maxLocals ret, Jvm.Cond.code ({ cls := "com/example/concordat/concordat/GlobalStatusIsFinishedPinLaw", name := "pick", desc := "(I)Lcom/example/concordat/concordat/GlobalStatus;" } : Jvm.MethodName) method_2_code (1 : Nat) (Option.some (Jvm.ClassFile.FieldType.object "com/example/concordat/concordat/GlobalStatus")), Jvm.Cond.code ({ cls := "com/example/concordat/concordat/GlobalStatus", name := "isFinished", desc := "()Z" } : Jvm.MethodName) prog_10_method_5_code (1 : Nat) (Option.some Jvm.ClassFile.FieldType.boolean)]
set_option maxRecDepth 65536 in
theorem codes_eq : words1.filter isCode = codes1 := rfl
theorem w_codes : ∀ c ∈ words1.filter isCode, c.before args0 about1 = true := by
  rw [codes_eq]
  intro c hc
  simp only [codes1, List.mem_cons, List.not_mem_nil, or_false] at hc
  rcases hc with rfl | rfl | rfl
  · exact w_c0
  · exact w_c1
  · exact w_c2
set_option maxRecDepth 65536 in
theorem w_t1 : (words1.take 24).all (fun c => isCode c || c.before args0 about1) = true := by decide +kernel
set_option maxRecDepth 65536 in
theorem w_t2 : (words1.drop 24).all (fun c => isCode c || c.before args0 about1) = true := by decide +kernel
theorem w_tables : (allAtoms (Jvm.Cond.code x code maxLocals ret :: tables_1)).before args0 about1 = true := by
  rw [allAtoms_all]
  show words1.all (fun c => c.before args0 about1) = true
  refine all_split ?_ w_codes
  rw [← List.take_append_drop 24 words1, List.all_append, w_t1, w_t2]
  rfl
set_option maxRecDepth 65536 in
theorem w_case : (Jvm.Cond.and given_1 narrow_1).before args0 about1 = true := by decide +kernel
theorem w_applies : (headSpec (Jvm.Cond.code x code maxLocals ret :: tables_1) room_1).applies x e0.platform about1 = true :=
  (Spec.applies_iff w_frames).mpr ⟨w_running, w_runnable, w_alone, w_named, w_hears, w_ripe, w_room, w_tables⟩
theorem atStart : AtStart classFile x code maxLocals ret World_1 tables_1 room_1 Calls_1 rest_1 Pre_1 launch0 p0 e0 about1 theMethod args0 below0 :=
  ⟨lists_1, trivial, launch0.admits_env _ _ _, launch0.least_env, fairChoices_fair.cas, fairChoices_fair.clock, w_frames, w_args, w_heap, w_applies, trivial, trivial, w_case⟩
end start1
theorem witness_1 : WitnessClaimed_1 := ⟨start1.p0, start1.e0, start1.about1, start1.theMethod, start1.args0, start1.below0, start1.atStart⟩
end Jvm.Pilot.@@N@@
