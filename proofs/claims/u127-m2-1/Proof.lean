import JvmDerived
import JvmDerived.Pilot.@@N@@Statement
import JvmDerived.Pilot.@@N@@Code
set_option linter.unusedVariables false
set_option linter.unusedSimpArgs false
namespace Jvm.RoadKit
open Sem ClassFile Op Lib Jvm.Stand Jvm.Free Jvm.LawKit
section New
variable {p : Program} {l : Launch} {e : Env} {R : Room} {s : State} {m : MethodId} {args : Array Value} {below : List Frame} {meth : Method} {c : Code} {T : State} {locs : List Loc} {cells slots : Nat}
theorem retI (X : Stand p l e R s m args below meth c T locs cells slots) (hx : p.tables.exec = Jvm.exec) {pc : Nat} {Ls : Array Slot} {z : Int32} {rest : List Value} (hret : meth.sig.returnType = some .int) (hd : decode c.code pc = .ok (.ireturn, 1)) {fs : List Frame}
    (hl : ∀ (f : JFrame) (acts : List Action), f.method = m → f.locked = none → f.entered = [] → (doReturn e (T.setTop f) acts (some (.int z))).1 = T.setFrames fs) : Steps p.tables e below (T.setTop (mkF m pc Ls (.int z :: rest))) (T.setFrames fs) := by
  have hm' : T.vm.method? m = some meth := X.method'
  have hn : narrow .int (.int z) = .int z := rfl
  show Steps p.tables e below (T.setTop { method := m, pc := pc, locals := Ls, stack := _ :: rest, locked := none }) _
  jvm_step X.here [X.here.top, hx, hd, hm', hret, hn]
  first | (intro acts; rw [hl _ acts rfl rfl rfl]) | rw [hl _ _ rfl rfl rfl]
  exact Steps.refl _
abbrev Sq (p : Program) (e : Env) (below : List Frame) (m : MethodId) (T : State) (pc : Nat) (L : Array Slot) (S : List Value) (t : State) : Prop := Steps p.tables e below (T.setTop (mkF m pc L S)) t
abbrev Ctr (l : Launch) (Z : State) (y : MethodName) (b : ByteArray) (ml : Nat) (rt : Option FieldType) (ws : List Cond) (rm : Room) (as' : Array Value) (h0 : Heap) (Q : Option Value → Heap → List Loc → Prop) : Prop :=
  MetFree l y (head1 (Cond.code y b ml rt :: ws) rm) (fun a U => a = as' ∧ Z.Warmed39 U.vm ∧ U.heap = h0) (fun _ _ _ _ _ => True) (fun _ U o U' => ∃ v L, o = .returned v ∧ Q v U'.heap L ∧ FrameEnd U o U' L rm.cells rm.slots)
theorem own_sz {Z : State} {n0 : Nat} {h : Heap} (O : Old Z n0 h) : n0 ≤ h.size := O.1 ▸ O.2.1
theorem own_selpriv {Z s : State} {a0 args : Array Value} {y : MethodName} {n : Nat} (hZ : Z.Warmed39 s.vm) (wi : (Cond.instantiable y.cls n).before a0 Z = true) (wm : (Cond.instanceMethod y).before a0 Z = true) (wp : (Cond.privateMethod y).before a0 Z = true) (hy : y.cls ≠ "java/lang/invoke/MethodHandle" ∧ y.cls ≠ "java/lang/invoke/VarHandle") : (Cond.selects y.cls y y).before args s = true := by
  obtain ⟨c, k, h1, h2, -, h4, -⟩ := Cond.instantiable_spec (mv (args := args) hZ wi)
  have hk : k.isInterface = false := by cases h : k.isInterface <;> simp_all
  exact selects_self_of_private h1 h2 hk (Cond.privateMethod_at (mvP hZ wp (args := args))) (mv hZ wm) hy
theorem own_fldinj {Z : State} {h : Heap} {a : Addr} {C n d : String} {v w : Value} (F : Fld Z h a C n d v) (G : Fld Z h a C n d w) : v = w := by
  obtain ⟨c1, cf, k, i, f, h1, h2, -, -, -, -, h3⟩ := F
  obtain ⟨c2, cf2, k2, i2, f2, g1, g2, -, -, -, -, g3⟩ := G
  cases h1.symm.trans g1
  cases h2.symm.trans g2
  exact Option.some.inj (h3.symm.trans g3)
theorem own_ne {Z : State} {h : Heap} {a b : Addr} {C n d : String} {v w : Value} (F : Fld Z h a C n d v) (G : Fld Z h b C n d w) (q : v ≠ w) : a ≠ b := fun e => by
  subst e; exact q (own_fldinj F G)
theorem own_static {s : State} {args : Array Value} {C f d K : String} (h : (Cond.exactly (Term.static C f d) K).value args s none s [] = some true) (hi : (Cond.initializedFor C f d).before args s = true ∨ ((Cond.initialized C).before args s = true ∧ (Cond.laysStatic C f d).before args s = true)) :
    ∃ w, Sta s s.heap C f d (.ref w) ∧ Exa s s.heap w K ∧ (Term.static C f d).eval args s none [] s = some (.ref w) := by
  obtain ⟨w, ev⟩ := exa_v h
  exact ⟨w, Sta.start ev hi, Exa.start ev h, ev⟩
theorem own_field {s : State} {args : Array Value} {t : Term} {w : Addr} {O f d : String} {n : Int32} (ev : t.eval args s none [] s = some (.ref w)) (h : (Cond.eq (Term.field t O f d) (Term.int n)).value args s none s [] = some true) : Fld s s.heap w O f d (.int n) := by
  have q := eqv_i (Term.int_eval n) h
  rw [fld_at ev] at q
  exact Fld.start q
theorem own_and3 (x : Int32) : (x &&& (3 : Int32)) = (0 : Int32) ∨ (x &&& (3 : Int32)) = (1 : Int32) ∨ (x &&& (3 : Int32)) = (2 : Int32) ∨ (x &&& (3 : Int32)) = (3 : Int32) := by
  have h := c_mask x 3 2 (by decide) (by decide)
  have h' : (x &&& (3 : Int32)).toInt = 0 ∨ (x &&& (3 : Int32)).toInt = 1 ∨ (x &&& (3 : Int32)).toInt = 2 ∨ (x &&& (3 : Int32)).toInt = 3 := by omega
  rcases h' with q | q | q | q
  · exact Or.inl (Int32.toInt_inj.mp q)
  · exact Or.inr (Or.inl (Int32.toInt_inj.mp q))
  · exact Or.inr (Or.inr (Or.inl (Int32.toInt_inj.mp q)))
  · exact Or.inr (Or.inr (Or.inr (Int32.toInt_inj.mp q)))
end New
end Jvm.RoadKit
namespace Jvm.Pilot.@@N@@
open Jvm Jvm.ClassFile Sem Op Lib Jvm.Free Jvm.Stand Jvm.LawKit Jvm.RoadKit Bundle Jvm.Pilot.@@N@@.Jvm.D
theorem d1_0 : decode prog_6_method_4_code 0 = .ok (.aload_n 0, 1) := by decide +kernel
theorem d1_1 : decode prog_6_method_4_code 1 = .ok (.getstatic 7, 3) := by decide +kernel
theorem d1_4 : decode prog_6_method_4_code 4 = .ok (.if_acmp .eq 10, 3) := by decide +kernel
theorem d1_14 : decode prog_6_method_4_code 14 = .ok (.iconst 1, 1) := by decide +kernel
theorem d1_15 : decode prog_6_method_4_code 15 = .ok (.goto 4, 3) := by decide +kernel
theorem d1_19 : decode prog_6_method_4_code 19 = .ok (.ireturn, 1) := by decide +kernel
def Q_open1 (Z : State) (w_INTO_EXISTING : Addr) (h0 : Heap) (n0 : Nat) (v : Option Value) (h : Heap) (L : List Loc) : Prop := v = some (.int (1 : Int32)) ∧ Fr n0 L ∧ h = h0
theorem ef_0 (m : MethodId) (x0 : Addr) : entryFrame m #[(.ref x0)] 1 = mkF m 0 #[.val (.ref x0)] [] := by first | (simp [entryFrame, mkF, argsToLocals, Value.category]; done) | rfl
theorem pn_0 : plainName "com/example/stack4/stack4/app/DocumentLaunchMode" = true := by first | (simp [plainName, overriddenIn]; done) | decide +kernel
abbrev y_0 : MethodName := ⟨"com/example/stack4/stack4/app/DocumentLaunchMode", "opensDocument", "()Z"⟩
set_option maxRecDepth 65536 in
set_option maxHeartbeats 40000000 in
theorem open1 (l : Launch) (Z : State) (a0 : Array Value) (hw : ∀ d ∈ tables_1, d.before a0 Z = true) (ws : List Jvm.Cond) (w_INTO_EXISTING : Addr) (h0 : Heap) (n0 : Nat) (O : Old Z n0 h0) (S_w_INTO_EXISTING : Sta Z Z.heap "com/example/stack4/stack4/app/DocumentLaunchMode" "INTO_EXISTING" "Lcom/example/stack4/stack4/app/DocumentLaunchMode;" (.ref w_INTO_EXISTING)) :
    Ctr l Z y_0 prog_6_method_4_code 1 (some .boolean) ws ({ frames := 0, cells := 0, slots := 0, locals := 0 } : Room) #[(.ref w_INTO_EXISTING)] h0 (Q_open1 Z w_INTO_EXISTING h0 n0) := by
  refine MetFree.of_bodySF (plainFor_of_name pn_0) hisR ?_
  intro p e s m args below meth c s₁ Bd hml0 hP hK
  obtain ⟨rfl, hZ, hh⟩ := hP
  have W := fun (i : Nat) {d : Jvm.Cond} (h : tables_1[i]? = some d) => hw d (List.mem_of_getElem? h)
  have hx := Bd.exec
  have hby := Bd.bytes
  have hml : c.maxLocals = 1 := hml0
  have hown : s.vm.findClass "com/example/stack4/stack4/app/DocumentLaunchMode" = some m.cls := findClass_of_methodNamed Bd.named
  have hnm := (name_of_methodNamed Bd.named Bd.method).1
  have X0 : Stand p l e ({ frames := 0, cells := 0, slots := 0, locals := 0 } : Room) s m #[(.ref w_INTO_EXISTING)] below meth c s₁ [] 0 0 := Stand.of_body Bd
  have e0 : s₁.heap = h0 := by rw [← hh, Bd.state]; rfl
  have N0 := Fr.nil n0
  have pre0 : ∀ t, Steps p.tables e below (s₁.setTop (mkF m 0 #[.val (.ref w_INTO_EXISTING)] [])) t → Steps p.tables e below (s₁.setTop (entryFrame m #[(.ref w_INTO_EXISTING)] 1)) t := fun t k => castTop (ef_0 m w_INTO_EXISTING) k
  obtain ⟨T1, X1, e1, st1⟩ := getS2 X0 hx hZ hown (host := "") (Or.inl (W 17 rfl)) Via.refl e0 (S_w_INTO_EXISTING.ext O.2) (g := (mkF m 1 #[rv w_INTO_EXISTING] [.ref w_INTO_EXISTING])) rfl (hb hby d1_1)
  obtain ⟨fs, hr, hrun, hended, hW, hsame⟩ := X1.leave (v := some (.int (1 : Int32))) (fun h => by rw [Bd.returns] at h; cases h)
  refine ⟨_, _, pre0 _ ?_, hrun, hended, _, _, rfl, ?_, ⟨_, rfl⟩, hW, hsame.mono (by decide) (by decide)⟩
  · show Sq p e below m s₁ 0 #[rv w_INTO_EXISTING] [] _
    refine XS.aloadN X0.here hx rfl (hb hby d1_0) rfl rfl ?_
    show Sq p e below m s₁ 1 #[rv w_INTO_EXISTING] [.ref w_INTO_EXISTING] _
    refine st1 _ ?_
    show Sq p e below m T1 4 #[rv w_INTO_EXISTING] [.ref w_INTO_EXISTING, .ref w_INTO_EXISTING] _
    refine Jvm.RoadKit.acmp (g := (mkF m 4 #[rv w_INTO_EXISTING] [.ref w_INTO_EXISTING, .ref w_INTO_EXISTING])) X1 hx rfl rfl rfl (pc0 := 4) (pc' := 14) (same := true) rfl (hb hby d1_4) rfl (decide_eq_true rfl) (by decide) (by decide) ?_
    show Sq p e below m T1 14 #[rv w_INTO_EXISTING] [] _
    refine XS.iconst X1.here hx rfl (hb hby d1_14) ?_
    refine XS.goto X1.here hx rfl (pc0 := 15) (pc' := 19) rfl (hb hby d1_15) (by decide) (by decide) ?_
    show Sq p e below m T1 19 #[rv w_INTO_EXISTING] [.int 1] _
    exact retN X1 hx (t := .boolean) Bd.returns (by simp) (hb hby d1_19) hr
  · show Q_open1 Z w_INTO_EXISTING h0 n0 _ T1.heap _
    rw [e1]
    exact ⟨rfl, N0, rfl⟩
theorem d1_7 : decode prog_6_method_4_code 7 = .ok (.aload_n 0, 1) := by decide +kernel
theorem d1_8 : decode prog_6_method_4_code 8 = .ok (.getstatic 10, 3) := by decide +kernel
theorem d1_11 : decode prog_6_method_4_code 11 = .ok (.if_acmp .ne 7, 3) := by decide +kernel
def Q_open2 (Z : State) (w_INTO_EXISTING : Addr) (w_ALWAYS : Addr) (h0 : Heap) (n0 : Nat) (v : Option Value) (h : Heap) (L : List Loc) : Prop := v = some (.int (1 : Int32)) ∧ Fr n0 L ∧ h = h0
set_option maxRecDepth 65536 in
set_option maxHeartbeats 40000000 in
theorem open2 (l : Launch) (Z : State) (a0 : Array Value) (hw : ∀ d ∈ tables_1, d.before a0 Z = true) (ws : List Jvm.Cond) (w_INTO_EXISTING : Addr) (w_ALWAYS : Addr) (h0 : Heap) (n0 : Nat) (O : Old Z n0 h0) (S_w_INTO_EXISTING : Sta Z Z.heap "com/example/stack4/stack4/app/DocumentLaunchMode" "INTO_EXISTING" "Lcom/example/stack4/stack4/app/DocumentLaunchMode;" (.ref w_INTO_EXISTING)) (S_w_ALWAYS : Sta Z Z.heap "com/example/stack4/stack4/app/DocumentLaunchMode" "ALWAYS" "Lcom/example/stack4/stack4/app/DocumentLaunchMode;" (.ref w_ALWAYS)) (ne_w_ALWAYS_w_INTO_EXISTING : w_ALWAYS ≠ w_INTO_EXISTING) :
    Ctr l Z y_0 prog_6_method_4_code 1 (some .boolean) ws ({ frames := 0, cells := 0, slots := 0, locals := 0 } : Room) #[(.ref w_ALWAYS)] h0 (Q_open2 Z w_INTO_EXISTING w_ALWAYS h0 n0) := by
  refine MetFree.of_bodySF (plainFor_of_name pn_0) hisR ?_
  intro p e s m args below meth c s₁ Bd hml0 hP hK
  obtain ⟨rfl, hZ, hh⟩ := hP
  have W := fun (i : Nat) {d : Jvm.Cond} (h : tables_1[i]? = some d) => hw d (List.mem_of_getElem? h)
  have hx := Bd.exec
  have hby := Bd.bytes
  have hml : c.maxLocals = 1 := hml0
  have hown : s.vm.findClass "com/example/stack4/stack4/app/DocumentLaunchMode" = some m.cls := findClass_of_methodNamed Bd.named
  have hnm := (name_of_methodNamed Bd.named Bd.method).1
  have X0 : Stand p l e ({ frames := 0, cells := 0, slots := 0, locals := 0 } : Room) s m #[(.ref w_ALWAYS)] below meth c s₁ [] 0 0 := Stand.of_body Bd
  have e0 : s₁.heap = h0 := by rw [← hh, Bd.state]; rfl
  have N0 := Fr.nil n0
  have pre0 : ∀ t, Steps p.tables e below (s₁.setTop (mkF m 0 #[.val (.ref w_ALWAYS)] [])) t → Steps p.tables e below (s₁.setTop (entryFrame m #[(.ref w_ALWAYS)] 1)) t := fun t k => castTop (ef_0 m w_ALWAYS) k
  obtain ⟨T1, X1, e1, st1⟩ := getS2 X0 hx hZ hown (host := "") (Or.inl (W 17 rfl)) Via.refl e0 (S_w_INTO_EXISTING.ext O.2) (g := (mkF m 1 #[rv w_ALWAYS] [.ref w_ALWAYS])) rfl (hb hby d1_1)
  obtain ⟨T2, X2, e2, st2⟩ := getS2 X1 hx hZ hown (host := "") (Or.inl (W 18 rfl)) Via.refl e1 (S_w_ALWAYS.ext O.2) (g := (mkF m 8 #[rv w_ALWAYS] [.ref w_ALWAYS])) rfl (hb hby d1_8)
  obtain ⟨fs, hr, hrun, hended, hW, hsame⟩ := X2.leave (v := some (.int (1 : Int32))) (fun h => by rw [Bd.returns] at h; cases h)
  refine ⟨_, _, pre0 _ ?_, hrun, hended, _, _, rfl, ?_, ⟨_, rfl⟩, hW, hsame.mono (by decide) (by decide)⟩
  · show Sq p e below m s₁ 0 #[rv w_ALWAYS] [] _
    refine XS.aloadN X0.here hx rfl (hb hby d1_0) rfl rfl ?_
    show Sq p e below m s₁ 1 #[rv w_ALWAYS] [.ref w_ALWAYS] _
    refine st1 _ ?_
    show Sq p e below m T1 4 #[rv w_ALWAYS] [.ref w_INTO_EXISTING, .ref w_ALWAYS] _
    refine Jvm.RoadKit.acmp (g := (mkF m 4 #[rv w_ALWAYS] [.ref w_INTO_EXISTING, .ref w_ALWAYS])) X1 hx rfl rfl rfl (pc0 := 4) (pc' := 7) (same := false) rfl (hb hby d1_4) rfl (decide_eq_false fun q => ne_w_ALWAYS_w_INTO_EXISTING (Value.ref.inj q)) (by decide) (by decide) ?_
    show Sq p e below m T1 7 #[rv w_ALWAYS] [] _
    refine XS.aloadN X1.here hx rfl (hb hby d1_7) rfl rfl ?_
    show Sq p e below m T1 8 #[rv w_ALWAYS] [.ref w_ALWAYS] _
    refine st2 _ ?_
    show Sq p e below m T2 11 #[rv w_ALWAYS] [.ref w_ALWAYS, .ref w_ALWAYS] _
    refine Jvm.RoadKit.acmp (g := (mkF m 11 #[rv w_ALWAYS] [.ref w_ALWAYS, .ref w_ALWAYS])) X2 hx rfl rfl rfl (pc0 := 11) (pc' := 14) (same := true) rfl (hb hby d1_11) rfl (decide_eq_true rfl) (by decide) (by decide) ?_
    show Sq p e below m T2 14 #[rv w_ALWAYS] [] _
    refine XS.iconst X2.here hx rfl (hb hby d1_14) ?_
    refine XS.goto X2.here hx rfl (pc0 := 15) (pc' := 19) rfl (hb hby d1_15) (by decide) (by decide) ?_
    show Sq p e below m T2 19 #[rv w_ALWAYS] [.int 1] _
    exact retN X2 hx (t := .boolean) Bd.returns (by simp) (hb hby d1_19) hr
  · show Q_open2 Z w_INTO_EXISTING w_ALWAYS h0 n0 _ T2.heap _
    rw [e2]
    exact ⟨rfl, N0, rfl⟩
theorem d1_18 : decode prog_6_method_4_code 18 = .ok (.iconst 0, 1) := by decide +kernel
def Q_open0 (Z : State) (a : Addr) (w_INTO_EXISTING : Addr) (w_ALWAYS : Addr) (h0 : Heap) (n0 : Nat) (v : Option Value) (h : Heap) (L : List Loc) : Prop := v = some (.int (0 : Int32)) ∧ Fr n0 L ∧ h = h0
set_option maxRecDepth 65536 in
set_option maxHeartbeats 40000000 in
theorem open0 (l : Launch) (Z : State) (a0 : Array Value) (hw : ∀ d ∈ tables_1, d.before a0 Z = true) (ws : List Jvm.Cond) (a : Addr) (w_INTO_EXISTING : Addr) (w_ALWAYS : Addr) (h0 : Heap) (n0 : Nat) (O : Old Z n0 h0) (S_w_INTO_EXISTING : Sta Z Z.heap "com/example/stack4/stack4/app/DocumentLaunchMode" "INTO_EXISTING" "Lcom/example/stack4/stack4/app/DocumentLaunchMode;" (.ref w_INTO_EXISTING)) (S_w_ALWAYS : Sta Z Z.heap "com/example/stack4/stack4/app/DocumentLaunchMode" "ALWAYS" "Lcom/example/stack4/stack4/app/DocumentLaunchMode;" (.ref w_ALWAYS)) (ne_a_w_INTO_EXISTING : a ≠ w_INTO_EXISTING) (ne_a_w_ALWAYS : a ≠ w_ALWAYS) :
    Ctr l Z y_0 prog_6_method_4_code 1 (some .boolean) ws ({ frames := 0, cells := 0, slots := 0, locals := 0 } : Room) #[(.ref a)] h0 (Q_open0 Z a w_INTO_EXISTING w_ALWAYS h0 n0) := by
  refine MetFree.of_bodySF (plainFor_of_name pn_0) hisR ?_
  intro p e s m args below meth c s₁ Bd hml0 hP hK
  obtain ⟨rfl, hZ, hh⟩ := hP
  have W := fun (i : Nat) {d : Jvm.Cond} (h : tables_1[i]? = some d) => hw d (List.mem_of_getElem? h)
  have hx := Bd.exec
  have hby := Bd.bytes
  have hml : c.maxLocals = 1 := hml0
  have hown : s.vm.findClass "com/example/stack4/stack4/app/DocumentLaunchMode" = some m.cls := findClass_of_methodNamed Bd.named
  have hnm := (name_of_methodNamed Bd.named Bd.method).1
  have X0 : Stand p l e ({ frames := 0, cells := 0, slots := 0, locals := 0 } : Room) s m #[(.ref a)] below meth c s₁ [] 0 0 := Stand.of_body Bd
  have e0 : s₁.heap = h0 := by rw [← hh, Bd.state]; rfl
  have N0 := Fr.nil n0
  have pre0 : ∀ t, Steps p.tables e below (s₁.setTop (mkF m 0 #[.val (.ref a)] [])) t → Steps p.tables e below (s₁.setTop (entryFrame m #[(.ref a)] 1)) t := fun t k => castTop (ef_0 m a) k
  obtain ⟨T1, X1, e1, st1⟩ := getS2 X0 hx hZ hown (host := "") (Or.inl (W 17 rfl)) Via.refl e0 (S_w_INTO_EXISTING.ext O.2) (g := (mkF m 1 #[rv a] [.ref a])) rfl (hb hby d1_1)
  obtain ⟨T2, X2, e2, st2⟩ := getS2 X1 hx hZ hown (host := "") (Or.inl (W 18 rfl)) Via.refl e1 (S_w_ALWAYS.ext O.2) (g := (mkF m 8 #[rv a] [.ref a])) rfl (hb hby d1_8)
  obtain ⟨fs, hr, hrun, hended, hW, hsame⟩ := X2.leave (v := some (.int (0 : Int32))) (fun h => by rw [Bd.returns] at h; cases h)
  refine ⟨_, _, pre0 _ ?_, hrun, hended, _, _, rfl, ?_, ⟨_, rfl⟩, hW, hsame.mono (by decide) (by decide)⟩
  · show Sq p e below m s₁ 0 #[rv a] [] _
    refine XS.aloadN X0.here hx rfl (hb hby d1_0) rfl rfl ?_
    show Sq p e below m s₁ 1 #[rv a] [.ref a] _
    refine st1 _ ?_
    show Sq p e below m T1 4 #[rv a] [.ref w_INTO_EXISTING, .ref a] _
    refine Jvm.RoadKit.acmp (g := (mkF m 4 #[rv a] [.ref w_INTO_EXISTING, .ref a])) X1 hx rfl rfl rfl (pc0 := 4) (pc' := 7) (same := false) rfl (hb hby d1_4) rfl (decide_eq_false fun q => ne_a_w_INTO_EXISTING (Value.ref.inj q)) (by decide) (by decide) ?_
    show Sq p e below m T1 7 #[rv a] [] _
    refine XS.aloadN X1.here hx rfl (hb hby d1_7) rfl rfl ?_
    show Sq p e below m T1 8 #[rv a] [.ref a] _
    refine st2 _ ?_
    show Sq p e below m T2 11 #[rv a] [.ref w_ALWAYS, .ref a] _
    refine Jvm.RoadKit.acmp (g := (mkF m 11 #[rv a] [.ref w_ALWAYS, .ref a])) X2 hx rfl rfl rfl (pc0 := 11) (pc' := 18) (same := false) rfl (hb hby d1_11) rfl (decide_eq_false fun q => ne_a_w_ALWAYS (Value.ref.inj q)) (by decide) (by decide) ?_
    show Sq p e below m T2 18 #[rv a] [] _
    refine XS.iconst X2.here hx rfl (hb hby d1_18) ?_
    show Sq p e below m T2 19 #[rv a] [.int 0] _
    exact retN X2 hx (t := .boolean) Bd.returns (by simp) (hb hby d1_19) hr
  · show Q_open0 Z a w_INTO_EXISTING w_ALWAYS h0 n0 _ T2.heap _
    rw [e2]
    exact ⟨rfl, N0, rfl⟩
theorem pd_0 : parseMethodDescriptor "()Z" = some ⟨[], some .boolean⟩ := by decide +kernel
def Q_rm0 (Z : State) (p1 : Int32) (w_NONE : Addr) (w_INTO_EXISTING : Addr) (w_ALWAYS : Addr) (w_NEVER : Addr) (h0 : Heap) (n0 : Nat) (v : Option Value) (h : Heap) (L : List Loc) : Prop := v = some (.int (1 : Int32)) ∧ Fr n0 L
theorem ef_1 (m : MethodId) (x0 : Int32) : entryFrame m #[(.int x0)] maxLocals = mkF m 0 #[.val (.int x0), .unset, .unset, .unset, .unset] [] := by first | (simp [entryFrame, mkF, argsToLocals, Value.category, maxLocals]; done) | rfl
theorem pn_1 : plainName "com/example/stack4/stack4/app/DocumentLaunchModeOpensDocumentPinLaw" = true := by first | (simp [plainName, overriddenIn]; done) | decide +kernel
set_option maxRecDepth 65536 in
set_option maxHeartbeats 40000000 in
theorem rm0_0 (l : Launch) (Z : State) (a0 : Array Value) (hw : ∀ d ∈ tables_1, d.before a0 Z = true) (ws : List Jvm.Cond) (p1 : Int32) (w_NONE : Addr) (w_INTO_EXISTING : Addr) (w_ALWAYS : Addr) (w_NEVER : Addr) (h0 : Heap) (n0 : Nat) (O : Old Z n0 h0) (S_w_NONE : Sta Z Z.heap "com/example/stack4/stack4/app/DocumentLaunchMode" "NONE" "Lcom/example/stack4/stack4/app/DocumentLaunchMode;" (.ref w_NONE)) (E_w_NONE : Exa Z Z.heap w_NONE "com/example/stack4/stack4/app/DocumentLaunchMode") (S_w_INTO_EXISTING : Sta Z Z.heap "com/example/stack4/stack4/app/DocumentLaunchMode" "INTO_EXISTING" "Lcom/example/stack4/stack4/app/DocumentLaunchMode;" (.ref w_INTO_EXISTING)) (E_w_INTO_EXISTING : Exa Z Z.heap w_INTO_EXISTING "com/example/stack4/stack4/app/DocumentLaunchMode") (S_w_ALWAYS : Sta Z Z.heap "com/example/stack4/stack4/app/DocumentLaunchMode" "ALWAYS" "Lcom/example/stack4/stack4/app/DocumentLaunchMode;" (.ref w_ALWAYS)) (E_w_ALWAYS : Exa Z Z.heap w_ALWAYS "com/example/stack4/stack4/app/DocumentLaunchMode") (S_w_NEVER : Sta Z Z.heap "com/example/stack4/stack4/app/DocumentLaunchMode" "NEVER" "Lcom/example/stack4/stack4/app/DocumentLaunchMode;" (.ref w_NEVER)) (E_w_NEVER : Exa Z Z.heap w_NEVER "com/example/stack4/stack4/app/DocumentLaunchMode") (ne_2_1 : w_ALWAYS ≠ w_INTO_EXISTING) (ne_0_1 : w_NONE ≠ w_INTO_EXISTING) (ne_0_2 : w_NONE ≠ w_ALWAYS) (ne_3_1 : w_NEVER ≠ w_INTO_EXISTING) (ne_3_2 : w_NEVER ≠ w_ALWAYS) (hk : (p1 &&& (3 : Int32)) = (0 : Int32)) :
    Ctr l Z x code maxLocals ret ws room_1 #[(.int p1)] h0 (Q_rm0 Z p1 w_NONE w_INTO_EXISTING w_ALWAYS w_NEVER h0 n0) := by
  refine MetFree.of_bodySF (plainFor_of_name pn_1) hisR ?_
  intro p e s m args below meth c s₁ Bd hml0 hP hK
  obtain ⟨rfl, hZ, hh⟩ := hP
  have W := fun (i : Nat) {d : Jvm.Cond} (h : tables_1[i]? = some d) => hw d (List.mem_of_getElem? h)
  have hx := Bd.exec
  have hby := Bd.bytes
  have hml : c.maxLocals = 5 := hml0
  have hown : s.vm.findClass "com/example/stack4/stack4/app/DocumentLaunchModeOpensDocumentPinLaw" = some m.cls := findClass_of_methodNamed Bd.named
  have hnm := (name_of_methodNamed Bd.named Bd.method).1
  have X0 : Stand p l e room_1 s m #[(.int p1)] below meth c s₁ [] 0 0 := Stand.of_body Bd
  have e0 : s₁.heap = h0 := by rw [← hh, Bd.state]; rfl
  have N0 := Fr.nil n0
  have pre0 : ∀ t, Steps p.tables e below (s₁.setTop (mkF m 0 #[.val (.int p1), .unset, .unset, .unset, .unset] [])) t → Steps p.tables e below (s₁.setTop (entryFrame m #[(.int p1)] maxLocals)) t := fun t k => castTop (ef_1 m p1) k
  obtain ⟨T1, h1, k1, X1, e1, E1, A1, A1x, Ov1, st1⟩ := newRE X0 hx hZ hown (W 0 rfl) (W 1 rfl) e0 (g := (mkF m 1 #[iv p1, .unset, .unset, .unset, .unset] [.int 4])) rfl (hb hby at_1) rfl (by decide) (cap := 4) (by decide) (by decide) (by decide) (by decide) (ad := "[Lcom/example/stack4/stack4/app/DocumentLaunchMode;") (by decide)
  obtain ⟨b1, g1⟩ : ∃ z, z = h0.size := ⟨_, rfl⟩
  rw [← g1] at A1 A1x st1
  have g_b1 : n0 ≤ b1 := Nat.le_trans (own_sz O) (Nat.le_of_eq g1.symm)
  have O2 := O.ext E1
  have V1 : Arv Z h1 b1 k1 (.object "com/example/stack4/stack4/app/DocumentLaunchMode") (4 : Int32) [.null, .null, .null, .null] .null := (Arv.new A1 (by decide)).pad (pad_rep [] .null 4)
  obtain ⟨T4, X4, e4, st4⟩ := getS2 X1 hx hZ hown (host := "") (Or.inl (W 2 rfl)) Via.refl e1 (S_w_NONE.ext O2.2) (g := (mkF m 6 #[iv p1, .unset, .unset, .unset, .unset] [.int 0, .ref b1, .ref b1])) rfl (hb hby at_6)
  obtain ⟨cl5, Ar5, q5, S5, Ng5, Hh5, Gg5⟩ := id V1
  obtain ⟨T5, h5, X5, e5, W5, st5⟩ := stR X4 hx hZ e4 Ar5 (j := (0 : Int32)) (inb_of S5 (by decide)) rfl (Sto.ofV Ar5 q5 Ov1 (Ins.self (E_w_NONE.ext O2.2))) (g := (mkF m 9 #[iv p1, .unset, .unset, .unset, .unset] [.ref w_NONE, .int 0, .ref b1, .ref b1])) rfl rfl (hb hby at_9)
  have V5 : Arv Z h5 b1 k1 (.object "com/example/stack4/stack4/app/DocumentLaunchMode") (4 : Int32) [(.ref w_NONE), .null, .null, .null] .null := Arv.set Ar5 q5 S5 Ng5 Hh5 Gg5 rfl W5 0 rfl (Nat.le_of_ble_eq_true rfl)
  have O6 := O2.wr W5 g_b1
  have N8 := Fr.snoc X5 N0 g_b1
  obtain ⟨T9, X9, e9, st9⟩ := getS2 X5 hx hZ hown (host := "") (Or.inl (W 6 rfl)) Via.refl e5 (S_w_INTO_EXISTING.ext O6.2) (g := (mkF m 12 #[iv p1, .unset, .unset, .unset, .unset] [.int 1, .ref b1, .ref b1])) rfl (hb hby at_12)
  obtain ⟨cl10, Ar10, q10, S10, Ng10, Hh10, Gg10⟩ := id V5
  obtain ⟨T10, h10, X10, e10, W10, st10⟩ := stR X9 hx hZ e9 Ar10 (j := (1 : Int32)) (inb_of S10 (by decide)) rfl (Sto.ofV Ar10 q10 Ov1 (Ins.self (E_w_INTO_EXISTING.ext O6.2))) (g := (mkF m 15 #[iv p1, .unset, .unset, .unset, .unset] [.ref w_INTO_EXISTING, .int 1, .ref b1, .ref b1])) rfl rfl (hb hby at_15)
  have V10 : Arv Z h10 b1 k1 (.object "com/example/stack4/stack4/app/DocumentLaunchMode") (4 : Int32) [(.ref w_NONE), (.ref w_INTO_EXISTING), .null, .null] .null := Arv.set Ar10 q10 S10 Ng10 Hh10 Gg10 rfl W10 1 rfl (Nat.le_of_ble_eq_true rfl)
  have O11 := O6.wr W10 g_b1
  have N13 := Fr.snoc X10 N8 g_b1
  obtain ⟨T14, X14, e14, st14⟩ := getS2 X10 hx hZ hown (host := "") (Or.inl (W 8 rfl)) Via.refl e10 (S_w_ALWAYS.ext O11.2) (g := (mkF m 18 #[iv p1, .unset, .unset, .unset, .unset] [.int 2, .ref b1, .ref b1])) rfl (hb hby at_18)
  obtain ⟨cl15, Ar15, q15, S15, Ng15, Hh15, Gg15⟩ := id V10
  obtain ⟨T15, h15, X15, e15, W15, st15⟩ := stR X14 hx hZ e14 Ar15 (j := (2 : Int32)) (inb_of S15 (by decide)) rfl (Sto.ofV Ar15 q15 Ov1 (Ins.self (E_w_ALWAYS.ext O11.2))) (g := (mkF m 21 #[iv p1, .unset, .unset, .unset, .unset] [.ref w_ALWAYS, .int 2, .ref b1, .ref b1])) rfl rfl (hb hby at_21)
  have V15 : Arv Z h15 b1 k1 (.object "com/example/stack4/stack4/app/DocumentLaunchMode") (4 : Int32) [(.ref w_NONE), (.ref w_INTO_EXISTING), (.ref w_ALWAYS), .null] .null := Arv.set Ar15 q15 S15 Ng15 Hh15 Gg15 rfl W15 2 rfl (Nat.le_of_ble_eq_true rfl)
  have O16 := O11.wr W15 g_b1
  have N18 := Fr.snoc X15 N13 g_b1
  obtain ⟨T19, X19, e19, st19⟩ := getS2 X15 hx hZ hown (host := "") (Or.inl (W 10 rfl)) Via.refl e15 (S_w_NEVER.ext O16.2) (g := (mkF m 24 #[iv p1, .unset, .unset, .unset, .unset] [.int 3, .ref b1, .ref b1])) rfl (hb hby at_24)
  obtain ⟨cl20, Ar20, q20, S20, Ng20, Hh20, Gg20⟩ := id V15
  obtain ⟨T20, h20, X20, e20, W20, st20⟩ := stR X19 hx hZ e19 Ar20 (j := (3 : Int32)) (inb_of S20 (by decide)) rfl (Sto.ofV Ar20 q20 Ov1 (Ins.self (E_w_NEVER.ext O16.2))) (g := (mkF m 27 #[iv p1, .unset, .unset, .unset, .unset] [.ref w_NEVER, .int 3, .ref b1, .ref b1])) rfl rfl (hb hby at_27)
  have V20 : Arv Z h20 b1 k1 (.object "com/example/stack4/stack4/app/DocumentLaunchMode") (4 : Int32) [(.ref w_NONE), (.ref w_INTO_EXISTING), (.ref w_ALWAYS), (.ref w_NEVER)] .null := Arv.set Ar20 q20 S20 Ng20 Hh20 Gg20 rfl W20 3 rfl (Nat.le_of_ble_eq_true rfl)
  have O21 := O16.wr W20 g_b1
  have N23 := Fr.snoc X20 N18 g_b1
  obtain ⟨cl24, Ar24, q24, S24, Ng24, Hh24, Gg24⟩ := id V20
  have st24 := X20.aaload hx (j := (0 : Int32)) (v := (.ref w_NONE)) (by rw [e20]; exact Ar24.1) (State.isArrayOf_alike hZ.alike Ar24.2.1) rfl Ar24.2.2 (inb_of S24 (by decide)) (Hh24.at (inb_of S24 (by decide)) rfl) (g := (mkF m 35 #[iv p1, rv b1, iv 0, .unset, .unset] [.int 0, .ref b1])) rfl rfl (hb hby at_35)
  obtain ⟨cq25, kq25, q25a, q25b, q25c⟩ := isOf hZ e20 (E_w_NONE.ext O21.2)
  obtain ⟨_, _, ⟨T25, L25, k25, n25⟩, -, X25, ⟨Lc25, hQ25, l25, y25, z25⟩, st25⟩ := X20.virtualBack hx (y := y_0) (z := y_0) hown (mvT hZ (W 12 rfl)) (mvT hZ (W 13 rfl)) (notFace_of_selects (args := #[]) (mvT hZ (W 15 rfl))) (mvT hZ (W 15 rfl)) (mvT hZ (W 14 rfl)) (by decide) (backOf (W := 0) (open0 l Z a0 hw [] w_NONE w_INTO_EXISTING w_ALWAYS h20 n0 O21 S_w_INTO_EXISTING S_w_ALWAYS ne_0_1 ne_0_2) hZ (W 16 rfl) (W 3 rfl) (by decide) (by decide)) q25a q25c (g := (mkF m 73 #[iv p1, rv b1, iv 0, rv w_NONE, iv 0] [.ref w_NONE])) rfl (by rw [hml]; rfl) (Steps.refl _) (argsL := []) (rest := []) (lenOf pd_0 rfl) rfl (by show 2 * 0 + _ ≤ _; exact Nat.le_of_eq rfl) (hb hby at_73) (fun _ _ => ⟨rfl, e20, (by decide : 1 + 0 ≤ _), (by decide : 4 + 0 ≤ _)⟩)
  dsimp only [Pt.U, Pt.locs, Pt.cells, Pt.slots] at X25 l25 y25 z25 st25 hQ25
  subst l25 y25 z25
  obtain ⟨h25, e25⟩ : ∃ z, T25.heap = z := ⟨_, rfl⟩
  rw [e25] at hQ25
  obtain ⟨rfl, N25q, p25_0⟩ := hQ25
  have N25 := Fr.app N23 N25q
  rw [p25_0] at e25
  obtain ⟨fs, hr, hrun, hended, hW, hsame⟩ := X25.leave (v := some (.int (1 : Int32))) (fun h => by rw [Bd.returns] at h; cases h)
  refine ⟨_, _, pre0 _ ?_, hrun, hended, _, _, rfl, ?_, ⟨_, rfl⟩, hW, hsame.mono (by decide) (by decide)⟩
  · show Sq p e below m s₁ 0 #[iv p1, .unset, .unset, .unset, .unset] [] _
    refine XS.iconst X0.here hx rfl (hb hby at_0) ?_
    show Sq p e below m s₁ 1 #[iv p1, .unset, .unset, .unset, .unset] [.int 4] _
    refine st1 _ ?_
    show Sq p e below m T1 4 #[iv p1, .unset, .unset, .unset, .unset] [.ref b1] _
    refine XS.dup X1.here hx rfl (hb hby at_4) rfl rfl ?_
    refine XS.iconst X1.here hx rfl (hb hby at_5) ?_
    show Sq p e below m T1 6 #[iv p1, .unset, .unset, .unset, .unset] [.int 0, .ref b1, .ref b1] _
    refine st4 _ ?_
    show Sq p e below m T4 9 #[iv p1, .unset, .unset, .unset, .unset] [.ref w_NONE, .int 0, .ref b1, .ref b1] _
    refine st5 _ ?_
    show Sq p e below m T5 10 #[iv p1, .unset, .unset, .unset, .unset] [.ref b1] _
    refine XS.dup X5.here hx rfl (hb hby at_10) rfl rfl ?_
    refine XS.iconst X5.here hx rfl (hb hby at_11) ?_
    show Sq p e below m T5 12 #[iv p1, .unset, .unset, .unset, .unset] [.int 1, .ref b1, .ref b1] _
    refine st9 _ ?_
    show Sq p e below m T9 15 #[iv p1, .unset, .unset, .unset, .unset] [.ref w_INTO_EXISTING, .int 1, .ref b1, .ref b1] _
    refine st10 _ ?_
    show Sq p e below m T10 16 #[iv p1, .unset, .unset, .unset, .unset] [.ref b1] _
    refine XS.dup X10.here hx rfl (hb hby at_16) rfl rfl ?_
    refine XS.iconst X10.here hx rfl (hb hby at_17) ?_
    show Sq p e below m T10 18 #[iv p1, .unset, .unset, .unset, .unset] [.int 2, .ref b1, .ref b1] _
    refine st14 _ ?_
    show Sq p e below m T14 21 #[iv p1, .unset, .unset, .unset, .unset] [.ref w_ALWAYS, .int 2, .ref b1, .ref b1] _
    refine st15 _ ?_
    show Sq p e below m T15 22 #[iv p1, .unset, .unset, .unset, .unset] [.ref b1] _
    refine XS.dup X15.here hx rfl (hb hby at_22) rfl rfl ?_
    refine XS.iconst X15.here hx rfl (hb hby at_23) ?_
    show Sq p e below m T15 24 #[iv p1, .unset, .unset, .unset, .unset] [.int 3, .ref b1, .ref b1] _
    refine st19 _ ?_
    show Sq p e below m T19 27 #[iv p1, .unset, .unset, .unset, .unset] [.ref w_NEVER, .int 3, .ref b1, .ref b1] _
    refine st20 _ ?_
    show Sq p e below m T20 28 #[iv p1, .unset, .unset, .unset, .unset] [.ref b1] _
    refine XS.astoreN X20.here hx rfl (hb hby at_28) rfl rfl rfl ?_
    refine XS.iloadN X20.here hx rfl (hb hby at_29) rfl ?_
    show Sq p e below m T20 30 #[iv p1, rv b1, .unset, .unset, .unset] [.int p1] _
    refine XS.iconst X20.here hx rfl (hb hby at_30) ?_
    refine XS.iand X20.here hx rfl (hb hby at_31) rfl ?_
    show Sq p e below m T20 32 #[iv p1, rv b1, .unset, .unset, .unset] [.int (p1 &&& (3 : Int32))] _
    rw [hk]
    show Sq p e below m T20 32 #[iv p1, rv b1, .unset, .unset, .unset] [.int 0] _
    refine XS.istoreN X20.here hx rfl (hb hby at_32) rfl rfl ?_
    refine XS.aloadN X20.here hx rfl (hb hby at_33) rfl rfl ?_
    show Sq p e below m T20 34 #[iv p1, rv b1, iv 0, .unset, .unset] [.ref b1] _
    refine XS.iloadN X20.here hx rfl (hb hby at_34) rfl ?_
    show Sq p e below m T20 35 #[iv p1, rv b1, iv 0, .unset, .unset] [.int 0, .ref b1] _
    refine st24 _ ?_
    show Sq p e below m T20 36 #[iv p1, rv b1, iv 0, .unset, .unset] [.ref w_NONE] _
    refine XS.astoreN X20.here hx rfl (hb hby at_36) rfl rfl rfl ?_
    refine XS.iloadN X20.here hx rfl (hb hby at_37) rfl ?_
    show Sq p e below m T20 38 #[iv p1, rv b1, iv 0, rv w_NONE, .unset] [.int 0] _
    refine XS.ifNo X20.here hx rfl (hb hby at_38) rfl ((if0 _ _).trans (teq (rfl : (0 : Int32) = (0 : Int32))).2) ?_
    refine XS.iconst X20.here hx rfl (hb hby at_41) ?_
    show Sq p e below m T20 42 #[iv p1, rv b1, iv 0, rv w_NONE, .unset] [.int 0] _
    refine XS.istore X20.here hx rfl (hb hby at_42) rfl rfl ?_
    refine XS.goto X20.here hx rfl (pc0 := 44) (pc' := 72) rfl (hb hby at_44) (by decide) (by decide) ?_
    show Sq p e below m T20 72 #[iv p1, rv b1, iv 0, rv w_NONE, iv 0] [] _
    refine XS.aloadN X20.here hx rfl (hb hby at_72) rfl rfl ?_
    show Sq p e below m T20 73 #[iv p1, rv b1, iv 0, rv w_NONE, iv 0] [.ref w_NONE] _
    refine st25.trans ?_
    show Sq p e below m T25 76 #[iv p1, rv b1, iv 0, rv w_NONE, iv 0] [.int 0] _
    refine XS.iload X25.here hx rfl (hb hby at_76) rfl ?_
    refine XS.icmpNo X25.here hx rfl (hb hby at_78) rfl (teq (rfl : (0 : Int32) = (0 : Int32))).2 ?_
    show Sq p e below m T25 81 #[iv p1, rv b1, iv 0, rv w_NONE, iv 0] [] _
    refine XS.iconst X25.here hx rfl (hb hby at_81) ?_
    refine XS.goto X25.here hx rfl (pc0 := 82) (pc' := 86) rfl (hb hby at_82) (by decide) (by decide) ?_
    show Sq p e below m T25 86 #[iv p1, rv b1, iv 0, rv w_NONE, iv 0] [.int 1] _
    exact retN X25 hx (t := .boolean) Bd.returns (by simp) (hb hby at_86) hr
  · show Q_rm0 Z p1 w_NONE w_INTO_EXISTING w_ALWAYS w_NEVER h0 n0 _ T25.heap _
    rw [e25]
    exact ⟨rfl, N25⟩
set_option maxRecDepth 65536 in
set_option maxHeartbeats 40000000 in
theorem rm0_1 (l : Launch) (Z : State) (a0 : Array Value) (hw : ∀ d ∈ tables_1, d.before a0 Z = true) (ws : List Jvm.Cond) (p1 : Int32) (w_NONE : Addr) (w_INTO_EXISTING : Addr) (w_ALWAYS : Addr) (w_NEVER : Addr) (h0 : Heap) (n0 : Nat) (O : Old Z n0 h0) (S_w_NONE : Sta Z Z.heap "com/example/stack4/stack4/app/DocumentLaunchMode" "NONE" "Lcom/example/stack4/stack4/app/DocumentLaunchMode;" (.ref w_NONE)) (E_w_NONE : Exa Z Z.heap w_NONE "com/example/stack4/stack4/app/DocumentLaunchMode") (S_w_INTO_EXISTING : Sta Z Z.heap "com/example/stack4/stack4/app/DocumentLaunchMode" "INTO_EXISTING" "Lcom/example/stack4/stack4/app/DocumentLaunchMode;" (.ref w_INTO_EXISTING)) (E_w_INTO_EXISTING : Exa Z Z.heap w_INTO_EXISTING "com/example/stack4/stack4/app/DocumentLaunchMode") (S_w_ALWAYS : Sta Z Z.heap "com/example/stack4/stack4/app/DocumentLaunchMode" "ALWAYS" "Lcom/example/stack4/stack4/app/DocumentLaunchMode;" (.ref w_ALWAYS)) (E_w_ALWAYS : Exa Z Z.heap w_ALWAYS "com/example/stack4/stack4/app/DocumentLaunchMode") (S_w_NEVER : Sta Z Z.heap "com/example/stack4/stack4/app/DocumentLaunchMode" "NEVER" "Lcom/example/stack4/stack4/app/DocumentLaunchMode;" (.ref w_NEVER)) (E_w_NEVER : Exa Z Z.heap w_NEVER "com/example/stack4/stack4/app/DocumentLaunchMode") (ne_2_1 : w_ALWAYS ≠ w_INTO_EXISTING) (ne_0_1 : w_NONE ≠ w_INTO_EXISTING) (ne_0_2 : w_NONE ≠ w_ALWAYS) (ne_3_1 : w_NEVER ≠ w_INTO_EXISTING) (ne_3_2 : w_NEVER ≠ w_ALWAYS) (hk : (p1 &&& (3 : Int32)) = (1 : Int32)) :
    Ctr l Z x code maxLocals ret ws room_1 #[(.int p1)] h0 (Q_rm0 Z p1 w_NONE w_INTO_EXISTING w_ALWAYS w_NEVER h0 n0) := by
  refine MetFree.of_bodySF (plainFor_of_name pn_1) hisR ?_
  intro p e s m args below meth c s₁ Bd hml0 hP hK
  obtain ⟨rfl, hZ, hh⟩ := hP
  have W := fun (i : Nat) {d : Jvm.Cond} (h : tables_1[i]? = some d) => hw d (List.mem_of_getElem? h)
  have hx := Bd.exec
  have hby := Bd.bytes
  have hml : c.maxLocals = 5 := hml0
  have hown : s.vm.findClass "com/example/stack4/stack4/app/DocumentLaunchModeOpensDocumentPinLaw" = some m.cls := findClass_of_methodNamed Bd.named
  have hnm := (name_of_methodNamed Bd.named Bd.method).1
  have X0 : Stand p l e room_1 s m #[(.int p1)] below meth c s₁ [] 0 0 := Stand.of_body Bd
  have e0 : s₁.heap = h0 := by rw [← hh, Bd.state]; rfl
  have N0 := Fr.nil n0
  have pre0 : ∀ t, Steps p.tables e below (s₁.setTop (mkF m 0 #[.val (.int p1), .unset, .unset, .unset, .unset] [])) t → Steps p.tables e below (s₁.setTop (entryFrame m #[(.int p1)] maxLocals)) t := fun t k => castTop (ef_1 m p1) k
  obtain ⟨T1, h1, k1, X1, e1, E1, A1, A1x, Ov1, st1⟩ := newRE X0 hx hZ hown (W 0 rfl) (W 1 rfl) e0 (g := (mkF m 1 #[iv p1, .unset, .unset, .unset, .unset] [.int 4])) rfl (hb hby at_1) rfl (by decide) (cap := 4) (by decide) (by decide) (by decide) (by decide) (ad := "[Lcom/example/stack4/stack4/app/DocumentLaunchMode;") (by decide)
  obtain ⟨b1, g1⟩ : ∃ z, z = h0.size := ⟨_, rfl⟩
  rw [← g1] at A1 A1x st1
  have g_b1 : n0 ≤ b1 := Nat.le_trans (own_sz O) (Nat.le_of_eq g1.symm)
  have O2 := O.ext E1
  have V1 : Arv Z h1 b1 k1 (.object "com/example/stack4/stack4/app/DocumentLaunchMode") (4 : Int32) [.null, .null, .null, .null] .null := (Arv.new A1 (by decide)).pad (pad_rep [] .null 4)
  obtain ⟨T4, X4, e4, st4⟩ := getS2 X1 hx hZ hown (host := "") (Or.inl (W 2 rfl)) Via.refl e1 (S_w_NONE.ext O2.2) (g := (mkF m 6 #[iv p1, .unset, .unset, .unset, .unset] [.int 0, .ref b1, .ref b1])) rfl (hb hby at_6)
  obtain ⟨cl5, Ar5, q5, S5, Ng5, Hh5, Gg5⟩ := id V1
  obtain ⟨T5, h5, X5, e5, W5, st5⟩ := stR X4 hx hZ e4 Ar5 (j := (0 : Int32)) (inb_of S5 (by decide)) rfl (Sto.ofV Ar5 q5 Ov1 (Ins.self (E_w_NONE.ext O2.2))) (g := (mkF m 9 #[iv p1, .unset, .unset, .unset, .unset] [.ref w_NONE, .int 0, .ref b1, .ref b1])) rfl rfl (hb hby at_9)
  have V5 : Arv Z h5 b1 k1 (.object "com/example/stack4/stack4/app/DocumentLaunchMode") (4 : Int32) [(.ref w_NONE), .null, .null, .null] .null := Arv.set Ar5 q5 S5 Ng5 Hh5 Gg5 rfl W5 0 rfl (Nat.le_of_ble_eq_true rfl)
  have O6 := O2.wr W5 g_b1
  have N8 := Fr.snoc X5 N0 g_b1
  obtain ⟨T9, X9, e9, st9⟩ := getS2 X5 hx hZ hown (host := "") (Or.inl (W 6 rfl)) Via.refl e5 (S_w_INTO_EXISTING.ext O6.2) (g := (mkF m 12 #[iv p1, .unset, .unset, .unset, .unset] [.int 1, .ref b1, .ref b1])) rfl (hb hby at_12)
  obtain ⟨cl10, Ar10, q10, S10, Ng10, Hh10, Gg10⟩ := id V5
  obtain ⟨T10, h10, X10, e10, W10, st10⟩ := stR X9 hx hZ e9 Ar10 (j := (1 : Int32)) (inb_of S10 (by decide)) rfl (Sto.ofV Ar10 q10 Ov1 (Ins.self (E_w_INTO_EXISTING.ext O6.2))) (g := (mkF m 15 #[iv p1, .unset, .unset, .unset, .unset] [.ref w_INTO_EXISTING, .int 1, .ref b1, .ref b1])) rfl rfl (hb hby at_15)
  have V10 : Arv Z h10 b1 k1 (.object "com/example/stack4/stack4/app/DocumentLaunchMode") (4 : Int32) [(.ref w_NONE), (.ref w_INTO_EXISTING), .null, .null] .null := Arv.set Ar10 q10 S10 Ng10 Hh10 Gg10 rfl W10 1 rfl (Nat.le_of_ble_eq_true rfl)
  have O11 := O6.wr W10 g_b1
  have N13 := Fr.snoc X10 N8 g_b1
  obtain ⟨T14, X14, e14, st14⟩ := getS2 X10 hx hZ hown (host := "") (Or.inl (W 8 rfl)) Via.refl e10 (S_w_ALWAYS.ext O11.2) (g := (mkF m 18 #[iv p1, .unset, .unset, .unset, .unset] [.int 2, .ref b1, .ref b1])) rfl (hb hby at_18)
  obtain ⟨cl15, Ar15, q15, S15, Ng15, Hh15, Gg15⟩ := id V10
  obtain ⟨T15, h15, X15, e15, W15, st15⟩ := stR X14 hx hZ e14 Ar15 (j := (2 : Int32)) (inb_of S15 (by decide)) rfl (Sto.ofV Ar15 q15 Ov1 (Ins.self (E_w_ALWAYS.ext O11.2))) (g := (mkF m 21 #[iv p1, .unset, .unset, .unset, .unset] [.ref w_ALWAYS, .int 2, .ref b1, .ref b1])) rfl rfl (hb hby at_21)
  have V15 : Arv Z h15 b1 k1 (.object "com/example/stack4/stack4/app/DocumentLaunchMode") (4 : Int32) [(.ref w_NONE), (.ref w_INTO_EXISTING), (.ref w_ALWAYS), .null] .null := Arv.set Ar15 q15 S15 Ng15 Hh15 Gg15 rfl W15 2 rfl (Nat.le_of_ble_eq_true rfl)
  have O16 := O11.wr W15 g_b1
  have N18 := Fr.snoc X15 N13 g_b1
  obtain ⟨T19, X19, e19, st19⟩ := getS2 X15 hx hZ hown (host := "") (Or.inl (W 10 rfl)) Via.refl e15 (S_w_NEVER.ext O16.2) (g := (mkF m 24 #[iv p1, .unset, .unset, .unset, .unset] [.int 3, .ref b1, .ref b1])) rfl (hb hby at_24)
  obtain ⟨cl20, Ar20, q20, S20, Ng20, Hh20, Gg20⟩ := id V15
  obtain ⟨T20, h20, X20, e20, W20, st20⟩ := stR X19 hx hZ e19 Ar20 (j := (3 : Int32)) (inb_of S20 (by decide)) rfl (Sto.ofV Ar20 q20 Ov1 (Ins.self (E_w_NEVER.ext O16.2))) (g := (mkF m 27 #[iv p1, .unset, .unset, .unset, .unset] [.ref w_NEVER, .int 3, .ref b1, .ref b1])) rfl rfl (hb hby at_27)
  have V20 : Arv Z h20 b1 k1 (.object "com/example/stack4/stack4/app/DocumentLaunchMode") (4 : Int32) [(.ref w_NONE), (.ref w_INTO_EXISTING), (.ref w_ALWAYS), (.ref w_NEVER)] .null := Arv.set Ar20 q20 S20 Ng20 Hh20 Gg20 rfl W20 3 rfl (Nat.le_of_ble_eq_true rfl)
  have O21 := O16.wr W20 g_b1
  have N23 := Fr.snoc X20 N18 g_b1
  obtain ⟨cl24, Ar24, q24, S24, Ng24, Hh24, Gg24⟩ := id V20
  have st24 := X20.aaload hx (j := (1 : Int32)) (v := (.ref w_INTO_EXISTING)) (by rw [e20]; exact Ar24.1) (State.isArrayOf_alike hZ.alike Ar24.2.1) rfl Ar24.2.2 (inb_of S24 (by decide)) (Hh24.at (inb_of S24 (by decide)) rfl) (g := (mkF m 35 #[iv p1, rv b1, iv 1, .unset, .unset] [.int 1, .ref b1])) rfl rfl (hb hby at_35)
  obtain ⟨cq25, kq25, q25a, q25b, q25c⟩ := isOf hZ e20 (E_w_INTO_EXISTING.ext O21.2)
  obtain ⟨_, _, ⟨T25, L25, k25, n25⟩, -, X25, ⟨Lc25, hQ25, l25, y25, z25⟩, st25⟩ := X20.virtualBack hx (y := y_0) (z := y_0) hown (mvT hZ (W 12 rfl)) (mvT hZ (W 13 rfl)) (notFace_of_selects (args := #[]) (mvT hZ (W 15 rfl))) (mvT hZ (W 15 rfl)) (mvT hZ (W 14 rfl)) (by decide) (backOf (W := 0) (open1 l Z a0 hw [] w_INTO_EXISTING h20 n0 O21 S_w_INTO_EXISTING) hZ (W 16 rfl) (W 3 rfl) (by decide) (by decide)) q25a q25c (g := (mkF m 73 #[iv p1, rv b1, iv 1, rv w_INTO_EXISTING, iv 1] [.ref w_INTO_EXISTING])) rfl (by rw [hml]; rfl) (Steps.refl _) (argsL := []) (rest := []) (lenOf pd_0 rfl) rfl (by show 2 * 0 + _ ≤ _; exact Nat.le_of_eq rfl) (hb hby at_73) (fun _ _ => ⟨rfl, e20, (by decide : 1 + 0 ≤ _), (by decide : 4 + 0 ≤ _)⟩)
  dsimp only [Pt.U, Pt.locs, Pt.cells, Pt.slots] at X25 l25 y25 z25 st25 hQ25
  subst l25 y25 z25
  obtain ⟨h25, e25⟩ : ∃ z, T25.heap = z := ⟨_, rfl⟩
  rw [e25] at hQ25
  obtain ⟨rfl, N25q, p25_0⟩ := hQ25
  have N25 := Fr.app N23 N25q
  rw [p25_0] at e25
  obtain ⟨fs, hr, hrun, hended, hW, hsame⟩ := X25.leave (v := some (.int (1 : Int32))) (fun h => by rw [Bd.returns] at h; cases h)
  refine ⟨_, _, pre0 _ ?_, hrun, hended, _, _, rfl, ?_, ⟨_, rfl⟩, hW, hsame.mono (by decide) (by decide)⟩
  · show Sq p e below m s₁ 0 #[iv p1, .unset, .unset, .unset, .unset] [] _
    refine XS.iconst X0.here hx rfl (hb hby at_0) ?_
    show Sq p e below m s₁ 1 #[iv p1, .unset, .unset, .unset, .unset] [.int 4] _
    refine st1 _ ?_
    show Sq p e below m T1 4 #[iv p1, .unset, .unset, .unset, .unset] [.ref b1] _
    refine XS.dup X1.here hx rfl (hb hby at_4) rfl rfl ?_
    refine XS.iconst X1.here hx rfl (hb hby at_5) ?_
    show Sq p e below m T1 6 #[iv p1, .unset, .unset, .unset, .unset] [.int 0, .ref b1, .ref b1] _
    refine st4 _ ?_
    show Sq p e below m T4 9 #[iv p1, .unset, .unset, .unset, .unset] [.ref w_NONE, .int 0, .ref b1, .ref b1] _
    refine st5 _ ?_
    show Sq p e below m T5 10 #[iv p1, .unset, .unset, .unset, .unset] [.ref b1] _
    refine XS.dup X5.here hx rfl (hb hby at_10) rfl rfl ?_
    refine XS.iconst X5.here hx rfl (hb hby at_11) ?_
    show Sq p e below m T5 12 #[iv p1, .unset, .unset, .unset, .unset] [.int 1, .ref b1, .ref b1] _
    refine st9 _ ?_
    show Sq p e below m T9 15 #[iv p1, .unset, .unset, .unset, .unset] [.ref w_INTO_EXISTING, .int 1, .ref b1, .ref b1] _
    refine st10 _ ?_
    show Sq p e below m T10 16 #[iv p1, .unset, .unset, .unset, .unset] [.ref b1] _
    refine XS.dup X10.here hx rfl (hb hby at_16) rfl rfl ?_
    refine XS.iconst X10.here hx rfl (hb hby at_17) ?_
    show Sq p e below m T10 18 #[iv p1, .unset, .unset, .unset, .unset] [.int 2, .ref b1, .ref b1] _
    refine st14 _ ?_
    show Sq p e below m T14 21 #[iv p1, .unset, .unset, .unset, .unset] [.ref w_ALWAYS, .int 2, .ref b1, .ref b1] _
    refine st15 _ ?_
    show Sq p e below m T15 22 #[iv p1, .unset, .unset, .unset, .unset] [.ref b1] _
    refine XS.dup X15.here hx rfl (hb hby at_22) rfl rfl ?_
    refine XS.iconst X15.here hx rfl (hb hby at_23) ?_
    show Sq p e below m T15 24 #[iv p1, .unset, .unset, .unset, .unset] [.int 3, .ref b1, .ref b1] _
    refine st19 _ ?_
    show Sq p e below m T19 27 #[iv p1, .unset, .unset, .unset, .unset] [.ref w_NEVER, .int 3, .ref b1, .ref b1] _
    refine st20 _ ?_
    show Sq p e below m T20 28 #[iv p1, .unset, .unset, .unset, .unset] [.ref b1] _
    refine XS.astoreN X20.here hx rfl (hb hby at_28) rfl rfl rfl ?_
    refine XS.iloadN X20.here hx rfl (hb hby at_29) rfl ?_
    show Sq p e below m T20 30 #[iv p1, rv b1, .unset, .unset, .unset] [.int p1] _
    refine XS.iconst X20.here hx rfl (hb hby at_30) ?_
    refine XS.iand X20.here hx rfl (hb hby at_31) rfl ?_
    show Sq p e below m T20 32 #[iv p1, rv b1, .unset, .unset, .unset] [.int (p1 &&& (3 : Int32))] _
    rw [hk]
    show Sq p e below m T20 32 #[iv p1, rv b1, .unset, .unset, .unset] [.int 1] _
    refine XS.istoreN X20.here hx rfl (hb hby at_32) rfl rfl ?_
    refine XS.aloadN X20.here hx rfl (hb hby at_33) rfl rfl ?_
    show Sq p e below m T20 34 #[iv p1, rv b1, iv 1, .unset, .unset] [.ref b1] _
    refine XS.iloadN X20.here hx rfl (hb hby at_34) rfl ?_
    show Sq p e below m T20 35 #[iv p1, rv b1, iv 1, .unset, .unset] [.int 1, .ref b1] _
    refine st24 _ ?_
    show Sq p e below m T20 36 #[iv p1, rv b1, iv 1, .unset, .unset] [.ref w_INTO_EXISTING] _
    refine XS.astoreN X20.here hx rfl (hb hby at_36) rfl rfl rfl ?_
    refine XS.iloadN X20.here hx rfl (hb hby at_37) rfl ?_
    show Sq p e below m T20 38 #[iv p1, rv b1, iv 1, rv w_INTO_EXISTING, .unset] [.int 1] _
    refine XS.ifYes X20.here hx rfl (pc0 := 38) (pc' := 47) rfl (hb hby at_38) rfl ((if0 _ _).trans (feq (by decide)).2) (by decide) (by decide) ?_
    refine XS.iloadN X20.here hx rfl (hb hby at_47) rfl ?_
    show Sq p e below m T20 48 #[iv p1, rv b1, iv 1, rv w_INTO_EXISTING, .unset] [.int 1] _
    refine XS.iconst X20.here hx rfl (hb hby at_48) ?_
    refine XS.icmpNo X20.here hx rfl (hb hby at_49) rfl (teq (rfl : (1 : Int32) = (1 : Int32))).2 ?_
    show Sq p e below m T20 52 #[iv p1, rv b1, iv 1, rv w_INTO_EXISTING, .unset] [] _
    refine XS.iconst X20.here hx rfl (hb hby at_52) ?_
    refine XS.istore X20.here hx rfl (hb hby at_53) rfl rfl ?_
    show Sq p e below m T20 55 #[iv p1, rv b1, iv 1, rv w_INTO_EXISTING, iv 1] [] _
    refine XS.goto X20.here hx rfl (pc0 := 55) (pc' := 72) rfl (hb hby at_55) (by decide) (by decide) ?_
    refine XS.aloadN X20.here hx rfl (hb hby at_72) rfl rfl ?_
    show Sq p e below m T20 73 #[iv p1, rv b1, iv 1, rv w_INTO_EXISTING, iv 1] [.ref w_INTO_EXISTING] _
    refine st25.trans ?_
    show Sq p e below m T25 76 #[iv p1, rv b1, iv 1, rv w_INTO_EXISTING, iv 1] [.int 1] _
    refine XS.iload X25.here hx rfl (hb hby at_76) rfl ?_
    refine XS.icmpNo X25.here hx rfl (hb hby at_78) rfl (teq (rfl : (1 : Int32) = (1 : Int32))).2 ?_
    show Sq p e below m T25 81 #[iv p1, rv b1, iv 1, rv w_INTO_EXISTING, iv 1] [] _
    refine XS.iconst X25.here hx rfl (hb hby at_81) ?_
    refine XS.goto X25.here hx rfl (pc0 := 82) (pc' := 86) rfl (hb hby at_82) (by decide) (by decide) ?_
    show Sq p e below m T25 86 #[iv p1, rv b1, iv 1, rv w_INTO_EXISTING, iv 1] [.int 1] _
    exact retN X25 hx (t := .boolean) Bd.returns (by simp) (hb hby at_86) hr
  · show Q_rm0 Z p1 w_NONE w_INTO_EXISTING w_ALWAYS w_NEVER h0 n0 _ T25.heap _
    rw [e25]
    exact ⟨rfl, N25⟩
set_option maxRecDepth 65536 in
set_option maxHeartbeats 40000000 in
theorem rm0_2 (l : Launch) (Z : State) (a0 : Array Value) (hw : ∀ d ∈ tables_1, d.before a0 Z = true) (ws : List Jvm.Cond) (p1 : Int32) (w_NONE : Addr) (w_INTO_EXISTING : Addr) (w_ALWAYS : Addr) (w_NEVER : Addr) (h0 : Heap) (n0 : Nat) (O : Old Z n0 h0) (S_w_NONE : Sta Z Z.heap "com/example/stack4/stack4/app/DocumentLaunchMode" "NONE" "Lcom/example/stack4/stack4/app/DocumentLaunchMode;" (.ref w_NONE)) (E_w_NONE : Exa Z Z.heap w_NONE "com/example/stack4/stack4/app/DocumentLaunchMode") (S_w_INTO_EXISTING : Sta Z Z.heap "com/example/stack4/stack4/app/DocumentLaunchMode" "INTO_EXISTING" "Lcom/example/stack4/stack4/app/DocumentLaunchMode;" (.ref w_INTO_EXISTING)) (E_w_INTO_EXISTING : Exa Z Z.heap w_INTO_EXISTING "com/example/stack4/stack4/app/DocumentLaunchMode") (S_w_ALWAYS : Sta Z Z.heap "com/example/stack4/stack4/app/DocumentLaunchMode" "ALWAYS" "Lcom/example/stack4/stack4/app/DocumentLaunchMode;" (.ref w_ALWAYS)) (E_w_ALWAYS : Exa Z Z.heap w_ALWAYS "com/example/stack4/stack4/app/DocumentLaunchMode") (S_w_NEVER : Sta Z Z.heap "com/example/stack4/stack4/app/DocumentLaunchMode" "NEVER" "Lcom/example/stack4/stack4/app/DocumentLaunchMode;" (.ref w_NEVER)) (E_w_NEVER : Exa Z Z.heap w_NEVER "com/example/stack4/stack4/app/DocumentLaunchMode") (ne_2_1 : w_ALWAYS ≠ w_INTO_EXISTING) (ne_0_1 : w_NONE ≠ w_INTO_EXISTING) (ne_0_2 : w_NONE ≠ w_ALWAYS) (ne_3_1 : w_NEVER ≠ w_INTO_EXISTING) (ne_3_2 : w_NEVER ≠ w_ALWAYS) (hk : (p1 &&& (3 : Int32)) = (2 : Int32)) :
    Ctr l Z x code maxLocals ret ws room_1 #[(.int p1)] h0 (Q_rm0 Z p1 w_NONE w_INTO_EXISTING w_ALWAYS w_NEVER h0 n0) := by
  refine MetFree.of_bodySF (plainFor_of_name pn_1) hisR ?_
  intro p e s m args below meth c s₁ Bd hml0 hP hK
  obtain ⟨rfl, hZ, hh⟩ := hP
  have W := fun (i : Nat) {d : Jvm.Cond} (h : tables_1[i]? = some d) => hw d (List.mem_of_getElem? h)
  have hx := Bd.exec
  have hby := Bd.bytes
  have hml : c.maxLocals = 5 := hml0
  have hown : s.vm.findClass "com/example/stack4/stack4/app/DocumentLaunchModeOpensDocumentPinLaw" = some m.cls := findClass_of_methodNamed Bd.named
  have hnm := (name_of_methodNamed Bd.named Bd.method).1
  have X0 : Stand p l e room_1 s m #[(.int p1)] below meth c s₁ [] 0 0 := Stand.of_body Bd
  have e0 : s₁.heap = h0 := by rw [← hh, Bd.state]; rfl
  have N0 := Fr.nil n0
  have pre0 : ∀ t, Steps p.tables e below (s₁.setTop (mkF m 0 #[.val (.int p1), .unset, .unset, .unset, .unset] [])) t → Steps p.tables e below (s₁.setTop (entryFrame m #[(.int p1)] maxLocals)) t := fun t k => castTop (ef_1 m p1) k
  obtain ⟨T1, h1, k1, X1, e1, E1, A1, A1x, Ov1, st1⟩ := newRE X0 hx hZ hown (W 0 rfl) (W 1 rfl) e0 (g := (mkF m 1 #[iv p1, .unset, .unset, .unset, .unset] [.int 4])) rfl (hb hby at_1) rfl (by decide) (cap := 4) (by decide) (by decide) (by decide) (by decide) (ad := "[Lcom/example/stack4/stack4/app/DocumentLaunchMode;") (by decide)
  obtain ⟨b1, g1⟩ : ∃ z, z = h0.size := ⟨_, rfl⟩
  rw [← g1] at A1 A1x st1
  have g_b1 : n0 ≤ b1 := Nat.le_trans (own_sz O) (Nat.le_of_eq g1.symm)
  have O2 := O.ext E1
  have V1 : Arv Z h1 b1 k1 (.object "com/example/stack4/stack4/app/DocumentLaunchMode") (4 : Int32) [.null, .null, .null, .null] .null := (Arv.new A1 (by decide)).pad (pad_rep [] .null 4)
  obtain ⟨T4, X4, e4, st4⟩ := getS2 X1 hx hZ hown (host := "") (Or.inl (W 2 rfl)) Via.refl e1 (S_w_NONE.ext O2.2) (g := (mkF m 6 #[iv p1, .unset, .unset, .unset, .unset] [.int 0, .ref b1, .ref b1])) rfl (hb hby at_6)
  obtain ⟨cl5, Ar5, q5, S5, Ng5, Hh5, Gg5⟩ := id V1
  obtain ⟨T5, h5, X5, e5, W5, st5⟩ := stR X4 hx hZ e4 Ar5 (j := (0 : Int32)) (inb_of S5 (by decide)) rfl (Sto.ofV Ar5 q5 Ov1 (Ins.self (E_w_NONE.ext O2.2))) (g := (mkF m 9 #[iv p1, .unset, .unset, .unset, .unset] [.ref w_NONE, .int 0, .ref b1, .ref b1])) rfl rfl (hb hby at_9)
  have V5 : Arv Z h5 b1 k1 (.object "com/example/stack4/stack4/app/DocumentLaunchMode") (4 : Int32) [(.ref w_NONE), .null, .null, .null] .null := Arv.set Ar5 q5 S5 Ng5 Hh5 Gg5 rfl W5 0 rfl (Nat.le_of_ble_eq_true rfl)
  have O6 := O2.wr W5 g_b1
  have N8 := Fr.snoc X5 N0 g_b1
  obtain ⟨T9, X9, e9, st9⟩ := getS2 X5 hx hZ hown (host := "") (Or.inl (W 6 rfl)) Via.refl e5 (S_w_INTO_EXISTING.ext O6.2) (g := (mkF m 12 #[iv p1, .unset, .unset, .unset, .unset] [.int 1, .ref b1, .ref b1])) rfl (hb hby at_12)
  obtain ⟨cl10, Ar10, q10, S10, Ng10, Hh10, Gg10⟩ := id V5
  obtain ⟨T10, h10, X10, e10, W10, st10⟩ := stR X9 hx hZ e9 Ar10 (j := (1 : Int32)) (inb_of S10 (by decide)) rfl (Sto.ofV Ar10 q10 Ov1 (Ins.self (E_w_INTO_EXISTING.ext O6.2))) (g := (mkF m 15 #[iv p1, .unset, .unset, .unset, .unset] [.ref w_INTO_EXISTING, .int 1, .ref b1, .ref b1])) rfl rfl (hb hby at_15)
  have V10 : Arv Z h10 b1 k1 (.object "com/example/stack4/stack4/app/DocumentLaunchMode") (4 : Int32) [(.ref w_NONE), (.ref w_INTO_EXISTING), .null, .null] .null := Arv.set Ar10 q10 S10 Ng10 Hh10 Gg10 rfl W10 1 rfl (Nat.le_of_ble_eq_true rfl)
  have O11 := O6.wr W10 g_b1
  have N13 := Fr.snoc X10 N8 g_b1
  obtain ⟨T14, X14, e14, st14⟩ := getS2 X10 hx hZ hown (host := "") (Or.inl (W 8 rfl)) Via.refl e10 (S_w_ALWAYS.ext O11.2) (g := (mkF m 18 #[iv p1, .unset, .unset, .unset, .unset] [.int 2, .ref b1, .ref b1])) rfl (hb hby at_18)
  obtain ⟨cl15, Ar15, q15, S15, Ng15, Hh15, Gg15⟩ := id V10
  obtain ⟨T15, h15, X15, e15, W15, st15⟩ := stR X14 hx hZ e14 Ar15 (j := (2 : Int32)) (inb_of S15 (by decide)) rfl (Sto.ofV Ar15 q15 Ov1 (Ins.self (E_w_ALWAYS.ext O11.2))) (g := (mkF m 21 #[iv p1, .unset, .unset, .unset, .unset] [.ref w_ALWAYS, .int 2, .ref b1, .ref b1])) rfl rfl (hb hby at_21)
  have V15 : Arv Z h15 b1 k1 (.object "com/example/stack4/stack4/app/DocumentLaunchMode") (4 : Int32) [(.ref w_NONE), (.ref w_INTO_EXISTING), (.ref w_ALWAYS), .null] .null := Arv.set Ar15 q15 S15 Ng15 Hh15 Gg15 rfl W15 2 rfl (Nat.le_of_ble_eq_true rfl)
  have O16 := O11.wr W15 g_b1
  have N18 := Fr.snoc X15 N13 g_b1
  obtain ⟨T19, X19, e19, st19⟩ := getS2 X15 hx hZ hown (host := "") (Or.inl (W 10 rfl)) Via.refl e15 (S_w_NEVER.ext O16.2) (g := (mkF m 24 #[iv p1, .unset, .unset, .unset, .unset] [.int 3, .ref b1, .ref b1])) rfl (hb hby at_24)
  obtain ⟨cl20, Ar20, q20, S20, Ng20, Hh20, Gg20⟩ := id V15
  obtain ⟨T20, h20, X20, e20, W20, st20⟩ := stR X19 hx hZ e19 Ar20 (j := (3 : Int32)) (inb_of S20 (by decide)) rfl (Sto.ofV Ar20 q20 Ov1 (Ins.self (E_w_NEVER.ext O16.2))) (g := (mkF m 27 #[iv p1, .unset, .unset, .unset, .unset] [.ref w_NEVER, .int 3, .ref b1, .ref b1])) rfl rfl (hb hby at_27)
  have V20 : Arv Z h20 b1 k1 (.object "com/example/stack4/stack4/app/DocumentLaunchMode") (4 : Int32) [(.ref w_NONE), (.ref w_INTO_EXISTING), (.ref w_ALWAYS), (.ref w_NEVER)] .null := Arv.set Ar20 q20 S20 Ng20 Hh20 Gg20 rfl W20 3 rfl (Nat.le_of_ble_eq_true rfl)
  have O21 := O16.wr W20 g_b1
  have N23 := Fr.snoc X20 N18 g_b1
  obtain ⟨cl24, Ar24, q24, S24, Ng24, Hh24, Gg24⟩ := id V20
  have st24 := X20.aaload hx (j := (2 : Int32)) (v := (.ref w_ALWAYS)) (by rw [e20]; exact Ar24.1) (State.isArrayOf_alike hZ.alike Ar24.2.1) rfl Ar24.2.2 (inb_of S24 (by decide)) (Hh24.at (inb_of S24 (by decide)) rfl) (g := (mkF m 35 #[iv p1, rv b1, iv 2, .unset, .unset] [.int 2, .ref b1])) rfl rfl (hb hby at_35)
  obtain ⟨cq25, kq25, q25a, q25b, q25c⟩ := isOf hZ e20 (E_w_ALWAYS.ext O21.2)
  obtain ⟨_, _, ⟨T25, L25, k25, n25⟩, -, X25, ⟨Lc25, hQ25, l25, y25, z25⟩, st25⟩ := X20.virtualBack hx (y := y_0) (z := y_0) hown (mvT hZ (W 12 rfl)) (mvT hZ (W 13 rfl)) (notFace_of_selects (args := #[]) (mvT hZ (W 15 rfl))) (mvT hZ (W 15 rfl)) (mvT hZ (W 14 rfl)) (by decide) (backOf (W := 0) (open2 l Z a0 hw [] w_INTO_EXISTING w_ALWAYS h20 n0 O21 S_w_INTO_EXISTING S_w_ALWAYS ne_2_1) hZ (W 16 rfl) (W 3 rfl) (by decide) (by decide)) q25a q25c (g := (mkF m 73 #[iv p1, rv b1, iv 2, rv w_ALWAYS, iv 1] [.ref w_ALWAYS])) rfl (by rw [hml]; rfl) (Steps.refl _) (argsL := []) (rest := []) (lenOf pd_0 rfl) rfl (by show 2 * 0 + _ ≤ _; exact Nat.le_of_eq rfl) (hb hby at_73) (fun _ _ => ⟨rfl, e20, (by decide : 1 + 0 ≤ _), (by decide : 4 + 0 ≤ _)⟩)
  dsimp only [Pt.U, Pt.locs, Pt.cells, Pt.slots] at X25 l25 y25 z25 st25 hQ25
  subst l25 y25 z25
  obtain ⟨h25, e25⟩ : ∃ z, T25.heap = z := ⟨_, rfl⟩
  rw [e25] at hQ25
  obtain ⟨rfl, N25q, p25_0⟩ := hQ25
  have N25 := Fr.app N23 N25q
  rw [p25_0] at e25
  obtain ⟨fs, hr, hrun, hended, hW, hsame⟩ := X25.leave (v := some (.int (1 : Int32))) (fun h => by rw [Bd.returns] at h; cases h)
  refine ⟨_, _, pre0 _ ?_, hrun, hended, _, _, rfl, ?_, ⟨_, rfl⟩, hW, hsame.mono (by decide) (by decide)⟩
  · show Sq p e below m s₁ 0 #[iv p1, .unset, .unset, .unset, .unset] [] _
    refine XS.iconst X0.here hx rfl (hb hby at_0) ?_
    show Sq p e below m s₁ 1 #[iv p1, .unset, .unset, .unset, .unset] [.int 4] _
    refine st1 _ ?_
    show Sq p e below m T1 4 #[iv p1, .unset, .unset, .unset, .unset] [.ref b1] _
    refine XS.dup X1.here hx rfl (hb hby at_4) rfl rfl ?_
    refine XS.iconst X1.here hx rfl (hb hby at_5) ?_
    show Sq p e below m T1 6 #[iv p1, .unset, .unset, .unset, .unset] [.int 0, .ref b1, .ref b1] _
    refine st4 _ ?_
    show Sq p e below m T4 9 #[iv p1, .unset, .unset, .unset, .unset] [.ref w_NONE, .int 0, .ref b1, .ref b1] _
    refine st5 _ ?_
    show Sq p e below m T5 10 #[iv p1, .unset, .unset, .unset, .unset] [.ref b1] _
    refine XS.dup X5.here hx rfl (hb hby at_10) rfl rfl ?_
    refine XS.iconst X5.here hx rfl (hb hby at_11) ?_
    show Sq p e below m T5 12 #[iv p1, .unset, .unset, .unset, .unset] [.int 1, .ref b1, .ref b1] _
    refine st9 _ ?_
    show Sq p e below m T9 15 #[iv p1, .unset, .unset, .unset, .unset] [.ref w_INTO_EXISTING, .int 1, .ref b1, .ref b1] _
    refine st10 _ ?_
    show Sq p e below m T10 16 #[iv p1, .unset, .unset, .unset, .unset] [.ref b1] _
    refine XS.dup X10.here hx rfl (hb hby at_16) rfl rfl ?_
    refine XS.iconst X10.here hx rfl (hb hby at_17) ?_
    show Sq p e below m T10 18 #[iv p1, .unset, .unset, .unset, .unset] [.int 2, .ref b1, .ref b1] _
    refine st14 _ ?_
    show Sq p e below m T14 21 #[iv p1, .unset, .unset, .unset, .unset] [.ref w_ALWAYS, .int 2, .ref b1, .ref b1] _
    refine st15 _ ?_
    show Sq p e below m T15 22 #[iv p1, .unset, .unset, .unset, .unset] [.ref b1] _
    refine XS.dup X15.here hx rfl (hb hby at_22) rfl rfl ?_
    refine XS.iconst X15.here hx rfl (hb hby at_23) ?_
    show Sq p e below m T15 24 #[iv p1, .unset, .unset, .unset, .unset] [.int 3, .ref b1, .ref b1] _
    refine st19 _ ?_
    show Sq p e below m T19 27 #[iv p1, .unset, .unset, .unset, .unset] [.ref w_NEVER, .int 3, .ref b1, .ref b1] _
    refine st20 _ ?_
    show Sq p e below m T20 28 #[iv p1, .unset, .unset, .unset, .unset] [.ref b1] _
    refine XS.astoreN X20.here hx rfl (hb hby at_28) rfl rfl rfl ?_
    refine XS.iloadN X20.here hx rfl (hb hby at_29) rfl ?_
    show Sq p e below m T20 30 #[iv p1, rv b1, .unset, .unset, .unset] [.int p1] _
    refine XS.iconst X20.here hx rfl (hb hby at_30) ?_
    refine XS.iand X20.here hx rfl (hb hby at_31) rfl ?_
    show Sq p e below m T20 32 #[iv p1, rv b1, .unset, .unset, .unset] [.int (p1 &&& (3 : Int32))] _
    rw [hk]
    show Sq p e below m T20 32 #[iv p1, rv b1, .unset, .unset, .unset] [.int 2] _
    refine XS.istoreN X20.here hx rfl (hb hby at_32) rfl rfl ?_
    refine XS.aloadN X20.here hx rfl (hb hby at_33) rfl rfl ?_
    show Sq p e below m T20 34 #[iv p1, rv b1, iv 2, .unset, .unset] [.ref b1] _
    refine XS.iloadN X20.here hx rfl (hb hby at_34) rfl ?_
    show Sq p e below m T20 35 #[iv p1, rv b1, iv 2, .unset, .unset] [.int 2, .ref b1] _
    refine st24 _ ?_
    show Sq p e below m T20 36 #[iv p1, rv b1, iv 2, .unset, .unset] [.ref w_ALWAYS] _
    refine XS.astoreN X20.here hx rfl (hb hby at_36) rfl rfl rfl ?_
    refine XS.iloadN X20.here hx rfl (hb hby at_37) rfl ?_
    show Sq p e below m T20 38 #[iv p1, rv b1, iv 2, rv w_ALWAYS, .unset] [.int 2] _
    refine XS.ifYes X20.here hx rfl (pc0 := 38) (pc' := 47) rfl (hb hby at_38) rfl ((if0 _ _).trans (feq (by decide)).2) (by decide) (by decide) ?_
    refine XS.iloadN X20.here hx rfl (hb hby at_47) rfl ?_
    show Sq p e below m T20 48 #[iv p1, rv b1, iv 2, rv w_ALWAYS, .unset] [.int 2] _
    refine XS.iconst X20.here hx rfl (hb hby at_48) ?_
    refine XS.icmpYes X20.here hx rfl (pc0 := 49) (pc' := 58) rfl (hb hby at_49) rfl (feq (by decide)).2 (by decide) (by decide) ?_
    show Sq p e below m T20 58 #[iv p1, rv b1, iv 2, rv w_ALWAYS, .unset] [] _
    refine XS.iloadN X20.here hx rfl (hb hby at_58) rfl ?_
    refine XS.iconst X20.here hx rfl (hb hby at_59) ?_
    show Sq p e below m T20 60 #[iv p1, rv b1, iv 2, rv w_ALWAYS, .unset] [.int 2, .int 2] _
    refine XS.icmpNo X20.here hx rfl (hb hby at_60) rfl (teq (rfl : (2 : Int32) = (2 : Int32))).2 ?_
    refine XS.iconst X20.here hx rfl (hb hby at_63) ?_
    show Sq p e below m T20 64 #[iv p1, rv b1, iv 2, rv w_ALWAYS, .unset] [.int 1] _
    refine XS.istore X20.here hx rfl (hb hby at_64) rfl rfl ?_
    refine XS.goto X20.here hx rfl (pc0 := 66) (pc' := 72) rfl (hb hby at_66) (by decide) (by decide) ?_
    show Sq p e below m T20 72 #[iv p1, rv b1, iv 2, rv w_ALWAYS, iv 1] [] _
    refine XS.aloadN X20.here hx rfl (hb hby at_72) rfl rfl ?_
    show Sq p e below m T20 73 #[iv p1, rv b1, iv 2, rv w_ALWAYS, iv 1] [.ref w_ALWAYS] _
    refine st25.trans ?_
    show Sq p e below m T25 76 #[iv p1, rv b1, iv 2, rv w_ALWAYS, iv 1] [.int 1] _
    refine XS.iload X25.here hx rfl (hb hby at_76) rfl ?_
    refine XS.icmpNo X25.here hx rfl (hb hby at_78) rfl (teq (rfl : (1 : Int32) = (1 : Int32))).2 ?_
    show Sq p e below m T25 81 #[iv p1, rv b1, iv 2, rv w_ALWAYS, iv 1] [] _
    refine XS.iconst X25.here hx rfl (hb hby at_81) ?_
    refine XS.goto X25.here hx rfl (pc0 := 82) (pc' := 86) rfl (hb hby at_82) (by decide) (by decide) ?_
    show Sq p e below m T25 86 #[iv p1, rv b1, iv 2, rv w_ALWAYS, iv 1] [.int 1] _
    exact retN X25 hx (t := .boolean) Bd.returns (by simp) (hb hby at_86) hr
  · show Q_rm0 Z p1 w_NONE w_INTO_EXISTING w_ALWAYS w_NEVER h0 n0 _ T25.heap _
    rw [e25]
    exact ⟨rfl, N25⟩
set_option maxRecDepth 65536 in
set_option maxHeartbeats 40000000 in
theorem rm0_3 (l : Launch) (Z : State) (a0 : Array Value) (hw : ∀ d ∈ tables_1, d.before a0 Z = true) (ws : List Jvm.Cond) (p1 : Int32) (w_NONE : Addr) (w_INTO_EXISTING : Addr) (w_ALWAYS : Addr) (w_NEVER : Addr) (h0 : Heap) (n0 : Nat) (O : Old Z n0 h0) (S_w_NONE : Sta Z Z.heap "com/example/stack4/stack4/app/DocumentLaunchMode" "NONE" "Lcom/example/stack4/stack4/app/DocumentLaunchMode;" (.ref w_NONE)) (E_w_NONE : Exa Z Z.heap w_NONE "com/example/stack4/stack4/app/DocumentLaunchMode") (S_w_INTO_EXISTING : Sta Z Z.heap "com/example/stack4/stack4/app/DocumentLaunchMode" "INTO_EXISTING" "Lcom/example/stack4/stack4/app/DocumentLaunchMode;" (.ref w_INTO_EXISTING)) (E_w_INTO_EXISTING : Exa Z Z.heap w_INTO_EXISTING "com/example/stack4/stack4/app/DocumentLaunchMode") (S_w_ALWAYS : Sta Z Z.heap "com/example/stack4/stack4/app/DocumentLaunchMode" "ALWAYS" "Lcom/example/stack4/stack4/app/DocumentLaunchMode;" (.ref w_ALWAYS)) (E_w_ALWAYS : Exa Z Z.heap w_ALWAYS "com/example/stack4/stack4/app/DocumentLaunchMode") (S_w_NEVER : Sta Z Z.heap "com/example/stack4/stack4/app/DocumentLaunchMode" "NEVER" "Lcom/example/stack4/stack4/app/DocumentLaunchMode;" (.ref w_NEVER)) (E_w_NEVER : Exa Z Z.heap w_NEVER "com/example/stack4/stack4/app/DocumentLaunchMode") (ne_2_1 : w_ALWAYS ≠ w_INTO_EXISTING) (ne_0_1 : w_NONE ≠ w_INTO_EXISTING) (ne_0_2 : w_NONE ≠ w_ALWAYS) (ne_3_1 : w_NEVER ≠ w_INTO_EXISTING) (ne_3_2 : w_NEVER ≠ w_ALWAYS) (hk : (p1 &&& (3 : Int32)) = (3 : Int32)) :
    Ctr l Z x code maxLocals ret ws room_1 #[(.int p1)] h0 (Q_rm0 Z p1 w_NONE w_INTO_EXISTING w_ALWAYS w_NEVER h0 n0) := by
  refine MetFree.of_bodySF (plainFor_of_name pn_1) hisR ?_
  intro p e s m args below meth c s₁ Bd hml0 hP hK
  obtain ⟨rfl, hZ, hh⟩ := hP
  have W := fun (i : Nat) {d : Jvm.Cond} (h : tables_1[i]? = some d) => hw d (List.mem_of_getElem? h)
  have hx := Bd.exec
  have hby := Bd.bytes
  have hml : c.maxLocals = 5 := hml0
  have hown : s.vm.findClass "com/example/stack4/stack4/app/DocumentLaunchModeOpensDocumentPinLaw" = some m.cls := findClass_of_methodNamed Bd.named
  have hnm := (name_of_methodNamed Bd.named Bd.method).1
  have X0 : Stand p l e room_1 s m #[(.int p1)] below meth c s₁ [] 0 0 := Stand.of_body Bd
  have e0 : s₁.heap = h0 := by rw [← hh, Bd.state]; rfl
  have N0 := Fr.nil n0
  have pre0 : ∀ t, Steps p.tables e below (s₁.setTop (mkF m 0 #[.val (.int p1), .unset, .unset, .unset, .unset] [])) t → Steps p.tables e below (s₁.setTop (entryFrame m #[(.int p1)] maxLocals)) t := fun t k => castTop (ef_1 m p1) k
  obtain ⟨T1, h1, k1, X1, e1, E1, A1, A1x, Ov1, st1⟩ := newRE X0 hx hZ hown (W 0 rfl) (W 1 rfl) e0 (g := (mkF m 1 #[iv p1, .unset, .unset, .unset, .unset] [.int 4])) rfl (hb hby at_1) rfl (by decide) (cap := 4) (by decide) (by decide) (by decide) (by decide) (ad := "[Lcom/example/stack4/stack4/app/DocumentLaunchMode;") (by decide)
  obtain ⟨b1, g1⟩ : ∃ z, z = h0.size := ⟨_, rfl⟩
  rw [← g1] at A1 A1x st1
  have g_b1 : n0 ≤ b1 := Nat.le_trans (own_sz O) (Nat.le_of_eq g1.symm)
  have O2 := O.ext E1
  have V1 : Arv Z h1 b1 k1 (.object "com/example/stack4/stack4/app/DocumentLaunchMode") (4 : Int32) [.null, .null, .null, .null] .null := (Arv.new A1 (by decide)).pad (pad_rep [] .null 4)
  obtain ⟨T4, X4, e4, st4⟩ := getS2 X1 hx hZ hown (host := "") (Or.inl (W 2 rfl)) Via.refl e1 (S_w_NONE.ext O2.2) (g := (mkF m 6 #[iv p1, .unset, .unset, .unset, .unset] [.int 0, .ref b1, .ref b1])) rfl (hb hby at_6)
  obtain ⟨cl5, Ar5, q5, S5, Ng5, Hh5, Gg5⟩ := id V1
  obtain ⟨T5, h5, X5, e5, W5, st5⟩ := stR X4 hx hZ e4 Ar5 (j := (0 : Int32)) (inb_of S5 (by decide)) rfl (Sto.ofV Ar5 q5 Ov1 (Ins.self (E_w_NONE.ext O2.2))) (g := (mkF m 9 #[iv p1, .unset, .unset, .unset, .unset] [.ref w_NONE, .int 0, .ref b1, .ref b1])) rfl rfl (hb hby at_9)
  have V5 : Arv Z h5 b1 k1 (.object "com/example/stack4/stack4/app/DocumentLaunchMode") (4 : Int32) [(.ref w_NONE), .null, .null, .null] .null := Arv.set Ar5 q5 S5 Ng5 Hh5 Gg5 rfl W5 0 rfl (Nat.le_of_ble_eq_true rfl)
  have O6 := O2.wr W5 g_b1
  have N8 := Fr.snoc X5 N0 g_b1
  obtain ⟨T9, X9, e9, st9⟩ := getS2 X5 hx hZ hown (host := "") (Or.inl (W 6 rfl)) Via.refl e5 (S_w_INTO_EXISTING.ext O6.2) (g := (mkF m 12 #[iv p1, .unset, .unset, .unset, .unset] [.int 1, .ref b1, .ref b1])) rfl (hb hby at_12)
  obtain ⟨cl10, Ar10, q10, S10, Ng10, Hh10, Gg10⟩ := id V5
  obtain ⟨T10, h10, X10, e10, W10, st10⟩ := stR X9 hx hZ e9 Ar10 (j := (1 : Int32)) (inb_of S10 (by decide)) rfl (Sto.ofV Ar10 q10 Ov1 (Ins.self (E_w_INTO_EXISTING.ext O6.2))) (g := (mkF m 15 #[iv p1, .unset, .unset, .unset, .unset] [.ref w_INTO_EXISTING, .int 1, .ref b1, .ref b1])) rfl rfl (hb hby at_15)
  have V10 : Arv Z h10 b1 k1 (.object "com/example/stack4/stack4/app/DocumentLaunchMode") (4 : Int32) [(.ref w_NONE), (.ref w_INTO_EXISTING), .null, .null] .null := Arv.set Ar10 q10 S10 Ng10 Hh10 Gg10 rfl W10 1 rfl (Nat.le_of_ble_eq_true rfl)
  have O11 := O6.wr W10 g_b1
  have N13 := Fr.snoc X10 N8 g_b1
  obtain ⟨T14, X14, e14, st14⟩ := getS2 X10 hx hZ hown (host := "") (Or.inl (W 8 rfl)) Via.refl e10 (S_w_ALWAYS.ext O11.2) (g := (mkF m 18 #[iv p1, .unset, .unset, .unset, .unset] [.int 2, .ref b1, .ref b1])) rfl (hb hby at_18)
  obtain ⟨cl15, Ar15, q15, S15, Ng15, Hh15, Gg15⟩ := id V10
  obtain ⟨T15, h15, X15, e15, W15, st15⟩ := stR X14 hx hZ e14 Ar15 (j := (2 : Int32)) (inb_of S15 (by decide)) rfl (Sto.ofV Ar15 q15 Ov1 (Ins.self (E_w_ALWAYS.ext O11.2))) (g := (mkF m 21 #[iv p1, .unset, .unset, .unset, .unset] [.ref w_ALWAYS, .int 2, .ref b1, .ref b1])) rfl rfl (hb hby at_21)
  have V15 : Arv Z h15 b1 k1 (.object "com/example/stack4/stack4/app/DocumentLaunchMode") (4 : Int32) [(.ref w_NONE), (.ref w_INTO_EXISTING), (.ref w_ALWAYS), .null] .null := Arv.set Ar15 q15 S15 Ng15 Hh15 Gg15 rfl W15 2 rfl (Nat.le_of_ble_eq_true rfl)
  have O16 := O11.wr W15 g_b1
  have N18 := Fr.snoc X15 N13 g_b1
  obtain ⟨T19, X19, e19, st19⟩ := getS2 X15 hx hZ hown (host := "") (Or.inl (W 10 rfl)) Via.refl e15 (S_w_NEVER.ext O16.2) (g := (mkF m 24 #[iv p1, .unset, .unset, .unset, .unset] [.int 3, .ref b1, .ref b1])) rfl (hb hby at_24)
  obtain ⟨cl20, Ar20, q20, S20, Ng20, Hh20, Gg20⟩ := id V15
  obtain ⟨T20, h20, X20, e20, W20, st20⟩ := stR X19 hx hZ e19 Ar20 (j := (3 : Int32)) (inb_of S20 (by decide)) rfl (Sto.ofV Ar20 q20 Ov1 (Ins.self (E_w_NEVER.ext O16.2))) (g := (mkF m 27 #[iv p1, .unset, .unset, .unset, .unset] [.ref w_NEVER, .int 3, .ref b1, .ref b1])) rfl rfl (hb hby at_27)
  have V20 : Arv Z h20 b1 k1 (.object "com/example/stack4/stack4/app/DocumentLaunchMode") (4 : Int32) [(.ref w_NONE), (.ref w_INTO_EXISTING), (.ref w_ALWAYS), (.ref w_NEVER)] .null := Arv.set Ar20 q20 S20 Ng20 Hh20 Gg20 rfl W20 3 rfl (Nat.le_of_ble_eq_true rfl)
  have O21 := O16.wr W20 g_b1
  have N23 := Fr.snoc X20 N18 g_b1
  obtain ⟨cl24, Ar24, q24, S24, Ng24, Hh24, Gg24⟩ := id V20
  have st24 := X20.aaload hx (j := (3 : Int32)) (v := (.ref w_NEVER)) (by rw [e20]; exact Ar24.1) (State.isArrayOf_alike hZ.alike Ar24.2.1) rfl Ar24.2.2 (inb_of S24 (by decide)) (Hh24.at (inb_of S24 (by decide)) rfl) (g := (mkF m 35 #[iv p1, rv b1, iv 3, .unset, .unset] [.int 3, .ref b1])) rfl rfl (hb hby at_35)
  obtain ⟨cq25, kq25, q25a, q25b, q25c⟩ := isOf hZ e20 (E_w_NEVER.ext O21.2)
  obtain ⟨_, _, ⟨T25, L25, k25, n25⟩, -, X25, ⟨Lc25, hQ25, l25, y25, z25⟩, st25⟩ := X20.virtualBack hx (y := y_0) (z := y_0) hown (mvT hZ (W 12 rfl)) (mvT hZ (W 13 rfl)) (notFace_of_selects (args := #[]) (mvT hZ (W 15 rfl))) (mvT hZ (W 15 rfl)) (mvT hZ (W 14 rfl)) (by decide) (backOf (W := 0) (open0 l Z a0 hw [] w_NEVER w_INTO_EXISTING w_ALWAYS h20 n0 O21 S_w_INTO_EXISTING S_w_ALWAYS ne_3_1 ne_3_2) hZ (W 16 rfl) (W 3 rfl) (by decide) (by decide)) q25a q25c (g := (mkF m 73 #[iv p1, rv b1, iv 3, rv w_NEVER, iv 0] [.ref w_NEVER])) rfl (by rw [hml]; rfl) (Steps.refl _) (argsL := []) (rest := []) (lenOf pd_0 rfl) rfl (by show 2 * 0 + _ ≤ _; exact Nat.le_of_eq rfl) (hb hby at_73) (fun _ _ => ⟨rfl, e20, (by decide : 1 + 0 ≤ _), (by decide : 4 + 0 ≤ _)⟩)
  dsimp only [Pt.U, Pt.locs, Pt.cells, Pt.slots] at X25 l25 y25 z25 st25 hQ25
  subst l25 y25 z25
  obtain ⟨h25, e25⟩ : ∃ z, T25.heap = z := ⟨_, rfl⟩
  rw [e25] at hQ25
  obtain ⟨rfl, N25q, p25_0⟩ := hQ25
  have N25 := Fr.app N23 N25q
  rw [p25_0] at e25
  obtain ⟨fs, hr, hrun, hended, hW, hsame⟩ := X25.leave (v := some (.int (1 : Int32))) (fun h => by rw [Bd.returns] at h; cases h)
  refine ⟨_, _, pre0 _ ?_, hrun, hended, _, _, rfl, ?_, ⟨_, rfl⟩, hW, hsame.mono (by decide) (by decide)⟩
  · show Sq p e below m s₁ 0 #[iv p1, .unset, .unset, .unset, .unset] [] _
    refine XS.iconst X0.here hx rfl (hb hby at_0) ?_
    show Sq p e below m s₁ 1 #[iv p1, .unset, .unset, .unset, .unset] [.int 4] _
    refine st1 _ ?_
    show Sq p e below m T1 4 #[iv p1, .unset, .unset, .unset, .unset] [.ref b1] _
    refine XS.dup X1.here hx rfl (hb hby at_4) rfl rfl ?_
    refine XS.iconst X1.here hx rfl (hb hby at_5) ?_
    show Sq p e below m T1 6 #[iv p1, .unset, .unset, .unset, .unset] [.int 0, .ref b1, .ref b1] _
    refine st4 _ ?_
    show Sq p e below m T4 9 #[iv p1, .unset, .unset, .unset, .unset] [.ref w_NONE, .int 0, .ref b1, .ref b1] _
    refine st5 _ ?_
    show Sq p e below m T5 10 #[iv p1, .unset, .unset, .unset, .unset] [.ref b1] _
    refine XS.dup X5.here hx rfl (hb hby at_10) rfl rfl ?_
    refine XS.iconst X5.here hx rfl (hb hby at_11) ?_
    show Sq p e below m T5 12 #[iv p1, .unset, .unset, .unset, .unset] [.int 1, .ref b1, .ref b1] _
    refine st9 _ ?_
    show Sq p e below m T9 15 #[iv p1, .unset, .unset, .unset, .unset] [.ref w_INTO_EXISTING, .int 1, .ref b1, .ref b1] _
    refine st10 _ ?_
    show Sq p e below m T10 16 #[iv p1, .unset, .unset, .unset, .unset] [.ref b1] _
    refine XS.dup X10.here hx rfl (hb hby at_16) rfl rfl ?_
    refine XS.iconst X10.here hx rfl (hb hby at_17) ?_
    show Sq p e below m T10 18 #[iv p1, .unset, .unset, .unset, .unset] [.int 2, .ref b1, .ref b1] _
    refine st14 _ ?_
    show Sq p e below m T14 21 #[iv p1, .unset, .unset, .unset, .unset] [.ref w_ALWAYS, .int 2, .ref b1, .ref b1] _
    refine st15 _ ?_
    show Sq p e below m T15 22 #[iv p1, .unset, .unset, .unset, .unset] [.ref b1] _
    refine XS.dup X15.here hx rfl (hb hby at_22) rfl rfl ?_
    refine XS.iconst X15.here hx rfl (hb hby at_23) ?_
    show Sq p e below m T15 24 #[iv p1, .unset, .unset, .unset, .unset] [.int 3, .ref b1, .ref b1] _
    refine st19 _ ?_
    show Sq p e below m T19 27 #[iv p1, .unset, .unset, .unset, .unset] [.ref w_NEVER, .int 3, .ref b1, .ref b1] _
    refine st20 _ ?_
    show Sq p e below m T20 28 #[iv p1, .unset, .unset, .unset, .unset] [.ref b1] _
    refine XS.astoreN X20.here hx rfl (hb hby at_28) rfl rfl rfl ?_
    refine XS.iloadN X20.here hx rfl (hb hby at_29) rfl ?_
    show Sq p e below m T20 30 #[iv p1, rv b1, .unset, .unset, .unset] [.int p1] _
    refine XS.iconst X20.here hx rfl (hb hby at_30) ?_
    refine XS.iand X20.here hx rfl (hb hby at_31) rfl ?_
    show Sq p e below m T20 32 #[iv p1, rv b1, .unset, .unset, .unset] [.int (p1 &&& (3 : Int32))] _
    rw [hk]
    show Sq p e below m T20 32 #[iv p1, rv b1, .unset, .unset, .unset] [.int 3] _
    refine XS.istoreN X20.here hx rfl (hb hby at_32) rfl rfl ?_
    refine XS.aloadN X20.here hx rfl (hb hby at_33) rfl rfl ?_
    show Sq p e below m T20 34 #[iv p1, rv b1, iv 3, .unset, .unset] [.ref b1] _
    refine XS.iloadN X20.here hx rfl (hb hby at_34) rfl ?_
    show Sq p e below m T20 35 #[iv p1, rv b1, iv 3, .unset, .unset] [.int 3, .ref b1] _
    refine st24 _ ?_
    show Sq p e below m T20 36 #[iv p1, rv b1, iv 3, .unset, .unset] [.ref w_NEVER] _
    refine XS.astoreN X20.here hx rfl (hb hby at_36) rfl rfl rfl ?_
    refine XS.iloadN X20.here hx rfl (hb hby at_37) rfl ?_
    show Sq p e below m T20 38 #[iv p1, rv b1, iv 3, rv w_NEVER, .unset] [.int 3] _
    refine XS.ifYes X20.here hx rfl (pc0 := 38) (pc' := 47) rfl (hb hby at_38) rfl ((if0 _ _).trans (feq (by decide)).2) (by decide) (by decide) ?_
    refine XS.iloadN X20.here hx rfl (hb hby at_47) rfl ?_
    show Sq p e below m T20 48 #[iv p1, rv b1, iv 3, rv w_NEVER, .unset] [.int 3] _
    refine XS.iconst X20.here hx rfl (hb hby at_48) ?_
    refine XS.icmpYes X20.here hx rfl (pc0 := 49) (pc' := 58) rfl (hb hby at_49) rfl (feq (by decide)).2 (by decide) (by decide) ?_
    show Sq p e below m T20 58 #[iv p1, rv b1, iv 3, rv w_NEVER, .unset] [] _
    refine XS.iloadN X20.here hx rfl (hb hby at_58) rfl ?_
    refine XS.iconst X20.here hx rfl (hb hby at_59) ?_
    show Sq p e below m T20 60 #[iv p1, rv b1, iv 3, rv w_NEVER, .unset] [.int 2, .int 3] _
    refine XS.icmpYes X20.here hx rfl (pc0 := 60) (pc' := 69) rfl (hb hby at_60) rfl (feq (by decide)).2 (by decide) (by decide) ?_
    refine XS.iconst X20.here hx rfl (hb hby at_69) ?_
    show Sq p e below m T20 70 #[iv p1, rv b1, iv 3, rv w_NEVER, .unset] [.int 0] _
    refine XS.istore X20.here hx rfl (hb hby at_70) rfl rfl ?_
    refine XS.aloadN X20.here hx rfl (hb hby at_72) rfl rfl ?_
    show Sq p e below m T20 73 #[iv p1, rv b1, iv 3, rv w_NEVER, iv 0] [.ref w_NEVER] _
    refine st25.trans ?_
    show Sq p e below m T25 76 #[iv p1, rv b1, iv 3, rv w_NEVER, iv 0] [.int 0] _
    refine XS.iload X25.here hx rfl (hb hby at_76) rfl ?_
    refine XS.icmpNo X25.here hx rfl (hb hby at_78) rfl (teq (rfl : (0 : Int32) = (0 : Int32))).2 ?_
    show Sq p e below m T25 81 #[iv p1, rv b1, iv 3, rv w_NEVER, iv 0] [] _
    refine XS.iconst X25.here hx rfl (hb hby at_81) ?_
    refine XS.goto X25.here hx rfl (pc0 := 82) (pc' := 86) rfl (hb hby at_82) (by decide) (by decide) ?_
    show Sq p e below m T25 86 #[iv p1, rv b1, iv 3, rv w_NEVER, iv 0] [.int 1] _
    exact retN X25 hx (t := .boolean) Bd.returns (by simp) (hb hby at_86) hr
  · show Q_rm0 Z p1 w_NONE w_INTO_EXISTING w_ALWAYS w_NEVER h0 n0 _ T25.heap _
    rw [e25]
    exact ⟨rfl, N25⟩
set_option maxRecDepth 65536 in
theorem rm0 (l : Launch) (Z : State) (a0 : Array Value) (hw : ∀ d ∈ tables_1, d.before a0 Z = true) (ws : List Jvm.Cond) (p1 : Int32) (w_NONE : Addr) (w_INTO_EXISTING : Addr) (w_ALWAYS : Addr) (w_NEVER : Addr) (h0 : Heap) (n0 : Nat) (O : Old Z n0 h0) (S_w_NONE : Sta Z Z.heap "com/example/stack4/stack4/app/DocumentLaunchMode" "NONE" "Lcom/example/stack4/stack4/app/DocumentLaunchMode;" (.ref w_NONE)) (E_w_NONE : Exa Z Z.heap w_NONE "com/example/stack4/stack4/app/DocumentLaunchMode") (S_w_INTO_EXISTING : Sta Z Z.heap "com/example/stack4/stack4/app/DocumentLaunchMode" "INTO_EXISTING" "Lcom/example/stack4/stack4/app/DocumentLaunchMode;" (.ref w_INTO_EXISTING)) (E_w_INTO_EXISTING : Exa Z Z.heap w_INTO_EXISTING "com/example/stack4/stack4/app/DocumentLaunchMode") (S_w_ALWAYS : Sta Z Z.heap "com/example/stack4/stack4/app/DocumentLaunchMode" "ALWAYS" "Lcom/example/stack4/stack4/app/DocumentLaunchMode;" (.ref w_ALWAYS)) (E_w_ALWAYS : Exa Z Z.heap w_ALWAYS "com/example/stack4/stack4/app/DocumentLaunchMode") (S_w_NEVER : Sta Z Z.heap "com/example/stack4/stack4/app/DocumentLaunchMode" "NEVER" "Lcom/example/stack4/stack4/app/DocumentLaunchMode;" (.ref w_NEVER)) (E_w_NEVER : Exa Z Z.heap w_NEVER "com/example/stack4/stack4/app/DocumentLaunchMode") (ne_2_1 : w_ALWAYS ≠ w_INTO_EXISTING) (ne_0_1 : w_NONE ≠ w_INTO_EXISTING) (ne_0_2 : w_NONE ≠ w_ALWAYS) (ne_3_1 : w_NEVER ≠ w_INTO_EXISTING) (ne_3_2 : w_NEVER ≠ w_ALWAYS) :
    Ctr l Z x code maxLocals ret ws room_1 #[(.int p1)] h0 (Q_rm0 Z p1 w_NONE w_INTO_EXISTING w_ALWAYS w_NEVER h0 n0) := by
  rcases own_and3 p1 with hk | hk | hk | hk
  · exact rm0_0 l Z a0 hw ws p1 w_NONE w_INTO_EXISTING w_ALWAYS w_NEVER h0 n0 O S_w_NONE E_w_NONE S_w_INTO_EXISTING E_w_INTO_EXISTING S_w_ALWAYS E_w_ALWAYS S_w_NEVER E_w_NEVER ne_2_1 ne_0_1 ne_0_2 ne_3_1 ne_3_2 hk
  · exact rm0_1 l Z a0 hw ws p1 w_NONE w_INTO_EXISTING w_ALWAYS w_NEVER h0 n0 O S_w_NONE E_w_NONE S_w_INTO_EXISTING E_w_INTO_EXISTING S_w_ALWAYS E_w_ALWAYS S_w_NEVER E_w_NEVER ne_2_1 ne_0_1 ne_0_2 ne_3_1 ne_3_2 hk
  · exact rm0_2 l Z a0 hw ws p1 w_NONE w_INTO_EXISTING w_ALWAYS w_NEVER h0 n0 O S_w_NONE E_w_NONE S_w_INTO_EXISTING E_w_INTO_EXISTING S_w_ALWAYS E_w_ALWAYS S_w_NEVER E_w_NEVER ne_2_1 ne_0_1 ne_0_2 ne_3_1 ne_3_2 hk
  · exact rm0_3 l Z a0 hw ws p1 w_NONE w_INTO_EXISTING w_ALWAYS w_NEVER h0 n0 O S_w_NONE E_w_NONE S_w_INTO_EXISTING E_w_INTO_EXISTING S_w_ALWAYS E_w_ALWAYS S_w_NEVER E_w_NEVER ne_2_1 ne_0_1 ne_0_2 ne_3_1 ne_3_2 hk
set_option maxRecDepth 65536 in
set_option maxHeartbeats 40000000 in
theorem comes_1 {Post : Tables → Env → Array Value → State → Outcome → State → Prop} (hpost : ∀ tb e args s v u, (limb_1_1.after args s (.returned v) u = true ∧ limb_1_2.after args s (.returned v) u = true ∧ True) → FrameEnd s (.returned v) u (Jvm.fieldLocs frame_1_writes args s ++ Jvm.arrayLocs frame_1_arrays args s ++ Jvm.staticLocs frame_1_statics s) 16 128 → Post tb e args s (.returned v) u) :
    ArmFor flags0 classFile x code maxLocals ret World_1 tables_1 room_1 Calls_1 rest_1 Pre_1 Post := by
  intro l hfl _ _ p e ha hc hk s m args below hf hA hF happ hP
  obtain ⟨hcalls, hrest, hpre⟩ := hP
  obtain ⟨-, -, -, hnamed, -, -, -, hat⟩ := (Spec.applies_iff hf).mp happ
  obtain ⟨hg, hn⟩ := and_e (Cond.before_iff.mp (show (Jvm.Cond.and given_1 narrow_1).before args s = true from hpre))
  obtain ⟨gc, gr0⟩ := and_e hg
  obtain ⟨w0, rfl⟩ : ∃ w0 : Value, args = #[w0] := by
    have hs : args.size = 1 := by simpa [Cond.value, given_1] using gc
    obtain ⟨L⟩ := args
    match L, hs with
    | [w0], _ => exact ⟨w0, rfl⟩
  have hw := fun d (hd : d ∈ tables_1) => atoms_spec (ws := Jvm.Cond.code x code maxLocals ret :: tables_1) hat d (List.mem_cons_of_mem _ hd)
  have W := fun (i : Nat) {d : Jvm.Cond} (h : tables_1[i]? = some d) => hw d (List.mem_of_getElem? h)
  obtain ⟨i0, ei0⟩ := is_v gr0
  obtain rfl : w0 = (.int i0) := Option.some.inj ei0
  obtain ⟨c0, cr0⟩ := and_e hn
  obtain ⟨c1, cr1⟩ := and_e cr0
  obtain ⟨c2, cr2⟩ := and_e cr1
  obtain ⟨c3, cr3⟩ := and_e cr2
  obtain ⟨c4, cr4⟩ := and_e cr3
  obtain ⟨c5, cr5⟩ := and_e cr4
  obtain ⟨c6, cr6⟩ := and_e cr5
  have c7 := cr6
  obtain ⟨w_NONE, S_w_NONE, E_w_NONE, ev_w_NONE⟩ := own_static c0 (Or.inr ⟨(W 3 rfl), (W 4 rfl)⟩)
  obtain ⟨w_INTO_EXISTING, S_w_INTO_EXISTING, E_w_INTO_EXISTING, ev_w_INTO_EXISTING⟩ := own_static c1 (Or.inr ⟨(W 3 rfl), (W 7 rfl)⟩)
  obtain ⟨w_ALWAYS, S_w_ALWAYS, E_w_ALWAYS, ev_w_ALWAYS⟩ := own_static c2 (Or.inr ⟨(W 3 rfl), (W 9 rfl)⟩)
  obtain ⟨w_NEVER, S_w_NEVER, E_w_NEVER, ev_w_NEVER⟩ := own_static c3 (Or.inr ⟨(W 3 rfl), (W 11 rfl)⟩)
  have F_w_NONE_ordinal := own_field ev_w_NONE c4
  have F_w_INTO_EXISTING_ordinal := own_field ev_w_INTO_EXISTING c5
  have F_w_ALWAYS_ordinal := own_field ev_w_ALWAYS c6
  have F_w_NEVER_ordinal := own_field ev_w_NEVER c7
  have ne_2_1 := own_ne F_w_ALWAYS_ordinal F_w_INTO_EXISTING_ordinal (by decide)
  have ne_0_1 := own_ne F_w_NONE_ordinal F_w_INTO_EXISTING_ordinal (by decide)
  have ne_0_2 := own_ne F_w_NONE_ordinal F_w_ALWAYS_ordinal (by decide)
  have ne_3_1 := own_ne F_w_NEVER_ordinal F_w_INTO_EXISTING_ordinal (by decide)
  have ne_3_2 := own_ne F_w_NEVER_ordinal F_w_ALWAYS_ordinal (by decide)
  obtain ⟨n, o, h1, h2, h3, _, L, rfl, ⟨rfl, N⟩, hq⟩ := rm0 l s _ hw tables_1 i0 w_NONE w_INTO_EXISTING w_ALWAYS w_NEVER s.heap s.heap.size (Old.start s) S_w_NONE E_w_NONE S_w_INTO_EXISTING E_w_INTO_EXISTING S_w_ALWAYS E_w_ALWAYS S_w_NEVER E_w_NEVER ne_2_1 ne_0_1 ne_0_2 ne_3_1 ne_3_2 p e ha hc hk s m _ below hf ((Spec.applies_iff_loose hf).mp happ).1 ⟨rfl, State.Warmed39.refl s, rfl⟩ trivial
  refine ⟨n, _, h1, h2, h3, hpost _ _ _ _ _ _ ⟨Cond.after_iff.mpr rfl, Cond.after_iff.mpr (eq_i res_at (Term.int_eval (1)) rfl), trivial⟩ ⟨hq.1, hq.2.1, (hq.2.2.sift fun y hy => Or.inr (N y hy)).mono (by decide) (by decide)⟩⟩
theorem main_1_1 : Claimed_1_1 := comes_1 fun _ _ _ _ _ _ h hF => ⟨h.1, hF⟩
theorem main_1_2 : Claimed_1_2 := comes_1 fun _ _ _ _ _ _ h hF => ⟨h.2.1, hF⟩
end Jvm.Pilot.@@N@@
namespace Jvm.Pilot.@@N@@
open Jvm Jvm.ClassFile Sem Op Lib Jvm.Free Jvm.Stand Jvm.Pilot.@@N@@.Jvm.D
/-! MADE BY PROGRAM (witnessworld.py) out of the Statement's table words and the real class files: 14 classes; the members and pool entries that the words name. The judged class is class 1, her method 1. -/
namespace start1
open Jvm.ClassFile
def u (s : String) : CpInfo := .utf8 (stringToUtf16 s)
/-- a pool by its gaps: so many unusable entries, then the entry; so many at the end -/
def gap : Nat → List CpInfo → List CpInfo
  | 0, r => r
  | n + 1, r => .unusable :: gap n r
def poolList (es : List (Nat × CpInfo)) (last : Nat) : List CpInfo := es.foldr (fun e r => gap e.1 (e.2 :: r)) (gap last [])
def pool (es : List (Nat × CpInfo)) (last : Nat) : Array CpInfo := ⟨poolList es last⟩
def fileOf (pool : Array CpInfo) (this : Nat) (attrs : Array Attribute := #[]) (ms : Array MethodInfo := #[]) (fl : Nat := 33) (sup : Nat := 0) (ifs : Array Nat := #[]) (fds : Array FieldInfo := #[]) : ClassFile where
  minorVersion := 0
  majorVersion := 65
  constantPool := pool
  accessFlags := fl
  thisClass := this
  superClass := sup
  interfaces := ifs
  fields := fds
  methods := ms
  attributes := attrs
def plain (name : String) (sup : Option ClassId) : Class where
  name := name
  kind := .ordinary
  loader := none
  accessFlags := 33
  super := sup
  interfaces := #[]
  cf := none
  fields := #[]
  methods := #[]
  instanceTypes := #[]
  staticTypes := #[]
  resolved := #[]
  callSites := []
  init := .initialized
  statics := none
  mirror := none

def pool0 : Array CpInfo := pool [(5, u "<init>"), (0, u "()V"), (1, .class_ 10), (1, u "java/lang/Object")] 113

def k0m0 : Method := { name := "<init>", desc := "()V", sig := { parameters := [], returnType := none }, accessFlags := 1, code := none }
/-- java/lang/Object -/
def k0 : Class := { plain "java/lang/Object" none with
  accessFlags := 33
  interfaces := #[]
  cf := some (fileOf pool0 8 #[] #[{ accessFlags := 1, nameIndex := 5, descriptorIndex := 6, attributes := #[] }] 33 0 #[] #[])
  fields := #[]
  methods := #[k0m0]
  instanceTypes := #[]
  staticTypes := #[]
  resolved := Array.replicate 124 none
  statics := none }

def pool1 : Array CpInfo := pool [(2, .class_ 4), (1, u "java/lang/Object"), (0, u "<init>"), (0, u "()V"), (0, .class_ 8), (0, u "com/example/stack4/stack4/app/DocumentLaunchMode"), (0, .fieldref 7 10), (0, .nameAndType 11 12), (0, u "NONE"), (0, u "Lcom/example/stack4/stack4/app/DocumentLaunchMode;"), (0, .fieldref 7 14), (0, .nameAndType 15 12), (0, u "INTO_EXISTING"), (0, .fieldref 7 17), (0, .nameAndType 18 12), (0, u "ALWAYS"), (0, .fieldref 7 20), (0, .nameAndType 21 12), (0, u "NEVER"), (0, .methodref 7 23), (0, .nameAndType 24 25), (0, u "opensDocument"), (0, u "()Z"), (0, .class_ 27), (0, u "com/example/stack4/stack4/app/DocumentLaunchModeOpensDocumentPinLaw"), (2, u "law"), (0, u "(I)Z")] 5

def k1m0 : Method := { name := "<init>", desc := "()V", sig := { parameters := [], returnType := none }, accessFlags := 1, code := none }
def k1c1 : Code := { maxStack := 4, maxLocals := 5, code := code, exceptionTable := #[], attributes := #[] }
def k1m1 : Method := { name := "law", desc := "(I)Z", sig := { parameters := [.int], returnType := some .boolean }, accessFlags := 9, code := some k1c1 }
/-- com/example/stack4/stack4/app/DocumentLaunchModeOpensDocumentPinLaw -/
def k1 : Class := { plain "com/example/stack4/stack4/app/DocumentLaunchModeOpensDocumentPinLaw" (some 0) with
  accessFlags := 49
  interfaces := #[]
  cf := some (fileOf pool1 26 #[] #[{ accessFlags := 1, nameIndex := 5, descriptorIndex := 6, attributes := #[] }, { accessFlags := 9, nameIndex := 30, descriptorIndex := 31, attributes := #[] }] 49 2 #[] #[])
  fields := #[]
  methods := #[k1m0, k1m1]
  instanceTypes := #[]
  staticTypes := #[]
  resolved := Array.replicate 37 none
  statics := none }

def pool2 : Array CpInfo := pool [(1, .class_ 2), (0, u "java/lang/constant/Constable"), (0, .class_ 4), (0, u "java/lang/Object")] 6

/-- java/lang/constant/Constable -/
def k2 : Class := { plain "java/lang/constant/Constable" (some 0) with
  accessFlags := 1537
  interfaces := #[]
  cf := some (fileOf pool2 1 #[] #[] 1537 3 #[] #[])
  fields := #[]
  methods := #[]
  instanceTypes := #[]
  staticTypes := #[]
  resolved := Array.replicate 11 none
  statics := none }

def pool3 : Array CpInfo := pool [(1, .class_ 2), (0, u "java/lang/Comparable"), (0, .class_ 4), (0, u "java/lang/Object")] 7

/-- java/lang/Comparable -/
def k3 : Class := { plain "java/lang/Comparable" (some 0) with
  accessFlags := 1537
  interfaces := #[]
  cf := some (fileOf pool3 1 #[] #[] 1537 3 #[] #[])
  fields := #[]
  methods := #[]
  instanceTypes := #[]
  staticTypes := #[]
  resolved := Array.replicate 12 none
  statics := none }

def pool4 : Array CpInfo := pool [(1, .class_ 2), (0, u "java/io/Serializable"), (0, .class_ 4), (0, u "java/lang/Object")] 2

/-- java/io/Serializable -/
def k4 : Class := { plain "java/io/Serializable" (some 0) with
  accessFlags := 1537
  interfaces := #[]
  cf := some (fileOf pool4 1 #[] #[] 1537 3 #[] #[])
  fields := #[]
  methods := #[]
  instanceTypes := #[]
  staticTypes := #[]
  resolved := Array.replicate 7 none
  statics := none }

def pool5 : Array CpInfo := pool [(2, .class_ 4), (1, u "java/lang/Enum"), (0, u "name"), (0, u "Ljava/lang/String;"), (2, u "ordinal"), (0, u "I"), (1, .class_ 14), (1, u "java/lang/Object"), (4, u "hash"), (86, .class_ 108), (1, u "java/lang/Enum$EnumDesc"), (2, .class_ 112), (0, u "java/lang/constant/Constable"), (0, .class_ 114), (0, u "java/lang/Comparable"), (0, .class_ 116), (0, u "java/io/Serializable")] 87

/-- java/lang/Enum -/
def k5 : Class := { plain "java/lang/Enum" (some 0) with
  accessFlags := 1057
  interfaces := #[2, 3, 4]
  cf := some (fileOf pool5 2 #[.nestMembers #[106]] #[] 1057 12 #[111, 113, 115] #[{ accessFlags := 18, nameIndex := 5, descriptorIndex := 6, attributes := #[] }, { accessFlags := 18, nameIndex := 9, descriptorIndex := 10, attributes := #[] }, { accessFlags := 2, nameIndex := 19, descriptorIndex := 10, attributes := #[] }])
  fields := #[{ name := "name", type := (.object "java/lang/String"), accessFlags := 18, slot := 0, constantValue := 0 }, { name := "ordinal", type := .int, accessFlags := 18, slot := 1, constantValue := 0 }, { name := "hash", type := .int, accessFlags := 2, slot := 2, constantValue := 0 }]
  methods := #[]
  instanceTypes := #[(.object "java/lang/String"), .int, .int]
  staticTypes := #[]
  resolved := Array.replicate 204 none
  statics := none }

def pool6 : Array CpInfo := pool [(1, .class_ 2), (0, u "com/example/stack4/stack4/app/Spelled"), (0, .class_ 4), (0, u "java/lang/Object")] 4

/-- com/example/stack4/stack4/app/Spelled -/
def k6 : Class := { plain "com/example/stack4/stack4/app/Spelled" (some 0) with
  accessFlags := 1537
  interfaces := #[]
  cf := some (fileOf pool6 1 #[] #[] 1537 3 #[] #[])
  fields := #[]
  methods := #[]
  instanceTypes := #[]
  staticTypes := #[]
  resolved := Array.replicate 9 none
  statics := none }

def pool7 : Array CpInfo := pool [(1, .class_ 2), (0, u "com/example/stack4/stack4/app/DocumentLaunchMode"), (2, u "NONE"), (0, u "Lcom/example/stack4/stack4/app/DocumentLaunchMode;"), (0, .fieldref 1 8), (0, .nameAndType 9 6), (0, u "INTO_EXISTING"), (0, .fieldref 1 11), (0, .nameAndType 12 6), (0, u "ALWAYS"), (2, u "NEVER"), (2, u "$VALUES"), (0, u "[Lcom/example/stack4/stack4/app/DocumentLaunchMode;"), (6, .class_ 28), (1, u "java/lang/Enum"), (8, u "spelling"), (0, u "Ljava/lang/String;"), (19, .class_ 59), (0, u "com/example/stack4/stack4/app/Spelled"), (7, u "opensDocument"), (0, u "()Z")] 8

def k7c0 : Code := { maxStack := 2, maxLocals := 1, code := prog_6_method_4_code, exceptionTable := #[], attributes := #[] }
def k7m0 : Method := { name := "opensDocument", desc := "()Z", sig := { parameters := [], returnType := some .boolean }, accessFlags := 1, code := some k7c0 }
/-- com/example/stack4/stack4/app/DocumentLaunchMode -/
def k7 : Class := { plain "com/example/stack4/stack4/app/DocumentLaunchMode" (some 5) with
  accessFlags := 16433
  interfaces := #[6]
  cf := some (fileOf pool7 1 #[] #[{ accessFlags := 1, nameIndex := 67, descriptorIndex := 68, attributes := #[] }] 16433 26 #[58] #[{ accessFlags := 16409, nameIndex := 5, descriptorIndex := 6, attributes := #[] }, { accessFlags := 16409, nameIndex := 9, descriptorIndex := 6, attributes := #[] }, { accessFlags := 16409, nameIndex := 12, descriptorIndex := 6, attributes := #[] }, { accessFlags := 16409, nameIndex := 15, descriptorIndex := 6, attributes := #[] }, { accessFlags := 18, nameIndex := 37, descriptorIndex := 38, attributes := #[] }, { accessFlags := 4122, nameIndex := 18, descriptorIndex := 19, attributes := #[] }])
  fields := #[{ name := "NONE", type := (.object "com/example/stack4/stack4/app/DocumentLaunchMode"), accessFlags := 16409, slot := 0, constantValue := 0 }, { name := "INTO_EXISTING", type := (.object "com/example/stack4/stack4/app/DocumentLaunchMode"), accessFlags := 16409, slot := 1, constantValue := 0 }, { name := "ALWAYS", type := (.object "com/example/stack4/stack4/app/DocumentLaunchMode"), accessFlags := 16409, slot := 2, constantValue := 0 }, { name := "NEVER", type := (.object "com/example/stack4/stack4/app/DocumentLaunchMode"), accessFlags := 16409, slot := 3, constantValue := 0 }, { name := "spelling", type := (.object "java/lang/String"), accessFlags := 18, slot := 3, constantValue := 0 }, { name := "$VALUES", type := (.array (.object "com/example/stack4/stack4/app/DocumentLaunchMode")), accessFlags := 4122, slot := 4, constantValue := 0 }]
  methods := #[k7m0]
  instanceTypes := #[(.object "java/lang/String"), .int, .int, (.object "java/lang/String")]
  staticTypes := #[(.object "com/example/stack4/stack4/app/DocumentLaunchMode"), (.object "com/example/stack4/stack4/app/DocumentLaunchMode"), (.object "com/example/stack4/stack4/app/DocumentLaunchMode"), (.object "com/example/stack4/stack4/app/DocumentLaunchMode"), (.array (.object "com/example/stack4/stack4/app/DocumentLaunchMode"))]
  resolved := Array.replicate 77 none
  statics := some 0 }

def pool8 : Array CpInfo := pool [(1, u "java/lang/Cloneable"), (0, .class_ 1), (0, u "java/lang/Object"), (0, .class_ 3)] 3

/-- java/lang/Cloneable -/
def k8 : Class := { plain "java/lang/Cloneable" (some 0) with
  accessFlags := 1537
  interfaces := #[]
  cf := some (fileOf pool8 2 #[] #[] 1537 4 #[] #[])
  fields := #[]
  methods := #[]
  instanceTypes := #[]
  staticTypes := #[]
  resolved := Array.replicate 8 none
  statics := none }

/-- the primitive byte -/
def k9 : Class := { plain "byte" none with kind := .primitive 'B', accessFlags := 0x411 }
/-- [B -/
def k10 : Class := { plain "[B" (some 0) with kind := .array 9 .byte, interfaces := #[8, 4], accessFlags := 1041 }

/-- the primitive int -/
def k11 : Class := { plain "int" none with kind := .primitive 'I', accessFlags := 0x411 }
/-- [I -/
def k12 : Class := { plain "[I" (some 0) with kind := .array 11 .int, interfaces := #[8, 4], accessFlags := 1041 }

/-- [Lcom/example/stack4/stack4/app/DocumentLaunchMode; -/
def k13 : Class := { plain "[Lcom/example/stack4/stack4/app/DocumentLaunchMode;" (some 0) with kind := .array 7 (.object "com/example/stack4/stack4/app/DocumentLaunchMode"), interfaces := #[8, 4], accessFlags := 1041 }

def heap : Heap := #[{ cls := 7, slots := #[.ref 1, .ref 2, .ref 3, .ref 4, .null], vm := .statics 7 },
  { cls := 7, slots := #[.null, .int 0, .int 0, .null], vm := .none },
  { cls := 7, slots := #[.null, .int 1, .int 0, .null], vm := .none },
  { cls := 7, slots := #[.null, .int 2, .int 0, .null], vm := .none },
  { cls := 7, slots := #[.null, .int 3, .int 0, .null], vm := .none }]
def classes : Array Class := #[k0, k1, k2, k3, k4, k5, k6, k7, k8, k9, k10, k11, k12, k13]
def interned : List (Array UInt16 × Addr) := []
def slotsUsed : Nat := 21
def theMethod : MethodId := ⟨1, 1⟩
def args0 : Array Value := #[.int 5]
def aboutOver (below : List Frame) : State where
  vm := { classes := classes, interned := interned.toArray }
  heap := heap
  slotsUsed := slotsUsed
  threads := #[{ frames := .invoking theMethod args0 :: below }]
def below0 : List Frame := [.native { method := ⟨0, 0⟩, args := #[] }]
def about1 : State := aboutOver below0
def p0 : Program := .bare "" "" ""
def e0 : Env := launch0.env 0 0 0
theorem w_frames : about1.frames = Frame.invoking theMethod args0 :: below0 := rfl
set_option maxRecDepth 65536 in
theorem w_args : argsFit about1.vm theMethod args0 = true := by decide +kernel
set_option maxRecDepth 65536 in
theorem w_heap : heapFits about1 = true := by decide +kernel
set_option maxRecDepth 65536 in
theorem w_runnable : about1.curStatus? = some .runnable := by decide +kernel
set_option maxRecDepth 65536 in
theorem w_alone : about1.alone = true := by decide +kernel
set_option maxRecDepth 65536 in
theorem w_named : about1.methodNamed? x = some theMethod := by decide +kernel
set_option maxRecDepth 65536 in
theorem w_hears : about1.hears theMethod below0 = true := by decide +kernel
set_option maxRecDepth 65536 in
theorem w_ripe : about1.ripe theMethod args0 below0 = true := by decide +kernel
theorem w_running : about1.status = .running := rfl
set_option maxRecDepth 65536 in
theorem w_room : about1.hasRoom e0.platform room_1 = true :=
  launch0.hasRoom_least _ room_1 (by decide +kernel) (by decide +kernel) (by decide +kernel) (by decide +kernel) (by decide +kernel) (by decide +kernel)
theorem allAtoms_all (ts : List Jvm.Cond) (a : Array Jvm.Value) (st : Jvm.State) : (allAtoms ts).before a st = ts.all (fun c => c.before a st) := by
  induction ts with
  | nil => rfl
  | cons c t ih =>
    show (Jvm.Cond.and c (allAtoms t)).before a st = _
    rw [Jvm.Cond.before_and, ih, List.all_cons]
def words1 : List Jvm.Cond := Jvm.Cond.code x code maxLocals ret :: tables_1
/-- a 'code' word, met by the world's own term for the bytes: nothing is compared byte by byte -/
theorem code_word {y : MethodName} {bytes : ByteArray} {mx : Nat} {rt : Option FieldType} {a : Array Value} {s : State} {m : MethodId} {meth : Method} {c : Code} (h1 : s.methodNamed? y = some m) (h2 : s.vm.method? m = some meth) (h3 : meth.code = some c) (h4 : c.code = bytes)
    (h5 : (c.maxLocals == mx && c.exceptionTable.isEmpty && decide (c.maxStack ≤ mostOperands) && decide (meth.sig.returnType = rt) && !meth.locks && decide (parseMethodDescriptor y.desc = some meth.sig)) = true) : (Jvm.Cond.code y bytes mx rt).before a s = true := by
  simp only [Bool.and_eq_true, beq_iff_eq, Bool.not_eq_true', decide_eq_true_eq] at h5
  obtain ⟨⟨⟨⟨⟨g1, g2⟩, g3⟩, g4⟩, g5⟩, g6⟩ := h5
  simp [Cond.before, Cond.holds, Cond.value, h1, h2, h3, h4, g1, g2, g3, g4, g5, g6]
def isCode : Jvm.Cond → Bool
  | .code _ _ _ _ => true
  | _ => false
theorem all_split {L : List Jvm.Cond} {P : Jvm.Cond → Bool} (h1 : L.all (fun c => isCode c || P c) = true) (h2 : ∀ c ∈ L.filter isCode, P c = true) : L.all P = true := by
  refine List.all_eq_true.mpr fun c hc => ?_
  have h := List.all_eq_true.mp h1 c hc
  rcases Bool.eq_false_or_eq_true (isCode c) with hi | hi
  · exact h2 c (List.mem_filter.mpr ⟨hc, hi⟩)
  · simpa [hi] using h
set_option maxRecDepth 65536 in
theorem w_c0 : (Jvm.Cond.code x code maxLocals ret).before args0 about1 = true := code_word (m := ⟨1, 1⟩) (meth := k1m1) (c := k1c1) (by decide +kernel) rfl rfl rfl (by decide +kernel)
set_option maxRecDepth 65536 in
theorem w_c1 : (Jvm.Cond.code ({ cls := "com/example/stack4/stack4/app/DocumentLaunchMode", name := "opensDocument", desc := "()Z" } : Jvm.MethodName) prog_6_method_4_code (1 : Nat) (Option.some Jvm.ClassFile.FieldType.boolean)).before args0 about1 = true := code_word (m := ⟨7, 0⟩) (meth := k7m0) (c := k7c0) (by decide +kernel) rfl rfl rfl (by decide +kernel)
def codes1 : List Jvm.Cond := [Jvm.Cond.code x code maxLocals ret, Jvm.Cond.code ({ cls := "com/example/stack4/stack4/app/DocumentLaunchMode", name := "opensDocument", desc := "()Z" } : Jvm.MethodName) prog_6_method_4_code (1 : Nat) (Option.some Jvm.ClassFile.FieldType.boolean)]
set_option maxRecDepth 65536 in
theorem codes_eq : words1.filter isCode = codes1 := rfl
theorem w_codes : ∀ c ∈ words1.filter isCode, c.before args0 about1 = true := by
  rw [codes_eq]
  intro c hc
  simp only [codes1, List.mem_cons, List.not_mem_nil, or_false] at hc
  rcases hc with rfl | rfl
  · exact w_c0
  · exact w_c1
set_option maxRecDepth 65536 in
theorem w_t1 : words1.all (fun c => isCode c || c.before args0 about1) = true := by decide +kernel
theorem w_tables : (allAtoms (Jvm.Cond.code x code maxLocals ret :: tables_1)).before args0 about1 = true := by
  rw [allAtoms_all]
  show words1.all (fun c => c.before args0 about1) = true
  refine all_split ?_ w_codes
  rw [w_t1]
set_option maxRecDepth 65536 in
theorem w_case : (Jvm.Cond.and given_1 narrow_1).before args0 about1 = true := by decide +kernel
theorem w_applies : (headSpec (Jvm.Cond.code x code maxLocals ret :: tables_1) room_1).applies x e0.platform about1 = true :=
  (Spec.applies_iff w_frames).mpr ⟨w_running, w_runnable, w_alone, w_named, w_hears, w_ripe, w_room, w_tables⟩
theorem atStart : AtStart classFile x code maxLocals ret World_1 tables_1 room_1 Calls_1 rest_1 Pre_1 launch0 p0 e0 about1 theMethod args0 below0 :=
  ⟨lists_1, trivial, launch0.admits_env _ _ _, launch0.least_env, fairChoices_fair.cas, fairChoices_fair.clock, w_frames, w_args, w_heap, w_applies, trivial, trivial, w_case⟩
end start1
theorem witness_1 : WitnessClaimed_1 := ⟨start1.p0, start1.e0, start1.about1, start1.theMethod, start1.args0, start1.below0, start1.atStart⟩
end Jvm.Pilot.@@N@@
