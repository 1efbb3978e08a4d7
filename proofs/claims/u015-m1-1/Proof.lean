import JvmDerived
import JvmDerived.Pilot.@@N@@Statement
import JvmDerived.Pilot.@@N@@Code
set_option linter.unusedVariables false
set_option linter.unusedSimpArgs false
namespace Jvm.RoadKit
open Sem ClassFile Op Lib Jvm.Stand Jvm.Free Jvm.LawKit
section New
variable {p : Program} {l : Launch} {e : Env} {R : Room} {s : State} {m : MethodId} {args : Array Value} {below : List Frame} {meth : Method} {c : Code} {T : State} {locs : List Loc} {cells slots : Nat}
theorem retI (X : Stand p l e R s m args below meth c T locs cells slots) (hx : p.tables.exec = Jvm.exec) {pc : Nat} {Ls : Array Slot} {z : Int32} {rest : List Value} (hret : meth.sig.returnType = some .int) (hd : decode c.code pc = .ok (.ireturn, 1)) {fs : List Frame}
    (hl : ∀ (f : JFrame) (acts : List Action), f.method = m → f.locked = none → f.entered = [] → (doReturn e (T.setTop f) acts (some (.int z))).1 = T.setFrames fs) : Steps p.tables e below (T.setTop (mkF m pc Ls (.int z :: rest))) (T.setFrames fs) := by
  have hm' : T.vm.method? m = some meth := X.method'
  have hn : narrow .int (.int z) = .int z := rfl
  show Steps p.tables e below (T.setTop { method := m, pc := pc, locals := Ls, stack := _ :: rest, locked := none }) _
  jvm_step X.here [X.here.top, hx, hd, hm', hret, hn]
  first | (intro acts; rw [hl _ acts rfl rfl rfl]) | rw [hl _ _ rfl rfl rfl]
  exact Steps.refl _
abbrev Sq (p : Program) (e : Env) (below : List Frame) (m : MethodId) (T : State) (pc : Nat) (L : Array Slot) (S : List Value) (t : State) : Prop := Steps p.tables e below (T.setTop (mkF m pc L S)) t
abbrev Ctr (l : Launch) (Z : State) (y : MethodName) (b : ByteArray) (ml : Nat) (rt : Option FieldType) (ws : List Cond) (rm : Room) (as' : Array Value) (h0 : Heap) (Q : Option Value → Heap → List Loc → Prop) : Prop :=
  MetFree l y (head1 (Cond.code y b ml rt :: ws) rm) (fun a U => a = as' ∧ Z.Warmed39 U.vm ∧ U.heap = h0) (fun _ _ _ _ _ => True) (fun _ U o U' => ∃ v L, o = .returned v ∧ Q v U'.heap L ∧ FrameEnd U o U' L rm.cells rm.slots)
theorem own_sz {Z : State} {n0 : Nat} {h : Heap} (O : Old Z n0 h) : n0 ≤ h.size := O.1 ▸ O.2.1
theorem own_selpriv {Z s : State} {a0 args : Array Value} {y : MethodName} {n : Nat} (hZ : Z.Warmed39 s.vm) (wi : (Cond.instantiable y.cls n).before a0 Z = true) (wm : (Cond.instanceMethod y).before a0 Z = true) (wp : (Cond.privateMethod y).before a0 Z = true) (hy : y.cls ≠ "java/lang/invoke/MethodHandle" ∧ y.cls ≠ "java/lang/invoke/VarHandle") : (Cond.selects y.cls y y).before args s = true := by
  obtain ⟨c, k, h1, h2, -, h4, -⟩ := Cond.instantiable_spec (mv (args := args) hZ wi)
  have hk : k.isInterface = false := by cases h : k.isInterface <;> simp_all
  exact selects_self_of_private h1 h2 hk (Cond.privateMethod_at (mvP hZ wp (args := args))) (mv hZ wm) hy
theorem own_fldinj {Z : State} {h : Heap} {a : Addr} {C n d : String} {v w : Value} (F : Fld Z h a C n d v) (G : Fld Z h a C n d w) : v = w := by
  obtain ⟨c1, cf, k, i, f, h1, h2, -, -, -, -, h3⟩ := F
  obtain ⟨c2, cf2, k2, i2, f2, g1, g2, -, -, -, -, g3⟩ := G
  cases h1.symm.trans g1
  cases h2.symm.trans g2
  exact Option.some.inj (h3.symm.trans g3)
theorem own_ne {Z : State} {h : Heap} {a b : Addr} {C n d : String} {v w : Value} (F : Fld Z h a C n d v) (G : Fld Z h b C n d w) (q : v ≠ w) : a ≠ b := fun e => by
  subst e; exact q (own_fldinj F G)
theorem own_static {s : State} {args : Array Value} {C f d K : String} (h : (Cond.exactly (Term.static C f d) K).value args s none s [] = some true) (hi : (Cond.initializedFor C f d).before args s = true ∨ ((Cond.initialized C).before args s = true ∧ (Cond.laysStatic C f d).before args s = true)) :
    ∃ w, Sta s s.heap C f d (.ref w) ∧ Exa s s.heap w K ∧ (Term.static C f d).eval args s none [] s = some (.ref w) := by
  obtain ⟨w, ev⟩ := exa_v h
  exact ⟨w, Sta.start ev hi, Exa.start ev h, ev⟩
theorem own_field {s : State} {args : Array Value} {t : Term} {w : Addr} {O f d : String} {n : Int32} (ev : t.eval args s none [] s = some (.ref w)) (h : (Cond.eq (Term.field t O f d) (Term.int n)).value args s none s [] = some true) : Fld s s.heap w O f d (.int n) := by
  have q := eqv_i (Term.int_eval n) h
  rw [fld_at ev] at q
  exact Fld.start q
def own_t (v : Int32) : Int32 := if v < (0 : Int32) then 0 else if (1 : Int32) < v then 0 else 1
def own_d (v : Int32) : Int32 := if v = (0 : Int32) then 1 else if v = (1 : Int32) then 1 else 0
theorem own_td (v : Int32) : own_t v = own_d v := by
  unfold own_t own_d
  have e0 : (v = (0 : Int32)) ↔ v.toInt = 0 := by rw [← Int32.toInt_inj]; exact Iff.rfl
  have e1 : (v = (1 : Int32)) ↔ v.toInt = 1 := by rw [← Int32.toInt_inj]; exact Iff.rfl
  have e2 : (v < (0 : Int32)) ↔ v.toInt < 0 := Int32.lt_iff_toInt_lt
  have e3 : ((1 : Int32) < v) ↔ 1 < v.toInt := Int32.lt_iff_toInt_lt
  simp only [e0, e1, e2, e3]
  by_cases a : v.toInt < 0
  · rw [if_pos a, if_neg (by omega), if_neg (by omega)]
  · by_cases b : 1 < v.toInt
    · rw [if_neg a, if_pos b, if_neg (by omega), if_neg (by omega)]
    · by_cases c : v.toInt = 0
      · rw [if_neg a, if_neg b, if_pos c]
      · rw [if_neg a, if_neg b, if_neg c, if_pos (by omega)]
end New
end Jvm.RoadKit
namespace Jvm.Pilot.@@N@@
open Jvm Jvm.ClassFile Sem Op Lib Jvm.Free Jvm.Stand Jvm.LawKit Jvm.RoadKit Bundle Jvm.Pilot.@@N@@.Jvm.D
theorem d1_0 : decode prog_82_method_6_code 0 = .ok (.iload_n 1, 1) := by decide +kernel
theorem d1_1 : decode prog_82_method_6_code 1 = .ok (.aload_n 0, 1) := by decide +kernel
theorem d1_2 : decode prog_82_method_6_code 2 = .ok (.getfield 37, 3) := by decide +kernel
theorem d1_5 : decode prog_82_method_6_code 5 = .ok (.if_icmp .lt 15, 3) := by decide +kernel
theorem d1_20 : decode prog_82_method_6_code 20 = .ok (.iconst 0, 1) := by decide +kernel
theorem d1_21 : decode prog_82_method_6_code 21 = .ok (.ireturn, 1) := by decide +kernel
theorem d1_8 : decode prog_82_method_6_code 8 = .ok (.iload_n 1, 1) := by decide +kernel
theorem d1_9 : decode prog_82_method_6_code 9 = .ok (.aload_n 0, 1) := by decide +kernel
theorem d1_10 : decode prog_82_method_6_code 10 = .ok (.getfield 40, 3) := by decide +kernel
theorem d1_13 : decode prog_82_method_6_code 13 = .ok (.if_icmp .gt 7, 3) := by decide +kernel
theorem d1_16 : decode prog_82_method_6_code 16 = .ok (.iconst 1, 1) := by decide +kernel
theorem d1_17 : decode prog_82_method_6_code 17 = .ok (.goto 4, 3) := by decide +kernel
def Q_takes (Z : State) (a : Addr) (v1 : Int32) (h0 : Heap) (n0 : Nat) (v : Option Value) (h : Heap) (L : List Loc) : Prop := v = some (.int (own_t v1)) ∧ Fr n0 L ∧ h = h0
theorem ef_0 (m : MethodId) (x0 : Addr) (x1 : Int32) : entryFrame m #[(.ref x0), (.int x1)] 2 = mkF m 0 #[.val (.ref x0), .val (.int x1)] [] := by first | (simp [entryFrame, mkF, argsToLocals, Value.category]; done) | rfl
theorem pn_0 : plainName "com/example/anole/anole/device/Setting" = true := by first | (simp [plainName, overriddenIn]; done) | decide +kernel
abbrev y_0 : MethodName := ⟨"com/example/anole/anole/device/Setting", "takes", "(I)Z"⟩
set_option maxRecDepth 65536 in
set_option maxHeartbeats 40000000 in
theorem takes_0 (l : Launch) (Z : State) (a0 : Array Value) (hw : ∀ d ∈ tables_1, d.before a0 Z = true) (ws : List Jvm.Cond) (a : Addr) (v1 : Int32) (h0 : Heap) (n0 : Nat) (O : Old Z n0 h0) (F_min : Fld Z h0 a "com/example/anole/anole/device/Setting" "min" "I" (.int (0 : Int32))) (F_max : Fld Z h0 a "com/example/anole/anole/device/Setting" "max" "I" (.int (1 : Int32))) (hc5 : v1 < (0 : Int32)) :
    Ctr l Z y_0 prog_82_method_6_code 2 (some .boolean) ws ({ frames := 0, cells := 0, slots := 0, locals := 0 } : Room) #[(.ref a), (.int v1)] h0 (Q_takes Z a v1 h0 n0) := by
  refine MetFree.of_bodySF (plainFor_of_name pn_0) hisR ?_
  intro p e s m args below meth c s₁ Bd hml0 hP hK
  obtain ⟨rfl, hZ, hh⟩ := hP
  have W := fun (i : Nat) {d : Jvm.Cond} (h : tables_1[i]? = some d) => hw d (List.mem_of_getElem? h)
  have hx := Bd.exec
  have hby := Bd.bytes
  have hml : c.maxLocals = 2 := hml0
  have hown : s.vm.findClass "com/example/anole/anole/device/Setting" = some m.cls := findClass_of_methodNamed Bd.named
  have hnm := (name_of_methodNamed Bd.named Bd.method).1
  have X0 : Stand p l e ({ frames := 0, cells := 0, slots := 0, locals := 0 } : Room) s m #[(.ref a), (.int v1)] below meth c s₁ [] 0 0 := Stand.of_body Bd
  have e0 : s₁.heap = h0 := by rw [← hh, Bd.state]; rfl
  have N0 := Fr.nil n0
  have pre0 : ∀ t, Steps p.tables e below (s₁.setTop (mkF m 0 #[.val (.ref a), .val (.int v1)] [])) t → Steps p.tables e below (s₁.setTop (entryFrame m #[(.ref a), (.int v1)] 2)) t := fun t k => castTop (ef_0 m a v1) k
  obtain ⟨T1, X1, e1, st1⟩ := getF X0 hx hZ hown (host := "") (Or.inl (W 8 rfl)) Via.refl e0 F_min (g := (mkF m 2 #[rv a, iv v1] [.ref a, .int v1])) rfl rfl (hb hby d1_2)
  obtain ⟨fs, hr, hrun, hended, hW, hsame⟩ := X1.leave (v := some (.int (0 : Int32))) (fun h => by rw [Bd.returns] at h; cases h)
  refine ⟨_, _, pre0 _ ?_, hrun, hended, _, _, rfl, ?_, ⟨_, rfl⟩, hW, hsame.mono (by decide) (by decide)⟩
  · show Sq p e below m s₁ 0 #[rv a, iv v1] [] _
    refine XS.iloadN X0.here hx rfl (hb hby d1_0) rfl ?_
    refine XS.aloadN X0.here hx rfl (hb hby d1_1) rfl rfl ?_
    show Sq p e below m s₁ 2 #[rv a, iv v1] [.ref a, .int v1] _
    refine st1 _ ?_
    show Sq p e below m T1 5 #[rv a, iv v1] [.int 0, .int v1] _
    refine XS.icmpYes X1.here hx rfl (pc0 := 5) (pc' := 20) rfl (hb hby d1_5) rfl (tlt hc5).1 (by decide) (by decide) ?_
    refine XS.iconst X1.here hx rfl (hb hby d1_20) ?_
    show Sq p e below m T1 21 #[rv a, iv v1] [.int 0] _
    exact retN X1 hx (t := .boolean) Bd.returns (by simp) (hb hby d1_21) hr
  · show Q_takes Z a v1 h0 n0 _ T1.heap _
    rw [e1]
    exact ⟨(by rw [own_t, if_pos hc5]), N0, rfl⟩
set_option maxRecDepth 65536 in
set_option maxHeartbeats 40000000 in
theorem takes_1 (l : Launch) (Z : State) (a0 : Array Value) (hw : ∀ d ∈ tables_1, d.before a0 Z = true) (ws : List Jvm.Cond) (a : Addr) (v1 : Int32) (h0 : Heap) (n0 : Nat) (O : Old Z n0 h0) (F_min : Fld Z h0 a "com/example/anole/anole/device/Setting" "min" "I" (.int (0 : Int32))) (F_max : Fld Z h0 a "com/example/anole/anole/device/Setting" "max" "I" (.int (1 : Int32))) (hc5 : ¬ (v1 < (0 : Int32))) (hc13 : (1 : Int32) < v1) :
    Ctr l Z y_0 prog_82_method_6_code 2 (some .boolean) ws ({ frames := 0, cells := 0, slots := 0, locals := 0 } : Room) #[(.ref a), (.int v1)] h0 (Q_takes Z a v1 h0 n0) := by
  refine MetFree.of_bodySF (plainFor_of_name pn_0) hisR ?_
  intro p e s m args below meth c s₁ Bd hml0 hP hK
  obtain ⟨rfl, hZ, hh⟩ := hP
  have W := fun (i : Nat) {d : Jvm.Cond} (h : tables_1[i]? = some d) => hw d (List.mem_of_getElem? h)
  have hx := Bd.exec
  have hby := Bd.bytes
  have hml : c.maxLocals = 2 := hml0
  have hown : s.vm.findClass "com/example/anole/anole/device/Setting" = some m.cls := findClass_of_methodNamed Bd.named
  have hnm := (name_of_methodNamed Bd.named Bd.method).1
  have X0 : Stand p l e ({ frames := 0, cells := 0, slots := 0, locals := 0 } : Room) s m #[(.ref a), (.int v1)] below meth c s₁ [] 0 0 := Stand.of_body Bd
  have e0 : s₁.heap = h0 := by rw [← hh, Bd.state]; rfl
  have N0 := Fr.nil n0
  have pre0 : ∀ t, Steps p.tables e below (s₁.setTop (mkF m 0 #[.val (.ref a), .val (.int v1)] [])) t → Steps p.tables e below (s₁.setTop (entryFrame m #[(.ref a), (.int v1)] 2)) t := fun t k => castTop (ef_0 m a v1) k
  obtain ⟨T1, X1, e1, st1⟩ := getF X0 hx hZ hown (host := "") (Or.inl (W 8 rfl)) Via.refl e0 F_min (g := (mkF m 2 #[rv a, iv v1] [.ref a, .int v1])) rfl rfl (hb hby d1_2)
  obtain ⟨T2, X2, e2, st2⟩ := getF X1 hx hZ hown (host := "") (Or.inl (W 10 rfl)) Via.refl e1 F_max (g := (mkF m 10 #[rv a, iv v1] [.ref a, .int v1])) rfl rfl (hb hby d1_10)
  obtain ⟨fs, hr, hrun, hended, hW, hsame⟩ := X2.leave (v := some (.int (0 : Int32))) (fun h => by rw [Bd.returns] at h; cases h)
  refine ⟨_, _, pre0 _ ?_, hrun, hended, _, _, rfl, ?_, ⟨_, rfl⟩, hW, hsame.mono (by decide) (by decide)⟩
  · show Sq p e below m s₁ 0 #[rv a, iv v1] [] _
    refine XS.iloadN X0.here hx rfl (hb hby d1_0) rfl ?_
    refine XS.aloadN X0.here hx rfl (hb hby d1_1) rfl rfl ?_
    show Sq p e below m s₁ 2 #[rv a, iv v1] [.ref a, .int v1] _
    refine st1 _ ?_
    show Sq p e below m T1 5 #[rv a, iv v1] [.int 0, .int v1] _
    refine XS.icmpNo X1.here hx rfl (hb hby d1_5) rfl (flt hc5).1 ?_
    refine XS.iloadN X1.here hx rfl (hb hby d1_8) rfl ?_
    show Sq p e below m T1 9 #[rv a, iv v1] [.int v1] _
    refine XS.aloadN X1.here hx rfl (hb hby d1_9) rfl rfl ?_
    show Sq p e below m T1 10 #[rv a, iv v1] [.ref a, .int v1] _
    refine st2 _ ?_
    show Sq p e below m T2 13 #[rv a, iv v1] [.int 1, .int v1] _
    refine XS.icmpYes X2.here hx rfl (pc0 := 13) (pc' := 20) rfl (hb hby d1_13) rfl (tlt hc13).2.2.1 (by decide) (by decide) ?_
    refine XS.iconst X2.here hx rfl (hb hby d1_20) ?_
    show Sq p e below m T2 21 #[rv a, iv v1] [.int 0] _
    exact retN X2 hx (t := .boolean) Bd.returns (by simp) (hb hby d1_21) hr
  · show Q_takes Z a v1 h0 n0 _ T2.heap _
    rw [e2]
    exact ⟨(by rw [own_t, if_neg hc5, if_pos hc13]), N0, rfl⟩
set_option maxRecDepth 65536 in
set_option maxHeartbeats 40000000 in
theorem takes_2 (l : Launch) (Z : State) (a0 : Array Value) (hw : ∀ d ∈ tables_1, d.before a0 Z = true) (ws : List Jvm.Cond) (a : Addr) (v1 : Int32) (h0 : Heap) (n0 : Nat) (O : Old Z n0 h0) (F_min : Fld Z h0 a "com/example/anole/anole/device/Setting" "min" "I" (.int (0 : Int32))) (F_max : Fld Z h0 a "com/example/anole/anole/device/Setting" "max" "I" (.int (1 : Int32))) (hc5 : ¬ (v1 < (0 : Int32))) (hc13 : ¬ ((1 : Int32) < v1)) :
    Ctr l Z y_0 prog_82_method_6_code 2 (some .boolean) ws ({ frames := 0, cells := 0, slots := 0, locals := 0 } : Room) #[(.ref a), (.int v1)] h0 (Q_takes Z a v1 h0 n0) := by
  refine MetFree.of_bodySF (plainFor_of_name pn_0) hisR ?_
  intro p e s m args below meth c s₁ Bd hml0 hP hK
  obtain ⟨rfl, hZ, hh⟩ := hP
  have W := fun (i : Nat) {d : Jvm.Cond} (h : tables_1[i]? = some d) => hw d (List.mem_of_getElem? h)
  have hx := Bd.exec
  have hby := Bd.bytes
  have hml : c.maxLocals = 2 := hml0
  have hown : s.vm.findClass "com/example/anole/anole/device/Setting" = some m.cls := findClass_of_methodNamed Bd.named
  have hnm := (name_of_methodNamed Bd.named Bd.method).1
  have X0 : Stand p l e ({ frames := 0, cells := 0, slots := 0, locals := 0 } : Room) s m #[(.ref a), (.int v1)] below meth c s₁ [] 0 0 := Stand.of_body Bd
  have e0 : s₁.heap = h0 := by rw [← hh, Bd.state]; rfl
  have N0 := Fr.nil n0
  have pre0 : ∀ t, Steps p.tables e below (s₁.setTop (mkF m 0 #[.val (.ref a), .val (.int v1)] [])) t → Steps p.tables e below (s₁.setTop (entryFrame m #[(.ref a), (.int v1)] 2)) t := fun t k => castTop (ef_0 m a v1) k
  obtain ⟨T1, X1, e1, st1⟩ := getF X0 hx hZ hown (host := "") (Or.inl (W 8 rfl)) Via.refl e0 F_min (g := (mkF m 2 #[rv a, iv v1] [.ref a, .int v1])) rfl rfl (hb hby d1_2)
  obtain ⟨T2, X2, e2, st2⟩ := getF X1 hx hZ hown (host := "") (Or.inl (W 10 rfl)) Via.refl e1 F_max (g := (mkF m 10 #[rv a, iv v1] [.ref a, .int v1])) rfl rfl (hb hby d1_10)
  obtain ⟨fs, hr, hrun, hended, hW, hsame⟩ := X2.leave (v := some (.int (1 : Int32))) (fun h => by rw [Bd.returns] at h; cases h)
  refine ⟨_, _, pre0 _ ?_, hrun, hended, _, _, rfl, ?_, ⟨_, rfl⟩, hW, hsame.mono (by decide) (by decide)⟩
  · show Sq p e below m s₁ 0 #[rv a, iv v1] [] _
    refine XS.iloadN X0.here hx rfl (hb hby d1_0) rfl ?_
    refine XS.aloadN X0.here hx rfl (hb hby d1_1) rfl rfl ?_
    show Sq p e below m s₁ 2 #[rv a, iv v1] [.ref a, .int v1] _
    refine st1 _ ?_
    show Sq p e below m T1 5 #[rv a, iv v1] [.int 0, .int v1] _
    refine XS.icmpNo X1.here hx rfl (hb hby d1_5) rfl (flt hc5).1 ?_
    refine XS.iloadN X1.here hx rfl (hb hby d1_8) rfl ?_
    show Sq p e below m T1 9 #[rv a, iv v1] [.int v1] _
    refine XS.aloadN X1.here hx rfl (hb hby d1_9) rfl rfl ?_
    show Sq p e below m T1 10 #[rv a, iv v1] [.ref a, .int v1] _
    refine st2 _ ?_
    show Sq p e below m T2 13 #[rv a, iv v1] [.int 1, .int v1] _
    refine XS.icmpNo X2.here hx rfl (hb hby d1_13) rfl (flt hc13).2.2.1 ?_
    refine XS.iconst X2.here hx rfl (hb hby d1_16) ?_
    show Sq p e below m T2 17 #[rv a, iv v1] [.int 1] _
    refine XS.goto X2.here hx rfl (pc0 := 17) (pc' := 21) rfl (hb hby d1_17) (by decide) (by decide) ?_
    show Sq p e below m T2 21 #[rv a, iv v1] [.int 1] _
    exact retN X2 hx (t := .boolean) Bd.returns (by simp) (hb hby d1_21) hr
  · show Q_takes Z a v1 h0 n0 _ T2.heap _
    rw [e2]
    exact ⟨(by rw [own_t, if_neg hc5, if_neg hc13]), N0, rfl⟩
set_option maxRecDepth 65536 in
theorem takes (l : Launch) (Z : State) (a0 : Array Value) (hw : ∀ d ∈ tables_1, d.before a0 Z = true) (ws : List Jvm.Cond) (a : Addr) (v1 : Int32) (h0 : Heap) (n0 : Nat) (O : Old Z n0 h0) (F_min : Fld Z h0 a "com/example/anole/anole/device/Setting" "min" "I" (.int (0 : Int32))) (F_max : Fld Z h0 a "com/example/anole/anole/device/Setting" "max" "I" (.int (1 : Int32))) :
    Ctr l Z y_0 prog_82_method_6_code 2 (some .boolean) ws ({ frames := 0, cells := 0, slots := 0, locals := 0 } : Room) #[(.ref a), (.int v1)] h0 (Q_takes Z a v1 h0 n0) := by
  by_cases hc5 : v1 < (0 : Int32)
  · exact takes_0 l Z a0 hw ws a v1 h0 n0 O F_min F_max hc5
  · by_cases hc13 : (1 : Int32) < v1
    · exact takes_1 l Z a0 hw ws a v1 h0 n0 O F_min F_max hc5 hc13
    · exact takes_2 l Z a0 hw ws a v1 h0 n0 O F_min F_max hc5 hc13
theorem d2_0 : decode method_2_code 0 = .ok (.iload_n 0, 1) := by decide +kernel
theorem d2_1 : decode method_2_code 1 = .ok (.ifCond .eq 8, 3) := by decide +kernel
theorem d2_9 : decode method_2_code 9 = .ok (.iconst 1, 1) := by decide +kernel
theorem d2_10 : decode method_2_code 10 = .ok (.goto 4, 3) := by decide +kernel
theorem d2_14 : decode method_2_code 14 = .ok (.ireturn, 1) := by decide +kernel
theorem d2_4 : decode method_2_code 4 = .ok (.iload_n 0, 1) := by decide +kernel
theorem d2_5 : decode method_2_code 5 = .ok (.iconst 1, 1) := by decide +kernel
theorem d2_6 : decode method_2_code 6 = .ok (.if_icmp .ne 7, 3) := by decide +kernel
theorem d2_13 : decode method_2_code 13 = .ok (.iconst 0, 1) := by decide +kernel
def Q_doc (Z : State) (v1 : Int32) (h0 : Heap) (n0 : Nat) (v : Option Value) (h : Heap) (L : List Loc) : Prop := v = some (.int (own_d v1)) ∧ Fr n0 L ∧ h = h0
theorem ef_1 (m : MethodId) (x0 : Int32) : entryFrame m #[(.int x0)] 1 = mkF m 0 #[.val (.int x0)] [] := by first | (simp [entryFrame, mkF, argsToLocals, Value.category]; done) | rfl
theorem pn_1 : plainName "com/example/anole/anole/device/SettingTakesPinLaw" = true := by first | (simp [plainName, overriddenIn]; done) | decide +kernel
abbrev y_1 : MethodName := ⟨"com/example/anole/anole/device/SettingTakesPinLaw", "documented", "(I)Z"⟩
set_option maxRecDepth 65536 in
set_option maxHeartbeats 40000000 in
theorem doc_0 (l : Launch) (Z : State) (a0 : Array Value) (hw : ∀ d ∈ tables_1, d.before a0 Z = true) (ws : List Jvm.Cond) (v1 : Int32) (h0 : Heap) (n0 : Nat) (O : Old Z n0 h0) (hc1 : v1 = (0 : Int32)) :
    Ctr l Z y_1 method_2_code 1 (some .boolean) ws ({ frames := 0, cells := 0, slots := 0, locals := 0 } : Room) #[(.int v1)] h0 (Q_doc Z v1 h0 n0) := by
  refine MetFree.of_bodySF (plainFor_of_name pn_1) hisR ?_
  intro p e s m args below meth c s₁ Bd hml0 hP hK
  obtain ⟨rfl, hZ, hh⟩ := hP
  have W := fun (i : Nat) {d : Jvm.Cond} (h : tables_1[i]? = some d) => hw d (List.mem_of_getElem? h)
  have hx := Bd.exec
  have hby := Bd.bytes
  have hml : c.maxLocals = 1 := hml0
  have hown : s.vm.findClass "com/example/anole/anole/device/SettingTakesPinLaw" = some m.cls := findClass_of_methodNamed Bd.named
  have hnm := (name_of_methodNamed Bd.named Bd.method).1
  have X0 : Stand p l e ({ frames := 0, cells := 0, slots := 0, locals := 0 } : Room) s m #[(.int v1)] below meth c s₁ [] 0 0 := Stand.of_body Bd
  have e0 : s₁.heap = h0 := by rw [← hh, Bd.state]; rfl
  have N0 := Fr.nil n0
  have pre0 : ∀ t, Steps p.tables e below (s₁.setTop (mkF m 0 #[.val (.int v1)] [])) t → Steps p.tables e below (s₁.setTop (entryFrame m #[(.int v1)] 1)) t := fun t k => castTop (ef_1 m v1) k
  obtain ⟨fs, hr, hrun, hended, hW, hsame⟩ := X0.leave (v := some (.int (1 : Int32))) (fun h => by rw [Bd.returns] at h; cases h)
  refine ⟨_, _, pre0 _ ?_, hrun, hended, _, _, rfl, ?_, ⟨_, rfl⟩, hW, hsame.mono (by decide) (by decide)⟩
  · show Sq p e below m s₁ 0 #[iv v1] [] _
    refine XS.iloadN X0.here hx rfl (hb hby d2_0) rfl ?_
    refine XS.ifYes X0.here hx rfl (pc0 := 1) (pc' := 9) rfl (hb hby d2_1) rfl ((if0 _ _).trans (teq hc1).1) (by decide) (by decide) ?_
    show Sq p e below m s₁ 9 #[iv v1] [] _
    refine XS.iconst X0.here hx rfl (hb hby d2_9) ?_
    refine XS.goto X0.here hx rfl (pc0 := 10) (pc' := 14) rfl (hb hby d2_10) (by decide) (by decide) ?_
    show Sq p e below m s₁ 14 #[iv v1] [.int 1] _
    exact retN X0 hx (t := .boolean) Bd.returns (by simp) (hb hby d2_14) hr
  · show Q_doc Z v1 h0 n0 _ s₁.heap _
    rw [e0]
    exact ⟨(by rw [own_d, if_pos hc1]), N0, rfl⟩
set_option maxRecDepth 65536 in
set_option maxHeartbeats 40000000 in
theorem doc_1 (l : Launch) (Z : State) (a0 : Array Value) (hw : ∀ d ∈ tables_1, d.before a0 Z = true) (ws : List Jvm.Cond) (v1 : Int32) (h0 : Heap) (n0 : Nat) (O : Old Z n0 h0) (hc1 : ¬ (v1 = (0 : Int32))) (hc6 : v1 = (1 : Int32)) :
    Ctr l Z y_1 method_2_code 1 (some .boolean) ws ({ frames := 0, cells := 0, slots := 0, locals := 0 } : Room) #[(.int v1)] h0 (Q_doc Z v1 h0 n0) := by
  refine MetFree.of_bodySF (plainFor_of_name pn_1) hisR ?_
  intro p e s m args below meth c s₁ Bd hml0 hP hK
  obtain ⟨rfl, hZ, hh⟩ := hP
  have W := fun (i : Nat) {d : Jvm.Cond} (h : tables_1[i]? = some d) => hw d (List.mem_of_getElem? h)
  have hx := Bd.exec
  have hby := Bd.bytes
  have hml : c.maxLocals = 1 := hml0
  have hown : s.vm.findClass "com/example/anole/anole/device/SettingTakesPinLaw" = some m.cls := findClass_of_methodNamed Bd.named
  have hnm := (name_of_methodNamed Bd.named Bd.method).1
  have X0 : Stand p l e ({ frames := 0, cells := 0, slots := 0, locals := 0 } : Room) s m #[(.int v1)] below meth c s₁ [] 0 0 := Stand.of_body Bd
  have e0 : s₁.heap = h0 := by rw [← hh, Bd.state]; rfl
  have N0 := Fr.nil n0
  have pre0 : ∀ t, Steps p.tables e below (s₁.setTop (mkF m 0 #[.val (.int v1)] [])) t → Steps p.tables e below (s₁.setTop (entryFrame m #[(.int v1)] 1)) t := fun t k => castTop (ef_1 m v1) k
  obtain ⟨fs, hr, hrun, hended, hW, hsame⟩ := X0.leave (v := some (.int (1 : Int32))) (fun h => by rw [Bd.returns] at h; cases h)
  refine ⟨_, _, pre0 _ ?_, hrun, hended, _, _, rfl, ?_, ⟨_, rfl⟩, hW, hsame.mono (by decide) (by decide)⟩
  · show Sq p e below m s₁ 0 #[iv v1] [] _
    refine XS.iloadN X0.here hx rfl (hb hby d2_0) rfl ?_
    refine XS.ifNo X0.here hx rfl (hb hby d2_1) rfl ((if0 _ _).trans (feq hc1).1) ?_
    show Sq p e below m s₁ 4 #[iv v1] [] _
    refine XS.iloadN X0.here hx rfl (hb hby d2_4) rfl ?_
    refine XS.iconst X0.here hx rfl (hb hby d2_5) ?_
    show Sq p e below m s₁ 6 #[iv v1] [.int 1, .int v1] _
    refine XS.icmpNo X0.here hx rfl (hb hby d2_6) rfl (teq hc6).2 ?_
    refine XS.iconst X0.here hx rfl (hb hby d2_9) ?_
    show Sq p e below m s₁ 10 #[iv v1] [.int 1] _
    refine XS.goto X0.here hx rfl (pc0 := 10) (pc' := 14) rfl (hb hby d2_10) (by decide) (by decide) ?_
    show Sq p e below m s₁ 14 #[iv v1] [.int 1] _
    exact retN X0 hx (t := .boolean) Bd.returns (by simp) (hb hby d2_14) hr
  · show Q_doc Z v1 h0 n0 _ s₁.heap _
    rw [e0]
    exact ⟨(by rw [own_d, if_neg hc1, if_pos hc6]), N0, rfl⟩
set_option maxRecDepth 65536 in
set_option maxHeartbeats 40000000 in
theorem doc_2 (l : Launch) (Z : State) (a0 : Array Value) (hw : ∀ d ∈ tables_1, d.before a0 Z = true) (ws : List Jvm.Cond) (v1 : Int32) (h0 : Heap) (n0 : Nat) (O : Old Z n0 h0) (hc1 : ¬ (v1 = (0 : Int32))) (hc6 : ¬ (v1 = (1 : Int32))) :
    Ctr l Z y_1 method_2_code 1 (some .boolean) ws ({ frames := 0, cells := 0, slots := 0, locals := 0 } : Room) #[(.int v1)] h0 (Q_doc Z v1 h0 n0) := by
  refine MetFree.of_bodySF (plainFor_of_name pn_1) hisR ?_
  intro p e s m args below meth c s₁ Bd hml0 hP hK
  obtain ⟨rfl, hZ, hh⟩ := hP
  have W := fun (i : Nat) {d : Jvm.Cond} (h : tables_1[i]? = some d) => hw d (List.mem_of_getElem? h)
  have hx := Bd.exec
  have hby := Bd.bytes
  have hml : c.maxLocals = 1 := hml0
  have hown : s.vm.findClass "com/example/anole/anole/device/SettingTakesPinLaw" = some m.cls := findClass_of_methodNamed Bd.named
  have hnm := (name_of_methodNamed Bd.named Bd.method).1
  have X0 : Stand p l e ({ frames := 0, cells := 0, slots := 0, locals := 0 } : Room) s m #[(.int v1)] below meth c s₁ [] 0 0 := Stand.of_body Bd
  have e0 : s₁.heap = h0 := by rw [← hh, Bd.state]; rfl
  have N0 := Fr.nil n0
  have pre0 : ∀ t, Steps p.tables e below (s₁.setTop (mkF m 0 #[.val (.int v1)] [])) t → Steps p.tables e below (s₁.setTop (entryFrame m #[(.int v1)] 1)) t := fun t k => castTop (ef_1 m v1) k
  obtain ⟨fs, hr, hrun, hended, hW, hsame⟩ := X0.leave (v := some (.int (0 : Int32))) (fun h => by rw [Bd.returns] at h; cases h)
  refine ⟨_, _, pre0 _ ?_, hrun, hended, _, _, rfl, ?_, ⟨_, rfl⟩, hW, hsame.mono (by decide) (by decide)⟩
  · show Sq p e below m s₁ 0 #[iv v1] [] _
    refine XS.iloadN X0.here hx rfl (hb hby d2_0) rfl ?_
    refine XS.ifNo X0.here hx rfl (hb hby d2_1) rfl ((if0 _ _).trans (feq hc1).1) ?_
    show Sq p e below m s₁ 4 #[iv v1] [] _
    refine XS.iloadN X0.here hx rfl (hb hby d2_4) rfl ?_
    refine XS.iconst X0.here hx rfl (hb hby d2_5) ?_
    show Sq p e below m s₁ 6 #[iv v1] [.int 1, .int v1] _
    refine XS.icmpYes X0.here hx rfl (pc0 := 6) (pc' := 13) rfl (hb hby d2_6) rfl (feq hc6).2 (by decide) (by decide) ?_
    refine XS.iconst X0.here hx rfl (hb hby d2_13) ?_
    show Sq p e below m s₁ 14 #[iv v1] [.int 0] _
    exact retN X0 hx (t := .boolean) Bd.returns (by simp) (hb hby d2_14) hr
  · show Q_doc Z v1 h0 n0 _ s₁.heap _
    rw [e0]
    exact ⟨(by rw [own_d, if_neg hc1, if_neg hc6]), N0, rfl⟩
set_option maxRecDepth 65536 in
theorem doc (l : Launch) (Z : State) (a0 : Array Value) (hw : ∀ d ∈ tables_1, d.before a0 Z = true) (ws : List Jvm.Cond) (v1 : Int32) (h0 : Heap) (n0 : Nat) (O : Old Z n0 h0) :
    Ctr l Z y_1 method_2_code 1 (some .boolean) ws ({ frames := 0, cells := 0, slots := 0, locals := 0 } : Room) #[(.int v1)] h0 (Q_doc Z v1 h0 n0) := by
  by_cases hc1 : v1 = (0 : Int32)
  · exact doc_0 l Z a0 hw ws v1 h0 n0 O hc1
  · by_cases hc6 : v1 = (1 : Int32)
    · exact doc_1 l Z a0 hw ws v1 h0 n0 O hc1 hc6
    · exact doc_2 l Z a0 hw ws v1 h0 n0 O hc1 hc6
theorem d3_0 : decode prog_82_method_5_code 0 = .ok (.aload_n 0, 1) := by decide +kernel
theorem d3_1 : decode prog_82_method_5_code 1 = .ok (.getfield 33, 3) := by decide +kernel
theorem d3_4 : decode prog_82_method_5_code 4 = .ok (.ireturn, 1) := by decide +kernel
def Q_dflt (Z : State) (a : Addr) (z : Int32) (h0 : Heap) (n0 : Nat) (v : Option Value) (h : Heap) (L : List Loc) : Prop := v = some (.int z) ∧ Fr n0 L ∧ h = h0
theorem ef_2 (m : MethodId) (x0 : Addr) : entryFrame m #[(.ref x0)] 1 = mkF m 0 #[.val (.ref x0)] [] := by first | (simp [entryFrame, mkF, argsToLocals, Value.category]; done) | rfl
abbrev y_2 : MethodName := ⟨"com/example/anole/anole/device/Setting", "defaultValue", "()I"⟩
set_option maxRecDepth 65536 in
set_option maxHeartbeats 40000000 in
theorem dflt (l : Launch) (Z : State) (a0 : Array Value) (hw : ∀ d ∈ tables_1, d.before a0 Z = true) (ws : List Jvm.Cond) (a : Addr) (z : Int32) (h0 : Heap) (n0 : Nat) (O : Old Z n0 h0) (F_defaultValue : Fld Z h0 a "com/example/anole/anole/device/Setting" "defaultValue" "I" (.int z)) :
    Ctr l Z y_2 prog_82_method_5_code 1 (some .int) ws ({ frames := 0, cells := 0, slots := 0, locals := 0 } : Room) #[(.ref a)] h0 (Q_dflt Z a z h0 n0) := by
  refine MetFree.of_bodySF (plainFor_of_name pn_0) hisR ?_
  intro p e s m args below meth c s₁ Bd hml0 hP hK
  obtain ⟨rfl, hZ, hh⟩ := hP
  have W := fun (i : Nat) {d : Jvm.Cond} (h : tables_1[i]? = some d) => hw d (List.mem_of_getElem? h)
  have hx := Bd.exec
  have hby := Bd.bytes
  have hml : c.maxLocals = 1 := hml0
  have hown : s.vm.findClass "com/example/anole/anole/device/Setting" = some m.cls := findClass_of_methodNamed Bd.named
  have hnm := (name_of_methodNamed Bd.named Bd.method).1
  have X0 : Stand p l e ({ frames := 0, cells := 0, slots := 0, locals := 0 } : Room) s m #[(.ref a)] below meth c s₁ [] 0 0 := Stand.of_body Bd
  have e0 : s₁.heap = h0 := by rw [← hh, Bd.state]; rfl
  have N0 := Fr.nil n0
  have pre0 : ∀ t, Steps p.tables e below (s₁.setTop (mkF m 0 #[.val (.ref a)] [])) t → Steps p.tables e below (s₁.setTop (entryFrame m #[(.ref a)] 1)) t := fun t k => castTop (ef_2 m a) k
  obtain ⟨T1, X1, e1, st1⟩ := getF X0 hx hZ hown (host := "") (Or.inl (W 21 rfl)) Via.refl e0 F_defaultValue (g := (mkF m 1 #[rv a] [.ref a])) rfl rfl (hb hby d3_1)
  obtain ⟨fs, hr, hrun, hended, hW, hsame⟩ := X1.leave (v := some (.int z)) (fun h => by rw [Bd.returns] at h; cases h)
  refine ⟨_, _, pre0 _ ?_, hrun, hended, _, _, rfl, ?_, ⟨_, rfl⟩, hW, hsame.mono (by decide) (by decide)⟩
  · show Sq p e below m s₁ 0 #[rv a] [] _
    refine XS.aloadN X0.here hx rfl (hb hby d3_0) rfl rfl ?_
    show Sq p e below m s₁ 1 #[rv a] [.ref a] _
    refine st1 _ ?_
    show Sq p e below m T1 4 #[rv a] [.int z] _
    exact retI X1 hx Bd.returns (hb hby d3_4) hr
  · show Q_dflt Z a z h0 n0 _ T1.heap _
    rw [e1]
    exact ⟨rfl, N0, rfl⟩
theorem pd_0 : parseMethodDescriptor "(I)Z" = some ⟨[.int], some .boolean⟩ := by decide +kernel
theorem pd_1 : parseMethodDescriptor "()I" = some ⟨[], some .int⟩ := by decide +kernel
def Q_rm0 (Z : State) (p1 : Int32) (p2 : Int32) (w_SOUND_EFFECTS_ENABLED : Addr) (h0 : Heap) (n0 : Nat) (v : Option Value) (h : Heap) (L : List Loc) : Prop := v = some (.int (1 : Int32)) ∧ Fr n0 L
theorem ef_3 (m : MethodId) (x0 : Int32) (x1 : Int32) : entryFrame m #[(.int x0), (.int x1)] maxLocals = mkF m 0 #[.val (.int x0), .val (.int x1), .unset, .unset, .unset, .unset, .unset] [] := by first | (simp [entryFrame, mkF, argsToLocals, Value.category, maxLocals]; done) | rfl
set_option maxRecDepth 65536 in
set_option maxHeartbeats 40000000 in
theorem rm0 (l : Launch) (Z : State) (a0 : Array Value) (hw : ∀ d ∈ tables_1, d.before a0 Z = true) (ws : List Jvm.Cond) (p1 : Int32) (p2 : Int32) (w_SOUND_EFFECTS_ENABLED : Addr) (h0 : Heap) (n0 : Nat) (O : Old Z n0 h0) (S_w_SOUND_EFFECTS_ENABLED : Sta Z Z.heap "com/example/anole/anole/device/Setting" "SOUND_EFFECTS_ENABLED" "Lcom/example/anole/anole/device/Setting;" (.ref w_SOUND_EFFECTS_ENABLED)) (E_w_SOUND_EFFECTS_ENABLED : Exa Z Z.heap w_SOUND_EFFECTS_ENABLED "com/example/anole/anole/device/Setting") (F_w_SOUND_EFFECTS_ENABLED_min : Fld Z Z.heap w_SOUND_EFFECTS_ENABLED "com/example/anole/anole/device/Setting" "min" "I" (.int (0 : Int32))) (F_w_SOUND_EFFECTS_ENABLED_max : Fld Z Z.heap w_SOUND_EFFECTS_ENABLED "com/example/anole/anole/device/Setting" "max" "I" (.int (1 : Int32))) (F_w_SOUND_EFFECTS_ENABLED_defaultValue : Fld Z Z.heap w_SOUND_EFFECTS_ENABLED "com/example/anole/anole/device/Setting" "defaultValue" "I" (.int (1 : Int32))) :
    Ctr l Z x code maxLocals ret ws room_1 #[(.int p1), (.int p2)] h0 (Q_rm0 Z p1 p2 w_SOUND_EFFECTS_ENABLED h0 n0) := by
  refine MetFree.of_bodySF (plainFor_of_name pn_1) hisR ?_
  intro p e s m args below meth c s₁ Bd hml0 hP hK
  obtain ⟨rfl, hZ, hh⟩ := hP
  have W := fun (i : Nat) {d : Jvm.Cond} (h : tables_1[i]? = some d) => hw d (List.mem_of_getElem? h)
  have hx := Bd.exec
  have hby := Bd.bytes
  have hml : c.maxLocals = 7 := hml0
  have hown : s.vm.findClass "com/example/anole/anole/device/SettingTakesPinLaw" = some m.cls := findClass_of_methodNamed Bd.named
  have hnm := (name_of_methodNamed Bd.named Bd.method).1
  have X0 : Stand p l e room_1 s m #[(.int p1), (.int p2)] below meth c s₁ [] 0 0 := Stand.of_body Bd
  have e0 : s₁.heap = h0 := by rw [← hh, Bd.state]; rfl
  have N0 := Fr.nil n0
  have pre0 : ∀ t, Steps p.tables e below (s₁.setTop (mkF m 0 #[.val (.int p1), .val (.int p2), .unset, .unset, .unset, .unset, .unset] [])) t → Steps p.tables e below (s₁.setTop (entryFrame m #[(.int p1), (.int p2)] maxLocals)) t := fun t k => castTop (ef_3 m p1 p2) k
  obtain ⟨T1, X1, e1, st1⟩ := getS2 X0 hx hZ hown (host := "") (Or.inl (W 0 rfl)) Via.refl e0 (S_w_SOUND_EFFECTS_ENABLED.ext O.2) (g := (mkF m 0 #[iv p1, iv p2, .unset, .unset, .unset, .unset, .unset] [])) rfl (hb hby at_0)
  obtain ⟨cq2, kq2, q2a, q2b, q2c⟩ := isOf hZ e1 (E_w_SOUND_EFFECTS_ENABLED.ext O.2)
  obtain ⟨_, _, ⟨T2, L2, k2, n2⟩, -, X2, ⟨Lc2, hQ2, l2, y2, z2⟩, st2⟩ := X1.virtualBack hx (y := y_0) (z := y_0) hown (mvT hZ (W 3 rfl)) (mvT hZ (W 4 rfl)) (notFace_of_selects (args := #[]) (mvT hZ (W 6 rfl))) (mvT hZ (W 6 rfl)) (mvT hZ (W 5 rfl)) (by decide) (backOf (W := 0) (takes l Z a0 hw [] w_SOUND_EFFECTS_ENABLED p1 h0 n0 O (F_w_SOUND_EFFECTS_ENABLED_min.ext O.2) (F_w_SOUND_EFFECTS_ENABLED_max.ext O.2)) hZ (W 7 rfl) (W 1 rfl) (by decide) (by decide)) q2a q2c (g := (mkF m 12 #[iv p1, iv p2, rv w_SOUND_EFFECTS_ENABLED, iv ((p2 &&& (3 : Int32)) - (1 : Int32)), .unset, .unset, .unset] [.int p1, .ref w_SOUND_EFFECTS_ENABLED])) rfl (by rw [hml]; rfl) (Steps.refl _) (argsL := [.int p1]) (rest := []) (lenOf pd_0 rfl) rfl (by show 2 * 0 + _ ≤ _; exact Nat.le_of_eq rfl) (hb hby at_12) (fun _ _ => ⟨rfl, e1, (by decide : 0 + 0 ≤ _), (by decide : 0 + 0 ≤ _)⟩)
  dsimp only [Pt.U, Pt.locs, Pt.cells, Pt.slots] at X2 l2 y2 z2 st2 hQ2
  subst l2 y2 z2
  obtain ⟨h2, e2⟩ : ∃ z, T2.heap = z := ⟨_, rfl⟩
  rw [e2] at hQ2
  obtain ⟨rfl, N2q, p2_0⟩ := hQ2
  have N2 := Fr.app N0 N2q
  rw [p2_0] at e2
  obtain ⟨_, _, ⟨T3, L3, k3, n3⟩, -, X3, ⟨Lc3, hQ3, l3, y3, z3⟩, st3⟩ := Jvm.LawKit.callS X2 hx (y := y_1) hown (mvT hZ (W 12 rfl)) (mvT hZ (W 13 rfl)) (mvT hZ (W 14 rfl)) (mvT hZ (W 15 rfl)) (by decide) (backOf (W := 1) (doc l Z a0 hw [] p1 h0 n0 O ) hZ (W 15 rfl) (W 14 rfl) (by decide) (by decide)) (g := (mkF m 16 #[iv p1, iv p2, rv w_SOUND_EFFECTS_ENABLED, iv ((p2 &&& (3 : Int32)) - (1 : Int32)), .unset, .unset, .unset] [.int p1, .int (own_t p1)])) rfl (by rw [hml]; rfl) (argsL := [.int p1]) (rest := [.int (own_t p1)]) (lenOf pd_0 rfl) rfl (by show 2 * 0 + _ ≤ _; exact Nat.le_of_eq rfl) (hb hby at_16) (fun _ _ => ⟨rfl, e2, (by decide : 0 + 0 ≤ _), (by decide : 0 + 0 ≤ _)⟩)
  dsimp only [Pt.U, Pt.locs, Pt.cells, Pt.slots] at X3 l3 y3 z3 st3 hQ3
  subst l3 y3 z3
  obtain ⟨h3, e3⟩ : ∃ z, T3.heap = z := ⟨_, rfl⟩
  rw [e3] at hQ3
  obtain ⟨rfl, N3q, p3_0⟩ := hQ3
  have N3 := Fr.app N2 N3q
  rw [p3_0] at e3
  obtain ⟨cq4, kq4, q4a, q4b, q4c⟩ := isOf hZ e3 (E_w_SOUND_EFFECTS_ENABLED.ext O.2)
  obtain ⟨_, _, ⟨T4, L4, k4, n4⟩, -, X4, ⟨Lc4, hQ4, l4, y4, z4⟩, st4⟩ := X3.virtualBack hx (y := y_0) (z := y_0) hown (mvT hZ (W 3 rfl)) (mvT hZ (W 4 rfl)) (notFace_of_selects (args := #[]) (mvT hZ (W 6 rfl))) (mvT hZ (W 6 rfl)) (mvT hZ (W 5 rfl)) (by decide) (backOf (W := 0) (takes l Z a0 hw [] w_SOUND_EFFECTS_ENABLED ((p2 &&& (3 : Int32)) - (1 : Int32)) h0 n0 O (F_w_SOUND_EFFECTS_ENABLED_min.ext O.2) (F_w_SOUND_EFFECTS_ENABLED_max.ext O.2)) hZ (W 7 rfl) (W 1 rfl) (by decide) (by decide)) q4a q4c (g := (mkF m 31 #[iv p1, iv p2, rv w_SOUND_EFFECTS_ENABLED, iv ((p2 &&& (3 : Int32)) - (1 : Int32)), iv 1, .unset, .unset] [.int ((p2 &&& (3 : Int32)) - (1 : Int32)), .ref w_SOUND_EFFECTS_ENABLED])) rfl (by rw [hml]; rfl) (Steps.refl _) (argsL := [.int ((p2 &&& (3 : Int32)) - (1 : Int32))]) (rest := []) (lenOf pd_0 rfl) rfl (by show 2 * 0 + _ ≤ _; exact Nat.le_of_eq rfl) (hb hby at_31) (fun _ _ => ⟨rfl, e3, (by decide : 0 + 0 ≤ _), (by decide : 0 + 0 ≤ _)⟩)
  dsimp only [Pt.U, Pt.locs, Pt.cells, Pt.slots] at X4 l4 y4 z4 st4 hQ4
  subst l4 y4 z4
  obtain ⟨h4, e4⟩ : ∃ z, T4.heap = z := ⟨_, rfl⟩
  rw [e4] at hQ4
  obtain ⟨rfl, N4q, p4_0⟩ := hQ4
  have N4 := Fr.app N3 N4q
  rw [p4_0] at e4
  obtain ⟨_, _, ⟨T5, L5, k5, n5⟩, -, X5, ⟨Lc5, hQ5, l5, y5, z5⟩, st5⟩ := Jvm.LawKit.callS X4 hx (y := y_1) hown (mvT hZ (W 12 rfl)) (mvT hZ (W 13 rfl)) (mvT hZ (W 14 rfl)) (mvT hZ (W 15 rfl)) (by decide) (backOf (W := 1) (doc l Z a0 hw [] ((p2 &&& (3 : Int32)) - (1 : Int32)) h0 n0 O ) hZ (W 15 rfl) (W 14 rfl) (by decide) (by decide)) (g := (mkF m 35 #[iv p1, iv p2, rv w_SOUND_EFFECTS_ENABLED, iv ((p2 &&& (3 : Int32)) - (1 : Int32)), iv 1, .unset, .unset] [.int ((p2 &&& (3 : Int32)) - (1 : Int32)), .int (own_t ((p2 &&& (3 : Int32)) - (1 : Int32)))])) rfl (by rw [hml]; rfl) (argsL := [.int ((p2 &&& (3 : Int32)) - (1 : Int32))]) (rest := [.int (own_t ((p2 &&& (3 : Int32)) - (1 : Int32)))]) (lenOf pd_0 rfl) rfl (by show 2 * 0 + _ ≤ _; exact Nat.le_of_eq rfl) (hb hby at_35) (fun _ _ => ⟨rfl, e4, (by decide : 0 + 0 ≤ _), (by decide : 0 + 0 ≤ _)⟩)
  dsimp only [Pt.U, Pt.locs, Pt.cells, Pt.slots] at X5 l5 y5 z5 st5 hQ5
  subst l5 y5 z5
  obtain ⟨h5, e5⟩ : ∃ z, T5.heap = z := ⟨_, rfl⟩
  rw [e5] at hQ5
  obtain ⟨rfl, N5q, p5_0⟩ := hQ5
  have N5 := Fr.app N4 N5q
  rw [p5_0] at e5
  obtain ⟨cq6, kq6, q6a, q6b, q6c⟩ := isOf hZ e5 (E_w_SOUND_EFFECTS_ENABLED.ext O.2)
  obtain ⟨_, _, ⟨T6, L6, k6, n6⟩, -, X6, ⟨Lc6, hQ6, l6, y6, z6⟩, st6⟩ := X5.virtualBack hx (y := y_2) (z := y_2) hown (mvT hZ (W 16 rfl)) (mvT hZ (W 17 rfl)) (notFace_of_selects (args := #[]) (mvT hZ (W 19 rfl))) (mvT hZ (W 19 rfl)) (mvT hZ (W 18 rfl)) (by decide) (backOf (W := 1) (dflt l Z a0 hw [] w_SOUND_EFFECTS_ENABLED (1 : Int32) h0 n0 O (F_w_SOUND_EFFECTS_ENABLED_defaultValue.ext O.2)) hZ (W 20 rfl) (W 1 rfl) (by decide) (by decide)) q6a q6c (g := (mkF m 50 #[iv p1, iv p2, rv w_SOUND_EFFECTS_ENABLED, iv ((p2 &&& (3 : Int32)) - (1 : Int32)), iv 1, iv 1, .unset] [.ref w_SOUND_EFFECTS_ENABLED, .ref w_SOUND_EFFECTS_ENABLED])) rfl (by rw [hml]; rfl) (Steps.refl _) (argsL := []) (rest := [.ref w_SOUND_EFFECTS_ENABLED]) (lenOf pd_1 rfl) rfl (by show 2 * 0 + _ ≤ _; exact Nat.le_of_eq rfl) (hb hby at_50) (fun _ _ => ⟨rfl, e5, (by decide : 0 + 0 ≤ _), (by decide : 0 + 0 ≤ _)⟩)
  dsimp only [Pt.U, Pt.locs, Pt.cells, Pt.slots] at X6 l6 y6 z6 st6 hQ6
  subst l6 y6 z6
  obtain ⟨h6, e6⟩ : ∃ z, T6.heap = z := ⟨_, rfl⟩
  rw [e6] at hQ6
  obtain ⟨rfl, N6q, p6_0⟩ := hQ6
  have N6 := Fr.app N5 N6q
  rw [p6_0] at e6
  obtain ⟨cq7, kq7, q7a, q7b, q7c⟩ := isOf hZ e6 (E_w_SOUND_EFFECTS_ENABLED.ext O.2)
  obtain ⟨_, _, ⟨T7, L7, k7, n7⟩, -, X7, ⟨Lc7, hQ7, l7, y7, z7⟩, st7⟩ := X6.virtualBack hx (y := y_0) (z := y_0) hown (mvT hZ (W 3 rfl)) (mvT hZ (W 4 rfl)) (notFace_of_selects (args := #[]) (mvT hZ (W 6 rfl))) (mvT hZ (W 6 rfl)) (mvT hZ (W 5 rfl)) (by decide) (backOf (W := 0) (takes l Z a0 hw [] w_SOUND_EFFECTS_ENABLED (1 : Int32) h0 n0 O (F_w_SOUND_EFFECTS_ENABLED_min.ext O.2) (F_w_SOUND_EFFECTS_ENABLED_max.ext O.2)) hZ (W 7 rfl) (W 1 rfl) (by decide) (by decide)) q7a q7c (g := (mkF m 53 #[iv p1, iv p2, rv w_SOUND_EFFECTS_ENABLED, iv ((p2 &&& (3 : Int32)) - (1 : Int32)), iv 1, iv 1, .unset] [.int 1, .ref w_SOUND_EFFECTS_ENABLED])) rfl (by rw [hml]; rfl) (Steps.refl _) (argsL := [.int 1]) (rest := []) (lenOf pd_0 rfl) rfl (by show 2 * 0 + _ ≤ _; exact Nat.le_of_eq rfl) (hb hby at_53) (fun _ _ => ⟨rfl, e6, (by decide : 0 + 0 ≤ _), (by decide : 0 + 0 ≤ _)⟩)
  dsimp only [Pt.U, Pt.locs, Pt.cells, Pt.slots] at X7 l7 y7 z7 st7 hQ7
  subst l7 y7 z7
  obtain ⟨h7, e7⟩ : ∃ z, T7.heap = z := ⟨_, rfl⟩
  rw [e7] at hQ7
  obtain ⟨rfl, N7q, p7_0⟩ := hQ7
  have N7 := Fr.app N6 N7q
  rw [p7_0] at e7
  obtain ⟨fs, hr, hrun, hended, hW, hsame⟩ := X7.leave (v := some (.int (1 : Int32))) (fun h => by rw [Bd.returns] at h; cases h)
  refine ⟨_, _, pre0 _ ?_, hrun, hended, _, _, rfl, ?_, ⟨_, rfl⟩, hW, hsame.mono (by decide) (by decide)⟩
  · show Sq p e below m s₁ 0 #[iv p1, iv p2, .unset, .unset, .unset, .unset, .unset] [] _
    refine st1 _ ?_
    show Sq p e below m T1 3 #[iv p1, iv p2, .unset, .unset, .unset, .unset, .unset] [.ref w_SOUND_EFFECTS_ENABLED] _
    refine XS.astoreN X1.here hx rfl (hb hby at_3) rfl rfl rfl ?_
    refine XS.iloadN X1.here hx rfl (hb hby at_4) rfl ?_
    show Sq p e below m T1 5 #[iv p1, iv p2, rv w_SOUND_EFFECTS_ENABLED, .unset, .unset, .unset, .unset] [.int p2] _
    refine XS.iconst X1.here hx rfl (hb hby at_5) ?_
    refine XS.iand X1.here hx rfl (hb hby at_6) rfl ?_
    show Sq p e below m T1 7 #[iv p1, iv p2, rv w_SOUND_EFFECTS_ENABLED, .unset, .unset, .unset, .unset] [.int (p2 &&& (3 : Int32))] _
    refine XS.iconst X1.here hx rfl (hb hby at_7) ?_
    refine XS.isub X1.here hx rfl (hb hby at_8) rfl ?_
    show Sq p e below m T1 9 #[iv p1, iv p2, rv w_SOUND_EFFECTS_ENABLED, .unset, .unset, .unset, .unset] [.int ((p2 &&& (3 : Int32)) - (1 : Int32))] _
    refine XS.istoreN X1.here hx rfl (hb hby at_9) rfl rfl ?_
    refine XS.aloadN X1.here hx rfl (hb hby at_10) rfl rfl ?_
    show Sq p e below m T1 11 #[iv p1, iv p2, rv w_SOUND_EFFECTS_ENABLED, iv ((p2 &&& (3 : Int32)) - (1 : Int32)), .unset, .unset, .unset] [.ref w_SOUND_EFFECTS_ENABLED] _
    refine XS.iloadN X1.here hx rfl (hb hby at_11) rfl ?_
    show Sq p e below m T1 12 #[iv p1, iv p2, rv w_SOUND_EFFECTS_ENABLED, iv ((p2 &&& (3 : Int32)) - (1 : Int32)), .unset, .unset, .unset] [.int p1, .ref w_SOUND_EFFECTS_ENABLED] _
    refine st2.trans ?_
    show Sq p e below m T2 15 #[iv p1, iv p2, rv w_SOUND_EFFECTS_ENABLED, iv ((p2 &&& (3 : Int32)) - (1 : Int32)), .unset, .unset, .unset] [.int (own_t p1)] _
    refine XS.iloadN X2.here hx rfl (hb hby at_15) rfl ?_
    show Sq p e below m T2 16 #[iv p1, iv p2, rv w_SOUND_EFFECTS_ENABLED, iv ((p2 &&& (3 : Int32)) - (1 : Int32)), .unset, .unset, .unset] [.int p1, .int (own_t p1)] _
    refine st3 _ ?_
    show Sq p e below m T3 19 #[iv p1, iv p2, rv w_SOUND_EFFECTS_ENABLED, iv ((p2 &&& (3 : Int32)) - (1 : Int32)), .unset, .unset, .unset] [.int (own_d p1), .int (own_t p1)] _
    refine XS.icmpNo X3.here hx rfl (hb hby at_19) rfl (teq (own_td _ : (own_t p1) = (own_d p1))).2 ?_
    refine XS.iconst X3.here hx rfl (hb hby at_22) ?_
    show Sq p e below m T3 23 #[iv p1, iv p2, rv w_SOUND_EFFECTS_ENABLED, iv ((p2 &&& (3 : Int32)) - (1 : Int32)), .unset, .unset, .unset] [.int 1] _
    refine XS.goto X3.here hx rfl (pc0 := 23) (pc' := 27) rfl (hb hby at_23) (by decide) (by decide) ?_
    refine XS.istore X3.here hx rfl (hb hby at_27) rfl rfl ?_
    show Sq p e below m T3 29 #[iv p1, iv p2, rv w_SOUND_EFFECTS_ENABLED, iv ((p2 &&& (3 : Int32)) - (1 : Int32)), iv 1, .unset, .unset] [] _
    refine XS.aloadN X3.here hx rfl (hb hby at_29) rfl rfl ?_
    refine XS.iloadN X3.here hx rfl (hb hby at_30) rfl ?_
    show Sq p e below m T3 31 #[iv p1, iv p2, rv w_SOUND_EFFECTS_ENABLED, iv ((p2 &&& (3 : Int32)) - (1 : Int32)), iv 1, .unset, .unset] [.int ((p2 &&& (3 : Int32)) - (1 : Int32)), .ref w_SOUND_EFFECTS_ENABLED] _
    refine st4.trans ?_
    show Sq p e below m T4 34 #[iv p1, iv p2, rv w_SOUND_EFFECTS_ENABLED, iv ((p2 &&& (3 : Int32)) - (1 : Int32)), iv 1, .unset, .unset] [.int (own_t ((p2 &&& (3 : Int32)) - (1 : Int32)))] _
    refine XS.iloadN X4.here hx rfl (hb hby at_34) rfl ?_
    show Sq p e below m T4 35 #[iv p1, iv p2, rv w_SOUND_EFFECTS_ENABLED, iv ((p2 &&& (3 : Int32)) - (1 : Int32)), iv 1, .unset, .unset] [.int ((p2 &&& (3 : Int32)) - (1 : Int32)), .int (own_t ((p2 &&& (3 : Int32)) - (1 : Int32)))] _
    refine st5 _ ?_
    show Sq p e below m T5 38 #[iv p1, iv p2, rv w_SOUND_EFFECTS_ENABLED, iv ((p2 &&& (3 : Int32)) - (1 : Int32)), iv 1, .unset, .unset] [.int (own_d ((p2 &&& (3 : Int32)) - (1 : Int32))), .int (own_t ((p2 &&& (3 : Int32)) - (1 : Int32)))] _
    refine XS.icmpNo X5.here hx rfl (hb hby at_38) rfl (teq (own_td _ : (own_t ((p2 &&& (3 : Int32)) - (1 : Int32))) = (own_d ((p2 &&& (3 : Int32)) - (1 : Int32))))).2 ?_
    refine XS.iconst X5.here hx rfl (hb hby at_41) ?_
    show Sq p e below m T5 42 #[iv p1, iv p2, rv w_SOUND_EFFECTS_ENABLED, iv ((p2 &&& (3 : Int32)) - (1 : Int32)), iv 1, .unset, .unset] [.int 1] _
    refine XS.goto X5.here hx rfl (pc0 := 42) (pc' := 46) rfl (hb hby at_42) (by decide) (by decide) ?_
    refine XS.istore X5.here hx rfl (hb hby at_46) rfl rfl ?_
    show Sq p e below m T5 48 #[iv p1, iv p2, rv w_SOUND_EFFECTS_ENABLED, iv ((p2 &&& (3 : Int32)) - (1 : Int32)), iv 1, iv 1, .unset] [] _
    refine XS.aloadN X5.here hx rfl (hb hby at_48) rfl rfl ?_
    refine XS.aloadN X5.here hx rfl (hb hby at_49) rfl rfl ?_
    show Sq p e below m T5 50 #[iv p1, iv p2, rv w_SOUND_EFFECTS_ENABLED, iv ((p2 &&& (3 : Int32)) - (1 : Int32)), iv 1, iv 1, .unset] [.ref w_SOUND_EFFECTS_ENABLED, .ref w_SOUND_EFFECTS_ENABLED] _
    refine st6.trans ?_
    show Sq p e below m T6 53 #[iv p1, iv p2, rv w_SOUND_EFFECTS_ENABLED, iv ((p2 &&& (3 : Int32)) - (1 : Int32)), iv 1, iv 1, .unset] [.int 1, .ref w_SOUND_EFFECTS_ENABLED] _
    refine st7.trans ?_
    show Sq p e below m T7 56 #[iv p1, iv p2, rv w_SOUND_EFFECTS_ENABLED, iv ((p2 &&& (3 : Int32)) - (1 : Int32)), iv 1, iv 1, .unset] [.int (own_t (1 : Int32))] _
    refine XS.istore X7.here hx rfl (hb hby at_56) rfl rfl ?_
    refine XS.iload X7.here hx rfl (hb hby at_58) rfl ?_
    show Sq p e below m T7 60 #[iv p1, iv p2, rv w_SOUND_EFFECTS_ENABLED, iv ((p2 &&& (3 : Int32)) - (1 : Int32)), iv 1, iv 1, iv (own_t (1 : Int32))] [.int 1] _
    refine XS.ifNo X7.here hx rfl (hb hby at_60) rfl ((if0 _ _).trans (feq (by decide)).1) ?_
    refine XS.iload X7.here hx rfl (hb hby at_63) rfl ?_
    show Sq p e below m T7 65 #[iv p1, iv p2, rv w_SOUND_EFFECTS_ENABLED, iv ((p2 &&& (3 : Int32)) - (1 : Int32)), iv 1, iv 1, iv (own_t (1 : Int32))] [.int 1] _
    refine XS.ifNo X7.here hx rfl (hb hby at_65) rfl ((if0 _ _).trans (feq (by decide)).1) ?_
    refine XS.iload X7.here hx rfl (hb hby at_68) rfl ?_
    show Sq p e below m T7 70 #[iv p1, iv p2, rv w_SOUND_EFFECTS_ENABLED, iv ((p2 &&& (3 : Int32)) - (1 : Int32)), iv 1, iv 1, iv (own_t (1 : Int32))] [.int (own_t (1 : Int32))] _
    refine XS.ifNo X7.here hx rfl (hb hby at_70) rfl ((if0 _ _).trans (feq (by decide : ¬ ((own_t (1 : Int32)) = (0 : Int32)))).1) ?_
    refine XS.iconst X7.here hx rfl (hb hby at_73) ?_
    show Sq p e below m T7 74 #[iv p1, iv p2, rv w_SOUND_EFFECTS_ENABLED, iv ((p2 &&& (3 : Int32)) - (1 : Int32)), iv 1, iv 1, iv (own_t (1 : Int32))] [.int 1] _
    refine XS.goto X7.here hx rfl (pc0 := 74) (pc' := 78) rfl (hb hby at_74) (by decide) (by decide) ?_
    show Sq p e below m T7 78 #[iv p1, iv p2, rv w_SOUND_EFFECTS_ENABLED, iv ((p2 &&& (3 : Int32)) - (1 : Int32)), iv 1, iv 1, iv (own_t (1 : Int32))] [.int 1] _
    exact retN X7 hx (t := .boolean) Bd.returns (by simp) (hb hby at_78) hr
  · show Q_rm0 Z p1 p2 w_SOUND_EFFECTS_ENABLED h0 n0 _ T7.heap _
    rw [e7]
    exact ⟨rfl, N7⟩
set_option maxRecDepth 65536 in
set_option maxHeartbeats 40000000 in
theorem comes_1 {Post : Tables → Env → Array Value → State → Outcome → State → Prop} (hpost : ∀ tb e args s v u, (limb_1_1.after args s (.returned v) u = true ∧ limb_1_2.after args s (.returned v) u = true ∧ True) → FrameEnd s (.returned v) u (Jvm.fieldLocs frame_1_writes args s ++ Jvm.arrayLocs frame_1_arrays args s ++ Jvm.staticLocs frame_1_statics s) 0 0 → Post tb e args s (.returned v) u) :
    ArmFor flags0 classFile x code maxLocals ret World_1 tables_1 room_1 Calls_1 rest_1 Pre_1 Post := by
  intro l hfl _ _ p e ha hc hk s m args below hf hA hF happ hP
  obtain ⟨hcalls, hrest, hpre⟩ := hP
  obtain ⟨-, -, -, hnamed, -, -, -, hat⟩ := (Spec.applies_iff hf).mp happ
  obtain ⟨hg, hn⟩ := and_e (Cond.before_iff.mp (show (Jvm.Cond.and given_1 narrow_1).before args s = true from hpre))
  obtain ⟨gc, gr0⟩ := and_e hg
  obtain ⟨ga0, gr1⟩ := and_e gr0
  obtain ⟨w0, w1, rfl⟩ : ∃ w0 w1 : Value, args = #[w0, w1] := by
    have hs : args.size = 2 := by simpa [Cond.value, given_1] using gc
    obtain ⟨L⟩ := args
    match L, hs with
    | [w0, w1], _ => exact ⟨w0, w1, rfl⟩
  have hw := fun d (hd : d ∈ tables_1) => atoms_spec (ws := Jvm.Cond.code x code maxLocals ret :: tables_1) hat d (List.mem_cons_of_mem _ hd)
  have W := fun (i : Nat) {d : Jvm.Cond} (h : tables_1[i]? = some d) => hw d (List.mem_of_getElem? h)
  obtain ⟨i0, ei0⟩ := is_v ga0
  obtain rfl : w0 = (.int i0) := Option.some.inj ei0
  obtain ⟨i1, ei1⟩ := is_v gr1
  obtain rfl : w1 = (.int i1) := Option.some.inj ei1
  obtain ⟨c0, cr0⟩ := and_e hn
  obtain ⟨c1, cr1⟩ := and_e cr0
  obtain ⟨c2, cr2⟩ := and_e cr1
  have c3 := cr2
  obtain ⟨w_SOUND_EFFECTS_ENABLED, S_w_SOUND_EFFECTS_ENABLED, E_w_SOUND_EFFECTS_ENABLED, ev_w_SOUND_EFFECTS_ENABLED⟩ := own_static c0 (Or.inr ⟨(W 1 rfl), (W 2 rfl)⟩)
  have F_w_SOUND_EFFECTS_ENABLED_min := own_field ev_w_SOUND_EFFECTS_ENABLED c1
  have F_w_SOUND_EFFECTS_ENABLED_max := own_field ev_w_SOUND_EFFECTS_ENABLED c2
  have F_w_SOUND_EFFECTS_ENABLED_defaultValue := own_field ev_w_SOUND_EFFECTS_ENABLED c3
  obtain ⟨n, o, h1, h2, h3, _, L, rfl, ⟨rfl, N⟩, hq⟩ := rm0 l s _ hw tables_1 i0 i1 w_SOUND_EFFECTS_ENABLED s.heap s.heap.size (Old.start s) S_w_SOUND_EFFECTS_ENABLED E_w_SOUND_EFFECTS_ENABLED F_w_SOUND_EFFECTS_ENABLED_min F_w_SOUND_EFFECTS_ENABLED_max F_w_SOUND_EFFECTS_ENABLED_defaultValue p e ha hc hk s m _ below hf ((Spec.applies_iff_loose hf).mp happ).1 ⟨rfl, State.Warmed39.refl s, rfl⟩ trivial
  refine ⟨n, _, h1, h2, h3, hpost _ _ _ _ _ _ ⟨Cond.after_iff.mpr rfl, Cond.after_iff.mpr (eq_i res_at (Term.int_eval (1)) rfl), trivial⟩ ⟨hq.1, hq.2.1, (hq.2.2.sift fun y hy => Or.inr (N y hy)).mono (by decide) (by decide)⟩⟩
theorem main_1_1 : Claimed_1_1 := comes_1 fun _ _ _ _ _ _ h hF => ⟨h.1, hF⟩
theorem main_1_2 : Claimed_1_2 := comes_1 fun _ _ _ _ _ _ h hF => ⟨h.2.1, hF⟩
end Jvm.Pilot.@@N@@
namespace Jvm.Pilot.@@N@@
open Jvm Jvm.ClassFile Sem Op Lib Jvm.Free Jvm.Stand Jvm.Pilot.@@N@@.Jvm.D
/-! MADE BY PROGRAM (witnessworld.py) out of the Statement's table words and the real class files: 12 classes; the members and pool entries that the words name. The judged class is class 1, her method 2. -/
namespace start1
open Jvm.ClassFile
def u (s : String) : CpInfo := .utf8 (stringToUtf16 s)
/-- a pool by its gaps: so many unusable entries, then the entry; so many at the end -/
def gap : Nat → List CpInfo → List CpInfo
  | 0, r => r
  | n + 1, r => .unusable :: gap n r
def poolList (es : List (Nat × CpInfo)) (last : Nat) : List CpInfo := es.foldr (fun e r => gap e.1 (e.2 :: r)) (gap last [])
def pool (es : List (Nat × CpInfo)) (last : Nat) : Array CpInfo := ⟨poolList es last⟩
def fileOf (pool : Array CpInfo) (this : Nat) (attrs : Array Attribute := #[]) (ms : Array MethodInfo := #[]) (fl : Nat := 33) (sup : Nat := 0) (ifs : Array Nat := #[]) (fds : Array FieldInfo := #[]) : ClassFile where
  minorVersion := 0
  majorVersion := 65
  constantPool := pool
  accessFlags := fl
  thisClass := this
  superClass := sup
  interfaces := ifs
  fields := fds
  methods := ms
  attributes := attrs
def plain (name : String) (sup : Option ClassId) : Class where
  name := name
  kind := .ordinary
  loader := none
  accessFlags := 33
  super := sup
  interfaces := #[]
  cf := none
  fields := #[]
  methods := #[]
  instanceTypes := #[]
  staticTypes := #[]
  resolved := #[]
  callSites := []
  init := .initialized
  statics := none
  mirror := none

def pool0 : Array CpInfo := pool [(5, u "<init>"), (0, u "()V"), (1, .class_ 10), (1, u "java/lang/Object")] 113

def k0m0 : Method := { name := "<init>", desc := "()V", sig := { parameters := [], returnType := none }, accessFlags := 1, code := none }
/-- java/lang/Object -/
def k0 : Class := { plain "java/lang/Object" none with
  accessFlags := 33
  interfaces := #[]
  cf := some (fileOf pool0 8 #[] #[{ accessFlags := 1, nameIndex := 5, descriptorIndex := 6, attributes := #[] }] 33 0 #[] #[])
  fields := #[]
  methods := #[k0m0]
  instanceTypes := #[]
  staticTypes := #[]
  resolved := Array.replicate 124 none
  statics := none }

def pool1 : Array CpInfo := pool [(2, .class_ 4), (1, u "java/lang/Object"), (0, u "<init>"), (0, u "()V"), (0, .fieldref 8 9), (0, .class_ 10), (0, .nameAndType 11 12), (0, u "com/example/anole/anole/device/Setting"), (0, u "SOUND_EFFECTS_ENABLED"), (0, u "Lcom/example/anole/anole/device/Setting;"), (0, .methodref 8 14), (0, .nameAndType 15 16), (0, u "takes"), (0, u "(I)Z"), (0, .methodref 18 19), (0, .class_ 20), (0, .nameAndType 21 16), (0, u "com/example/anole/anole/device/SettingTakesPinLaw"), (0, u "documented"), (0, .methodref 8 23), (0, .nameAndType 24 25), (0, u "defaultValue"), (0, u "()I"), (3, u "law"), (0, u "(II)Z")] 2

def k1m0 : Method := { name := "<init>", desc := "()V", sig := { parameters := [], returnType := none }, accessFlags := 2, code := none }
def k1c1 : Code := { maxStack := 2, maxLocals := 1, code := method_2_code, exceptionTable := #[], attributes := #[] }
def k1m1 : Method := { name := "documented", desc := "(I)Z", sig := { parameters := [.int], returnType := some .boolean }, accessFlags := 10, code := some k1c1 }
def k1c2 : Code := { maxStack := 2, maxLocals := 7, code := code, exceptionTable := #[], attributes := #[] }
def k1m2 : Method := { name := "law", desc := "(II)Z", sig := { parameters := [.int, .int], returnType := some .boolean }, accessFlags := 9, code := some k1c2 }
/-- com/example/anole/anole/device/SettingTakesPinLaw -/
def k1 : Class := { plain "com/example/anole/anole/device/SettingTakesPinLaw" (some 0) with
  accessFlags := 49
  interfaces := #[]
  cf := some (fileOf pool1 18 #[] #[{ accessFlags := 2, nameIndex := 5, descriptorIndex := 6, attributes := #[] }, { accessFlags := 10, nameIndex := 21, descriptorIndex := 16, attributes := #[] }, { accessFlags := 9, nameIndex := 29, descriptorIndex := 30, attributes := #[] }] 49 2 #[] #[])
  fields := #[]
  methods := #[k1m0, k1m1, k1m2]
  instanceTypes := #[]
  staticTypes := #[]
  resolved := Array.replicate 33 none
  statics := none }

def pool2 : Array CpInfo := pool [(1, .class_ 2), (0, u "java/lang/constant/Constable"), (0, .class_ 4), (0, u "java/lang/Object")] 6

/-- java/lang/constant/Constable -/
def k2 : Class := { plain "java/lang/constant/Constable" (some 0) with
  accessFlags := 1537
  interfaces := #[]
  cf := some (fileOf pool2 1 #[] #[] 1537 3 #[] #[])
  fields := #[]
  methods := #[]
  instanceTypes := #[]
  staticTypes := #[]
  resolved := Array.replicate 11 none
  statics := none }

def pool3 : Array CpInfo := pool [(1, .class_ 2), (0, u "java/lang/Comparable"), (0, .class_ 4), (0, u "java/lang/Object")] 7

/-- java/lang/Comparable -/
def k3 : Class := { plain "java/lang/Comparable" (some 0) with
  accessFlags := 1537
  interfaces := #[]
  cf := some (fileOf pool3 1 #[] #[] 1537 3 #[] #[])
  fields := #[]
  methods := #[]
  instanceTypes := #[]
  staticTypes := #[]
  resolved := Array.replicate 12 none
  statics := none }

def pool4 : Array CpInfo := pool [(1, .class_ 2), (0, u "java/io/Serializable"), (0, .class_ 4), (0, u "java/lang/Object")] 2

/-- java/io/Serializable -/
def k4 : Class := { plain "java/io/Serializable" (some 0) with
  accessFlags := 1537
  interfaces := #[]
  cf := some (fileOf pool4 1 #[] #[] 1537 3 #[] #[])
  fields := #[]
  methods := #[]
  instanceTypes := #[]
  staticTypes := #[]
  resolved := Array.replicate 7 none
  statics := none }

def pool5 : Array CpInfo := pool [(2, .class_ 4), (1, u "java/lang/Enum"), (0, u "name"), (0, u "Ljava/lang/String;"), (2, u "ordinal"), (0, u "I"), (1, .class_ 14), (1, u "java/lang/Object"), (4, u "hash"), (86, .class_ 108), (1, u "java/lang/Enum$EnumDesc"), (2, .class_ 112), (0, u "java/lang/constant/Constable"), (0, .class_ 114), (0, u "java/lang/Comparable"), (0, .class_ 116), (0, u "java/io/Serializable")] 87

/-- java/lang/Enum -/
def k5 : Class := { plain "java/lang/Enum" (some 0) with
  accessFlags := 1057
  interfaces := #[2, 3, 4]
  cf := some (fileOf pool5 2 #[.nestMembers #[106]] #[] 1057 12 #[111, 113, 115] #[{ accessFlags := 18, nameIndex := 5, descriptorIndex := 6, attributes := #[] }, { accessFlags := 18, nameIndex := 9, descriptorIndex := 10, attributes := #[] }, { accessFlags := 2, nameIndex := 19, descriptorIndex := 10, attributes := #[] }])
  fields := #[{ name := "name", type := (.object "java/lang/String"), accessFlags := 18, slot := 0, constantValue := 0 }, { name := "ordinal", type := .int, accessFlags := 18, slot := 1, constantValue := 0 }, { name := "hash", type := .int, accessFlags := 2, slot := 2, constantValue := 0 }]
  methods := #[]
  instanceTypes := #[(.object "java/lang/String"), .int, .int]
  staticTypes := #[]
  resolved := Array.replicate 204 none
  statics := none }

def pool6 : Array CpInfo := pool [(1, .class_ 2), (0, u "com/example/anole/anole/device/Setting"), (2, u "SOUND_EFFECTS_ENABLED"), (0, u "Lcom/example/anole/anole/device/Setting;"), (2, u "$VALUES"), (0, u "[Lcom/example/anole/anole/device/Setting;"), (6, .class_ 19), (1, u "java/lang/Enum"), (8, u "table"), (0, u "Ljava/lang/String;"), (2, u "settingName"), (0, .fieldref 1 34), (0, .nameAndType 35 36), (0, u "defaultValue"), (0, u "I"), (0, .fieldref 1 38), (0, .nameAndType 39 36), (0, u "min"), (0, .fieldref 1 41), (0, .nameAndType 42 36), (0, u "max"), (6, u "key"), (44, u "()I"), (24, u "takes"), (0, u "(I)Z")] 26

def k6c0 : Code := { maxStack := 1, maxLocals := 1, code := prog_82_method_5_code, exceptionTable := #[], attributes := #[] }
def k6m0 : Method := { name := "defaultValue", desc := "()I", sig := { parameters := [], returnType := some .int }, accessFlags := 0, code := some k6c0 }
def k6c1 : Code := { maxStack := 2, maxLocals := 2, code := prog_82_method_6_code, exceptionTable := #[], attributes := #[] }
def k6m1 : Method := { name := "takes", desc := "(I)Z", sig := { parameters := [.int], returnType := some .boolean }, accessFlags := 0, code := some k6c1 }
/-- com/example/anole/anole/device/Setting -/
def k6 : Class := { plain "com/example/anole/anole/device/Setting" (some 5) with
  accessFlags := 16432
  interfaces := #[]
  cf := some (fileOf pool6 1 #[] #[{ accessFlags := 0, nameIndex := 35, descriptorIndex := 94, attributes := #[] }, { accessFlags := 0, nameIndex := 119, descriptorIndex := 120, attributes := #[] }] 16432 17 #[] #[{ accessFlags := 16409, nameIndex := 5, descriptorIndex := 6, attributes := #[] }, { accessFlags := 18, nameIndex := 28, descriptorIndex := 29, attributes := #[] }, { accessFlags := 18, nameIndex := 32, descriptorIndex := 29, attributes := #[] }, { accessFlags := 18, nameIndex := 35, descriptorIndex := 36, attributes := #[] }, { accessFlags := 18, nameIndex := 39, descriptorIndex := 36, attributes := #[] }, { accessFlags := 18, nameIndex := 42, descriptorIndex := 36, attributes := #[] }, { accessFlags := 18, nameIndex := 49, descriptorIndex := 29, attributes := #[] }, { accessFlags := 4122, nameIndex := 9, descriptorIndex := 10, attributes := #[] }])
  fields := #[{ name := "SOUND_EFFECTS_ENABLED", type := (.object "com/example/anole/anole/device/Setting"), accessFlags := 16409, slot := 0, constantValue := 0 }, { name := "table", type := (.object "java/lang/String"), accessFlags := 18, slot := 3, constantValue := 0 }, { name := "settingName", type := (.object "java/lang/String"), accessFlags := 18, slot := 4, constantValue := 0 }, { name := "defaultValue", type := .int, accessFlags := 18, slot := 5, constantValue := 0 }, { name := "min", type := .int, accessFlags := 18, slot := 6, constantValue := 0 }, { name := "max", type := .int, accessFlags := 18, slot := 7, constantValue := 0 }, { name := "key", type := (.object "java/lang/String"), accessFlags := 18, slot := 8, constantValue := 0 }, { name := "$VALUES", type := (.array (.object "com/example/anole/anole/device/Setting")), accessFlags := 4122, slot := 1, constantValue := 0 }]
  methods := #[k6m0, k6m1]
  instanceTypes := #[(.object "java/lang/String"), .int, .int, (.object "java/lang/String"), (.object "java/lang/String"), .int, .int, .int, (.object "java/lang/String")]
  staticTypes := #[(.object "com/example/anole/anole/device/Setting"), (.array (.object "com/example/anole/anole/device/Setting"))]
  resolved := Array.replicate 147 none
  statics := some 0 }

def pool7 : Array CpInfo := pool [(1, u "java/lang/Cloneable"), (0, .class_ 1), (0, u "java/lang/Object"), (0, .class_ 3)] 3

/-- java/lang/Cloneable -/
def k7 : Class := { plain "java/lang/Cloneable" (some 0) with
  accessFlags := 1537
  interfaces := #[]
  cf := some (fileOf pool7 2 #[] #[] 1537 4 #[] #[])
  fields := #[]
  methods := #[]
  instanceTypes := #[]
  staticTypes := #[]
  resolved := Array.replicate 8 none
  statics := none }

/-- the primitive byte -/
def k8 : Class := { plain "byte" none with kind := .primitive 'B', accessFlags := 0x411 }
/-- [B -/
def k9 : Class := { plain "[B" (some 0) with kind := .array 8 .byte, interfaces := #[7, 4], accessFlags := 1041 }

/-- the primitive int -/
def k10 : Class := { plain "int" none with kind := .primitive 'I', accessFlags := 0x411 }
/-- [I -/
def k11 : Class := { plain "[I" (some 0) with kind := .array 10 .int, interfaces := #[7, 4], accessFlags := 1041 }

def heap : Heap := #[{ cls := 6, slots := #[.ref 1, .null], vm := .statics 6 },
  { cls := 6, slots := #[.null, .int 0, .int 0, .null, .null, .int 1, .int 0, .int 1, .null], vm := .none }]
def classes : Array Class := #[k0, k1, k2, k3, k4, k5, k6, k7, k8, k9, k10, k11]
def interned : List (Array UInt16 × Addr) := []
def slotsUsed : Nat := 11
def theMethod : MethodId := ⟨1, 2⟩
def args0 : Array Value := #[.int 5, .int 3]
def aboutOver (below : List Frame) : State where
  vm := { classes := classes, interned := interned.toArray }
  heap := heap
  slotsUsed := slotsUsed
  threads := #[{ frames := .invoking theMethod args0 :: below }]
def below0 : List Frame := [.native { method := ⟨0, 0⟩, args := #[] }]
def about1 : State := aboutOver below0
def p0 : Program := .bare "" "" ""
def e0 : Env := launch0.env 0 0 0
theorem w_frames : about1.frames = Frame.invoking theMethod args0 :: below0 := rfl
set_option maxRecDepth 65536 in
theorem w_args : argsFit about1.vm theMethod args0 = true := by decide +kernel
set_option maxRecDepth 65536 in
theorem w_heap : heapFits about1 = true := by decide +kernel
set_option maxRecDepth 65536 in
theorem w_runnable : about1.curStatus? = some .runnable := by decide +kernel
set_option maxRecDepth 65536 in
theorem w_alone : about1.alone = true := by decide +kernel
set_option maxRecDepth 65536 in
theorem w_named : about1.methodNamed? x = some theMethod := by decide +kernel
set_option maxRecDepth 65536 in
theorem w_hears : about1.hears theMethod below0 = true := by decide +kernel
set_option maxRecDepth 65536 in
theorem w_ripe : about1.ripe theMethod args0 below0 = true := by decide +kernel
theorem w_running : about1.status = .running := rfl
set_option maxRecDepth 65536 in
theorem w_room : about1.hasRoom e0.platform room_1 = true :=
  launch0.hasRoom_least _ room_1 (by decide +kernel) (by decide +kernel) (by decide +kernel) (by decide +kernel) (by decide +kernel) (by decide +kernel)
theorem allAtoms_all (ts : List Jvm.Cond) (a : Array Jvm.Value) (st : Jvm.State) : (allAtoms ts).before a st = ts.all (fun c => c.before a st) := by
  induction ts with
  | nil => rfl
  | cons c t ih =>
    show (Jvm.Cond.and c (allAtoms t)).before a st = _
    rw [Jvm.Cond.before_and, ih, List.all_cons]
def words1 : List Jvm.Cond := Jvm.Cond.code x code maxLocals ret :: tables_1
/-- a 'code' word, met by the world's own term for the bytes: nothing is compared byte by byte -/
theorem code_word {y : MethodName} {bytes : ByteArray} {mx : Nat} {rt : Option FieldType} {a : Array Value} {s : State} {m : MethodId} {meth : Method} {c : Code} (h1 : s.methodNamed? y = some m) (h2 : s.vm.method? m = some meth) (h3 : meth.code = some c) (h4 : c.code = bytes)
    (h5 : (c.maxLocals == mx && c.exceptionTable.isEmpty && decide (c.maxStack ≤ mostOperands) && decide (meth.sig.returnType = rt) && !meth.locks && decide (parseMethodDescriptor y.desc = some meth.sig)) = true) : (Jvm.Cond.code y bytes mx rt).before a s = true := by
  simp only [Bool.and_eq_true, beq_iff_eq, Bool.not_eq_true', decide_eq_true_eq] at h5
  obtain ⟨⟨⟨⟨⟨g1, g2⟩, g3⟩, g4⟩, g5⟩, g6⟩ := h5
  simp [Cond.before, Cond.holds, Cond.value, h1, h2, h3, h4, g1, g2, g3, g4, g5, g6]
def isCode : Jvm.Cond → Bool
  | .code _ _ _ _ => true
  | _ => false
theorem all_split {L : List Jvm.Cond} {P : Jvm.Cond → Bool} (h1 : L.all (fun c => isCode c || P c) = true) (h2 : ∀ c ∈ L.filter isCode, P c = true) : L.all P = true := by
  refine List.all_eq_true.mpr fun c hc => ?_
  have h := List.all_eq_true.mp h1 c hc
  rcases Bool.eq_false_or_eq_true (isCode c) with hi | hi
  · exact h2 c (List.mem_filter.mpr ⟨hc, hi⟩)
  · simpa [hi] using h
set_option maxRecDepth 65536 in
theorem w_c0 : (Jvm.Cond.code x code maxLocals ret).before args0 about1 = true := code_word (m := ⟨1, 2⟩) (meth := k1m2) (c := k1c2) (by decide +kernel) rfl rfl rfl (by decide +kernel)
set_option maxRecDepth 65536 in
theorem w_c1 : (Jvm.Cond.code ({ cls := "com/example/anole/anole/device/Setting", name := "takes", desc := "(I)Z" } : Jvm.MethodName) prog_82_method_6_code (2 : Nat) (Option.some Jvm.ClassFile.FieldType.boolean)).before args0 about1 = true := code_word (m := ⟨6, 1⟩) (meth := k6m1) (c := k6c1) (by decide +kernel) rfl rfl rfl (by decide +kernel)
set_option maxRecDepth 65536 in
theorem w_c2 : (Jvm.Cond.code ({ cls := "com/example/anole/anole/device/SettingTakesPinLaw", name := "documented", desc := "(I)Z" } : Jvm.MethodName) method_2_code (1 : Nat) (Option.some Jvm.ClassFile.FieldType.boolean)).before args0 about1 = true := code_word (m := ⟨1, 1⟩) (meth := k1m1) (c := k1c1) (by decide +kernel) rfl rfl rfl (by decide +kernel)
set_option maxRecDepth 65536 in
theorem w_c3 : (Jvm.Cond.code ({ cls := "com/example/anole/anole/device/Setting", name := "defaultValue", desc := "()I" } : Jvm.MethodName) prog_82_method_5_code (1 : Nat) (Option.some Jvm.ClassFile.FieldType.int)).before args0 about1 = true := code_word (m := ⟨6, 0⟩) (meth := k6m0) (c := k6c0) (by decide +kernel) rfl rfl rfl (by decide +kernel)
def codes1 : List Jvm.Cond := [Jvm.Cond.code x code maxLocals ret, Jvm.Cond.code ({ cls := "com/example/anole/anole/device/Setting", name := "takes", desc := "(I)Z" } : Jvm.MethodName) prog_82_method_6_code (2 : Nat) (Option.some Jvm.ClassFile.FieldType.boolean), Jvm.Cond.code ({ cls := "com/example/anole/anole/device/SettingTakesPinLaw", name := "documented", desc := "(I)Z" } : Jvm.MethodName) method_2_code (1 : Nat) (Option.some Jvm.ClassFile.FieldType.boolean), Jvm.Cond.code ({ cls := "com/example/anole/anole/device/Setting", name := "defaultValue", desc := "()I" } : Jvm.MethodName) prog_82_method_5_code (1 : Nat) (Option.some Jvm.ClassFile.FieldType.int)]
set_option maxRecDepth 65536 in
theorem codes_eq : words1.filter isCode = codes1 := rfl
theorem w_codes : ∀ c ∈ words1.filter isCode, c.before args0 about1 = true := by
  rw [codes_eq]
  intro c hc
  simp only [codes1, List.mem_cons, List.not_mem_nil, or_false] at hc
  rcases hc with rfl | rfl | rfl | rfl
  · exact w_c0
  · exact w_c1
  · exact w_c2
  · exact w_c3
set_option maxRecDepth 65536 in
theorem w_t1 : words1.all (fun c => isCode c || c.before args0 about1) = true := by decide +kernel
theorem w_tables : (allAtoms (Jvm.Cond.code x code maxLocals ret :: tables_1)).before args0 about1 = true := by
  rw [allAtoms_all]
  show words1.all (fun c => c.before args0 about1) = true
  refine all_split ?_ w_codes
  rw [w_t1]
set_option maxRecDepth 65536 in
theorem w_case : (Jvm.Cond.and given_1 narrow_1).before args0 about1 = true := by decide +kernel
theorem w_applies : (headSpec (Jvm.Cond.code x code maxLocals ret :: tables_1) room_1).applies x e0.platform about1 = true :=
  (Spec.applies_iff w_frames).mpr ⟨w_running, w_runnable, w_alone, w_named, w_hears, w_ripe, w_room, w_tables⟩
theorem atStart : AtStart classFile x code maxLocals ret World_1 tables_1 room_1 Calls_1 rest_1 Pre_1 launch0 p0 e0 about1 theMethod args0 below0 :=
  ⟨lists_1, trivial, launch0.admits_env _ _ _, launch0.least_env, fairChoices_fair.cas, fairChoices_fair.clock, w_frames, w_args, w_heap, w_applies, trivial, trivial, w_case⟩
end start1
theorem witness_1 : WitnessClaimed_1 := ⟨start1.p0, start1.e0, start1.about1, start1.theMethod, start1.args0, start1.below0, start1.atStart⟩
end Jvm.Pilot.@@N@@
