import JvmDerived
import JvmDerived.Pilot.@@N@@Statement
import JvmDerived.Pilot.@@N@@Code
set_option linter.unusedVariables false
set_option linter.unusedSimpArgs false
namespace Jvm.RoadKit
open Sem ClassFile Op Lib Jvm.Stand Jvm.Free Jvm.LawKit
section New
variable {p : Program} {l : Launch} {e : Env} {R : Room} {s : State} {m : MethodId} {args : Array Value} {below : List Frame} {meth : Method} {c : Code} {T : State} {locs : List Loc} {cells slots : Nat}
theorem retI (X : Stand p l e R s m args below meth c T locs cells slots) (hx : p.tables.exec = Jvm.exec) {pc : Nat} {Ls : Array Slot} {z : Int32} {rest : List Value} (hret : meth.sig.returnType = some .int) (hd : decode c.code pc = .ok (.ireturn, 1)) {fs : List Frame}
    (hl : ∀ (f : JFrame) (acts : List Action), f.method = m → f.locked = none → f.entered = [] → (doReturn e (T.setTop f) acts (some (.int z))).1 = T.setFrames fs) : Steps p.tables e below (T.setTop (mkF m pc Ls (.int z :: rest))) (T.setFrames fs) := by
  have hm' : T.vm.method? m = some meth := X.method'
  have hn : narrow .int (.int z) = .int z := rfl
  show Steps p.tables e below (T.setTop { method := m, pc := pc, locals := Ls, stack := _ :: rest, locked := none }) _
  jvm_step X.here [X.here.top, hx, hd, hm', hret, hn]
  first | (intro acts; rw [hl _ acts rfl rfl rfl]) | rw [hl _ _ rfl rfl rfl]
  exact Steps.refl _
abbrev Sq (p : Program) (e : Env) (below : List Frame) (m : MethodId) (T : State) (pc : Nat) (L : Array Slot) (S : List Value) (t : State) : Prop := Steps p.tables e below (T.setTop (mkF m pc L S)) t
abbrev Ctr (l : Launch) (Z : State) (y : MethodName) (b : ByteArray) (ml : Nat) (rt : Option FieldType) (ws : List Cond) (rm : Room) (as' : Array Value) (h0 : Heap) (Q : Option Value → Heap → List Loc → Prop) : Prop :=
  MetFree l y (head1 (Cond.code y b ml rt :: ws) rm) (fun a U => a = as' ∧ Z.Warmed39 U.vm ∧ U.heap = h0) (fun _ _ _ _ _ => True) (fun _ U o U' => ∃ v L, o = .returned v ∧ Q v U'.heap L ∧ FrameEnd U o U' L rm.cells rm.slots)
theorem own_sz {Z : State} {n0 : Nat} {h : Heap} (O : Old Z n0 h) : n0 ≤ h.size := O.1 ▸ O.2.1
theorem own_selpriv {Z s : State} {a0 args : Array Value} {y : MethodName} {n : Nat} (hZ : Z.Warmed39 s.vm) (wi : (Cond.instantiable y.cls n).before a0 Z = true) (wm : (Cond.instanceMethod y).before a0 Z = true) (wp : (Cond.privateMethod y).before a0 Z = true) (hy : y.cls ≠ "java/lang/invoke/MethodHandle" ∧ y.cls ≠ "java/lang/invoke/VarHandle") : (Cond.selects y.cls y y).before args s = true := by
  obtain ⟨c, k, h1, h2, -, h4, -⟩ := Cond.instantiable_spec (mv (args := args) hZ wi)
  have hk : k.isInterface = false := by cases h : k.isInterface <;> simp_all
  exact selects_self_of_private h1 h2 hk (Cond.privateMethod_at (mvP hZ wp (args := args))) (mv hZ wm) hy
theorem own_fldinj {Z : State} {h : Heap} {a : Addr} {C n d : String} {v w : Value} (F : Fld Z h a C n d v) (G : Fld Z h a C n d w) : v = w := by
  obtain ⟨c1, cf, k, i, f, h1, h2, -, -, -, -, h3⟩ := F
  obtain ⟨c2, cf2, k2, i2, f2, g1, g2, -, -, -, -, g3⟩ := G
  cases h1.symm.trans g1
  cases h2.symm.trans g2
  exact Option.some.inj (h3.symm.trans g3)
theorem own_ne {Z : State} {h : Heap} {a b : Addr} {C n d : String} {v w : Value} (F : Fld Z h a C n d v) (G : Fld Z h b C n d w) (q : v ≠ w) : a ≠ b := fun e => by
  subst e; exact q (own_fldinj F G)
theorem own_static {s : State} {args : Array Value} {C f d K : String} (h : (Cond.exactly (Term.static C f d) K).value args s none s [] = some true) (hi : (Cond.initializedFor C f d).before args s = true ∨ ((Cond.initialized C).before args s = true ∧ (Cond.laysStatic C f d).before args s = true)) :
    ∃ w, Sta s s.heap C f d (.ref w) ∧ Exa s s.heap w K ∧ (Term.static C f d).eval args s none [] s = some (.ref w) := by
  obtain ⟨w, ev⟩ := exa_v h
  exact ⟨w, Sta.start ev hi, Exa.start ev h, ev⟩
theorem own_field {s : State} {args : Array Value} {t : Term} {w : Addr} {O f d : String} {n : Int32} (ev : t.eval args s none [] s = some (.ref w)) (h : (Cond.eq (Term.field t O f d) (Term.int n)).value args s none s [] = some true) : Fld s s.heap w O f d (.int n) := by
  have q := eqv_i (Term.int_eval n) h
  rw [fld_at ev] at q
  exact Fld.start q
theorem own_fldR {s : State} {args : Array Value} {t : Term} {w : Addr} {O f d : String} {v : Value} (ev : t.eval args s none [] s = some (.ref w)) (h : (Term.field t O f d).eval args s none [] s = some v) : Fld s s.heap w O f d v := Fld.start ((fld_at ev).symm.trans h)
theorem own_eqR {s : State} {args : Array Value} {a b : Term} {y : Addr} (hb : b.eval args s none [] s = some (.ref y)) (h : (Cond.eq a b).value args s none s [] = some true) : a.eval args s none [] s = some (.ref y) :=
  Cond.eq_refs (by simp [Cond.holds, h]) hb rfl
theorem own_len {s : State} {args : Array Value} {t : Term} {a : Addr} {c : Cell} {ty : FieldType} {n : Int32} (ev : t.eval args s none [] s = some (.ref a)) (A : Arr s s.heap a c ty) (h : (Cond.eq (Term.length t) (Term.int n)).value args s none s [] = some true) :
    c.slots.size < 2 ^ 31 ∧ c.slots.size.toInt32 = n := by
  have q := eqv_i (Term.int_eval n) h
  have f := A.fin (Vm.Alike.refl _)
  simp [Term.eval, ev, f] at q
  exact ⟨by simpa using q.1, q.2⟩
theorem own_rem5 (x : Int32) : ((x &&& (2147483647 : Int32)) % (5 : Int32)) = (0 : Int32) ∨ ((x &&& (2147483647 : Int32)) % (5 : Int32)) = (1 : Int32) ∨ ((x &&& (2147483647 : Int32)) % (5 : Int32)) = (2 : Int32) ∨ ((x &&& (2147483647 : Int32)) % (5 : Int32)) = (3 : Int32) ∨ ((x &&& (2147483647 : Int32)) % (5 : Int32)) = (4 : Int32) := by
  have h := c_mask x 2147483647 31 (by decide) (by decide)
  have h2 := (c_irem (x &&& 2147483647) 5 5 (by decide)).1 (by omega)
  have h' : ((x &&& (2147483647 : Int32)) % (5 : Int32)).toInt = 0 ∨ ((x &&& (2147483647 : Int32)) % (5 : Int32)).toInt = 1 ∨ ((x &&& (2147483647 : Int32)) % (5 : Int32)).toInt = 2 ∨ ((x &&& (2147483647 : Int32)) % (5 : Int32)).toInt = 3 ∨ ((x &&& (2147483647 : Int32)) % (5 : Int32)).toInt = 4 := by omega
  rcases h' with q | q | q | q | q
  · exact Or.inl (Int32.toInt_inj.mp q)
  · exact Or.inr (Or.inl (Int32.toInt_inj.mp q))
  · exact Or.inr (Or.inr (Or.inl (Int32.toInt_inj.mp q)))
  · exact Or.inr (Or.inr (Or.inr (Or.inl (Int32.toInt_inj.mp q))))
  · exact Or.inr (Or.inr (Or.inr (Or.inr (Int32.toInt_inj.mp q))))
end New
end Jvm.RoadKit
namespace Jvm.Pilot.@@N@@
open Jvm Jvm.ClassFile Sem Op Lib Jvm.Free Jvm.Stand Jvm.LawKit Jvm.RoadKit Bundle Jvm.Pilot.@@N@@.Jvm.D
theorem d1_0 : decode prog_61_method_9_code 0 = .ok (.aload_n 0, 1) := by decide +kernel
theorem d1_1 : decode prog_61_method_9_code 1 = .ok (.getfield 13, 3) := by decide +kernel
theorem d1_4 : decode prog_61_method_9_code 4 = .ok (.areturn, 1) := by decide +kernel
def Q_getofferedBy (Z : State) (a : Addr) (r : Addr) (h0 : Heap) (n0 : Nat) (v : Option Value) (h : Heap) (L : List Loc) : Prop := v = some (.ref r) ∧ Fr n0 L ∧ h = h0
theorem ef_0 (m : MethodId) (x0 : Addr) : entryFrame m #[(.ref x0)] 1 = mkF m 0 #[.val (.ref x0)] [] := by first | (simp [entryFrame, mkF, argsToLocals, Value.category]; done) | rfl
theorem pn_0 : plainName "com/example/latchkey/latchkey/ScaffoldOffer" = true := by first | (simp [plainName, overriddenIn]; done) | decide +kernel
abbrev y_0 : MethodName := ⟨"com/example/latchkey/latchkey/ScaffoldOffer", "offeredBy", "()Ljava/util/Optional;"⟩
set_option maxRecDepth 65536 in
set_option maxHeartbeats 40000000 in
theorem getofferedBy (l : Launch) (Z : State) (a0 : Array Value) (hw : ∀ d ∈ tables_1, d.before a0 Z = true) (ws : List Jvm.Cond) (a : Addr) (r : Addr) (h0 : Heap) (n0 : Nat) (O : Old Z n0 h0) (Fa : Fld Z h0 a "com/example/latchkey/latchkey/ScaffoldOffer" "offeredBy" "Ljava/util/Optional;" (.ref r)) :
    Ctr l Z y_0 prog_61_method_9_code 1 (some (.object "java/util/Optional")) ws ({ frames := 0, cells := 0, slots := 0, locals := 0 } : Room) #[(.ref a)] h0 (Q_getofferedBy Z a r h0 n0) := by
  refine MetFree.of_bodySF (plainFor_of_name pn_0) hisR ?_
  intro p e s m args below meth c s₁ Bd hml0 hP hK
  obtain ⟨rfl, hZ, hh⟩ := hP
  have W := fun (i : Nat) {d : Jvm.Cond} (h : tables_1[i]? = some d) => hw d (List.mem_of_getElem? h)
  have hx := Bd.exec
  have hby := Bd.bytes
  have hml : c.maxLocals = 1 := hml0
  have hown : s.vm.findClass "com/example/latchkey/latchkey/ScaffoldOffer" = some m.cls := findClass_of_methodNamed Bd.named
  have hnm := (name_of_methodNamed Bd.named Bd.method).1
  have X0 : Stand p l e ({ frames := 0, cells := 0, slots := 0, locals := 0 } : Room) s m #[(.ref a)] below meth c s₁ [] 0 0 := Stand.of_body Bd
  have e0 : s₁.heap = h0 := by rw [← hh, Bd.state]; rfl
  have N0 := Fr.nil n0
  have pre0 : ∀ t, Steps p.tables e below (s₁.setTop (mkF m 0 #[.val (.ref a)] [])) t → Steps p.tables e below (s₁.setTop (entryFrame m #[(.ref a)] 1)) t := fun t kk_ => castTop (ef_0 m a) kk_
  obtain ⟨T1, X1, e1, st1⟩ := getF X0 hx hZ hown (host := "") (Or.inl (W 14 rfl)) Via.refl e0 Fa (g := (mkF m 1 #[rv a] [.ref a])) rfl rfl (hb hby d1_1)
  obtain ⟨fs, hr, hrun, hended, hW, hsame⟩ := X1.leave (v := some (.ref r)) (fun h => by rw [Bd.returns] at h; cases h)
  refine ⟨_, _, pre0 _ ?_, hrun, hended, _, _, rfl, ?_, ⟨_, rfl⟩, hW, hsame.mono (by decide) (by decide)⟩
  · show Sq p e below m s₁ 0 #[rv a] [] _
    refine XS.aloadN X0.here hx rfl (hb hby d1_0) rfl rfl ?_
    show Sq p e below m s₁ 1 #[rv a] [.ref a] _
    refine st1 _ ?_
    show Sq p e below m T1 4 #[rv a] [.ref r] _
    jvm_step X1.here [X1.here.top, hx, (hb hby d1_4), X1.method', Bd.returns, Value.isRef, FieldType.isReference]
    first | (intro acts; rw [hr _ acts rfl rfl rfl]) | rw [hr _ _ rfl rfl rfl]
    exact Steps.refl _
  · show Q_getofferedBy Z a r h0 n0 _ T1.heap _
    rw [e1]
    exact ⟨rfl, N0, rfl⟩
theorem d2_0 : decode prog_61_method_10_code 0 = .ok (.aload_n 0, 1) := by decide +kernel
theorem d2_1 : decode prog_61_method_10_code 1 = .ok (.getfield 17, 3) := by decide +kernel
theorem d2_4 : decode prog_61_method_10_code 4 = .ok (.areturn, 1) := by decide +kernel
def Q_getofferedAt (Z : State) (a : Addr) (r : Addr) (h0 : Heap) (n0 : Nat) (v : Option Value) (h : Heap) (L : List Loc) : Prop := v = some (.ref r) ∧ Fr n0 L ∧ h = h0
theorem ef_1 (m : MethodId) (x0 : Addr) : entryFrame m #[(.ref x0)] 1 = mkF m 0 #[.val (.ref x0)] [] := by first | (simp [entryFrame, mkF, argsToLocals, Value.category]; done) | rfl
abbrev y_1 : MethodName := ⟨"com/example/latchkey/latchkey/ScaffoldOffer", "offeredAt", "()Ljava/util/Optional;"⟩
set_option maxRecDepth 65536 in
set_option maxHeartbeats 40000000 in
theorem getofferedAt (l : Launch) (Z : State) (a0 : Array Value) (hw : ∀ d ∈ tables_1, d.before a0 Z = true) (ws : List Jvm.Cond) (a : Addr) (r : Addr) (h0 : Heap) (n0 : Nat) (O : Old Z n0 h0) (Fa : Fld Z h0 a "com/example/latchkey/latchkey/ScaffoldOffer" "offeredAt" "Ljava/util/Optional;" (.ref r)) :
    Ctr l Z y_1 prog_61_method_10_code 1 (some (.object "java/util/Optional")) ws ({ frames := 0, cells := 0, slots := 0, locals := 0 } : Room) #[(.ref a)] h0 (Q_getofferedAt Z a r h0 n0) := by
  refine MetFree.of_bodySF (plainFor_of_name pn_0) hisR ?_
  intro p e s m args below meth c s₁ Bd hml0 hP hK
  obtain ⟨rfl, hZ, hh⟩ := hP
  have W := fun (i : Nat) {d : Jvm.Cond} (h : tables_1[i]? = some d) => hw d (List.mem_of_getElem? h)
  have hx := Bd.exec
  have hby := Bd.bytes
  have hml : c.maxLocals = 1 := hml0
  have hown : s.vm.findClass "com/example/latchkey/latchkey/ScaffoldOffer" = some m.cls := findClass_of_methodNamed Bd.named
  have hnm := (name_of_methodNamed Bd.named Bd.method).1
  have X0 : Stand p l e ({ frames := 0, cells := 0, slots := 0, locals := 0 } : Room) s m #[(.ref a)] below meth c s₁ [] 0 0 := Stand.of_body Bd
  have e0 : s₁.heap = h0 := by rw [← hh, Bd.state]; rfl
  have N0 := Fr.nil n0
  have pre0 : ∀ t, Steps p.tables e below (s₁.setTop (mkF m 0 #[.val (.ref a)] [])) t → Steps p.tables e below (s₁.setTop (entryFrame m #[(.ref a)] 1)) t := fun t kk_ => castTop (ef_1 m a) kk_
  obtain ⟨T1, X1, e1, st1⟩ := getF X0 hx hZ hown (host := "") (Or.inl (W 21 rfl)) Via.refl e0 Fa (g := (mkF m 1 #[rv a] [.ref a])) rfl rfl (hb hby d2_1)
  obtain ⟨fs, hr, hrun, hended, hW, hsame⟩ := X1.leave (v := some (.ref r)) (fun h => by rw [Bd.returns] at h; cases h)
  refine ⟨_, _, pre0 _ ?_, hrun, hended, _, _, rfl, ?_, ⟨_, rfl⟩, hW, hsame.mono (by decide) (by decide)⟩
  · show Sq p e below m s₁ 0 #[rv a] [] _
    refine XS.aloadN X0.here hx rfl (hb hby d2_0) rfl rfl ?_
    show Sq p e below m s₁ 1 #[rv a] [.ref a] _
    refine st1 _ ?_
    show Sq p e below m T1 4 #[rv a] [.ref r] _
    jvm_step X1.here [X1.here.top, hx, (hb hby d2_4), X1.method', Bd.returns, Value.isRef, FieldType.isReference]
    first | (intro acts; rw [hr _ acts rfl rfl rfl]) | rw [hr _ _ rfl rfl rfl]
    exact Steps.refl _
  · show Q_getofferedAt Z a r h0 n0 _ T1.heap _
    rw [e1]
    exact ⟨rfl, N0, rfl⟩
theorem d3_0 : decode prog_61_method_11_code 0 = .ok (.aload_n 0, 1) := by decide +kernel
theorem d3_1 : decode prog_61_method_11_code 1 = .ok (.getfield 20, 3) := by decide +kernel
theorem d3_4 : decode prog_61_method_11_code 4 = .ok (.areturn, 1) := by decide +kernel
def Q_getansweredAt (Z : State) (a : Addr) (r : Addr) (h0 : Heap) (n0 : Nat) (v : Option Value) (h : Heap) (L : List Loc) : Prop := v = some (.ref r) ∧ Fr n0 L ∧ h = h0
theorem ef_2 (m : MethodId) (x0 : Addr) : entryFrame m #[(.ref x0)] 1 = mkF m 0 #[.val (.ref x0)] [] := by first | (simp [entryFrame, mkF, argsToLocals, Value.category]; done) | rfl
abbrev y_2 : MethodName := ⟨"com/example/latchkey/latchkey/ScaffoldOffer", "answeredAt", "()Ljava/util/Optional;"⟩
set_option maxRecDepth 65536 in
set_option maxHeartbeats 40000000 in
theorem getansweredAt (l : Launch) (Z : State) (a0 : Array Value) (hw : ∀ d ∈ tables_1, d.before a0 Z = true) (ws : List Jvm.Cond) (a : Addr) (r : Addr) (h0 : Heap) (n0 : Nat) (O : Old Z n0 h0) (Fa : Fld Z h0 a "com/example/latchkey/latchkey/ScaffoldOffer" "answeredAt" "Ljava/util/Optional;" (.ref r)) :
    Ctr l Z y_2 prog_61_method_11_code 1 (some (.object "java/util/Optional")) ws ({ frames := 0, cells := 0, slots := 0, locals := 0 } : Room) #[(.ref a)] h0 (Q_getansweredAt Z a r h0 n0) := by
  refine MetFree.of_bodySF (plainFor_of_name pn_0) hisR ?_
  intro p e s m args below meth c s₁ Bd hml0 hP hK
  obtain ⟨rfl, hZ, hh⟩ := hP
  have W := fun (i : Nat) {d : Jvm.Cond} (h : tables_1[i]? = some d) => hw d (List.mem_of_getElem? h)
  have hx := Bd.exec
  have hby := Bd.bytes
  have hml : c.maxLocals = 1 := hml0
  have hown : s.vm.findClass "com/example/latchkey/latchkey/ScaffoldOffer" = some m.cls := findClass_of_methodNamed Bd.named
  have hnm := (name_of_methodNamed Bd.named Bd.method).1
  have X0 : Stand p l e ({ frames := 0, cells := 0, slots := 0, locals := 0 } : Room) s m #[(.ref a)] below meth c s₁ [] 0 0 := Stand.of_body Bd
  have e0 : s₁.heap = h0 := by rw [← hh, Bd.state]; rfl
  have N0 := Fr.nil n0
  have pre0 : ∀ t, Steps p.tables e below (s₁.setTop (mkF m 0 #[.val (.ref a)] [])) t → Steps p.tables e below (s₁.setTop (entryFrame m #[(.ref a)] 1)) t := fun t kk_ => castTop (ef_2 m a) kk_
  obtain ⟨T1, X1, e1, st1⟩ := getF X0 hx hZ hown (host := "") (Or.inl (W 28 rfl)) Via.refl e0 Fa (g := (mkF m 1 #[rv a] [.ref a])) rfl rfl (hb hby d3_1)
  obtain ⟨fs, hr, hrun, hended, hW, hsame⟩ := X1.leave (v := some (.ref r)) (fun h => by rw [Bd.returns] at h; cases h)
  refine ⟨_, _, pre0 _ ?_, hrun, hended, _, _, rfl, ?_, ⟨_, rfl⟩, hW, hsame.mono (by decide) (by decide)⟩
  · show Sq p e below m s₁ 0 #[rv a] [] _
    refine XS.aloadN X0.here hx rfl (hb hby d3_0) rfl rfl ?_
    show Sq p e below m s₁ 1 #[rv a] [.ref a] _
    refine st1 _ ?_
    show Sq p e below m T1 4 #[rv a] [.ref r] _
    jvm_step X1.here [X1.here.top, hx, (hb hby d3_4), X1.method', Bd.returns, Value.isRef, FieldType.isReference]
    first | (intro acts; rw [hr _ acts rfl rfl rfl]) | rw [hr _ _ rfl rfl rfl]
    exact Steps.refl _
  · show Q_getansweredAt Z a r h0 n0 _ T1.heap _
    rw [e1]
    exact ⟨rfl, N0, rfl⟩
theorem d6_0 : decode jdk_22_method_1_code 0 = .ok (.aload_n 0, 1) := by decide +kernel
theorem d6_1 : decode jdk_22_method_1_code 1 = .ok (.invokespecial 1, 3) := by decide +kernel
theorem d6_4 : decode jdk_22_method_1_code 4 = .ok (.return_, 1) := by decide +kernel
def Q_acinit (Z : State) (a : Addr) (h0 : Heap) (n0 : Nat) (v : Option Value) (h : Heap) (L : List Loc) : Prop := v = none ∧ Fr n0 L ∧ h = h0
theorem ef_3 (m : MethodId) (x0 : Addr) : entryFrame m #[(.ref x0)] 1 = mkF m 0 #[.val (.ref x0)] [] := by first | (simp [entryFrame, mkF, argsToLocals, Value.category]; done) | rfl
theorem pn_1 : plainName "java/util/AbstractCollection" = true := by first | (simp [plainName, overriddenIn]; done) | decide +kernel
abbrev y_3 : MethodName := ⟨"java/util/AbstractCollection", "<init>", "()V"⟩
set_option maxRecDepth 65536 in
set_option maxHeartbeats 40000000 in
theorem acinit (l : Launch) (Z : State) (a0 : Array Value) (hw : ∀ d ∈ tables_1, d.before a0 Z = true) (ws : List Jvm.Cond) (a : Addr) (h0 : Heap) (n0 : Nat) (O : Old Z n0 h0) :
    Ctr l Z y_3 jdk_22_method_1_code 1 none ws ({ frames := 1, cells := 0, slots := 0, locals := 12 } : Room) #[(.ref a)] h0 (Q_acinit Z a h0 n0) := by
  refine MetFree.of_bodySF (plainFor_of_name pn_1) hisR ?_
  intro p e s m args below meth c s₁ Bd hml0 hP hK
  obtain ⟨rfl, hZ, hh⟩ := hP
  have W := fun (i : Nat) {d : Jvm.Cond} (h : tables_1[i]? = some d) => hw d (List.mem_of_getElem? h)
  have hx := Bd.exec
  have hby := Bd.bytes
  have hml : c.maxLocals = 1 := hml0
  have hown : s.vm.findClass "java/util/AbstractCollection" = some m.cls := findClass_of_methodNamed Bd.named
  have hnm := (name_of_methodNamed Bd.named Bd.method).1
  have X0 : Stand p l e ({ frames := 1, cells := 0, slots := 0, locals := 12 } : Room) s m #[(.ref a)] below meth c s₁ [] 0 0 := Stand.of_body Bd
  have e0 : s₁.heap = h0 := by rw [← hh, Bd.state]; rfl
  have N0 := Fr.nil n0
  have pre0 : ∀ t, Steps p.tables e below (s₁.setTop (mkF m 0 #[.val (.ref a)] [])) t → Steps p.tables e below (s₁.setTop (entryFrame m #[(.ref a)] 1)) t := fun t kk_ => castTop (ef_3 m a) kk_
  obtain ⟨T1, X1, e1, st1⟩ := initO X0 hx hZ hown (W 48 rfl) (W 49 rfl) (W 50 rfl) e0 (g := (mkF m 1 #[rv a] [.ref a])) rfl (by rw [hml]; rfl) rfl (hb hby d6_1) (by decide) (W := 0) (by show 2 * 0 + _ ≤ _; exact Nat.le_of_eq rfl) (by decide)
  obtain ⟨fs, hr, hrun, hended, hW, hsame⟩ := X1.leave (v := none) (fun _ => rfl)
  refine ⟨_, _, pre0 _ ?_, hrun, hended, _, _, rfl, ?_, ⟨_, rfl⟩, hW, hsame.mono (by decide) (by decide)⟩
  · show Sq p e below m s₁ 0 #[rv a] [] _
    refine XS.aloadN X0.here hx rfl (hb hby d6_0) rfl rfl ?_
    show Sq p e below m s₁ 1 #[rv a] [.ref a] _
    refine st1 _ ?_
    show Sq p e below m T1 4 #[rv a] [] _
    exact X1.returnOut hx Bd.returns (hb hby d6_4) hr
  · show Q_acinit Z a h0 n0 _ T1.heap _
    rw [e1]
    exact ⟨rfl, N0, rfl⟩
theorem d5_0 : decode jdk_39_method_1_code 0 = .ok (.aload_n 0, 1) := by decide +kernel
theorem d5_1 : decode jdk_39_method_1_code 1 = .ok (.invokespecial 1, 3) := by decide +kernel
theorem pd_0 : parseMethodDescriptor "()V" = some ⟨[], none⟩ := by decide +kernel
theorem d5_4 : decode jdk_39_method_1_code 4 = .ok (.aload_n 0, 1) := by decide +kernel
theorem d5_5 : decode jdk_39_method_1_code 5 = .ok (.iconst 0, 1) := by decide +kernel
theorem d5_6 : decode jdk_39_method_1_code 6 = .ok (.putfield 7, 3) := by decide +kernel
theorem d5_9 : decode jdk_39_method_1_code 9 = .ok (.return_, 1) := by decide +kernel
def Q_abinit (Z : State) (a : Addr) (u : Value) (h0 : Heap) (n0 : Nat) (v : Option Value) (h : Heap) (L : List Loc) : Prop := v = none ∧ Fr n0 L ∧ Keep h0 h [a] ∧ Fld Z h a "java/util/AbstractList" "modCount" "I" (.int (0 : Int32)) ∧ Fld Z h a "java/util/ArrayList" "elementData" "[Ljava/lang/Object;" u
theorem ef_4 (m : MethodId) (x0 : Addr) : entryFrame m #[(.ref x0)] 1 = mkF m 0 #[.val (.ref x0)] [] := by first | (simp [entryFrame, mkF, argsToLocals, Value.category]; done) | rfl
theorem pn_2 : plainName "java/util/AbstractList" = true := by first | (simp [plainName, overriddenIn]; done) | decide +kernel
abbrev y_4 : MethodName := ⟨"java/util/AbstractList", "<init>", "()V"⟩
set_option maxRecDepth 65536 in
set_option maxHeartbeats 40000000 in
theorem abinit (l : Launch) (Z : State) (a0 : Array Value) (hw : ∀ d ∈ tables_1, d.before a0 Z = true) (ws : List Jvm.Cond) (a : Addr) (u : Value) (h0 : Heap) (n0 : Nat) (O : Old Z n0 h0) (Fd : Fld Z h0 a "java/util/ArrayList" "elementData" "[Ljava/lang/Object;" u) (Ea : Exa Z h0 a "java/util/ArrayList") (Fm : Fld Z h0 a "java/util/AbstractList" "modCount" "I" (.int (0 : Int32))) (ga : n0 ≤ a) :
    Ctr l Z y_4 jdk_39_method_1_code 1 none ws ({ frames := 2, cells := 0, slots := 0, locals := 24 } : Room) #[(.ref a)] h0 (Q_abinit Z a u h0 n0) := by
  refine MetFree.of_bodySF (plainFor_of_name pn_2) hisR ?_
  intro p e s m args below meth c s₁ Bd hml0 hP hK
  obtain ⟨rfl, hZ, hh⟩ := hP
  have W := fun (i : Nat) {d : Jvm.Cond} (h : tables_1[i]? = some d) => hw d (List.mem_of_getElem? h)
  have hx := Bd.exec
  have hby := Bd.bytes
  have hml : c.maxLocals = 1 := hml0
  have hown : s.vm.findClass "java/util/AbstractList" = some m.cls := findClass_of_methodNamed Bd.named
  have hnm := (name_of_methodNamed Bd.named Bd.method).1
  have X0 : Stand p l e ({ frames := 2, cells := 0, slots := 0, locals := 24 } : Room) s m #[(.ref a)] below meth c s₁ [] 0 0 := Stand.of_body Bd
  have e0 : s₁.heap = h0 := by rw [← hh, Bd.state]; rfl
  have N0 := Fr.nil n0
  have pre0 : ∀ t, Steps p.tables e below (s₁.setTop (mkF m 0 #[.val (.ref a)] [])) t → Steps p.tables e below (s₁.setTop (entryFrame m #[(.ref a)] 1)) t := fun t kk_ => castTop (ef_4 m a) kk_
  have K0 := Keep.refl h0 [a]
  obtain ⟨_, _, ⟨T1, L1, k1, n1⟩, -, X1, ⟨Lc1, hQ1, l1, y1, z1⟩, st1⟩ := X0.specialBack hx (y := y_3) rfl hown (mvT hZ (W 42 rfl)) (mvT hZ (W 43 rfl)) (mvT hZ (W 47 rfl)) (by decide) (backOf (W := 0) (acinit l Z a0 hw [] a h0 n0 O ) hZ (W 47 rfl) (W 46 rfl) (by decide) (by decide)) (g := (mkF m 1 #[rv a] [.ref a])) rfl (by rw [hml]; rfl) (Steps.refl _) (a := a) (argsL := []) (rest := []) (lenOf pd_0 rfl) rfl (by show 2 * 0 + _ ≤ _; exact Nat.le_of_eq rfl) (hb hby d5_1) (fun _ _ => ⟨rfl, e0, (by decide : 0 + 0 ≤ _), (by decide : 0 + 0 ≤ _)⟩)
  dsimp only [Pt.U, Pt.locs, Pt.cells, Pt.slots] at X1 l1 y1 z1 st1 hQ1
  subst l1 y1 z1
  obtain ⟨h1, e1⟩ : ∃ z, T1.heap = z := ⟨_, rfl⟩
  rw [e1] at hQ1
  obtain ⟨rfl, N1q, p1_0⟩ := hQ1
  have N1 := Fr.app N0 N1q
  rw [p1_0] at e1
  obtain ⟨T2, h2, X2, e2, W2, st2⟩ := putF X1 hx hZ hown (host := "") (Or.inl (W 51 rfl)) Via.refl e1 Fm Ea (Or.inl (W 52 rfl)) (W 31 rfl) (ty := .int) (by decide) rfl rfl (g := (mkF m 6 #[rv a] [.int 0, .ref a])) rfl rfl (hb hby d5_6)
  have Fz2 := Fm.same W2
  have Fd := Fd.other W2 (Or.inr (slot_ne (Or.inl (W 55 rfl)) (Or.inl (W 52 rfl)) (by decide) (t := (.array (.object "java/lang/Object"))) (t' := .int) (by decide) (by decide)))
  have K4 := K0.wr W2 (Or.inl (List.mem_of_getElem? (i := 0) rfl))
  have N5 := Fr.snoc X2 N1 ga
  obtain ⟨fs, hr, hrun, hended, hW, hsame⟩ := X2.leave (v := none) (fun _ => rfl)
  refine ⟨_, _, pre0 _ ?_, hrun, hended, _, _, rfl, ?_, ⟨_, rfl⟩, hW, hsame.mono (by decide) (by decide)⟩
  · show Sq p e below m s₁ 0 #[rv a] [] _
    refine XS.aloadN X0.here hx rfl (hb hby d5_0) rfl rfl ?_
    show Sq p e below m s₁ 1 #[rv a] [.ref a] _
    refine st1.trans ?_
    show Sq p e below m T1 4 #[rv a] [] _
    refine XS.aloadN X1.here hx rfl (hb hby d5_4) rfl rfl ?_
    refine XS.iconst X1.here hx rfl (hb hby d5_5) ?_
    show Sq p e below m T1 6 #[rv a] [.int 0, .ref a] _
    refine st2 _ ?_
    show Sq p e below m T2 9 #[rv a] [] _
    exact X2.returnOut hx Bd.returns (hb hby d5_9) hr
  · show Q_abinit Z a u h0 n0 _ T2.heap _
    rw [e2]
    exact ⟨rfl, N5, K4, Fz2, Fd⟩
theorem d4_0 : decode jdk_38_method_2_code 0 = .ok (.aload_n 0, 1) := by decide +kernel
theorem d4_1 : decode jdk_38_method_2_code 1 = .ok (.invokespecial 1, 3) := by decide +kernel
theorem d4_4 : decode jdk_38_method_2_code 4 = .ok (.aload_n 0, 1) := by decide +kernel
theorem d4_5 : decode jdk_38_method_2_code 5 = .ok (.getstatic 39, 3) := by decide +kernel
theorem d4_8 : decode jdk_38_method_2_code 8 = .ok (.putfield 9, 3) := by decide +kernel
theorem d4_11 : decode jdk_38_method_2_code 11 = .ok (.return_, 1) := by decide +kernel
def Q_alinit (Z : State) (a : Addr) (dd : Addr) (h0 : Heap) (n0 : Nat) (v : Option Value) (h : Heap) (L : List Loc) : Prop := v = none ∧ Fr n0 L ∧ Keep h0 h [a]
theorem ef_5 (m : MethodId) (x0 : Addr) : entryFrame m #[(.ref x0)] 1 = mkF m 0 #[.val (.ref x0)] [] := by first | (simp [entryFrame, mkF, argsToLocals, Value.category]; done) | rfl
theorem pn_3 : plainName "java/util/ArrayList" = true := by first | (simp [plainName, overriddenIn]; done) | decide +kernel
abbrev y_5 : MethodName := ⟨"java/util/ArrayList", "<init>", "()V"⟩
set_option maxRecDepth 65536 in
set_option maxHeartbeats 40000000 in
theorem alinit (l : Launch) (Z : State) (a0 : Array Value) (hw : ∀ d ∈ tables_1, d.before a0 Z = true) (ws : List Jvm.Cond) (a : Addr) (dd : Addr) (h0 : Heap) (n0 : Nat) (O : Old Z n0 h0) (Ea : Exa Z h0 a "java/util/ArrayList") (Fm : Fld Z h0 a "java/util/AbstractList" "modCount" "I" (.int (0 : Int32))) (Fd : Fld Z h0 a "java/util/ArrayList" "elementData" "[Ljava/lang/Object;" .null) (ga : n0 ≤ a) (Sd : Sta Z Z.heap "java/util/ArrayList" "DEFAULTCAPACITY_EMPTY_ELEMENTDATA" "[Ljava/lang/Object;" (.ref dd)) :
    Ctr l Z y_5 jdk_38_method_2_code 1 none ws ({ frames := 3, cells := 0, slots := 0, locals := 36 } : Room) #[(.ref a)] h0 (Q_alinit Z a dd h0 n0) := by
  refine MetFree.of_bodySF (plainFor_of_name pn_3) hisR ?_
  intro p e s m args below meth c s₁ Bd hml0 hP hK
  obtain ⟨rfl, hZ, hh⟩ := hP
  have W := fun (i : Nat) {d : Jvm.Cond} (h : tables_1[i]? = some d) => hw d (List.mem_of_getElem? h)
  have hx := Bd.exec
  have hby := Bd.bytes
  have hml : c.maxLocals = 1 := hml0
  have hown : s.vm.findClass "java/util/ArrayList" = some m.cls := findClass_of_methodNamed Bd.named
  have hnm := (name_of_methodNamed Bd.named Bd.method).1
  have X0 : Stand p l e ({ frames := 3, cells := 0, slots := 0, locals := 36 } : Room) s m #[(.ref a)] below meth c s₁ [] 0 0 := Stand.of_body Bd
  have e0 : s₁.heap = h0 := by rw [← hh, Bd.state]; rfl
  have N0 := Fr.nil n0
  have pre0 : ∀ t, Steps p.tables e below (s₁.setTop (mkF m 0 #[.val (.ref a)] [])) t → Steps p.tables e below (s₁.setTop (entryFrame m #[(.ref a)] 1)) t := fun t kk_ => castTop (ef_5 m a) kk_
  have K0 := Keep.refl h0 [a]
  obtain ⟨_, _, ⟨T1, L1, k1, n1⟩, -, X1, ⟨Lc1, hQ1, l1, y1, z1⟩, st1⟩ := X0.specialBack hx (y := y_4) rfl hown (mvT hZ (W 36 rfl)) (mvT hZ (W 37 rfl)) (mvT hZ (W 41 rfl)) (by decide) (backOf (W := 0) (abinit l Z a0 hw [] a .null h0 n0 O Fd Ea Fm ga) hZ (W 41 rfl) (W 40 rfl) (by decide) (by decide)) (g := (mkF m 1 #[rv a] [.ref a])) rfl (by rw [hml]; rfl) (Steps.refl _) (a := a) (argsL := []) (rest := []) (lenOf pd_0 rfl) rfl (by show 2 * 0 + _ ≤ _; exact Nat.le_of_eq rfl) (hb hby d4_1) (fun _ _ => ⟨rfl, e0, (by decide : 0 + 0 ≤ _), (by decide : 0 + 0 ≤ _)⟩)
  dsimp only [Pt.U, Pt.locs, Pt.cells, Pt.slots] at X1 l1 y1 z1 st1 hQ1
  subst l1 y1 z1
  obtain ⟨h1, e1⟩ : ∃ z, T1.heap = z := ⟨_, rfl⟩
  rw [e1] at hQ1
  obtain ⟨rfl, N1q, p1_0, p1_1, p1_2⟩ := hQ1
  have N1 := Fr.app N0 N1q
  have Ea := Ea.keep p1_0
  have O2 := O.keep p1_0 (allS ga all0)
  have K3 := K0.trans p1_0 (allS (Or.inl (List.mem_of_getElem? (i := 0) rfl)) all0)
  obtain ⟨T4, X4, e4, st4⟩ := getS2 X1 hx hZ hown (host := "") (Or.inl (W 53 rfl)) Via.refl e1 (Sd.ext O2.2) (g := (mkF m 5 #[rv a] [.ref a])) rfl (hb hby d4_5)
  obtain ⟨T5, h5, X5, e5, W5, st5⟩ := putF X4 hx hZ hown (host := "") (Or.inl (W 54 rfl)) Via.refl e4 p1_2 Ea (Or.inl (W 55 rfl)) (W 31 rfl) (ty := (.array (.object "java/lang/Object"))) (by decide) rfl rfl (g := (mkF m 8 #[rv a] [.ref dd, .ref a])) rfl rfl (hb hby d4_8)
  have K7 := K3.wr W5 (Or.inl (List.mem_of_getElem? (i := 0) rfl))
  have N8 := Fr.snoc X5 N1 ga
  obtain ⟨fs, hr, hrun, hended, hW, hsame⟩ := X5.leave (v := none) (fun _ => rfl)
  refine ⟨_, _, pre0 _ ?_, hrun, hended, _, _, rfl, ?_, ⟨_, rfl⟩, hW, hsame.mono (by decide) (by decide)⟩
  · show Sq p e below m s₁ 0 #[rv a] [] _
    refine XS.aloadN X0.here hx rfl (hb hby d4_0) rfl rfl ?_
    show Sq p e below m s₁ 1 #[rv a] [.ref a] _
    refine st1.trans ?_
    show Sq p e below m T1 4 #[rv a] [] _
    refine XS.aloadN X1.here hx rfl (hb hby d4_4) rfl rfl ?_
    show Sq p e below m T1 5 #[rv a] [.ref a] _
    refine st4 _ ?_
    show Sq p e below m T4 8 #[rv a] [.ref dd, .ref a] _
    refine st5 _ ?_
    show Sq p e below m T5 11 #[rv a] [] _
    exact X5.returnOut hx Bd.returns (hb hby d4_11) hr
  · show Q_alinit Z a dd h0 n0 _ T5.heap _
    rw [e5]
    exact ⟨rfl, N8, K7⟩
theorem d9_0 : decode jdk_30_method_1_code 0 = .ok (.aload_n 0, 1) := by decide +kernel
theorem d9_1 : decode jdk_30_method_1_code 1 = .ok (.invokespecial 1, 3) := by decide +kernel
theorem d9_4 : decode jdk_30_method_1_code 4 = .ok (.return_, 1) := by decide +kernel
def Q_recinit (Z : State) (a : Addr) (h0 : Heap) (n0 : Nat) (v : Option Value) (h : Heap) (L : List Loc) : Prop := v = none ∧ Fr n0 L ∧ h = h0
theorem ef_6 (m : MethodId) (x0 : Addr) : entryFrame m #[(.ref x0)] 1 = mkF m 0 #[.val (.ref x0)] [] := by first | (simp [entryFrame, mkF, argsToLocals, Value.category]; done) | rfl
theorem pn_4 : plainName "java/lang/Record" = true := by first | (simp [plainName, overriddenIn]; done) | decide +kernel
abbrev y_6 : MethodName := ⟨"java/lang/Record", "<init>", "()V"⟩
set_option maxRecDepth 65536 in
set_option maxHeartbeats 40000000 in
theorem recinit (l : Launch) (Z : State) (a0 : Array Value) (hw : ∀ d ∈ tables_1, d.before a0 Z = true) (ws : List Jvm.Cond) (a : Addr) (h0 : Heap) (n0 : Nat) (O : Old Z n0 h0) :
    Ctr l Z y_6 jdk_30_method_1_code 1 none ws ({ frames := 1, cells := 0, slots := 0, locals := 12 } : Room) #[(.ref a)] h0 (Q_recinit Z a h0 n0) := by
  refine MetFree.of_bodySF (plainFor_of_name pn_4) hisR ?_
  intro p e s m args below meth c s₁ Bd hml0 hP hK
  obtain ⟨rfl, hZ, hh⟩ := hP
  have W := fun (i : Nat) {d : Jvm.Cond} (h : tables_1[i]? = some d) => hw d (List.mem_of_getElem? h)
  have hx := Bd.exec
  have hby := Bd.bytes
  have hml : c.maxLocals = 1 := hml0
  have hown : s.vm.findClass "java/lang/Record" = some m.cls := findClass_of_methodNamed Bd.named
  have hnm := (name_of_methodNamed Bd.named Bd.method).1
  have X0 : Stand p l e ({ frames := 1, cells := 0, slots := 0, locals := 12 } : Room) s m #[(.ref a)] below meth c s₁ [] 0 0 := Stand.of_body Bd
  have e0 : s₁.heap = h0 := by rw [← hh, Bd.state]; rfl
  have N0 := Fr.nil n0
  have pre0 : ∀ t, Steps p.tables e below (s₁.setTop (mkF m 0 #[.val (.ref a)] [])) t → Steps p.tables e below (s₁.setTop (entryFrame m #[(.ref a)] 1)) t := fun t kk_ => castTop (ef_6 m a) kk_
  obtain ⟨T1, X1, e1, st1⟩ := initO X0 hx hZ hown (W 64 rfl) (W 49 rfl) (W 50 rfl) e0 (g := (mkF m 1 #[rv a] [.ref a])) rfl (by rw [hml]; rfl) rfl (hb hby d9_1) (by decide) (W := 0) (by show 2 * 0 + _ ≤ _; exact Nat.le_of_eq rfl) (by decide)
  obtain ⟨fs, hr, hrun, hended, hW, hsame⟩ := X1.leave (v := none) (fun _ => rfl)
  refine ⟨_, _, pre0 _ ?_, hrun, hended, _, _, rfl, ?_, ⟨_, rfl⟩, hW, hsame.mono (by decide) (by decide)⟩
  · show Sq p e below m s₁ 0 #[rv a] [] _
    refine XS.aloadN X0.here hx rfl (hb hby d9_0) rfl rfl ?_
    show Sq p e below m s₁ 1 #[rv a] [.ref a] _
    refine st1 _ ?_
    show Sq p e below m T1 4 #[rv a] [] _
    exact X1.returnOut hx Bd.returns (hb hby d9_4) hr
  · show Q_recinit Z a h0 n0 _ T1.heap _
    rw [e1]
    exact ⟨rfl, N0, rfl⟩
theorem d8_0 : decode prog_61_method_1_code 0 = .ok (.aload_n 0, 1) := by decide +kernel
theorem d8_1 : decode prog_61_method_1_code 1 = .ok (.invokespecial 1, 3) := by decide +kernel
theorem d8_4 : decode prog_61_method_1_code 4 = .ok (.aload_n 0, 1) := by decide +kernel
theorem d8_5 : decode prog_61_method_1_code 5 = .ok (.aload_n 1, 1) := by decide +kernel
theorem d8_6 : decode prog_61_method_1_code 6 = .ok (.putfield 7, 3) := by decide +kernel
theorem d8_9 : decode prog_61_method_1_code 9 = .ok (.aload_n 0, 1) := by decide +kernel
theorem d8_10 : decode prog_61_method_1_code 10 = .ok (.aload_n 2, 1) := by decide +kernel
theorem d8_11 : decode prog_61_method_1_code 11 = .ok (.putfield 13, 3) := by decide +kernel
theorem d8_14 : decode prog_61_method_1_code 14 = .ok (.aload_n 0, 1) := by decide +kernel
theorem d8_15 : decode prog_61_method_1_code 15 = .ok (.aload_n 3, 1) := by decide +kernel
theorem d8_16 : decode prog_61_method_1_code 16 = .ok (.putfield 17, 3) := by decide +kernel
theorem d8_19 : decode prog_61_method_1_code 19 = .ok (.aload_n 0, 1) := by decide +kernel
theorem d8_20 : decode prog_61_method_1_code 20 = .ok (.aload 4, 2) := by decide +kernel
theorem d8_22 : decode prog_61_method_1_code 22 = .ok (.putfield 20, 3) := by decide +kernel
theorem d8_25 : decode prog_61_method_1_code 25 = .ok (.aload_n 0, 1) := by decide +kernel
theorem d8_26 : decode prog_61_method_1_code 26 = .ok (.aload 5, 2) := by decide +kernel
theorem d8_28 : decode prog_61_method_1_code 28 = .ok (.putfield 23, 3) := by decide +kernel
theorem d8_31 : decode prog_61_method_1_code 31 = .ok (.return_, 1) := by decide +kernel
def Q_soinit (Z : State) (a : Addr) (r0 : Addr) (r1 : Addr) (r2 : Addr) (r3 : Addr) (r4 : Addr) (h0 : Heap) (n0 : Nat) (v : Option Value) (h : Heap) (L : List Loc) : Prop := v = none ∧ Fr n0 L ∧ Keep h0 h [a] ∧ Fld Z h a "com/example/latchkey/latchkey/ScaffoldOffer" "status" "Lcom/example/latchkey/latchkey/ScaffoldOffer$Status;" (.ref r0)
theorem ef_7 (m : MethodId) (x0 : Addr) (x1 : Addr) (x2 : Addr) (x3 : Addr) (x4 : Addr) (x5 : Addr) : entryFrame m #[(.ref x0), (.ref x1), (.ref x2), (.ref x3), (.ref x4), (.ref x5)] 6 = mkF m 0 #[.val (.ref x0), .val (.ref x1), .val (.ref x2), .val (.ref x3), .val (.ref x4), .val (.ref x5)] [] := by first | (simp [entryFrame, mkF, argsToLocals, Value.category]; done) | rfl
abbrev y_7 : MethodName := ⟨"com/example/latchkey/latchkey/ScaffoldOffer", "<init>", "(Lcom/example/latchkey/latchkey/ScaffoldOffer$Status;Ljava/util/Optional;Ljava/util/Optional;Ljava/util/Optional;Ljava/util/List;)V"⟩
set_option maxRecDepth 65536 in
set_option maxHeartbeats 40000000 in
theorem soinit (l : Launch) (Z : State) (a0 : Array Value) (hw : ∀ d ∈ tables_1, d.before a0 Z = true) (ws : List Jvm.Cond) (a : Addr) (r0 : Addr) (r1 : Addr) (r2 : Addr) (r3 : Addr) (r4 : Addr) (h0 : Heap) (n0 : Nat) (O : Old Z n0 h0) (Ea : Exa Z h0 a "com/example/latchkey/latchkey/ScaffoldOffer") (F0 : Fld Z h0 a "com/example/latchkey/latchkey/ScaffoldOffer" "status" "Lcom/example/latchkey/latchkey/ScaffoldOffer$Status;" .null) (F1 : Fld Z h0 a "com/example/latchkey/latchkey/ScaffoldOffer" "offeredBy" "Ljava/util/Optional;" .null) (F2 : Fld Z h0 a "com/example/latchkey/latchkey/ScaffoldOffer" "offeredAt" "Ljava/util/Optional;" .null) (F3 : Fld Z h0 a "com/example/latchkey/latchkey/ScaffoldOffer" "answeredAt" "Ljava/util/Optional;" .null) (F4 : Fld Z h0 a "com/example/latchkey/latchkey/ScaffoldOffer" "kinds" "Ljava/util/List;" .null) (ga : n0 ≤ a) :
    Ctr l Z y_7 prog_61_method_1_code 6 none ws ({ frames := 2, cells := 0, slots := 0, locals := 24 } : Room) #[(.ref a), (.ref r0), (.ref r1), (.ref r2), (.ref r3), (.ref r4)] h0 (Q_soinit Z a r0 r1 r2 r3 r4 h0 n0) := by
  refine MetFree.of_bodySF (plainFor_of_name pn_0) hisR ?_
  intro p e s m args below meth c s₁ Bd hml0 hP hK
  obtain ⟨rfl, hZ, hh⟩ := hP
  have W := fun (i : Nat) {d : Jvm.Cond} (h : tables_1[i]? = some d) => hw d (List.mem_of_getElem? h)
  have hx := Bd.exec
  have hby := Bd.bytes
  have hml : c.maxLocals = 6 := hml0
  have hown : s.vm.findClass "com/example/latchkey/latchkey/ScaffoldOffer" = some m.cls := findClass_of_methodNamed Bd.named
  have hnm := (name_of_methodNamed Bd.named Bd.method).1
  have X0 : Stand p l e ({ frames := 2, cells := 0, slots := 0, locals := 24 } : Room) s m #[(.ref a), (.ref r0), (.ref r1), (.ref r2), (.ref r3), (.ref r4)] below meth c s₁ [] 0 0 := Stand.of_body Bd
  have e0 : s₁.heap = h0 := by rw [← hh, Bd.state]; rfl
  have N0 := Fr.nil n0
  have pre0 : ∀ t, Steps p.tables e below (s₁.setTop (mkF m 0 #[.val (.ref a), .val (.ref r0), .val (.ref r1), .val (.ref r2), .val (.ref r3), .val (.ref r4)] [])) t → Steps p.tables e below (s₁.setTop (entryFrame m #[(.ref a), (.ref r0), (.ref r1), (.ref r2), (.ref r3), (.ref r4)] 6)) t := fun t kk_ => castTop (ef_7 m a r0 r1 r2 r3 r4) kk_
  have K0 := Keep.refl h0 [a]
  obtain ⟨_, _, ⟨T1, L1, k1, n1⟩, -, X1, ⟨Lc1, hQ1, l1, y1, z1⟩, st1⟩ := X0.specialBack hx (y := y_6) rfl hown (mvT hZ (W 59 rfl)) (mvT hZ (W 60 rfl)) (mvT hZ (W 63 rfl)) (by decide) (backOf (W := 0) (recinit l Z a0 hw [] a h0 n0 O ) hZ (W 63 rfl) (W 62 rfl) (by decide) (by decide)) (g := (mkF m 1 #[rv a, rv r0, rv r1, rv r2, rv r3, rv r4] [.ref a])) rfl (by rw [hml]; rfl) (Steps.refl _) (a := a) (argsL := []) (rest := []) (lenOf pd_0 rfl) rfl (by show 2 * 0 + _ ≤ _; exact Nat.le_of_eq rfl) (hb hby d8_1) (fun _ _ => ⟨rfl, e0, (by decide : 0 + 0 ≤ _), (by decide : 0 + 0 ≤ _)⟩)
  dsimp only [Pt.U, Pt.locs, Pt.cells, Pt.slots] at X1 l1 y1 z1 st1 hQ1
  subst l1 y1 z1
  obtain ⟨h1, e1⟩ : ∃ z, T1.heap = z := ⟨_, rfl⟩
  rw [e1] at hQ1
  obtain ⟨rfl, N1q, p1_0⟩ := hQ1
  have N1 := Fr.app N0 N1q
  rw [p1_0] at e1
  obtain ⟨T2, h2, X2, e2, W2, st2⟩ := putF X1 hx hZ hown (host := "") (Or.inl (W 65 rfl)) Via.refl e1 F0 Ea (Or.inr ⟨(W 66 rfl), rfl, hnm⟩) (W 8 rfl) (ty := (.object "com/example/latchkey/latchkey/ScaffoldOffer$Status")) (by decide) rfl rfl (g := (mkF m 6 #[rv a, rv r0, rv r1, rv r2, rv r3, rv r4] [.ref r0, .ref a])) rfl rfl (hb hby d8_6)
  have Fz2 := F0.same W2
  have Ea := Ea.wr W2
  have F1 := F1.other W2 (Or.inr (slot_ne (Or.inr (W 15 rfl)) (Or.inr (W 66 rfl)) (by decide) (t := (.object "java/util/Optional")) (t' := (.object "com/example/latchkey/latchkey/ScaffoldOffer$Status")) (by decide) (by decide)))
  have F2 := F2.other W2 (Or.inr (slot_ne (Or.inr (W 22 rfl)) (Or.inr (W 66 rfl)) (by decide) (t := (.object "java/util/Optional")) (t' := (.object "com/example/latchkey/latchkey/ScaffoldOffer$Status")) (by decide) (by decide)))
  have F3 := F3.other W2 (Or.inr (slot_ne (Or.inr (W 29 rfl)) (Or.inr (W 66 rfl)) (by decide) (t := (.object "java/util/Optional")) (t' := (.object "com/example/latchkey/latchkey/ScaffoldOffer$Status")) (by decide) (by decide)))
  have F4 := F4.other W2 (Or.inr (slot_ne (Or.inr (W 68 rfl)) (Or.inr (W 66 rfl)) (by decide) (t := (.object "java/util/List")) (t' := (.object "com/example/latchkey/latchkey/ScaffoldOffer$Status")) (by decide) (by decide)))
  have K4 := K0.wr W2 (Or.inl (List.mem_of_getElem? (i := 0) rfl))
  have N5 := Fr.snoc X2 N1 ga
  obtain ⟨T6, h6, X6, e6, W6, st6⟩ := putF X2 hx hZ hown (host := "") (Or.inl (W 14 rfl)) Via.refl e2 F1 Ea (Or.inr ⟨(W 15 rfl), rfl, hnm⟩) (W 8 rfl) (ty := (.object "java/util/Optional")) (by decide) rfl rfl (g := (mkF m 11 #[rv a, rv r0, rv r1, rv r2, rv r3, rv r4] [.ref r1, .ref a])) rfl rfl (hb hby d8_11)
  have Ea := Ea.wr W6
  have F2 := F2.other W6 (Or.inr (slot_ne (Or.inr (W 22 rfl)) (Or.inr (W 15 rfl)) (by decide) (t := (.object "java/util/Optional")) (t' := (.object "java/util/Optional")) (by decide) (by decide)))
  have F3 := F3.other W6 (Or.inr (slot_ne (Or.inr (W 29 rfl)) (Or.inr (W 15 rfl)) (by decide) (t := (.object "java/util/Optional")) (t' := (.object "java/util/Optional")) (by decide) (by decide)))
  have F4 := F4.other W6 (Or.inr (slot_ne (Or.inr (W 68 rfl)) (Or.inr (W 15 rfl)) (by decide) (t := (.object "java/util/List")) (t' := (.object "java/util/Optional")) (by decide) (by decide)))
  have Fz2 := Fz2.other W6 (Or.inr (slot_ne (Or.inr (W 66 rfl)) (Or.inr (W 15 rfl)) (by decide) (t := (.object "com/example/latchkey/latchkey/ScaffoldOffer$Status")) (t' := (.object "java/util/Optional")) (by decide) (by decide)))
  have K8 := K4.wr W6 (Or.inl (List.mem_of_getElem? (i := 0) rfl))
  have N9 := Fr.snoc X6 N5 ga
  obtain ⟨T10, h10, X10, e10, W10, st10⟩ := putF X6 hx hZ hown (host := "") (Or.inl (W 21 rfl)) Via.refl e6 F2 Ea (Or.inr ⟨(W 22 rfl), rfl, hnm⟩) (W 8 rfl) (ty := (.object "java/util/Optional")) (by decide) rfl rfl (g := (mkF m 16 #[rv a, rv r0, rv r1, rv r2, rv r3, rv r4] [.ref r2, .ref a])) rfl rfl (hb hby d8_16)
  have Ea := Ea.wr W10
  have F3 := F3.other W10 (Or.inr (slot_ne (Or.inr (W 29 rfl)) (Or.inr (W 22 rfl)) (by decide) (t := (.object "java/util/Optional")) (t' := (.object "java/util/Optional")) (by decide) (by decide)))
  have F4 := F4.other W10 (Or.inr (slot_ne (Or.inr (W 68 rfl)) (Or.inr (W 22 rfl)) (by decide) (t := (.object "java/util/List")) (t' := (.object "java/util/Optional")) (by decide) (by decide)))
  have Fz2 := Fz2.other W10 (Or.inr (slot_ne (Or.inr (W 66 rfl)) (Or.inr (W 22 rfl)) (by decide) (t := (.object "com/example/latchkey/latchkey/ScaffoldOffer$Status")) (t' := (.object "java/util/Optional")) (by decide) (by decide)))
  have K12 := K8.wr W10 (Or.inl (List.mem_of_getElem? (i := 0) rfl))
  have N13 := Fr.snoc X10 N9 ga
  obtain ⟨T14, h14, X14, e14, W14, st14⟩ := putF X10 hx hZ hown (host := "") (Or.inl (W 28 rfl)) Via.refl e10 F3 Ea (Or.inr ⟨(W 29 rfl), rfl, hnm⟩) (W 8 rfl) (ty := (.object "java/util/Optional")) (by decide) rfl rfl (g := (mkF m 22 #[rv a, rv r0, rv r1, rv r2, rv r3, rv r4] [.ref r3, .ref a])) rfl rfl (hb hby d8_22)
  have Ea := Ea.wr W14
  have F4 := F4.other W14 (Or.inr (slot_ne (Or.inr (W 68 rfl)) (Or.inr (W 29 rfl)) (by decide) (t := (.object "java/util/List")) (t' := (.object "java/util/Optional")) (by decide) (by decide)))
  have Fz2 := Fz2.other W14 (Or.inr (slot_ne (Or.inr (W 66 rfl)) (Or.inr (W 29 rfl)) (by decide) (t := (.object "com/example/latchkey/latchkey/ScaffoldOffer$Status")) (t' := (.object "java/util/Optional")) (by decide) (by decide)))
  have K16 := K12.wr W14 (Or.inl (List.mem_of_getElem? (i := 0) rfl))
  have N17 := Fr.snoc X14 N13 ga
  obtain ⟨T18, h18, X18, e18, W18, st18⟩ := putF X14 hx hZ hown (host := "") (Or.inl (W 67 rfl)) Via.refl e14 F4 Ea (Or.inr ⟨(W 68 rfl), rfl, hnm⟩) (W 8 rfl) (ty := (.object "java/util/List")) (by decide) rfl rfl (g := (mkF m 28 #[rv a, rv r0, rv r1, rv r2, rv r3, rv r4] [.ref r4, .ref a])) rfl rfl (hb hby d8_28)
  have Fz2 := Fz2.other W18 (Or.inr (slot_ne (Or.inr (W 66 rfl)) (Or.inr (W 68 rfl)) (by decide) (t := (.object "com/example/latchkey/latchkey/ScaffoldOffer$Status")) (t' := (.object "java/util/List")) (by decide) (by decide)))
  have K20 := K16.wr W18 (Or.inl (List.mem_of_getElem? (i := 0) rfl))
  have N21 := Fr.snoc X18 N17 ga
  obtain ⟨fs, hr, hrun, hended, hW, hsame⟩ := X18.leave (v := none) (fun _ => rfl)
  refine ⟨_, _, pre0 _ ?_, hrun, hended, _, _, rfl, ?_, ⟨_, rfl⟩, hW, hsame.mono (by decide) (by decide)⟩
  · show Sq p e below m s₁ 0 #[rv a, rv r0, rv r1, rv r2, rv r3, rv r4] [] _
    refine XS.aloadN X0.here hx rfl (hb hby d8_0) rfl rfl ?_
    show Sq p e below m s₁ 1 #[rv a, rv r0, rv r1, rv r2, rv r3, rv r4] [.ref a] _
    refine st1.trans ?_
    show Sq p e below m T1 4 #[rv a, rv r0, rv r1, rv r2, rv r3, rv r4] [] _
    refine XS.aloadN X1.here hx rfl (hb hby d8_4) rfl rfl ?_
    refine XS.aloadN X1.here hx rfl (hb hby d8_5) rfl rfl ?_
    show Sq p e below m T1 6 #[rv a, rv r0, rv r1, rv r2, rv r3, rv r4] [.ref r0, .ref a] _
    refine st2 _ ?_
    show Sq p e below m T2 9 #[rv a, rv r0, rv r1, rv r2, rv r3, rv r4] [] _
    refine XS.aloadN X2.here hx rfl (hb hby d8_9) rfl rfl ?_
    refine XS.aloadN X2.here hx rfl (hb hby d8_10) rfl rfl ?_
    show Sq p e below m T2 11 #[rv a, rv r0, rv r1, rv r2, rv r3, rv r4] [.ref r1, .ref a] _
    refine st6 _ ?_
    show Sq p e below m T6 14 #[rv a, rv r0, rv r1, rv r2, rv r3, rv r4] [] _
    refine XS.aloadN X6.here hx rfl (hb hby d8_14) rfl rfl ?_
    refine XS.aloadN X6.here hx rfl (hb hby d8_15) rfl rfl ?_
    show Sq p e below m T6 16 #[rv a, rv r0, rv r1, rv r2, rv r3, rv r4] [.ref r2, .ref a] _
    refine st10 _ ?_
    show Sq p e below m T10 19 #[rv a, rv r0, rv r1, rv r2, rv r3, rv r4] [] _
    refine XS.aloadN X10.here hx rfl (hb hby d8_19) rfl rfl ?_
    refine XS.aload X10.here hx rfl (hb hby d8_20) rfl rfl ?_
    show Sq p e below m T10 22 #[rv a, rv r0, rv r1, rv r2, rv r3, rv r4] [.ref r3, .ref a] _
    refine st14 _ ?_
    show Sq p e below m T14 25 #[rv a, rv r0, rv r1, rv r2, rv r3, rv r4] [] _
    refine XS.aloadN X14.here hx rfl (hb hby d8_25) rfl rfl ?_
    refine XS.aload X14.here hx rfl (hb hby d8_26) rfl rfl ?_
    show Sq p e below m T14 28 #[rv a, rv r0, rv r1, rv r2, rv r3, rv r4] [.ref r4, .ref a] _
    refine st18 _ ?_
    show Sq p e below m T18 31 #[rv a, rv r0, rv r1, rv r2, rv r3, rv r4] [] _
    exact X18.returnOut hx Bd.returns (hb hby d8_31) hr
  · show Q_soinit Z a r0 r1 r2 r3 r4 h0 n0 _ T18.heap _
    rw [e18]
    exact ⟨rfl, N21, K20, Fz2⟩
theorem d10_0 : decode prog_61_method_2_code 0 = .ok (.aload_n 0, 1) := by decide +kernel
theorem d10_1 : decode prog_61_method_2_code 1 = .ok (.getfield 7, 3) := by decide +kernel
theorem d10_4 : decode prog_61_method_2_code 4 = .ok (.getstatic 27, 3) := by decide +kernel
theorem d10_7 : decode prog_61_method_2_code 7 = .ok (.if_acmp .eq 7, 3) := by decide +kernel
theorem d10_14 : decode prog_61_method_2_code 14 = .ok (.iconst 0, 1) := by decide +kernel
theorem d10_15 : decode prog_61_method_2_code 15 = .ok (.ireturn, 1) := by decide +kernel
def Q_dec0 (Z : State) (a : Addr) (w_NONE : Addr) (h0 : Heap) (n0 : Nat) (v : Option Value) (h : Heap) (L : List Loc) : Prop := v = some (.int (0 : Int32)) ∧ Fr n0 L ∧ h = h0
theorem ef_8 (m : MethodId) (x0 : Addr) : entryFrame m #[(.ref x0)] 1 = mkF m 0 #[.val (.ref x0)] [] := by first | (simp [entryFrame, mkF, argsToLocals, Value.category]; done) | rfl
abbrev y_8 : MethodName := ⟨"com/example/latchkey/latchkey/ScaffoldOffer", "isDecided", "()Z"⟩
set_option maxRecDepth 65536 in
set_option maxHeartbeats 40000000 in
theorem dec0 (l : Launch) (Z : State) (a0 : Array Value) (hw : ∀ d ∈ tables_1, d.before a0 Z = true) (ws : List Jvm.Cond) (a : Addr) (w_NONE : Addr) (h0 : Heap) (n0 : Nat) (O : Old Z n0 h0) (Fs : Fld Z h0 a "com/example/latchkey/latchkey/ScaffoldOffer" "status" "Lcom/example/latchkey/latchkey/ScaffoldOffer$Status;" (.ref w_NONE)) (S_w_NONE : Sta Z Z.heap "com/example/latchkey/latchkey/ScaffoldOffer$Status" "NONE" "Lcom/example/latchkey/latchkey/ScaffoldOffer$Status;" (.ref w_NONE)) :
    Ctr l Z y_8 prog_61_method_2_code 1 (some .boolean) ws ({ frames := 0, cells := 0, slots := 0, locals := 0 } : Room) #[(.ref a)] h0 (Q_dec0 Z a w_NONE h0 n0) := by
  refine MetFree.of_bodySF (plainFor_of_name pn_0) hisR ?_
  intro p e s m args below meth c s₁ Bd hml0 hP hK
  obtain ⟨rfl, hZ, hh⟩ := hP
  have W := fun (i : Nat) {d : Jvm.Cond} (h : tables_1[i]? = some d) => hw d (List.mem_of_getElem? h)
  have hx := Bd.exec
  have hby := Bd.bytes
  have hml : c.maxLocals = 1 := hml0
  have hown : s.vm.findClass "com/example/latchkey/latchkey/ScaffoldOffer" = some m.cls := findClass_of_methodNamed Bd.named
  have hnm := (name_of_methodNamed Bd.named Bd.method).1
  have X0 : Stand p l e ({ frames := 0, cells := 0, slots := 0, locals := 0 } : Room) s m #[(.ref a)] below meth c s₁ [] 0 0 := Stand.of_body Bd
  have e0 : s₁.heap = h0 := by rw [← hh, Bd.state]; rfl
  have N0 := Fr.nil n0
  have pre0 : ∀ t, Steps p.tables e below (s₁.setTop (mkF m 0 #[.val (.ref a)] [])) t → Steps p.tables e below (s₁.setTop (entryFrame m #[(.ref a)] 1)) t := fun t kk_ => castTop (ef_8 m a) kk_
  obtain ⟨T1, X1, e1, st1⟩ := getF X0 hx hZ hown (host := "") (Or.inl (W 65 rfl)) Via.refl e0 Fs (g := (mkF m 1 #[rv a] [.ref a])) rfl rfl (hb hby d10_1)
  obtain ⟨T2, X2, e2, st2⟩ := getS2 X1 hx hZ hown (host := "") (Or.inl (W 74 rfl)) Via.refl e1 (S_w_NONE.ext O.2) (g := (mkF m 4 #[rv a] [.ref w_NONE])) rfl (hb hby d10_4)
  obtain ⟨fs, hr, hrun, hended, hW, hsame⟩ := X2.leave (v := some (.int (0 : Int32))) (fun h => by rw [Bd.returns] at h; cases h)
  refine ⟨_, _, pre0 _ ?_, hrun, hended, _, _, rfl, ?_, ⟨_, rfl⟩, hW, hsame.mono (by decide) (by decide)⟩
  · show Sq p e below m s₁ 0 #[rv a] [] _
    refine XS.aloadN X0.here hx rfl (hb hby d10_0) rfl rfl ?_
    show Sq p e below m s₁ 1 #[rv a] [.ref a] _
    refine st1 _ ?_
    show Sq p e below m T1 4 #[rv a] [.ref w_NONE] _
    refine st2 _ ?_
    show Sq p e below m T2 7 #[rv a] [.ref w_NONE, .ref w_NONE] _
    refine Jvm.RoadKit.acmp (g := (mkF m 7 #[rv a] [.ref w_NONE, .ref w_NONE])) X2 hx rfl rfl rfl (pc0 := 7) (pc' := 14) (same := true) rfl (hb hby d10_7) rfl (decide_eq_true rfl) (by decide) (by decide) ?_
    show Sq p e below m T2 14 #[rv a] [] _
    refine XS.iconst X2.here hx rfl (hb hby d10_14) ?_
    show Sq p e below m T2 15 #[rv a] [.int 0] _
    exact retN X2 hx (t := .boolean) Bd.returns (by simp) (hb hby d10_15) hr
  · show Q_dec0 Z a w_NONE h0 n0 _ T2.heap _
    rw [e2]
    exact ⟨rfl, N0, rfl⟩
theorem d10_10 : decode prog_61_method_2_code 10 = .ok (.iconst 1, 1) := by decide +kernel
theorem d10_11 : decode prog_61_method_2_code 11 = .ok (.goto 4, 3) := by decide +kernel
def Q_dec1 (Z : State) (a : Addr) (r : Addr) (w_NONE : Addr) (h0 : Heap) (n0 : Nat) (v : Option Value) (h : Heap) (L : List Loc) : Prop := v = some (.int (1 : Int32)) ∧ Fr n0 L ∧ h = h0
set_option maxRecDepth 65536 in
set_option maxHeartbeats 40000000 in
theorem dec1 (l : Launch) (Z : State) (a0 : Array Value) (hw : ∀ d ∈ tables_1, d.before a0 Z = true) (ws : List Jvm.Cond) (a : Addr) (r : Addr) (w_NONE : Addr) (h0 : Heap) (n0 : Nat) (O : Old Z n0 h0) (Fs : Fld Z h0 a "com/example/latchkey/latchkey/ScaffoldOffer" "status" "Lcom/example/latchkey/latchkey/ScaffoldOffer$Status;" (.ref r)) (S_w_NONE : Sta Z Z.heap "com/example/latchkey/latchkey/ScaffoldOffer$Status" "NONE" "Lcom/example/latchkey/latchkey/ScaffoldOffer$Status;" (.ref w_NONE)) (nr : r ≠ w_NONE) :
    Ctr l Z y_8 prog_61_method_2_code 1 (some .boolean) ws ({ frames := 0, cells := 0, slots := 0, locals := 0 } : Room) #[(.ref a)] h0 (Q_dec1 Z a r w_NONE h0 n0) := by
  refine MetFree.of_bodySF (plainFor_of_name pn_0) hisR ?_
  intro p e s m args below meth c s₁ Bd hml0 hP hK
  obtain ⟨rfl, hZ, hh⟩ := hP
  have W := fun (i : Nat) {d : Jvm.Cond} (h : tables_1[i]? = some d) => hw d (List.mem_of_getElem? h)
  have hx := Bd.exec
  have hby := Bd.bytes
  have hml : c.maxLocals = 1 := hml0
  have hown : s.vm.findClass "com/example/latchkey/latchkey/ScaffoldOffer" = some m.cls := findClass_of_methodNamed Bd.named
  have hnm := (name_of_methodNamed Bd.named Bd.method).1
  have X0 : Stand p l e ({ frames := 0, cells := 0, slots := 0, locals := 0 } : Room) s m #[(.ref a)] below meth c s₁ [] 0 0 := Stand.of_body Bd
  have e0 : s₁.heap = h0 := by rw [← hh, Bd.state]; rfl
  have N0 := Fr.nil n0
  have pre0 : ∀ t, Steps p.tables e below (s₁.setTop (mkF m 0 #[.val (.ref a)] [])) t → Steps p.tables e below (s₁.setTop (entryFrame m #[(.ref a)] 1)) t := fun t kk_ => castTop (ef_8 m a) kk_
  obtain ⟨T1, X1, e1, st1⟩ := getF X0 hx hZ hown (host := "") (Or.inl (W 65 rfl)) Via.refl e0 Fs (g := (mkF m 1 #[rv a] [.ref a])) rfl rfl (hb hby d10_1)
  obtain ⟨T2, X2, e2, st2⟩ := getS2 X1 hx hZ hown (host := "") (Or.inl (W 74 rfl)) Via.refl e1 (S_w_NONE.ext O.2) (g := (mkF m 4 #[rv a] [.ref r])) rfl (hb hby d10_4)
  obtain ⟨fs, hr, hrun, hended, hW, hsame⟩ := X2.leave (v := some (.int (1 : Int32))) (fun h => by rw [Bd.returns] at h; cases h)
  refine ⟨_, _, pre0 _ ?_, hrun, hended, _, _, rfl, ?_, ⟨_, rfl⟩, hW, hsame.mono (by decide) (by decide)⟩
  · show Sq p e below m s₁ 0 #[rv a] [] _
    refine XS.aloadN X0.here hx rfl (hb hby d10_0) rfl rfl ?_
    show Sq p e below m s₁ 1 #[rv a] [.ref a] _
    refine st1 _ ?_
    show Sq p e below m T1 4 #[rv a] [.ref r] _
    refine st2 _ ?_
    show Sq p e below m T2 7 #[rv a] [.ref w_NONE, .ref r] _
    refine Jvm.RoadKit.acmp (g := (mkF m 7 #[rv a] [.ref w_NONE, .ref r])) X2 hx rfl rfl rfl (pc0 := 7) (pc' := 10) (same := false) rfl (hb hby d10_7) rfl (decide_eq_false fun q => nr (Value.ref.inj q)) (by decide) (by decide) ?_
    show Sq p e below m T2 10 #[rv a] [] _
    refine XS.iconst X2.here hx rfl (hb hby d10_10) ?_
    refine XS.goto X2.here hx rfl (pc0 := 11) (pc' := 15) rfl (hb hby d10_11) (by decide) (by decide) ?_
    show Sq p e below m T2 15 #[rv a] [.int 1] _
    exact retN X2 hx (t := .boolean) Bd.returns (by simp) (hb hby d10_15) hr
  · show Q_dec1 Z a r w_NONE h0 n0 _ T2.heap _
    rw [e2]
    exact ⟨rfl, N0, rfl⟩
theorem pd_1 : parseMethodDescriptor "()Ljava/util/Optional;" = some ⟨[], some (.object "java/util/Optional")⟩ := by decide +kernel
theorem pd_2 : parseMethodDescriptor "(Lcom/example/latchkey/latchkey/ScaffoldOffer$Status;Ljava/util/Optional;Ljava/util/Optional;Ljava/util/Optional;Ljava/util/List;)V" = some ⟨[(.object "com/example/latchkey/latchkey/ScaffoldOffer$Status"), (.object "java/util/Optional"), (.object "java/util/Optional"), (.object "java/util/Optional"), (.object "java/util/List")], none⟩ := by decide +kernel
theorem pd_3 : parseMethodDescriptor "()Z" = some ⟨[], some .boolean⟩ := by decide +kernel
def Q_rm0 (Z : State) (p1 : Int32) (w_NONE : Addr) (w_OFFER : Addr) (w_OFFER_offeredBy : Addr) (w_TAKEN : Addr) (w_DECLINED : Addr) (w_SKIPPED : Addr) (w_OFFERED : Addr) (w_DEF : Addr) (h0 : Heap) (n0 : Nat) (v : Option Value) (h : Heap) (L : List Loc) : Prop := v = some (.int (1 : Int32)) ∧ Fr n0 L
theorem ef_9 (m : MethodId) (x0 : Int32) : entryFrame m #[(.int x0)] maxLocals = mkF m 0 #[.val (.int x0), .unset, .unset, .unset, .unset, .unset] [] := by first | (simp [entryFrame, mkF, argsToLocals, Value.category, maxLocals]; done) | rfl
theorem pn_5 : plainName "com/example/latchkey/latchkey/ScaffoldOfferIsDecidedPinLaw" = true := by first | (simp [plainName, overriddenIn]; done) | decide +kernel
set_option maxRecDepth 65536 in
set_option maxHeartbeats 40000000 in
theorem rm0_0 (l : Launch) (Z : State) (a0 : Array Value) (hw : ∀ d ∈ tables_1, d.before a0 Z = true) (ws : List Jvm.Cond) (p1 : Int32) (w_NONE : Addr) (w_OFFER : Addr) (w_OFFER_offeredBy : Addr) (w_TAKEN : Addr) (w_DECLINED : Addr) (w_SKIPPED : Addr) (w_OFFERED : Addr) (w_DEF : Addr) (h0 : Heap) (n0 : Nat) (O : Old Z n0 h0) (S_w_NONE : Sta Z Z.heap "com/example/latchkey/latchkey/ScaffoldOffer$Status" "NONE" "Lcom/example/latchkey/latchkey/ScaffoldOffer$Status;" (.ref w_NONE)) (E_w_NONE : Exa Z Z.heap w_NONE "com/example/latchkey/latchkey/ScaffoldOffer$Status") (S_w_OFFER : Sta Z Z.heap "com/example/latchkey/latchkey/ScaffoldOffer" "NONE" "Lcom/example/latchkey/latchkey/ScaffoldOffer;" (.ref w_OFFER)) (E_w_OFFER : Exa Z Z.heap w_OFFER "com/example/latchkey/latchkey/ScaffoldOffer") (F_w_OFFER_offeredBy : Fld Z Z.heap w_OFFER "com/example/latchkey/latchkey/ScaffoldOffer" "offeredBy" "Ljava/util/Optional;" (.ref w_OFFER_offeredBy)) (E_w_OFFER_offeredBy : Exa Z Z.heap w_OFFER_offeredBy "java/util/Optional") (F_w_OFFER_offeredAt : Fld Z Z.heap w_OFFER "com/example/latchkey/latchkey/ScaffoldOffer" "offeredAt" "Ljava/util/Optional;" (.ref w_OFFER_offeredBy)) (F_w_OFFER_answeredAt : Fld Z Z.heap w_OFFER "com/example/latchkey/latchkey/ScaffoldOffer" "answeredAt" "Ljava/util/Optional;" (.ref w_OFFER_offeredBy)) (S_w_TAKEN : Sta Z Z.heap "com/example/latchkey/latchkey/ScaffoldOffer$Status" "TAKEN" "Lcom/example/latchkey/latchkey/ScaffoldOffer$Status;" (.ref w_TAKEN)) (E_w_TAKEN : Exa Z Z.heap w_TAKEN "com/example/latchkey/latchkey/ScaffoldOffer$Status") (S_w_DECLINED : Sta Z Z.heap "com/example/latchkey/latchkey/ScaffoldOffer$Status" "DECLINED" "Lcom/example/latchkey/latchkey/ScaffoldOffer$Status;" (.ref w_DECLINED)) (E_w_DECLINED : Exa Z Z.heap w_DECLINED "com/example/latchkey/latchkey/ScaffoldOffer$Status") (S_w_SKIPPED : Sta Z Z.heap "com/example/latchkey/latchkey/ScaffoldOffer$Status" "SKIPPED" "Lcom/example/latchkey/latchkey/ScaffoldOffer$Status;" (.ref w_SKIPPED)) (E_w_SKIPPED : Exa Z Z.heap w_SKIPPED "com/example/latchkey/latchkey/ScaffoldOffer$Status") (S_w_OFFERED : Sta Z Z.heap "com/example/latchkey/latchkey/ScaffoldOffer$Status" "OFFERED" "Lcom/example/latchkey/latchkey/ScaffoldOffer$Status;" (.ref w_OFFERED)) (E_w_OFFERED : Exa Z Z.heap w_OFFERED "com/example/latchkey/latchkey/ScaffoldOffer$Status") (S_w_DEF : Sta Z Z.heap "java/util/ArrayList" "DEFAULTCAPACITY_EMPTY_ELEMENTDATA" "[Ljava/lang/Object;" (.ref w_DEF)) (E_w_DEF : Exa Z Z.heap w_DEF "[Ljava/lang/Object;") (ne_1 : w_DECLINED ≠ w_NONE) (ne_2 : w_OFFERED ≠ w_NONE) (ne_3 : w_TAKEN ≠ w_NONE) (ne_4 : w_SKIPPED ≠ w_NONE) (hk : ((p1 &&& (2147483647 : Int32)) % (5 : Int32)) = (0 : Int32)) :
    Ctr l Z x code maxLocals ret ws room_1 #[(.int p1)] h0 (Q_rm0 Z p1 w_NONE w_OFFER w_OFFER_offeredBy w_TAKEN w_DECLINED w_SKIPPED w_OFFERED w_DEF h0 n0) := by
  refine MetFree.of_bodySF (plainFor_of_name pn_5) hisR ?_
  intro p e s m args below meth c s₁ Bd hml0 hP hK
  obtain ⟨rfl, hZ, hh⟩ := hP
  have W := fun (i : Nat) {d : Jvm.Cond} (h : tables_1[i]? = some d) => hw d (List.mem_of_getElem? h)
  have hx := Bd.exec
  have hby := Bd.bytes
  have hml : c.maxLocals = 6 := hml0
  have hown : s.vm.findClass "com/example/latchkey/latchkey/ScaffoldOfferIsDecidedPinLaw" = some m.cls := findClass_of_methodNamed Bd.named
  have hnm := (name_of_methodNamed Bd.named Bd.method).1
  have X0 : Stand p l e room_1 s m #[(.int p1)] below meth c s₁ [] 0 0 := Stand.of_body Bd
  have e0 : s₁.heap = h0 := by rw [← hh, Bd.state]; rfl
  have N0 := Fr.nil n0
  have pre0 : ∀ t, Steps p.tables e below (s₁.setTop (mkF m 0 #[.val (.int p1), .unset, .unset, .unset, .unset, .unset] [])) t → Steps p.tables e below (s₁.setTop (entryFrame m #[(.int p1)] maxLocals)) t := fun t kk_ => castTop (ef_9 m p1) kk_
  obtain ⟨T1, X1, e1, st1⟩ := getS2 X0 hx hZ hown (host := "") (Or.inl (W 1 rfl)) Via.refl e0 (S_w_NONE.ext O.2) (g := (mkF m 11 #[iv p1, iv 0, .unset, .unset, .unset, .unset] [])) rfl (hb hby at_11)
  obtain ⟨T2, X2, e2, st2⟩ := getS2 X1 hx hZ hown (host := "") (Or.inl (W 4 rfl)) Via.refl e1 (S_w_OFFER.ext O.2) (g := (mkF m 68 #[iv p1, iv 0, rv w_NONE, iv 0, .unset, .unset] [])) rfl (hb hby at_68)
  obtain ⟨T3, h3, X3, e3, E3, A3, D3, -, st3⟩ := newO X2 hx hZ hown (W 7 rfl) (W 8 rfl) (W 5 rfl) e2 (g := (mkF m 73 #[iv p1, iv 0, rv w_NONE, iv 0, rv w_OFFER, .unset] [])) rfl (hb hby at_73) (by decide) (by decide)
  obtain ⟨b3, g3⟩ : ∃ z, z = h0.size := ⟨_, rfl⟩
  rw [← g3] at A3 D3 st3
  have g_b3 : n0 ≤ b3 := Nat.le_trans (own_sz O) (Nat.le_of_eq g3.symm)
  have O4 := O.ext E3
  have Fz6 : Fld Z h3 b3 "com/example/latchkey/latchkey/ScaffoldOffer" "offeredBy" "Ljava/util/Optional;" .null := D3 (Or.inr (W 15 rfl)) (ty := (.object "java/util/Optional")) (by decide)
  have Fz7 : Fld Z h3 b3 "com/example/latchkey/latchkey/ScaffoldOffer" "offeredAt" "Ljava/util/Optional;" .null := D3 (Or.inr (W 22 rfl)) (ty := (.object "java/util/Optional")) (by decide)
  have Fz8 : Fld Z h3 b3 "com/example/latchkey/latchkey/ScaffoldOffer" "answeredAt" "Ljava/util/Optional;" .null := D3 (Or.inr (W 29 rfl)) (ty := (.object "java/util/Optional")) (by decide)
  have Fz9 : Fld Z h3 b3 "com/example/latchkey/latchkey/ScaffoldOffer" "status" "Lcom/example/latchkey/latchkey/ScaffoldOffer$Status;" .null := D3 (Or.inr (W 66 rfl)) (ty := (.object "com/example/latchkey/latchkey/ScaffoldOffer$Status")) (by decide)
  have Fz10 : Fld Z h3 b3 "com/example/latchkey/latchkey/ScaffoldOffer" "kinds" "Ljava/util/List;" .null := D3 (Or.inr (W 68 rfl)) (ty := (.object "java/util/List")) (by decide)
  obtain ⟨cq11, kq11, q11a, q11b, q11c⟩ := isOf hZ e3 (E_w_OFFER.ext O4.2)
  obtain ⟨_, _, ⟨T11, L11, k11, n11⟩, -, X11, ⟨Lc11, hQ11, l11, y11, z11⟩, st11⟩ := X3.virtualBack hx (y := y_0) (z := y_0) hown (mvT hZ (W 9 rfl)) (mvT hZ (W 10 rfl)) (notFace_of_selects (args := #[]) (mvT hZ (W 12 rfl))) (mvT hZ (W 12 rfl)) (mvT hZ (W 11 rfl)) (by decide) (backOf (W := 3) (getofferedBy l Z a0 hw [] w_OFFER w_OFFER_offeredBy h3 n0 O4 (F_w_OFFER_offeredBy.ext O4.2)) hZ (W 13 rfl) (W 5 rfl) (by decide) (by decide)) q11a q11c (g := (mkF m 80 #[iv p1, iv 0, rv w_NONE, iv 0, rv w_OFFER, .unset] [.ref w_OFFER, .ref w_NONE, .ref b3, .ref b3])) rfl (by rw [hml]; rfl) (Steps.refl _) (argsL := []) (rest := [.ref w_NONE, .ref b3, .ref b3]) (lenOf pd_1 rfl) rfl (by show 2 * 0 + _ ≤ _; exact Nat.le_of_eq rfl) (hb hby at_80) (fun _ _ => ⟨rfl, e3, (by decide : 1 + 0 ≤ _), (by decide : 5 + 0 ≤ _)⟩)
  dsimp only [Pt.U, Pt.locs, Pt.cells, Pt.slots] at X11 l11 y11 z11 st11 hQ11
  subst l11 y11 z11
  obtain ⟨h11, e11⟩ : ∃ z, T11.heap = z := ⟨_, rfl⟩
  rw [e11] at hQ11
  obtain ⟨rfl, N11q, p11_0⟩ := hQ11
  have N11 := Fr.app N0 N11q
  rw [p11_0] at e11
  obtain ⟨cq12, kq12, q12a, q12b, q12c⟩ := isOf hZ e11 (E_w_OFFER.ext O4.2)
  obtain ⟨_, _, ⟨T12, L12, k12, n12⟩, -, X12, ⟨Lc12, hQ12, l12, y12, z12⟩, st12⟩ := X11.virtualBack hx (y := y_1) (z := y_1) hown (mvT hZ (W 16 rfl)) (mvT hZ (W 17 rfl)) (notFace_of_selects (args := #[]) (mvT hZ (W 19 rfl))) (mvT hZ (W 19 rfl)) (mvT hZ (W 18 rfl)) (by decide) (backOf (W := 4) (getofferedAt l Z a0 hw [] w_OFFER w_OFFER_offeredBy h3 n0 O4 (F_w_OFFER_offeredAt.ext O4.2)) hZ (W 20 rfl) (W 5 rfl) (by decide) (by decide)) q12a q12c (g := (mkF m 85 #[iv p1, iv 0, rv w_NONE, iv 0, rv w_OFFER, .unset] [.ref w_OFFER, .ref w_OFFER_offeredBy, .ref w_NONE, .ref b3, .ref b3])) rfl (by rw [hml]; rfl) (Steps.refl _) (argsL := []) (rest := [.ref w_OFFER_offeredBy, .ref w_NONE, .ref b3, .ref b3]) (lenOf pd_1 rfl) rfl (by show 2 * 0 + _ ≤ _; exact Nat.le_of_eq rfl) (hb hby at_85) (fun _ _ => ⟨rfl, e11, (by decide : 1 + 0 ≤ _), (by decide : 5 + 0 ≤ _)⟩)
  dsimp only [Pt.U, Pt.locs, Pt.cells, Pt.slots] at X12 l12 y12 z12 st12 hQ12
  subst l12 y12 z12
  obtain ⟨h12, e12⟩ : ∃ z, T12.heap = z := ⟨_, rfl⟩
  rw [e12] at hQ12
  obtain ⟨rfl, N12q, p12_0⟩ := hQ12
  have N12 := Fr.app N11 N12q
  rw [p12_0] at e12
  obtain ⟨cq13, kq13, q13a, q13b, q13c⟩ := isOf hZ e12 (E_w_OFFER.ext O4.2)
  obtain ⟨_, _, ⟨T13, L13, k13, n13⟩, -, X13, ⟨Lc13, hQ13, l13, y13, z13⟩, st13⟩ := X12.virtualBack hx (y := y_2) (z := y_2) hown (mvT hZ (W 23 rfl)) (mvT hZ (W 24 rfl)) (notFace_of_selects (args := #[]) (mvT hZ (W 26 rfl))) (mvT hZ (W 26 rfl)) (mvT hZ (W 25 rfl)) (by decide) (backOf (W := 5) (getansweredAt l Z a0 hw [] w_OFFER w_OFFER_offeredBy h3 n0 O4 (F_w_OFFER_answeredAt.ext O4.2)) hZ (W 27 rfl) (W 5 rfl) (by decide) (by decide)) q13a q13c (g := (mkF m 90 #[iv p1, iv 0, rv w_NONE, iv 0, rv w_OFFER, .unset] [.ref w_OFFER, .ref w_OFFER_offeredBy, .ref w_OFFER_offeredBy, .ref w_NONE, .ref b3, .ref b3])) rfl (by rw [hml]; rfl) (Steps.refl _) (argsL := []) (rest := [.ref w_OFFER_offeredBy, .ref w_OFFER_offeredBy, .ref w_NONE, .ref b3, .ref b3]) (lenOf pd_1 rfl) rfl (by show 2 * 0 + _ ≤ _; exact Nat.le_of_eq rfl) (hb hby at_90) (fun _ _ => ⟨rfl, e12, (by decide : 1 + 0 ≤ _), (by decide : 5 + 0 ≤ _)⟩)
  dsimp only [Pt.U, Pt.locs, Pt.cells, Pt.slots] at X13 l13 y13 z13 st13 hQ13
  subst l13 y13 z13
  obtain ⟨h13, e13⟩ : ∃ z, T13.heap = z := ⟨_, rfl⟩
  rw [e13] at hQ13
  obtain ⟨rfl, N13q, p13_0⟩ := hQ13
  have N13 := Fr.app N12 N13q
  rw [p13_0] at e13
  obtain ⟨T14, h14, X14, e14, E14, A14, D14, -, st14⟩ := newO X13 hx hZ hown (W 30 rfl) (W 31 rfl) (W 32 rfl) e13 (g := (mkF m 93 #[iv p1, iv 0, rv w_NONE, iv 0, rv w_OFFER, .unset] [.ref w_OFFER_offeredBy, .ref w_OFFER_offeredBy, .ref w_OFFER_offeredBy, .ref w_NONE, .ref b3, .ref b3])) rfl (hb hby at_93) (by decide) (by decide)
  obtain ⟨b14, g14⟩ : ∃ z, z = h3.size := ⟨_, rfl⟩
  rw [← g14] at A14 D14 st14
  have g_b14 : n0 ≤ b14 := Nat.le_trans (own_sz O4) (Nat.le_of_eq g14.symm)
  have ne_b3_b14 : b3 ≠ b14 := Nat.ne_of_lt (Nat.lt_of_lt_of_le A3.lt (Nat.le_of_eq g14.symm))
  have A3 := A3.ext E14
  have Fz6 := Fz6.ext E14
  have Fz7 := Fz7.ext E14
  have Fz8 := Fz8.ext E14
  have Fz9 := Fz9.ext E14
  have Fz10 := Fz10.ext E14
  have O15 := O4.ext E14
  have Fz17 : Fld Z h14 b14 "java/util/AbstractList" "modCount" "I" (.int (0 : Int32)) := D14 (Or.inl (W 52 rfl)) (ty := .int) (by decide)
  have Fz18 : Fld Z h14 b14 "java/util/ArrayList" "elementData" "[Ljava/lang/Object;" .null := D14 (Or.inl (W 55 rfl)) (ty := (.array (.object "java/lang/Object"))) (by decide)
  obtain ⟨_, _, ⟨T19, L19, k19, n19⟩, -, X19, ⟨Lc19, hQ19, l19, y19, z19⟩, st19⟩ := X14.specialBack hx (y := y_5) rfl hown (mvT hZ (W 33 rfl)) (mvT hZ (W 34 rfl)) (mvT hZ (W 35 rfl)) (by decide) (backOf (W := 7) (alinit l Z a0 hw [] b14 w_DEF h14 n0 O15 A14 Fz17 Fz18 g_b14 S_w_DEF) hZ (W 35 rfl) (W 32 rfl) (by decide) (by decide)) (g := (mkF m 97 #[iv p1, iv 0, rv w_NONE, iv 0, rv w_OFFER, .unset] [.ref b14, .ref b14, .ref w_OFFER_offeredBy, .ref w_OFFER_offeredBy, .ref w_OFFER_offeredBy, .ref w_NONE, .ref b3, .ref b3])) rfl (by rw [hml]; rfl) (Steps.refl _) (a := b14) (argsL := []) (rest := [.ref b14, .ref w_OFFER_offeredBy, .ref w_OFFER_offeredBy, .ref w_OFFER_offeredBy, .ref w_NONE, .ref b3, .ref b3]) (lenOf pd_0 rfl) rfl (by show 2 * 0 + _ ≤ _; exact Nat.le_of_eq rfl) (hb hby at_97) (fun _ _ => ⟨rfl, e14, (by decide : 2 + 0 ≤ _), (by decide : 8 + 0 ≤ _)⟩)
  dsimp only [Pt.U, Pt.locs, Pt.cells, Pt.slots] at X19 l19 y19 z19 st19 hQ19
  subst l19 y19 z19
  obtain ⟨h19, e19⟩ : ∃ z, T19.heap = z := ⟨_, rfl⟩
  rw [e19] at hQ19
  obtain ⟨rfl, N19q, p19_0⟩ := hQ19
  have N19 := Fr.app N13 N19q
  have A3 := A3.keep p19_0
  have Fz6 := Fz6.keep p19_0 (ninS ne_b3_b14 nin0)
  have Fz7 := Fz7.keep p19_0 (ninS ne_b3_b14 nin0)
  have Fz8 := Fz8.keep p19_0 (ninS ne_b3_b14 nin0)
  have Fz9 := Fz9.keep p19_0 (ninS ne_b3_b14 nin0)
  have Fz10 := Fz10.keep p19_0 (ninS ne_b3_b14 nin0)
  have O20 := O15.keep p19_0 (allS g_b14 all0)
  obtain ⟨_, _, ⟨T22, L22, k22, n22⟩, -, X22, ⟨Lc22, hQ22, l22, y22, z22⟩, st22⟩ := X19.specialBack hx (y := y_7) rfl hown (mvT hZ (W 56 rfl)) (mvT hZ (W 57 rfl)) (mvT hZ (W 58 rfl)) (by decide) (backOf (W := 1) (soinit l Z a0 hw [] b3 w_NONE w_OFFER_offeredBy w_OFFER_offeredBy w_OFFER_offeredBy b14 h19 n0 O20 A3 Fz9 Fz6 Fz7 Fz8 Fz10 g_b3) hZ (W 58 rfl) (W 5 rfl) (by decide) (by decide)) (g := (mkF m 100 #[iv p1, iv 0, rv w_NONE, iv 0, rv w_OFFER, .unset] [.ref b14, .ref w_OFFER_offeredBy, .ref w_OFFER_offeredBy, .ref w_OFFER_offeredBy, .ref w_NONE, .ref b3, .ref b3])) rfl (by rw [hml]; rfl) (Steps.refl _) (a := b3) (argsL := [.ref w_NONE, .ref w_OFFER_offeredBy, .ref w_OFFER_offeredBy, .ref w_OFFER_offeredBy, .ref b14]) (rest := [.ref b3]) (lenOf pd_2 rfl) rfl (by show 2 * 0 + _ ≤ _; exact Nat.le_of_eq rfl) (hb hby at_100) (fun _ _ => ⟨rfl, e19, (by decide : 2 + 0 ≤ _), (by decide : 8 + 0 ≤ _)⟩)
  dsimp only [Pt.U, Pt.locs, Pt.cells, Pt.slots] at X22 l22 y22 z22 st22 hQ22
  subst l22 y22 z22
  obtain ⟨h22, e22⟩ : ∃ z, T22.heap = z := ⟨_, rfl⟩
  rw [e22] at hQ22
  obtain ⟨rfl, N22q, p22_0, p22_1⟩ := hQ22
  have N22 := Fr.app N19 N22q
  have A3 := A3.keep p22_0
  have O23 := O20.keep p22_0 (allS g_b3 all0)
  obtain ⟨cq25, kq25, q25a, q25b, q25c⟩ := isOf hZ e22 A3
  obtain ⟨_, _, ⟨T25, L25, k25, n25⟩, -, X25, ⟨Lc25, hQ25, l25, y25, z25⟩, st25⟩ := X22.virtualBack hx (y := y_8) (z := y_8) hown (mvT hZ (W 69 rfl)) (mvT hZ (W 70 rfl)) (notFace_of_selects (args := #[]) (mvT hZ (W 72 rfl))) (mvT hZ (W 72 rfl)) (mvT hZ (W 71 rfl)) (by decide) (backOf (W := 0) (dec0 l Z a0 hw [] b3 w_NONE h22 n0 O23 p22_1 S_w_NONE) hZ (W 73 rfl) (W 5 rfl) (by decide) (by decide)) q25a q25c (g := (mkF m 107 #[iv p1, iv 0, rv w_NONE, iv 0, rv w_OFFER, rv b3] [.ref b3])) rfl (by rw [hml]; rfl) (Steps.refl _) (argsL := []) (rest := []) (lenOf pd_3 rfl) rfl (by show 2 * 0 + _ ≤ _; exact Nat.le_of_eq rfl) (hb hby at_107) (fun _ _ => ⟨rfl, e22, (by decide : 2 + 0 ≤ _), (by decide : 8 + 0 ≤ _)⟩)
  dsimp only [Pt.U, Pt.locs, Pt.cells, Pt.slots] at X25 l25 y25 z25 st25 hQ25
  subst l25 y25 z25
  obtain ⟨h25, e25⟩ : ∃ z, T25.heap = z := ⟨_, rfl⟩
  rw [e25] at hQ25
  obtain ⟨rfl, N25q, p25_0⟩ := hQ25
  have N25 := Fr.app N22 N25q
  rw [p25_0] at e25
  obtain ⟨fs, hr, hrun, hended, hW, hsame⟩ := X25.leave (v := some (.int (1 : Int32))) (fun h => by rw [Bd.returns] at h; cases h)
  refine ⟨_, _, pre0 _ ?_, hrun, hended, _, _, rfl, ?_, ⟨_, rfl⟩, hW, hsame.mono (by decide) (by decide)⟩
  · show Sq p e below m s₁ 0 #[iv p1, .unset, .unset, .unset, .unset, .unset] [] _
    refine XS.iloadN X0.here hx rfl (hb hby at_0) rfl ?_
    show Sq p e below m s₁ 1 #[iv p1, .unset, .unset, .unset, .unset, .unset] [.int p1] _
    refine X0.ldcInt hx hown (mvT hZ (W 0 rfl)) (g := (mkF m 1 #[iv p1, .unset, .unset, .unset, .unset, .unset] [.int p1])) rfl (hb hby at_1) _ ?_
    show Sq p e below m s₁ 3 #[iv p1, .unset, .unset, .unset, .unset, .unset] [.int 2147483647, .int p1] _
    refine XS.iand X0.here hx rfl (hb hby at_3) rfl ?_
    refine XS.iconst X0.here hx rfl (hb hby at_4) ?_
    show Sq p e below m s₁ 5 #[iv p1, .unset, .unset, .unset, .unset, .unset] [.int 5, .int (p1 &&& (2147483647 : Int32))] _
    refine iremM X0 hx rfl (hb hby at_5) rfl (by decide : (5 : Int32) ≠ (0 : Int32)) ?_
    show Sq p e below m s₁ 6 #[iv p1, .unset, .unset, .unset, .unset, .unset] [.int ((p1 &&& (2147483647 : Int32)) % (5 : Int32))] _
    rw [hk]
    show Sq p e below m s₁ 6 #[iv p1, .unset, .unset, .unset, .unset, .unset] [.int 0] _
    refine XS.istoreN X0.here hx rfl (hb hby at_6) rfl rfl ?_
    refine XS.iloadN X0.here hx rfl (hb hby at_7) rfl ?_
    show Sq p e below m s₁ 8 #[iv p1, iv 0, .unset, .unset, .unset, .unset] [.int 0] _
    refine XS.ifNo X0.here hx rfl (hb hby at_8) rfl ((if0 _ _).trans (teq (rfl : (0 : Int32) = (0 : Int32))).2) ?_
    show Sq p e below m s₁ 11 #[iv p1, iv 0, .unset, .unset, .unset, .unset] [] _
    refine st1 _ ?_
    show Sq p e below m T1 14 #[iv p1, iv 0, .unset, .unset, .unset, .unset] [.ref w_NONE] _
    refine XS.astoreN X1.here hx rfl (hb hby at_14) rfl rfl rfl ?_
    refine XS.iconst X1.here hx rfl (hb hby at_15) ?_
    show Sq p e below m T1 16 #[iv p1, iv 0, rv w_NONE, .unset, .unset, .unset] [.int 0] _
    refine XS.istoreN X1.here hx rfl (hb hby at_16) rfl rfl ?_
    refine XS.goto X1.here hx rfl (pc0 := 17) (pc' := 68) rfl (hb hby at_17) (by decide) (by decide) ?_
    show Sq p e below m T1 68 #[iv p1, iv 0, rv w_NONE, iv 0, .unset, .unset] [] _
    refine st2 _ ?_
    show Sq p e below m T2 71 #[iv p1, iv 0, rv w_NONE, iv 0, .unset, .unset] [.ref w_OFFER] _
    refine XS.astore X2.here hx rfl (hb hby at_71) rfl rfl rfl ?_
    show Sq p e below m T2 73 #[iv p1, iv 0, rv w_NONE, iv 0, rv w_OFFER, .unset] [] _
    refine st3 _ ?_
    show Sq p e below m T3 76 #[iv p1, iv 0, rv w_NONE, iv 0, rv w_OFFER, .unset] [.ref b3] _
    refine XS.dup X3.here hx rfl (hb hby at_76) rfl rfl ?_
    refine XS.aloadN X3.here hx rfl (hb hby at_77) rfl rfl ?_
    show Sq p e below m T3 78 #[iv p1, iv 0, rv w_NONE, iv 0, rv w_OFFER, .unset] [.ref w_NONE, .ref b3, .ref b3] _
    refine XS.aload X3.here hx rfl (hb hby at_78) rfl rfl ?_
    show Sq p e below m T3 80 #[iv p1, iv 0, rv w_NONE, iv 0, rv w_OFFER, .unset] [.ref w_OFFER, .ref w_NONE, .ref b3, .ref b3] _
    refine st11.trans ?_
    show Sq p e below m T11 83 #[iv p1, iv 0, rv w_NONE, iv 0, rv w_OFFER, .unset] [.ref w_OFFER_offeredBy, .ref w_NONE, .ref b3, .ref b3] _
    refine XS.aload X11.here hx rfl (hb hby at_83) rfl rfl ?_
    show Sq p e below m T11 85 #[iv p1, iv 0, rv w_NONE, iv 0, rv w_OFFER, .unset] [.ref w_OFFER, .ref w_OFFER_offeredBy, .ref w_NONE, .ref b3, .ref b3] _
    refine st12.trans ?_
    show Sq p e below m T12 88 #[iv p1, iv 0, rv w_NONE, iv 0, rv w_OFFER, .unset] [.ref w_OFFER_offeredBy, .ref w_OFFER_offeredBy, .ref w_NONE, .ref b3, .ref b3] _
    refine XS.aload X12.here hx rfl (hb hby at_88) rfl rfl ?_
    show Sq p e below m T12 90 #[iv p1, iv 0, rv w_NONE, iv 0, rv w_OFFER, .unset] [.ref w_OFFER, .ref w_OFFER_offeredBy, .ref w_OFFER_offeredBy, .ref w_NONE, .ref b3, .ref b3] _
    refine st13.trans ?_
    show Sq p e below m T13 93 #[iv p1, iv 0, rv w_NONE, iv 0, rv w_OFFER, .unset] [.ref w_OFFER_offeredBy, .ref w_OFFER_offeredBy, .ref w_OFFER_offeredBy, .ref w_NONE, .ref b3, .ref b3] _
    refine st14 _ ?_
    show Sq p e below m T14 96 #[iv p1, iv 0, rv w_NONE, iv 0, rv w_OFFER, .unset] [.ref b14, .ref w_OFFER_offeredBy, .ref w_OFFER_offeredBy, .ref w_OFFER_offeredBy, .ref w_NONE, .ref b3, .ref b3] _
    refine XS.dup X14.here hx rfl (hb hby at_96) rfl rfl ?_
    show Sq p e below m T14 97 #[iv p1, iv 0, rv w_NONE, iv 0, rv w_OFFER, .unset] [.ref b14, .ref b14, .ref w_OFFER_offeredBy, .ref w_OFFER_offeredBy, .ref w_OFFER_offeredBy, .ref w_NONE, .ref b3, .ref b3] _
    refine st19.trans ?_
    show Sq p e below m T19 100 #[iv p1, iv 0, rv w_NONE, iv 0, rv w_OFFER, .unset] [.ref b14, .ref w_OFFER_offeredBy, .ref w_OFFER_offeredBy, .ref w_OFFER_offeredBy, .ref w_NONE, .ref b3, .ref b3] _
    refine st22.trans ?_
    show Sq p e below m T22 103 #[iv p1, iv 0, rv w_NONE, iv 0, rv w_OFFER, .unset] [.ref b3] _
    refine XS.astore X22.here hx rfl (hb hby at_103) rfl rfl rfl ?_
    refine XS.aload X22.here hx rfl (hb hby at_105) rfl rfl ?_
    show Sq p e below m T22 107 #[iv p1, iv 0, rv w_NONE, iv 0, rv w_OFFER, rv b3] [.ref b3] _
    refine st25.trans ?_
    show Sq p e below m T25 110 #[iv p1, iv 0, rv w_NONE, iv 0, rv w_OFFER, rv b3] [.int 0] _
    refine XS.iloadN X25.here hx rfl (hb hby at_110) rfl ?_
    refine XS.icmpNo X25.here hx rfl (hb hby at_111) rfl (teq (rfl : (0 : Int32) = (0 : Int32))).2 ?_
    show Sq p e below m T25 114 #[iv p1, iv 0, rv w_NONE, iv 0, rv w_OFFER, rv b3] [] _
    refine XS.iconst X25.here hx rfl (hb hby at_114) ?_
    refine XS.goto X25.here hx rfl (pc0 := 115) (pc' := 119) rfl (hb hby at_115) (by decide) (by decide) ?_
    show Sq p e below m T25 119 #[iv p1, iv 0, rv w_NONE, iv 0, rv w_OFFER, rv b3] [.int 1] _
    exact retN X25 hx (t := .boolean) Bd.returns (by simp) (hb hby at_119) hr
  · show Q_rm0 Z p1 w_NONE w_OFFER w_OFFER_offeredBy w_TAKEN w_DECLINED w_SKIPPED w_OFFERED w_DEF h0 n0 _ T25.heap _
    rw [e25]
    exact ⟨rfl, N25⟩
set_option maxRecDepth 65536 in
set_option maxHeartbeats 40000000 in
theorem rm0_1 (l : Launch) (Z : State) (a0 : Array Value) (hw : ∀ d ∈ tables_1, d.before a0 Z = true) (ws : List Jvm.Cond) (p1 : Int32) (w_NONE : Addr) (w_OFFER : Addr) (w_OFFER_offeredBy : Addr) (w_TAKEN : Addr) (w_DECLINED : Addr) (w_SKIPPED : Addr) (w_OFFERED : Addr) (w_DEF : Addr) (h0 : Heap) (n0 : Nat) (O : Old Z n0 h0) (S_w_NONE : Sta Z Z.heap "com/example/latchkey/latchkey/ScaffoldOffer$Status" "NONE" "Lcom/example/latchkey/latchkey/ScaffoldOffer$Status;" (.ref w_NONE)) (E_w_NONE : Exa Z Z.heap w_NONE "com/example/latchkey/latchkey/ScaffoldOffer$Status") (S_w_OFFER : Sta Z Z.heap "com/example/latchkey/latchkey/ScaffoldOffer" "NONE" "Lcom/example/latchkey/latchkey/ScaffoldOffer;" (.ref w_OFFER)) (E_w_OFFER : Exa Z Z.heap w_OFFER "com/example/latchkey/latchkey/ScaffoldOffer") (F_w_OFFER_offeredBy : Fld Z Z.heap w_OFFER "com/example/latchkey/latchkey/ScaffoldOffer" "offeredBy" "Ljava/util/Optional;" (.ref w_OFFER_offeredBy)) (E_w_OFFER_offeredBy : Exa Z Z.heap w_OFFER_offeredBy "java/util/Optional") (F_w_OFFER_offeredAt : Fld Z Z.heap w_OFFER "com/example/latchkey/latchkey/ScaffoldOffer" "offeredAt" "Ljava/util/Optional;" (.ref w_OFFER_offeredBy)) (F_w_OFFER_answeredAt : Fld Z Z.heap w_OFFER "com/example/latchkey/latchkey/ScaffoldOffer" "answeredAt" "Ljava/util/Optional;" (.ref w_OFFER_offeredBy)) (S_w_TAKEN : Sta Z Z.heap "com/example/latchkey/latchkey/ScaffoldOffer$Status" "TAKEN" "Lcom/example/latchkey/latchkey/ScaffoldOffer$Status;" (.ref w_TAKEN)) (E_w_TAKEN : Exa Z Z.heap w_TAKEN "com/example/latchkey/latchkey/ScaffoldOffer$Status") (S_w_DECLINED : Sta Z Z.heap "com/example/latchkey/latchkey/ScaffoldOffer$Status" "DECLINED" "Lcom/example/latchkey/latchkey/ScaffoldOffer$Status;" (.ref w_DECLINED)) (E_w_DECLINED : Exa Z Z.heap w_DECLINED "com/example/latchkey/latchkey/ScaffoldOffer$Status") (S_w_SKIPPED : Sta Z Z.heap "com/example/latchkey/latchkey/ScaffoldOffer$Status" "SKIPPED" "Lcom/example/latchkey/latchkey/ScaffoldOffer$Status;" (.ref w_SKIPPED)) (E_w_SKIPPED : Exa Z Z.heap w_SKIPPED "com/example/latchkey/latchkey/ScaffoldOffer$Status") (S_w_OFFERED : Sta Z Z.heap "com/example/latchkey/latchkey/ScaffoldOffer$Status" "OFFERED" "Lcom/example/latchkey/latchkey/ScaffoldOffer$Status;" (.ref w_OFFERED)) (E_w_OFFERED : Exa Z Z.heap w_OFFERED "com/example/latchkey/latchkey/ScaffoldOffer$Status") (S_w_DEF : Sta Z Z.heap "java/util/ArrayList" "DEFAULTCAPACITY_EMPTY_ELEMENTDATA" "[Ljava/lang/Object;" (.ref w_DEF)) (E_w_DEF : Exa Z Z.heap w_DEF "[Ljava/lang/Object;") (ne_1 : w_DECLINED ≠ w_NONE) (ne_2 : w_OFFERED ≠ w_NONE) (ne_3 : w_TAKEN ≠ w_NONE) (ne_4 : w_SKIPPED ≠ w_NONE) (hk : ((p1 &&& (2147483647 : Int32)) % (5 : Int32)) = (1 : Int32)) :
    Ctr l Z x code maxLocals ret ws room_1 #[(.int p1)] h0 (Q_rm0 Z p1 w_NONE w_OFFER w_OFFER_offeredBy w_TAKEN w_DECLINED w_SKIPPED w_OFFERED w_DEF h0 n0) := by
  refine MetFree.of_bodySF (plainFor_of_name pn_5) hisR ?_
  intro p e s m args below meth c s₁ Bd hml0 hP hK
  obtain ⟨rfl, hZ, hh⟩ := hP
  have W := fun (i : Nat) {d : Jvm.Cond} (h : tables_1[i]? = some d) => hw d (List.mem_of_getElem? h)
  have hx := Bd.exec
  have hby := Bd.bytes
  have hml : c.maxLocals = 6 := hml0
  have hown : s.vm.findClass "com/example/latchkey/latchkey/ScaffoldOfferIsDecidedPinLaw" = some m.cls := findClass_of_methodNamed Bd.named
  have hnm := (name_of_methodNamed Bd.named Bd.method).1
  have X0 : Stand p l e room_1 s m #[(.int p1)] below meth c s₁ [] 0 0 := Stand.of_body Bd
  have e0 : s₁.heap = h0 := by rw [← hh, Bd.state]; rfl
  have N0 := Fr.nil n0
  have pre0 : ∀ t, Steps p.tables e below (s₁.setTop (mkF m 0 #[.val (.int p1), .unset, .unset, .unset, .unset, .unset] [])) t → Steps p.tables e below (s₁.setTop (entryFrame m #[(.int p1)] maxLocals)) t := fun t kk_ => castTop (ef_9 m p1) kk_
  obtain ⟨T1, X1, e1, st1⟩ := getS2 X0 hx hZ hown (host := "") (Or.inl (W 77 rfl)) Via.refl e0 (S_w_DECLINED.ext O.2) (g := (mkF m 25 #[iv p1, iv 1, .unset, .unset, .unset, .unset] [])) rfl (hb hby at_25)
  obtain ⟨T2, X2, e2, st2⟩ := getS2 X1 hx hZ hown (host := "") (Or.inl (W 4 rfl)) Via.refl e1 (S_w_OFFER.ext O.2) (g := (mkF m 68 #[iv p1, iv 1, rv w_DECLINED, iv 1, .unset, .unset] [])) rfl (hb hby at_68)
  obtain ⟨T3, h3, X3, e3, E3, A3, D3, -, st3⟩ := newO X2 hx hZ hown (W 7 rfl) (W 8 rfl) (W 5 rfl) e2 (g := (mkF m 73 #[iv p1, iv 1, rv w_DECLINED, iv 1, rv w_OFFER, .unset] [])) rfl (hb hby at_73) (by decide) (by decide)
  obtain ⟨b3, g3⟩ : ∃ z, z = h0.size := ⟨_, rfl⟩
  rw [← g3] at A3 D3 st3
  have g_b3 : n0 ≤ b3 := Nat.le_trans (own_sz O) (Nat.le_of_eq g3.symm)
  have O4 := O.ext E3
  have Fz6 : Fld Z h3 b3 "com/example/latchkey/latchkey/ScaffoldOffer" "offeredBy" "Ljava/util/Optional;" .null := D3 (Or.inr (W 15 rfl)) (ty := (.object "java/util/Optional")) (by decide)
  have Fz7 : Fld Z h3 b3 "com/example/latchkey/latchkey/ScaffoldOffer" "offeredAt" "Ljava/util/Optional;" .null := D3 (Or.inr (W 22 rfl)) (ty := (.object "java/util/Optional")) (by decide)
  have Fz8 : Fld Z h3 b3 "com/example/latchkey/latchkey/ScaffoldOffer" "answeredAt" "Ljava/util/Optional;" .null := D3 (Or.inr (W 29 rfl)) (ty := (.object "java/util/Optional")) (by decide)
  have Fz9 : Fld Z h3 b3 "com/example/latchkey/latchkey/ScaffoldOffer" "status" "Lcom/example/latchkey/latchkey/ScaffoldOffer$Status;" .null := D3 (Or.inr (W 66 rfl)) (ty := (.object "com/example/latchkey/latchkey/ScaffoldOffer$Status")) (by decide)
  have Fz10 : Fld Z h3 b3 "com/example/latchkey/latchkey/ScaffoldOffer" "kinds" "Ljava/util/List;" .null := D3 (Or.inr (W 68 rfl)) (ty := (.object "java/util/List")) (by decide)
  obtain ⟨cq11, kq11, q11a, q11b, q11c⟩ := isOf hZ e3 (E_w_OFFER.ext O4.2)
  obtain ⟨_, _, ⟨T11, L11, k11, n11⟩, -, X11, ⟨Lc11, hQ11, l11, y11, z11⟩, st11⟩ := X3.virtualBack hx (y := y_0) (z := y_0) hown (mvT hZ (W 9 rfl)) (mvT hZ (W 10 rfl)) (notFace_of_selects (args := #[]) (mvT hZ (W 12 rfl))) (mvT hZ (W 12 rfl)) (mvT hZ (W 11 rfl)) (by decide) (backOf (W := 3) (getofferedBy l Z a0 hw [] w_OFFER w_OFFER_offeredBy h3 n0 O4 (F_w_OFFER_offeredBy.ext O4.2)) hZ (W 13 rfl) (W 5 rfl) (by decide) (by decide)) q11a q11c (g := (mkF m 80 #[iv p1, iv 1, rv w_DECLINED, iv 1, rv w_OFFER, .unset] [.ref w_OFFER, .ref w_DECLINED, .ref b3, .ref b3])) rfl (by rw [hml]; rfl) (Steps.refl _) (argsL := []) (rest := [.ref w_DECLINED, .ref b3, .ref b3]) (lenOf pd_1 rfl) rfl (by show 2 * 0 + _ ≤ _; exact Nat.le_of_eq rfl) (hb hby at_80) (fun _ _ => ⟨rfl, e3, (by decide : 1 + 0 ≤ _), (by decide : 5 + 0 ≤ _)⟩)
  dsimp only [Pt.U, Pt.locs, Pt.cells, Pt.slots] at X11 l11 y11 z11 st11 hQ11
  subst l11 y11 z11
  obtain ⟨h11, e11⟩ : ∃ z, T11.heap = z := ⟨_, rfl⟩
  rw [e11] at hQ11
  obtain ⟨rfl, N11q, p11_0⟩ := hQ11
  have N11 := Fr.app N0 N11q
  rw [p11_0] at e11
  obtain ⟨cq12, kq12, q12a, q12b, q12c⟩ := isOf hZ e11 (E_w_OFFER.ext O4.2)
  obtain ⟨_, _, ⟨T12, L12, k12, n12⟩, -, X12, ⟨Lc12, hQ12, l12, y12, z12⟩, st12⟩ := X11.virtualBack hx (y := y_1) (z := y_1) hown (mvT hZ (W 16 rfl)) (mvT hZ (W 17 rfl)) (notFace_of_selects (args := #[]) (mvT hZ (W 19 rfl))) (mvT hZ (W 19 rfl)) (mvT hZ (W 18 rfl)) (by decide) (backOf (W := 4) (getofferedAt l Z a0 hw [] w_OFFER w_OFFER_offeredBy h3 n0 O4 (F_w_OFFER_offeredAt.ext O4.2)) hZ (W 20 rfl) (W 5 rfl) (by decide) (by decide)) q12a q12c (g := (mkF m 85 #[iv p1, iv 1, rv w_DECLINED, iv 1, rv w_OFFER, .unset] [.ref w_OFFER, .ref w_OFFER_offeredBy, .ref w_DECLINED, .ref b3, .ref b3])) rfl (by rw [hml]; rfl) (Steps.refl _) (argsL := []) (rest := [.ref w_OFFER_offeredBy, .ref w_DECLINED, .ref b3, .ref b3]) (lenOf pd_1 rfl) rfl (by show 2 * 0 + _ ≤ _; exact Nat.le_of_eq rfl) (hb hby at_85) (fun _ _ => ⟨rfl, e11, (by decide : 1 + 0 ≤ _), (by decide : 5 + 0 ≤ _)⟩)
  dsimp only [Pt.U, Pt.locs, Pt.cells, Pt.slots] at X12 l12 y12 z12 st12 hQ12
  subst l12 y12 z12
  obtain ⟨h12, e12⟩ : ∃ z, T12.heap = z := ⟨_, rfl⟩
  rw [e12] at hQ12
  obtain ⟨rfl, N12q, p12_0⟩ := hQ12
  have N12 := Fr.app N11 N12q
  rw [p12_0] at e12
  obtain ⟨cq13, kq13, q13a, q13b, q13c⟩ := isOf hZ e12 (E_w_OFFER.ext O4.2)
  obtain ⟨_, _, ⟨T13, L13, k13, n13⟩, -, X13, ⟨Lc13, hQ13, l13, y13, z13⟩, st13⟩ := X12.virtualBack hx (y := y_2) (z := y_2) hown (mvT hZ (W 23 rfl)) (mvT hZ (W 24 rfl)) (notFace_of_selects (args := #[]) (mvT hZ (W 26 rfl))) (mvT hZ (W 26 rfl)) (mvT hZ (W 25 rfl)) (by decide) (backOf (W := 5) (getansweredAt l Z a0 hw [] w_OFFER w_OFFER_offeredBy h3 n0 O4 (F_w_OFFER_answeredAt.ext O4.2)) hZ (W 27 rfl) (W 5 rfl) (by decide) (by decide)) q13a q13c (g := (mkF m 90 #[iv p1, iv 1, rv w_DECLINED, iv 1, rv w_OFFER, .unset] [.ref w_OFFER, .ref w_OFFER_offeredBy, .ref w_OFFER_offeredBy, .ref w_DECLINED, .ref b3, .ref b3])) rfl (by rw [hml]; rfl) (Steps.refl _) (argsL := []) (rest := [.ref w_OFFER_offeredBy, .ref w_OFFER_offeredBy, .ref w_DECLINED, .ref b3, .ref b3]) (lenOf pd_1 rfl) rfl (by show 2 * 0 + _ ≤ _; exact Nat.le_of_eq rfl) (hb hby at_90) (fun _ _ => ⟨rfl, e12, (by decide : 1 + 0 ≤ _), (by decide : 5 + 0 ≤ _)⟩)
  dsimp only [Pt.U, Pt.locs, Pt.cells, Pt.slots] at X13 l13 y13 z13 st13 hQ13
  subst l13 y13 z13
  obtain ⟨h13, e13⟩ : ∃ z, T13.heap = z := ⟨_, rfl⟩
  rw [e13] at hQ13
  obtain ⟨rfl, N13q, p13_0⟩ := hQ13
  have N13 := Fr.app N12 N13q
  rw [p13_0] at e13
  obtain ⟨T14, h14, X14, e14, E14, A14, D14, -, st14⟩ := newO X13 hx hZ hown (W 30 rfl) (W 31 rfl) (W 32 rfl) e13 (g := (mkF m 93 #[iv p1, iv 1, rv w_DECLINED, iv 1, rv w_OFFER, .unset] [.ref w_OFFER_offeredBy, .ref w_OFFER_offeredBy, .ref w_OFFER_offeredBy, .ref w_DECLINED, .ref b3, .ref b3])) rfl (hb hby at_93) (by decide) (by decide)
  obtain ⟨b14, g14⟩ : ∃ z, z = h3.size := ⟨_, rfl⟩
  rw [← g14] at A14 D14 st14
  have g_b14 : n0 ≤ b14 := Nat.le_trans (own_sz O4) (Nat.le_of_eq g14.symm)
  have ne_b3_b14 : b3 ≠ b14 := Nat.ne_of_lt (Nat.lt_of_lt_of_le A3.lt (Nat.le_of_eq g14.symm))
  have A3 := A3.ext E14
  have Fz6 := Fz6.ext E14
  have Fz7 := Fz7.ext E14
  have Fz8 := Fz8.ext E14
  have Fz9 := Fz9.ext E14
  have Fz10 := Fz10.ext E14
  have O15 := O4.ext E14
  have Fz17 : Fld Z h14 b14 "java/util/AbstractList" "modCount" "I" (.int (0 : Int32)) := D14 (Or.inl (W 52 rfl)) (ty := .int) (by decide)
  have Fz18 : Fld Z h14 b14 "java/util/ArrayList" "elementData" "[Ljava/lang/Object;" .null := D14 (Or.inl (W 55 rfl)) (ty := (.array (.object "java/lang/Object"))) (by decide)
  obtain ⟨_, _, ⟨T19, L19, k19, n19⟩, -, X19, ⟨Lc19, hQ19, l19, y19, z19⟩, st19⟩ := X14.specialBack hx (y := y_5) rfl hown (mvT hZ (W 33 rfl)) (mvT hZ (W 34 rfl)) (mvT hZ (W 35 rfl)) (by decide) (backOf (W := 7) (alinit l Z a0 hw [] b14 w_DEF h14 n0 O15 A14 Fz17 Fz18 g_b14 S_w_DEF) hZ (W 35 rfl) (W 32 rfl) (by decide) (by decide)) (g := (mkF m 97 #[iv p1, iv 1, rv w_DECLINED, iv 1, rv w_OFFER, .unset] [.ref b14, .ref b14, .ref w_OFFER_offeredBy, .ref w_OFFER_offeredBy, .ref w_OFFER_offeredBy, .ref w_DECLINED, .ref b3, .ref b3])) rfl (by rw [hml]; rfl) (Steps.refl _) (a := b14) (argsL := []) (rest := [.ref b14, .ref w_OFFER_offeredBy, .ref w_OFFER_offeredBy, .ref w_OFFER_offeredBy, .ref w_DECLINED, .ref b3, .ref b3]) (lenOf pd_0 rfl) rfl (by show 2 * 0 + _ ≤ _; exact Nat.le_of_eq rfl) (hb hby at_97) (fun _ _ => ⟨rfl, e14, (by decide : 2 + 0 ≤ _), (by decide : 8 + 0 ≤ _)⟩)
  dsimp only [Pt.U, Pt.locs, Pt.cells, Pt.slots] at X19 l19 y19 z19 st19 hQ19
  subst l19 y19 z19
  obtain ⟨h19, e19⟩ : ∃ z, T19.heap = z := ⟨_, rfl⟩
  rw [e19] at hQ19
  obtain ⟨rfl, N19q, p19_0⟩ := hQ19
  have N19 := Fr.app N13 N19q
  have A3 := A3.keep p19_0
  have Fz6 := Fz6.keep p19_0 (ninS ne_b3_b14 nin0)
  have Fz7 := Fz7.keep p19_0 (ninS ne_b3_b14 nin0)
  have Fz8 := Fz8.keep p19_0 (ninS ne_b3_b14 nin0)
  have Fz9 := Fz9.keep p19_0 (ninS ne_b3_b14 nin0)
  have Fz10 := Fz10.keep p19_0 (ninS ne_b3_b14 nin0)
  have O20 := O15.keep p19_0 (allS g_b14 all0)
  obtain ⟨_, _, ⟨T22, L22, k22, n22⟩, -, X22, ⟨Lc22, hQ22, l22, y22, z22⟩, st22⟩ := X19.specialBack hx (y := y_7) rfl hown (mvT hZ (W 56 rfl)) (mvT hZ (W 57 rfl)) (mvT hZ (W 58 rfl)) (by decide) (backOf (W := 1) (soinit l Z a0 hw [] b3 w_DECLINED w_OFFER_offeredBy w_OFFER_offeredBy w_OFFER_offeredBy b14 h19 n0 O20 A3 Fz9 Fz6 Fz7 Fz8 Fz10 g_b3) hZ (W 58 rfl) (W 5 rfl) (by decide) (by decide)) (g := (mkF m 100 #[iv p1, iv 1, rv w_DECLINED, iv 1, rv w_OFFER, .unset] [.ref b14, .ref w_OFFER_offeredBy, .ref w_OFFER_offeredBy, .ref w_OFFER_offeredBy, .ref w_DECLINED, .ref b3, .ref b3])) rfl (by rw [hml]; rfl) (Steps.refl _) (a := b3) (argsL := [.ref w_DECLINED, .ref w_OFFER_offeredBy, .ref w_OFFER_offeredBy, .ref w_OFFER_offeredBy, .ref b14]) (rest := [.ref b3]) (lenOf pd_2 rfl) rfl (by show 2 * 0 + _ ≤ _; exact Nat.le_of_eq rfl) (hb hby at_100) (fun _ _ => ⟨rfl, e19, (by decide : 2 + 0 ≤ _), (by decide : 8 + 0 ≤ _)⟩)
  dsimp only [Pt.U, Pt.locs, Pt.cells, Pt.slots] at X22 l22 y22 z22 st22 hQ22
  subst l22 y22 z22
  obtain ⟨h22, e22⟩ : ∃ z, T22.heap = z := ⟨_, rfl⟩
  rw [e22] at hQ22
  obtain ⟨rfl, N22q, p22_0, p22_1⟩ := hQ22
  have N22 := Fr.app N19 N22q
  have A3 := A3.keep p22_0
  have O23 := O20.keep p22_0 (allS g_b3 all0)
  obtain ⟨cq25, kq25, q25a, q25b, q25c⟩ := isOf hZ e22 A3
  obtain ⟨_, _, ⟨T25, L25, k25, n25⟩, -, X25, ⟨Lc25, hQ25, l25, y25, z25⟩, st25⟩ := X22.virtualBack hx (y := y_8) (z := y_8) hown (mvT hZ (W 69 rfl)) (mvT hZ (W 70 rfl)) (notFace_of_selects (args := #[]) (mvT hZ (W 72 rfl))) (mvT hZ (W 72 rfl)) (mvT hZ (W 71 rfl)) (by decide) (backOf (W := 0) (dec1 l Z a0 hw [] b3 w_DECLINED w_NONE h22 n0 O23 p22_1 S_w_NONE ne_1) hZ (W 73 rfl) (W 5 rfl) (by decide) (by decide)) q25a q25c (g := (mkF m 107 #[iv p1, iv 1, rv w_DECLINED, iv 1, rv w_OFFER, rv b3] [.ref b3])) rfl (by rw [hml]; rfl) (Steps.refl _) (argsL := []) (rest := []) (lenOf pd_3 rfl) rfl (by show 2 * 0 + _ ≤ _; exact Nat.le_of_eq rfl) (hb hby at_107) (fun _ _ => ⟨rfl, e22, (by decide : 2 + 0 ≤ _), (by decide : 8 + 0 ≤ _)⟩)
  dsimp only [Pt.U, Pt.locs, Pt.cells, Pt.slots] at X25 l25 y25 z25 st25 hQ25
  subst l25 y25 z25
  obtain ⟨h25, e25⟩ : ∃ z, T25.heap = z := ⟨_, rfl⟩
  rw [e25] at hQ25
  obtain ⟨rfl, N25q, p25_0⟩ := hQ25
  have N25 := Fr.app N22 N25q
  rw [p25_0] at e25
  obtain ⟨fs, hr, hrun, hended, hW, hsame⟩ := X25.leave (v := some (.int (1 : Int32))) (fun h => by rw [Bd.returns] at h; cases h)
  refine ⟨_, _, pre0 _ ?_, hrun, hended, _, _, rfl, ?_, ⟨_, rfl⟩, hW, hsame.mono (by decide) (by decide)⟩
  · show Sq p e below m s₁ 0 #[iv p1, .unset, .unset, .unset, .unset, .unset] [] _
    refine XS.iloadN X0.here hx rfl (hb hby at_0) rfl ?_
    show Sq p e below m s₁ 1 #[iv p1, .unset, .unset, .unset, .unset, .unset] [.int p1] _
    refine X0.ldcInt hx hown (mvT hZ (W 0 rfl)) (g := (mkF m 1 #[iv p1, .unset, .unset, .unset, .unset, .unset] [.int p1])) rfl (hb hby at_1) _ ?_
    show Sq p e below m s₁ 3 #[iv p1, .unset, .unset, .unset, .unset, .unset] [.int 2147483647, .int p1] _
    refine XS.iand X0.here hx rfl (hb hby at_3) rfl ?_
    refine XS.iconst X0.here hx rfl (hb hby at_4) ?_
    show Sq p e below m s₁ 5 #[iv p1, .unset, .unset, .unset, .unset, .unset] [.int 5, .int (p1 &&& (2147483647 : Int32))] _
    refine iremM X0 hx rfl (hb hby at_5) rfl (by decide : (5 : Int32) ≠ (0 : Int32)) ?_
    show Sq p e below m s₁ 6 #[iv p1, .unset, .unset, .unset, .unset, .unset] [.int ((p1 &&& (2147483647 : Int32)) % (5 : Int32))] _
    rw [hk]
    show Sq p e below m s₁ 6 #[iv p1, .unset, .unset, .unset, .unset, .unset] [.int 1] _
    refine XS.istoreN X0.here hx rfl (hb hby at_6) rfl rfl ?_
    refine XS.iloadN X0.here hx rfl (hb hby at_7) rfl ?_
    show Sq p e below m s₁ 8 #[iv p1, iv 1, .unset, .unset, .unset, .unset] [.int 1] _
    refine XS.ifYes X0.here hx rfl (pc0 := 8) (pc' := 20) rfl (hb hby at_8) rfl ((if0 _ _).trans (feq (by decide)).2) (by decide) (by decide) ?_
    refine XS.iloadN X0.here hx rfl (hb hby at_20) rfl ?_
    show Sq p e below m s₁ 21 #[iv p1, iv 1, .unset, .unset, .unset, .unset] [.int 1] _
    refine XS.iconst X0.here hx rfl (hb hby at_21) ?_
    refine XS.icmpNo X0.here hx rfl (hb hby at_22) rfl (teq (rfl : (1 : Int32) = (1 : Int32))).2 ?_
    show Sq p e below m s₁ 25 #[iv p1, iv 1, .unset, .unset, .unset, .unset] [] _
    refine st1 _ ?_
    show Sq p e below m T1 28 #[iv p1, iv 1, .unset, .unset, .unset, .unset] [.ref w_DECLINED] _
    refine XS.astoreN X1.here hx rfl (hb hby at_28) rfl rfl rfl ?_
    refine XS.iconst X1.here hx rfl (hb hby at_29) ?_
    show Sq p e below m T1 30 #[iv p1, iv 1, rv w_DECLINED, .unset, .unset, .unset] [.int 1] _
    refine XS.istoreN X1.here hx rfl (hb hby at_30) rfl rfl ?_
    refine XS.goto X1.here hx rfl (pc0 := 31) (pc' := 68) rfl (hb hby at_31) (by decide) (by decide) ?_
    show Sq p e below m T1 68 #[iv p1, iv 1, rv w_DECLINED, iv 1, .unset, .unset] [] _
    refine st2 _ ?_
    show Sq p e below m T2 71 #[iv p1, iv 1, rv w_DECLINED, iv 1, .unset, .unset] [.ref w_OFFER] _
    refine XS.astore X2.here hx rfl (hb hby at_71) rfl rfl rfl ?_
    show Sq p e below m T2 73 #[iv p1, iv 1, rv w_DECLINED, iv 1, rv w_OFFER, .unset] [] _
    refine st3 _ ?_
    show Sq p e below m T3 76 #[iv p1, iv 1, rv w_DECLINED, iv 1, rv w_OFFER, .unset] [.ref b3] _
    refine XS.dup X3.here hx rfl (hb hby at_76) rfl rfl ?_
    refine XS.aloadN X3.here hx rfl (hb hby at_77) rfl rfl ?_
    show Sq p e below m T3 78 #[iv p1, iv 1, rv w_DECLINED, iv 1, rv w_OFFER, .unset] [.ref w_DECLINED, .ref b3, .ref b3] _
    refine XS.aload X3.here hx rfl (hb hby at_78) rfl rfl ?_
    show Sq p e below m T3 80 #[iv p1, iv 1, rv w_DECLINED, iv 1, rv w_OFFER, .unset] [.ref w_OFFER, .ref w_DECLINED, .ref b3, .ref b3] _
    refine st11.trans ?_
    show Sq p e below m T11 83 #[iv p1, iv 1, rv w_DECLINED, iv 1, rv w_OFFER, .unset] [.ref w_OFFER_offeredBy, .ref w_DECLINED, .ref b3, .ref b3] _
    refine XS.aload X11.here hx rfl (hb hby at_83) rfl rfl ?_
    show Sq p e below m T11 85 #[iv p1, iv 1, rv w_DECLINED, iv 1, rv w_OFFER, .unset] [.ref w_OFFER, .ref w_OFFER_offeredBy, .ref w_DECLINED, .ref b3, .ref b3] _
    refine st12.trans ?_
    show Sq p e below m T12 88 #[iv p1, iv 1, rv w_DECLINED, iv 1, rv w_OFFER, .unset] [.ref w_OFFER_offeredBy, .ref w_OFFER_offeredBy, .ref w_DECLINED, .ref b3, .ref b3] _
    refine XS.aload X12.here hx rfl (hb hby at_88) rfl rfl ?_
    show Sq p e below m T12 90 #[iv p1, iv 1, rv w_DECLINED, iv 1, rv w_OFFER, .unset] [.ref w_OFFER, .ref w_OFFER_offeredBy, .ref w_OFFER_offeredBy, .ref w_DECLINED, .ref b3, .ref b3] _
    refine st13.trans ?_
    show Sq p e below m T13 93 #[iv p1, iv 1, rv w_DECLINED, iv 1, rv w_OFFER, .unset] [.ref w_OFFER_offeredBy, .ref w_OFFER_offeredBy, .ref w_OFFER_offeredBy, .ref w_DECLINED, .ref b3, .ref b3] _
    refine st14 _ ?_
    show Sq p e below m T14 96 #[iv p1, iv 1, rv w_DECLINED, iv 1, rv w_OFFER, .unset] [.ref b14, .ref w_OFFER_offeredBy, .ref w_OFFER_offeredBy, .ref w_OFFER_offeredBy, .ref w_DECLINED, .ref b3, .ref b3] _
    refine XS.dup X14.here hx rfl (hb hby at_96) rfl rfl ?_
    show Sq p e below m T14 97 #[iv p1, iv 1, rv w_DECLINED, iv 1, rv w_OFFER, .unset] [.ref b14, .ref b14, .ref w_OFFER_offeredBy, .ref w_OFFER_offeredBy, .ref w_OFFER_offeredBy, .ref w_DECLINED, .ref b3, .ref b3] _
    refine st19.trans ?_
    show Sq p e below m T19 100 #[iv p1, iv 1, rv w_DECLINED, iv 1, rv w_OFFER, .unset] [.ref b14, .ref w_OFFER_offeredBy, .ref w_OFFER_offeredBy, .ref w_OFFER_offeredBy, .ref w_DECLINED, .ref b3, .ref b3] _
    refine st22.trans ?_
    show Sq p e below m T22 103 #[iv p1, iv 1, rv w_DECLINED, iv 1, rv w_OFFER, .unset] [.ref b3] _
    refine XS.astore X22.here hx rfl (hb hby at_103) rfl rfl rfl ?_
    refine XS.aload X22.here hx rfl (hb hby at_105) rfl rfl ?_
    show Sq p e below m T22 107 #[iv p1, iv 1, rv w_DECLINED, iv 1, rv w_OFFER, rv b3] [.ref b3] _
    refine st25.trans ?_
    show Sq p e below m T25 110 #[iv p1, iv 1, rv w_DECLINED, iv 1, rv w_OFFER, rv b3] [.int 1] _
    refine XS.iloadN X25.here hx rfl (hb hby at_110) rfl ?_
    refine XS.icmpNo X25.here hx rfl (hb hby at_111) rfl (teq (rfl : (1 : Int32) = (1 : Int32))).2 ?_
    show Sq p e below m T25 114 #[iv p1, iv 1, rv w_DECLINED, iv 1, rv w_OFFER, rv b3] [] _
    refine XS.iconst X25.here hx rfl (hb hby at_114) ?_
    refine XS.goto X25.here hx rfl (pc0 := 115) (pc' := 119) rfl (hb hby at_115) (by decide) (by decide) ?_
    show Sq p e below m T25 119 #[iv p1, iv 1, rv w_DECLINED, iv 1, rv w_OFFER, rv b3] [.int 1] _
    exact retN X25 hx (t := .boolean) Bd.returns (by simp) (hb hby at_119) hr
  · show Q_rm0 Z p1 w_NONE w_OFFER w_OFFER_offeredBy w_TAKEN w_DECLINED w_SKIPPED w_OFFERED w_DEF h0 n0 _ T25.heap _
    rw [e25]
    exact ⟨rfl, N25⟩
set_option maxRecDepth 65536 in
set_option maxHeartbeats 40000000 in
theorem rm0_2 (l : Launch) (Z : State) (a0 : Array Value) (hw : ∀ d ∈ tables_1, d.before a0 Z = true) (ws : List Jvm.Cond) (p1 : Int32) (w_NONE : Addr) (w_OFFER : Addr) (w_OFFER_offeredBy : Addr) (w_TAKEN : Addr) (w_DECLINED : Addr) (w_SKIPPED : Addr) (w_OFFERED : Addr) (w_DEF : Addr) (h0 : Heap) (n0 : Nat) (O : Old Z n0 h0) (S_w_NONE : Sta Z Z.heap "com/example/latchkey/latchkey/ScaffoldOffer$Status" "NONE" "Lcom/example/latchkey/latchkey/ScaffoldOffer$Status;" (.ref w_NONE)) (E_w_NONE : Exa Z Z.heap w_NONE "com/example/latchkey/latchkey/ScaffoldOffer$Status") (S_w_OFFER : Sta Z Z.heap "com/example/latchkey/latchkey/ScaffoldOffer" "NONE" "Lcom/example/latchkey/latchkey/ScaffoldOffer;" (.ref w_OFFER)) (E_w_OFFER : Exa Z Z.heap w_OFFER "com/example/latchkey/latchkey/ScaffoldOffer") (F_w_OFFER_offeredBy : Fld Z Z.heap w_OFFER "com/example/latchkey/latchkey/ScaffoldOffer" "offeredBy" "Ljava/util/Optional;" (.ref w_OFFER_offeredBy)) (E_w_OFFER_offeredBy : Exa Z Z.heap w_OFFER_offeredBy "java/util/Optional") (F_w_OFFER_offeredAt : Fld Z Z.heap w_OFFER "com/example/latchkey/latchkey/ScaffoldOffer" "offeredAt" "Ljava/util/Optional;" (.ref w_OFFER_offeredBy)) (F_w_OFFER_answeredAt : Fld Z Z.heap w_OFFER "com/example/latchkey/latchkey/ScaffoldOffer" "answeredAt" "Ljava/util/Optional;" (.ref w_OFFER_offeredBy)) (S_w_TAKEN : Sta Z Z.heap "com/example/latchkey/latchkey/ScaffoldOffer$Status" "TAKEN" "Lcom/example/latchkey/latchkey/ScaffoldOffer$Status;" (.ref w_TAKEN)) (E_w_TAKEN : Exa Z Z.heap w_TAKEN "com/example/latchkey/latchkey/ScaffoldOffer$Status") (S_w_DECLINED : Sta Z Z.heap "com/example/latchkey/latchkey/ScaffoldOffer$Status" "DECLINED" "Lcom/example/latchkey/latchkey/ScaffoldOffer$Status;" (.ref w_DECLINED)) (E_w_DECLINED : Exa Z Z.heap w_DECLINED "com/example/latchkey/latchkey/ScaffoldOffer$Status") (S_w_SKIPPED : Sta Z Z.heap "com/example/latchkey/latchkey/ScaffoldOffer$Status" "SKIPPED" "Lcom/example/latchkey/latchkey/ScaffoldOffer$Status;" (.ref w_SKIPPED)) (E_w_SKIPPED : Exa Z Z.heap w_SKIPPED "com/example/latchkey/latchkey/ScaffoldOffer$Status") (S_w_OFFERED : Sta Z Z.heap "com/example/latchkey/latchkey/ScaffoldOffer$Status" "OFFERED" "Lcom/example/latchkey/latchkey/ScaffoldOffer$Status;" (.ref w_OFFERED)) (E_w_OFFERED : Exa Z Z.heap w_OFFERED "com/example/latchkey/latchkey/ScaffoldOffer$Status") (S_w_DEF : Sta Z Z.heap "java/util/ArrayList" "DEFAULTCAPACITY_EMPTY_ELEMENTDATA" "[Ljava/lang/Object;" (.ref w_DEF)) (E_w_DEF : Exa Z Z.heap w_DEF "[Ljava/lang/Object;") (ne_1 : w_DECLINED ≠ w_NONE) (ne_2 : w_OFFERED ≠ w_NONE) (ne_3 : w_TAKEN ≠ w_NONE) (ne_4 : w_SKIPPED ≠ w_NONE) (hk : ((p1 &&& (2147483647 : Int32)) % (5 : Int32)) = (2 : Int32)) :
    Ctr l Z x code maxLocals ret ws room_1 #[(.int p1)] h0 (Q_rm0 Z p1 w_NONE w_OFFER w_OFFER_offeredBy w_TAKEN w_DECLINED w_SKIPPED w_OFFERED w_DEF h0 n0) := by
  refine MetFree.of_bodySF (plainFor_of_name pn_5) hisR ?_
  intro p e s m args below meth c s₁ Bd hml0 hP hK
  obtain ⟨rfl, hZ, hh⟩ := hP
  have W := fun (i : Nat) {d : Jvm.Cond} (h : tables_1[i]? = some d) => hw d (List.mem_of_getElem? h)
  have hx := Bd.exec
  have hby := Bd.bytes
  have hml : c.maxLocals = 6 := hml0
  have hown : s.vm.findClass "com/example/latchkey/latchkey/ScaffoldOfferIsDecidedPinLaw" = some m.cls := findClass_of_methodNamed Bd.named
  have hnm := (name_of_methodNamed Bd.named Bd.method).1
  have X0 : Stand p l e room_1 s m #[(.int p1)] below meth c s₁ [] 0 0 := Stand.of_body Bd
  have e0 : s₁.heap = h0 := by rw [← hh, Bd.state]; rfl
  have N0 := Fr.nil n0
  have pre0 : ∀ t, Steps p.tables e below (s₁.setTop (mkF m 0 #[.val (.int p1), .unset, .unset, .unset, .unset, .unset] [])) t → Steps p.tables e below (s₁.setTop (entryFrame m #[(.int p1)] maxLocals)) t := fun t kk_ => castTop (ef_9 m p1) kk_
  obtain ⟨T1, X1, e1, st1⟩ := getS2 X0 hx hZ hown (host := "") (Or.inl (W 81 rfl)) Via.refl e0 (S_w_OFFERED.ext O.2) (g := (mkF m 39 #[iv p1, iv 2, .unset, .unset, .unset, .unset] [])) rfl (hb hby at_39)
  obtain ⟨T2, X2, e2, st2⟩ := getS2 X1 hx hZ hown (host := "") (Or.inl (W 4 rfl)) Via.refl e1 (S_w_OFFER.ext O.2) (g := (mkF m 68 #[iv p1, iv 2, rv w_OFFERED, iv 1, .unset, .unset] [])) rfl (hb hby at_68)
  obtain ⟨T3, h3, X3, e3, E3, A3, D3, -, st3⟩ := newO X2 hx hZ hown (W 7 rfl) (W 8 rfl) (W 5 rfl) e2 (g := (mkF m 73 #[iv p1, iv 2, rv w_OFFERED, iv 1, rv w_OFFER, .unset] [])) rfl (hb hby at_73) (by decide) (by decide)
  obtain ⟨b3, g3⟩ : ∃ z, z = h0.size := ⟨_, rfl⟩
  rw [← g3] at A3 D3 st3
  have g_b3 : n0 ≤ b3 := Nat.le_trans (own_sz O) (Nat.le_of_eq g3.symm)
  have O4 := O.ext E3
  have Fz6 : Fld Z h3 b3 "com/example/latchkey/latchkey/ScaffoldOffer" "offeredBy" "Ljava/util/Optional;" .null := D3 (Or.inr (W 15 rfl)) (ty := (.object "java/util/Optional")) (by decide)
  have Fz7 : Fld Z h3 b3 "com/example/latchkey/latchkey/ScaffoldOffer" "offeredAt" "Ljava/util/Optional;" .null := D3 (Or.inr (W 22 rfl)) (ty := (.object "java/util/Optional")) (by decide)
  have Fz8 : Fld Z h3 b3 "com/example/latchkey/latchkey/ScaffoldOffer" "answeredAt" "Ljava/util/Optional;" .null := D3 (Or.inr (W 29 rfl)) (ty := (.object "java/util/Optional")) (by decide)
  have Fz9 : Fld Z h3 b3 "com/example/latchkey/latchkey/ScaffoldOffer" "status" "Lcom/example/latchkey/latchkey/ScaffoldOffer$Status;" .null := D3 (Or.inr (W 66 rfl)) (ty := (.object "com/example/latchkey/latchkey/ScaffoldOffer$Status")) (by decide)
  have Fz10 : Fld Z h3 b3 "com/example/latchkey/latchkey/ScaffoldOffer" "kinds" "Ljava/util/List;" .null := D3 (Or.inr (W 68 rfl)) (ty := (.object "java/util/List")) (by decide)
  obtain ⟨cq11, kq11, q11a, q11b, q11c⟩ := isOf hZ e3 (E_w_OFFER.ext O4.2)
  obtain ⟨_, _, ⟨T11, L11, k11, n11⟩, -, X11, ⟨Lc11, hQ11, l11, y11, z11⟩, st11⟩ := X3.virtualBack hx (y := y_0) (z := y_0) hown (mvT hZ (W 9 rfl)) (mvT hZ (W 10 rfl)) (notFace_of_selects (args := #[]) (mvT hZ (W 12 rfl))) (mvT hZ (W 12 rfl)) (mvT hZ (W 11 rfl)) (by decide) (backOf (W := 3) (getofferedBy l Z a0 hw [] w_OFFER w_OFFER_offeredBy h3 n0 O4 (F_w_OFFER_offeredBy.ext O4.2)) hZ (W 13 rfl) (W 5 rfl) (by decide) (by decide)) q11a q11c (g := (mkF m 80 #[iv p1, iv 2, rv w_OFFERED, iv 1, rv w_OFFER, .unset] [.ref w_OFFER, .ref w_OFFERED, .ref b3, .ref b3])) rfl (by rw [hml]; rfl) (Steps.refl _) (argsL := []) (rest := [.ref w_OFFERED, .ref b3, .ref b3]) (lenOf pd_1 rfl) rfl (by show 2 * 0 + _ ≤ _; exact Nat.le_of_eq rfl) (hb hby at_80) (fun _ _ => ⟨rfl, e3, (by decide : 1 + 0 ≤ _), (by decide : 5 + 0 ≤ _)⟩)
  dsimp only [Pt.U, Pt.locs, Pt.cells, Pt.slots] at X11 l11 y11 z11 st11 hQ11
  subst l11 y11 z11
  obtain ⟨h11, e11⟩ : ∃ z, T11.heap = z := ⟨_, rfl⟩
  rw [e11] at hQ11
  obtain ⟨rfl, N11q, p11_0⟩ := hQ11
  have N11 := Fr.app N0 N11q
  rw [p11_0] at e11
  obtain ⟨cq12, kq12, q12a, q12b, q12c⟩ := isOf hZ e11 (E_w_OFFER.ext O4.2)
  obtain ⟨_, _, ⟨T12, L12, k12, n12⟩, -, X12, ⟨Lc12, hQ12, l12, y12, z12⟩, st12⟩ := X11.virtualBack hx (y := y_1) (z := y_1) hown (mvT hZ (W 16 rfl)) (mvT hZ (W 17 rfl)) (notFace_of_selects (args := #[]) (mvT hZ (W 19 rfl))) (mvT hZ (W 19 rfl)) (mvT hZ (W 18 rfl)) (by decide) (backOf (W := 4) (getofferedAt l Z a0 hw [] w_OFFER w_OFFER_offeredBy h3 n0 O4 (F_w_OFFER_offeredAt.ext O4.2)) hZ (W 20 rfl) (W 5 rfl) (by decide) (by decide)) q12a q12c (g := (mkF m 85 #[iv p1, iv 2, rv w_OFFERED, iv 1, rv w_OFFER, .unset] [.ref w_OFFER, .ref w_OFFER_offeredBy, .ref w_OFFERED, .ref b3, .ref b3])) rfl (by rw [hml]; rfl) (Steps.refl _) (argsL := []) (rest := [.ref w_OFFER_offeredBy, .ref w_OFFERED, .ref b3, .ref b3]) (lenOf pd_1 rfl) rfl (by show 2 * 0 + _ ≤ _; exact Nat.le_of_eq rfl) (hb hby at_85) (fun _ _ => ⟨rfl, e11, (by decide : 1 + 0 ≤ _), (by decide : 5 + 0 ≤ _)⟩)
  dsimp only [Pt.U, Pt.locs, Pt.cells, Pt.slots] at X12 l12 y12 z12 st12 hQ12
  subst l12 y12 z12
  obtain ⟨h12, e12⟩ : ∃ z, T12.heap = z := ⟨_, rfl⟩
  rw [e12] at hQ12
  obtain ⟨rfl, N12q, p12_0⟩ := hQ12
  have N12 := Fr.app N11 N12q
  rw [p12_0] at e12
  obtain ⟨cq13, kq13, q13a, q13b, q13c⟩ := isOf hZ e12 (E_w_OFFER.ext O4.2)
  obtain ⟨_, _, ⟨T13, L13, k13, n13⟩, -, X13, ⟨Lc13, hQ13, l13, y13, z13⟩, st13⟩ := X12.virtualBack hx (y := y_2) (z := y_2) hown (mvT hZ (W 23 rfl)) (mvT hZ (W 24 rfl)) (notFace_of_selects (args := #[]) (mvT hZ (W 26 rfl))) (mvT hZ (W 26 rfl)) (mvT hZ (W 25 rfl)) (by decide) (backOf (W := 5) (getansweredAt l Z a0 hw [] w_OFFER w_OFFER_offeredBy h3 n0 O4 (F_w_OFFER_answeredAt.ext O4.2)) hZ (W 27 rfl) (W 5 rfl) (by decide) (by decide)) q13a q13c (g := (mkF m 90 #[iv p1, iv 2, rv w_OFFERED, iv 1, rv w_OFFER, .unset] [.ref w_OFFER, .ref w_OFFER_offeredBy, .ref w_OFFER_offeredBy, .ref w_OFFERED, .ref b3, .ref b3])) rfl (by rw [hml]; rfl) (Steps.refl _) (argsL := []) (rest := [.ref w_OFFER_offeredBy, .ref w_OFFER_offeredBy, .ref w_OFFERED, .ref b3, .ref b3]) (lenOf pd_1 rfl) rfl (by show 2 * 0 + _ ≤ _; exact Nat.le_of_eq rfl) (hb hby at_90) (fun _ _ => ⟨rfl, e12, (by decide : 1 + 0 ≤ _), (by decide : 5 + 0 ≤ _)⟩)
  dsimp only [Pt.U, Pt.locs, Pt.cells, Pt.slots] at X13 l13 y13 z13 st13 hQ13
  subst l13 y13 z13
  obtain ⟨h13, e13⟩ : ∃ z, T13.heap = z := ⟨_, rfl⟩
  rw [e13] at hQ13
  obtain ⟨rfl, N13q, p13_0⟩ := hQ13
  have N13 := Fr.app N12 N13q
  rw [p13_0] at e13
  obtain ⟨T14, h14, X14, e14, E14, A14, D14, -, st14⟩ := newO X13 hx hZ hown (W 30 rfl) (W 31 rfl) (W 32 rfl) e13 (g := (mkF m 93 #[iv p1, iv 2, rv w_OFFERED, iv 1, rv w_OFFER, .unset] [.ref w_OFFER_offeredBy, .ref w_OFFER_offeredBy, .ref w_OFFER_offeredBy, .ref w_OFFERED, .ref b3, .ref b3])) rfl (hb hby at_93) (by decide) (by decide)
  obtain ⟨b14, g14⟩ : ∃ z, z = h3.size := ⟨_, rfl⟩
  rw [← g14] at A14 D14 st14
  have g_b14 : n0 ≤ b14 := Nat.le_trans (own_sz O4) (Nat.le_of_eq g14.symm)
  have ne_b3_b14 : b3 ≠ b14 := Nat.ne_of_lt (Nat.lt_of_lt_of_le A3.lt (Nat.le_of_eq g14.symm))
  have A3 := A3.ext E14
  have Fz6 := Fz6.ext E14
  have Fz7 := Fz7.ext E14
  have Fz8 := Fz8.ext E14
  have Fz9 := Fz9.ext E14
  have Fz10 := Fz10.ext E14
  have O15 := O4.ext E14
  have Fz17 : Fld Z h14 b14 "java/util/AbstractList" "modCount" "I" (.int (0 : Int32)) := D14 (Or.inl (W 52 rfl)) (ty := .int) (by decide)
  have Fz18 : Fld Z h14 b14 "java/util/ArrayList" "elementData" "[Ljava/lang/Object;" .null := D14 (Or.inl (W 55 rfl)) (ty := (.array (.object "java/lang/Object"))) (by decide)
  obtain ⟨_, _, ⟨T19, L19, k19, n19⟩, -, X19, ⟨Lc19, hQ19, l19, y19, z19⟩, st19⟩ := X14.specialBack hx (y := y_5) rfl hown (mvT hZ (W 33 rfl)) (mvT hZ (W 34 rfl)) (mvT hZ (W 35 rfl)) (by decide) (backOf (W := 7) (alinit l Z a0 hw [] b14 w_DEF h14 n0 O15 A14 Fz17 Fz18 g_b14 S_w_DEF) hZ (W 35 rfl) (W 32 rfl) (by decide) (by decide)) (g := (mkF m 97 #[iv p1, iv 2, rv w_OFFERED, iv 1, rv w_OFFER, .unset] [.ref b14, .ref b14, .ref w_OFFER_offeredBy, .ref w_OFFER_offeredBy, .ref w_OFFER_offeredBy, .ref w_OFFERED, .ref b3, .ref b3])) rfl (by rw [hml]; rfl) (Steps.refl _) (a := b14) (argsL := []) (rest := [.ref b14, .ref w_OFFER_offeredBy, .ref w_OFFER_offeredBy, .ref w_OFFER_offeredBy, .ref w_OFFERED, .ref b3, .ref b3]) (lenOf pd_0 rfl) rfl (by show 2 * 0 + _ ≤ _; exact Nat.le_of_eq rfl) (hb hby at_97) (fun _ _ => ⟨rfl, e14, (by decide : 2 + 0 ≤ _), (by decide : 8 + 0 ≤ _)⟩)
  dsimp only [Pt.U, Pt.locs, Pt.cells, Pt.slots] at X19 l19 y19 z19 st19 hQ19
  subst l19 y19 z19
  obtain ⟨h19, e19⟩ : ∃ z, T19.heap = z := ⟨_, rfl⟩
  rw [e19] at hQ19
  obtain ⟨rfl, N19q, p19_0⟩ := hQ19
  have N19 := Fr.app N13 N19q
  have A3 := A3.keep p19_0
  have Fz6 := Fz6.keep p19_0 (ninS ne_b3_b14 nin0)
  have Fz7 := Fz7.keep p19_0 (ninS ne_b3_b14 nin0)
  have Fz8 := Fz8.keep p19_0 (ninS ne_b3_b14 nin0)
  have Fz9 := Fz9.keep p19_0 (ninS ne_b3_b14 nin0)
  have Fz10 := Fz10.keep p19_0 (ninS ne_b3_b14 nin0)
  have O20 := O15.keep p19_0 (allS g_b14 all0)
  obtain ⟨_, _, ⟨T22, L22, k22, n22⟩, -, X22, ⟨Lc22, hQ22, l22, y22, z22⟩, st22⟩ := X19.specialBack hx (y := y_7) rfl hown (mvT hZ (W 56 rfl)) (mvT hZ (W 57 rfl)) (mvT hZ (W 58 rfl)) (by decide) (backOf (W := 1) (soinit l Z a0 hw [] b3 w_OFFERED w_OFFER_offeredBy w_OFFER_offeredBy w_OFFER_offeredBy b14 h19 n0 O20 A3 Fz9 Fz6 Fz7 Fz8 Fz10 g_b3) hZ (W 58 rfl) (W 5 rfl) (by decide) (by decide)) (g := (mkF m 100 #[iv p1, iv 2, rv w_OFFERED, iv 1, rv w_OFFER, .unset] [.ref b14, .ref w_OFFER_offeredBy, .ref w_OFFER_offeredBy, .ref w_OFFER_offeredBy, .ref w_OFFERED, .ref b3, .ref b3])) rfl (by rw [hml]; rfl) (Steps.refl _) (a := b3) (argsL := [.ref w_OFFERED, .ref w_OFFER_offeredBy, .ref w_OFFER_offeredBy, .ref w_OFFER_offeredBy, .ref b14]) (rest := [.ref b3]) (lenOf pd_2 rfl) rfl (by show 2 * 0 + _ ≤ _; exact Nat.le_of_eq rfl) (hb hby at_100) (fun _ _ => ⟨rfl, e19, (by decide : 2 + 0 ≤ _), (by decide : 8 + 0 ≤ _)⟩)
  dsimp only [Pt.U, Pt.locs, Pt.cells, Pt.slots] at X22 l22 y22 z22 st22 hQ22
  subst l22 y22 z22
  obtain ⟨h22, e22⟩ : ∃ z, T22.heap = z := ⟨_, rfl⟩
  rw [e22] at hQ22
  obtain ⟨rfl, N22q, p22_0, p22_1⟩ := hQ22
  have N22 := Fr.app N19 N22q
  have A3 := A3.keep p22_0
  have O23 := O20.keep p22_0 (allS g_b3 all0)
  obtain ⟨cq25, kq25, q25a, q25b, q25c⟩ := isOf hZ e22 A3
  obtain ⟨_, _, ⟨T25, L25, k25, n25⟩, -, X25, ⟨Lc25, hQ25, l25, y25, z25⟩, st25⟩ := X22.virtualBack hx (y := y_8) (z := y_8) hown (mvT hZ (W 69 rfl)) (mvT hZ (W 70 rfl)) (notFace_of_selects (args := #[]) (mvT hZ (W 72 rfl))) (mvT hZ (W 72 rfl)) (mvT hZ (W 71 rfl)) (by decide) (backOf (W := 0) (dec1 l Z a0 hw [] b3 w_OFFERED w_NONE h22 n0 O23 p22_1 S_w_NONE ne_2) hZ (W 73 rfl) (W 5 rfl) (by decide) (by decide)) q25a q25c (g := (mkF m 107 #[iv p1, iv 2, rv w_OFFERED, iv 1, rv w_OFFER, rv b3] [.ref b3])) rfl (by rw [hml]; rfl) (Steps.refl _) (argsL := []) (rest := []) (lenOf pd_3 rfl) rfl (by show 2 * 0 + _ ≤ _; exact Nat.le_of_eq rfl) (hb hby at_107) (fun _ _ => ⟨rfl, e22, (by decide : 2 + 0 ≤ _), (by decide : 8 + 0 ≤ _)⟩)
  dsimp only [Pt.U, Pt.locs, Pt.cells, Pt.slots] at X25 l25 y25 z25 st25 hQ25
  subst l25 y25 z25
  obtain ⟨h25, e25⟩ : ∃ z, T25.heap = z := ⟨_, rfl⟩
  rw [e25] at hQ25
  obtain ⟨rfl, N25q, p25_0⟩ := hQ25
  have N25 := Fr.app N22 N25q
  rw [p25_0] at e25
  obtain ⟨fs, hr, hrun, hended, hW, hsame⟩ := X25.leave (v := some (.int (1 : Int32))) (fun h => by rw [Bd.returns] at h; cases h)
  refine ⟨_, _, pre0 _ ?_, hrun, hended, _, _, rfl, ?_, ⟨_, rfl⟩, hW, hsame.mono (by decide) (by decide)⟩
  · show Sq p e below m s₁ 0 #[iv p1, .unset, .unset, .unset, .unset, .unset] [] _
    refine XS.iloadN X0.here hx rfl (hb hby at_0) rfl ?_
    show Sq p e below m s₁ 1 #[iv p1, .unset, .unset, .unset, .unset, .unset] [.int p1] _
    refine X0.ldcInt hx hown (mvT hZ (W 0 rfl)) (g := (mkF m 1 #[iv p1, .unset, .unset, .unset, .unset, .unset] [.int p1])) rfl (hb hby at_1) _ ?_
    show Sq p e below m s₁ 3 #[iv p1, .unset, .unset, .unset, .unset, .unset] [.int 2147483647, .int p1] _
    refine XS.iand X0.here hx rfl (hb hby at_3) rfl ?_
    refine XS.iconst X0.here hx rfl (hb hby at_4) ?_
    show Sq p e below m s₁ 5 #[iv p1, .unset, .unset, .unset, .unset, .unset] [.int 5, .int (p1 &&& (2147483647 : Int32))] _
    refine iremM X0 hx rfl (hb hby at_5) rfl (by decide : (5 : Int32) ≠ (0 : Int32)) ?_
    show Sq p e below m s₁ 6 #[iv p1, .unset, .unset, .unset, .unset, .unset] [.int ((p1 &&& (2147483647 : Int32)) % (5 : Int32))] _
    rw [hk]
    show Sq p e below m s₁ 6 #[iv p1, .unset, .unset, .unset, .unset, .unset] [.int 2] _
    refine XS.istoreN X0.here hx rfl (hb hby at_6) rfl rfl ?_
    refine XS.iloadN X0.here hx rfl (hb hby at_7) rfl ?_
    show Sq p e below m s₁ 8 #[iv p1, iv 2, .unset, .unset, .unset, .unset] [.int 2] _
    refine XS.ifYes X0.here hx rfl (pc0 := 8) (pc' := 20) rfl (hb hby at_8) rfl ((if0 _ _).trans (feq (by decide)).2) (by decide) (by decide) ?_
    refine XS.iloadN X0.here hx rfl (hb hby at_20) rfl ?_
    show Sq p e below m s₁ 21 #[iv p1, iv 2, .unset, .unset, .unset, .unset] [.int 2] _
    refine XS.iconst X0.here hx rfl (hb hby at_21) ?_
    refine XS.icmpYes X0.here hx rfl (pc0 := 22) (pc' := 34) rfl (hb hby at_22) rfl (feq (by decide)).2 (by decide) (by decide) ?_
    show Sq p e below m s₁ 34 #[iv p1, iv 2, .unset, .unset, .unset, .unset] [] _
    refine XS.iloadN X0.here hx rfl (hb hby at_34) rfl ?_
    refine XS.iconst X0.here hx rfl (hb hby at_35) ?_
    show Sq p e below m s₁ 36 #[iv p1, iv 2, .unset, .unset, .unset, .unset] [.int 2, .int 2] _
    refine XS.icmpNo X0.here hx rfl (hb hby at_36) rfl (teq (rfl : (2 : Int32) = (2 : Int32))).2 ?_
    show Sq p e below m s₁ 39 #[iv p1, iv 2, .unset, .unset, .unset, .unset] [] _
    refine st1 _ ?_
    show Sq p e below m T1 42 #[iv p1, iv 2, .unset, .unset, .unset, .unset] [.ref w_OFFERED] _
    refine XS.astoreN X1.here hx rfl (hb hby at_42) rfl rfl rfl ?_
    refine XS.iconst X1.here hx rfl (hb hby at_43) ?_
    show Sq p e below m T1 44 #[iv p1, iv 2, rv w_OFFERED, .unset, .unset, .unset] [.int 1] _
    refine XS.istoreN X1.here hx rfl (hb hby at_44) rfl rfl ?_
    refine XS.goto X1.here hx rfl (pc0 := 45) (pc' := 68) rfl (hb hby at_45) (by decide) (by decide) ?_
    show Sq p e below m T1 68 #[iv p1, iv 2, rv w_OFFERED, iv 1, .unset, .unset] [] _
    refine st2 _ ?_
    show Sq p e below m T2 71 #[iv p1, iv 2, rv w_OFFERED, iv 1, .unset, .unset] [.ref w_OFFER] _
    refine XS.astore X2.here hx rfl (hb hby at_71) rfl rfl rfl ?_
    show Sq p e below m T2 73 #[iv p1, iv 2, rv w_OFFERED, iv 1, rv w_OFFER, .unset] [] _
    refine st3 _ ?_
    show Sq p e below m T3 76 #[iv p1, iv 2, rv w_OFFERED, iv 1, rv w_OFFER, .unset] [.ref b3] _
    refine XS.dup X3.here hx rfl (hb hby at_76) rfl rfl ?_
    refine XS.aloadN X3.here hx rfl (hb hby at_77) rfl rfl ?_
    show Sq p e below m T3 78 #[iv p1, iv 2, rv w_OFFERED, iv 1, rv w_OFFER, .unset] [.ref w_OFFERED, .ref b3, .ref b3] _
    refine XS.aload X3.here hx rfl (hb hby at_78) rfl rfl ?_
    show Sq p e below m T3 80 #[iv p1, iv 2, rv w_OFFERED, iv 1, rv w_OFFER, .unset] [.ref w_OFFER, .ref w_OFFERED, .ref b3, .ref b3] _
    refine st11.trans ?_
    show Sq p e below m T11 83 #[iv p1, iv 2, rv w_OFFERED, iv 1, rv w_OFFER, .unset] [.ref w_OFFER_offeredBy, .ref w_OFFERED, .ref b3, .ref b3] _
    refine XS.aload X11.here hx rfl (hb hby at_83) rfl rfl ?_
    show Sq p e below m T11 85 #[iv p1, iv 2, rv w_OFFERED, iv 1, rv w_OFFER, .unset] [.ref w_OFFER, .ref w_OFFER_offeredBy, .ref w_OFFERED, .ref b3, .ref b3] _
    refine st12.trans ?_
    show Sq p e below m T12 88 #[iv p1, iv 2, rv w_OFFERED, iv 1, rv w_OFFER, .unset] [.ref w_OFFER_offeredBy, .ref w_OFFER_offeredBy, .ref w_OFFERED, .ref b3, .ref b3] _
    refine XS.aload X12.here hx rfl (hb hby at_88) rfl rfl ?_
    show Sq p e below m T12 90 #[iv p1, iv 2, rv w_OFFERED, iv 1, rv w_OFFER, .unset] [.ref w_OFFER, .ref w_OFFER_offeredBy, .ref w_OFFER_offeredBy, .ref w_OFFERED, .ref b3, .ref b3] _
    refine st13.trans ?_
    show Sq p e below m T13 93 #[iv p1, iv 2, rv w_OFFERED, iv 1, rv w_OFFER, .unset] [.ref w_OFFER_offeredBy, .ref w_OFFER_offeredBy, .ref w_OFFER_offeredBy, .ref w_OFFERED, .ref b3, .ref b3] _
    refine st14 _ ?_
    show Sq p e below m T14 96 #[iv p1, iv 2, rv w_OFFERED, iv 1, rv w_OFFER, .unset] [.ref b14, .ref w_OFFER_offeredBy, .ref w_OFFER_offeredBy, .ref w_OFFER_offeredBy, .ref w_OFFERED, .ref b3, .ref b3] _
    refine XS.dup X14.here hx rfl (hb hby at_96) rfl rfl ?_
    show Sq p e below m T14 97 #[iv p1, iv 2, rv w_OFFERED, iv 1, rv w_OFFER, .unset] [.ref b14, .ref b14, .ref w_OFFER_offeredBy, .ref w_OFFER_offeredBy, .ref w_OFFER_offeredBy, .ref w_OFFERED, .ref b3, .ref b3] _
    refine st19.trans ?_
    show Sq p e below m T19 100 #[iv p1, iv 2, rv w_OFFERED, iv 1, rv w_OFFER, .unset] [.ref b14, .ref w_OFFER_offeredBy, .ref w_OFFER_offeredBy, .ref w_OFFER_offeredBy, .ref w_OFFERED, .ref b3, .ref b3] _
    refine st22.trans ?_
    show Sq p e below m T22 103 #[iv p1, iv 2, rv w_OFFERED, iv 1, rv w_OFFER, .unset] [.ref b3] _
    refine XS.astore X22.here hx rfl (hb hby at_103) rfl rfl rfl ?_
    refine XS.aload X22.here hx rfl (hb hby at_105) rfl rfl ?_
    show Sq p e below m T22 107 #[iv p1, iv 2, rv w_OFFERED, iv 1, rv w_OFFER, rv b3] [.ref b3] _
    refine st25.trans ?_
    show Sq p e below m T25 110 #[iv p1, iv 2, rv w_OFFERED, iv 1, rv w_OFFER, rv b3] [.int 1] _
    refine XS.iloadN X25.here hx rfl (hb hby at_110) rfl ?_
    refine XS.icmpNo X25.here hx rfl (hb hby at_111) rfl (teq (rfl : (1 : Int32) = (1 : Int32))).2 ?_
    show Sq p e below m T25 114 #[iv p1, iv 2, rv w_OFFERED, iv 1, rv w_OFFER, rv b3] [] _
    refine XS.iconst X25.here hx rfl (hb hby at_114) ?_
    refine XS.goto X25.here hx rfl (pc0 := 115) (pc' := 119) rfl (hb hby at_115) (by decide) (by decide) ?_
    show Sq p e below m T25 119 #[iv p1, iv 2, rv w_OFFERED, iv 1, rv w_OFFER, rv b3] [.int 1] _
    exact retN X25 hx (t := .boolean) Bd.returns (by simp) (hb hby at_119) hr
  · show Q_rm0 Z p1 w_NONE w_OFFER w_OFFER_offeredBy w_TAKEN w_DECLINED w_SKIPPED w_OFFERED w_DEF h0 n0 _ T25.heap _
    rw [e25]
    exact ⟨rfl, N25⟩
set_option maxRecDepth 65536 in
set_option maxHeartbeats 40000000 in
theorem rm0_3 (l : Launch) (Z : State) (a0 : Array Value) (hw : ∀ d ∈ tables_1, d.before a0 Z = true) (ws : List Jvm.Cond) (p1 : Int32) (w_NONE : Addr) (w_OFFER : Addr) (w_OFFER_offeredBy : Addr) (w_TAKEN : Addr) (w_DECLINED : Addr) (w_SKIPPED : Addr) (w_OFFERED : Addr) (w_DEF : Addr) (h0 : Heap) (n0 : Nat) (O : Old Z n0 h0) (S_w_NONE : Sta Z Z.heap "com/example/latchkey/latchkey/ScaffoldOffer$Status" "NONE" "Lcom/example/latchkey/latchkey/ScaffoldOffer$Status;" (.ref w_NONE)) (E_w_NONE : Exa Z Z.heap w_NONE "com/example/latchkey/latchkey/ScaffoldOffer$Status") (S_w_OFFER : Sta Z Z.heap "com/example/latchkey/latchkey/ScaffoldOffer" "NONE" "Lcom/example/latchkey/latchkey/ScaffoldOffer;" (.ref w_OFFER)) (E_w_OFFER : Exa Z Z.heap w_OFFER "com/example/latchkey/latchkey/ScaffoldOffer") (F_w_OFFER_offeredBy : Fld Z Z.heap w_OFFER "com/example/latchkey/latchkey/ScaffoldOffer" "offeredBy" "Ljava/util/Optional;" (.ref w_OFFER_offeredBy)) (E_w_OFFER_offeredBy : Exa Z Z.heap w_OFFER_offeredBy "java/util/Optional") (F_w_OFFER_offeredAt : Fld Z Z.heap w_OFFER "com/example/latchkey/latchkey/ScaffoldOffer" "offeredAt" "Ljava/util/Optional;" (.ref w_OFFER_offeredBy)) (F_w_OFFER_answeredAt : Fld Z Z.heap w_OFFER "com/example/latchkey/latchkey/ScaffoldOffer" "answeredAt" "Ljava/util/Optional;" (.ref w_OFFER_offeredBy)) (S_w_TAKEN : Sta Z Z.heap "com/example/latchkey/latchkey/ScaffoldOffer$Status" "TAKEN" "Lcom/example/latchkey/latchkey/ScaffoldOffer$Status;" (.ref w_TAKEN)) (E_w_TAKEN : Exa Z Z.heap w_TAKEN "com/example/latchkey/latchkey/ScaffoldOffer$Status") (S_w_DECLINED : Sta Z Z.heap "com/example/latchkey/latchkey/ScaffoldOffer$Status" "DECLINED" "Lcom/example/latchkey/latchkey/ScaffoldOffer$Status;" (.ref w_DECLINED)) (E_w_DECLINED : Exa Z Z.heap w_DECLINED "com/example/latchkey/latchkey/ScaffoldOffer$Status") (S_w_SKIPPED : Sta Z Z.heap "com/example/latchkey/latchkey/ScaffoldOffer$Status" "SKIPPED" "Lcom/example/latchkey/latchkey/ScaffoldOffer$Status;" (.ref w_SKIPPED)) (E_w_SKIPPED : Exa Z Z.heap w_SKIPPED "com/example/latchkey/latchkey/ScaffoldOffer$Status") (S_w_OFFERED : Sta Z Z.heap "com/example/latchkey/latchkey/ScaffoldOffer$Status" "OFFERED" "Lcom/example/latchkey/latchkey/ScaffoldOffer$Status;" (.ref w_OFFERED)) (E_w_OFFERED : Exa Z Z.heap w_OFFERED "com/example/latchkey/latchkey/ScaffoldOffer$Status") (S_w_DEF : Sta Z Z.heap "java/util/ArrayList" "DEFAULTCAPACITY_EMPTY_ELEMENTDATA" "[Ljava/lang/Object;" (.ref w_DEF)) (E_w_DEF : Exa Z Z.heap w_DEF "[Ljava/lang/Object;") (ne_1 : w_DECLINED ≠ w_NONE) (ne_2 : w_OFFERED ≠ w_NONE) (ne_3 : w_TAKEN ≠ w_NONE) (ne_4 : w_SKIPPED ≠ w_NONE) (hk : ((p1 &&& (2147483647 : Int32)) % (5 : Int32)) = (3 : Int32)) :
    Ctr l Z x code maxLocals ret ws room_1 #[(.int p1)] h0 (Q_rm0 Z p1 w_NONE w_OFFER w_OFFER_offeredBy w_TAKEN w_DECLINED w_SKIPPED w_OFFERED w_DEF h0 n0) := by
  refine MetFree.of_bodySF (plainFor_of_name pn_5) hisR ?_
  intro p e s m args below meth c s₁ Bd hml0 hP hK
  obtain ⟨rfl, hZ, hh⟩ := hP
  have W := fun (i : Nat) {d : Jvm.Cond} (h : tables_1[i]? = some d) => hw d (List.mem_of_getElem? h)
  have hx := Bd.exec
  have hby := Bd.bytes
  have hml : c.maxLocals = 6 := hml0
  have hown : s.vm.findClass "com/example/latchkey/latchkey/ScaffoldOfferIsDecidedPinLaw" = some m.cls := findClass_of_methodNamed Bd.named
  have hnm := (name_of_methodNamed Bd.named Bd.method).1
  have X0 : Stand p l e room_1 s m #[(.int p1)] below meth c s₁ [] 0 0 := Stand.of_body Bd
  have e0 : s₁.heap = h0 := by rw [← hh, Bd.state]; rfl
  have N0 := Fr.nil n0
  have pre0 : ∀ t, Steps p.tables e below (s₁.setTop (mkF m 0 #[.val (.int p1), .unset, .unset, .unset, .unset, .unset] [])) t → Steps p.tables e below (s₁.setTop (entryFrame m #[(.int p1)] maxLocals)) t := fun t kk_ => castTop (ef_9 m p1) kk_
  obtain ⟨T1, X1, e1, st1⟩ := getS2 X0 hx hZ hown (host := "") (Or.inl (W 75 rfl)) Via.refl e0 (S_w_TAKEN.ext O.2) (g := (mkF m 53 #[iv p1, iv 3, .unset, .unset, .unset, .unset] [])) rfl (hb hby at_53)
  obtain ⟨T2, X2, e2, st2⟩ := getS2 X1 hx hZ hown (host := "") (Or.inl (W 4 rfl)) Via.refl e1 (S_w_OFFER.ext O.2) (g := (mkF m 68 #[iv p1, iv 3, rv w_TAKEN, iv 1, .unset, .unset] [])) rfl (hb hby at_68)
  obtain ⟨T3, h3, X3, e3, E3, A3, D3, -, st3⟩ := newO X2 hx hZ hown (W 7 rfl) (W 8 rfl) (W 5 rfl) e2 (g := (mkF m 73 #[iv p1, iv 3, rv w_TAKEN, iv 1, rv w_OFFER, .unset] [])) rfl (hb hby at_73) (by decide) (by decide)
  obtain ⟨b3, g3⟩ : ∃ z, z = h0.size := ⟨_, rfl⟩
  rw [← g3] at A3 D3 st3
  have g_b3 : n0 ≤ b3 := Nat.le_trans (own_sz O) (Nat.le_of_eq g3.symm)
  have O4 := O.ext E3
  have Fz6 : Fld Z h3 b3 "com/example/latchkey/latchkey/ScaffoldOffer" "offeredBy" "Ljava/util/Optional;" .null := D3 (Or.inr (W 15 rfl)) (ty := (.object "java/util/Optional")) (by decide)
  have Fz7 : Fld Z h3 b3 "com/example/latchkey/latchkey/ScaffoldOffer" "offeredAt" "Ljava/util/Optional;" .null := D3 (Or.inr (W 22 rfl)) (ty := (.object "java/util/Optional")) (by decide)
  have Fz8 : Fld Z h3 b3 "com/example/latchkey/latchkey/ScaffoldOffer" "answeredAt" "Ljava/util/Optional;" .null := D3 (Or.inr (W 29 rfl)) (ty := (.object "java/util/Optional")) (by decide)
  have Fz9 : Fld Z h3 b3 "com/example/latchkey/latchkey/ScaffoldOffer" "status" "Lcom/example/latchkey/latchkey/ScaffoldOffer$Status;" .null := D3 (Or.inr (W 66 rfl)) (ty := (.object "com/example/latchkey/latchkey/ScaffoldOffer$Status")) (by decide)
  have Fz10 : Fld Z h3 b3 "com/example/latchkey/latchkey/ScaffoldOffer" "kinds" "Ljava/util/List;" .null := D3 (Or.inr (W 68 rfl)) (ty := (.object "java/util/List")) (by decide)
  obtain ⟨cq11, kq11, q11a, q11b, q11c⟩ := isOf hZ e3 (E_w_OFFER.ext O4.2)
  obtain ⟨_, _, ⟨T11, L11, k11, n11⟩, -, X11, ⟨Lc11, hQ11, l11, y11, z11⟩, st11⟩ := X3.virtualBack hx (y := y_0) (z := y_0) hown (mvT hZ (W 9 rfl)) (mvT hZ (W 10 rfl)) (notFace_of_selects (args := #[]) (mvT hZ (W 12 rfl))) (mvT hZ (W 12 rfl)) (mvT hZ (W 11 rfl)) (by decide) (backOf (W := 3) (getofferedBy l Z a0 hw [] w_OFFER w_OFFER_offeredBy h3 n0 O4 (F_w_OFFER_offeredBy.ext O4.2)) hZ (W 13 rfl) (W 5 rfl) (by decide) (by decide)) q11a q11c (g := (mkF m 80 #[iv p1, iv 3, rv w_TAKEN, iv 1, rv w_OFFER, .unset] [.ref w_OFFER, .ref w_TAKEN, .ref b3, .ref b3])) rfl (by rw [hml]; rfl) (Steps.refl _) (argsL := []) (rest := [.ref w_TAKEN, .ref b3, .ref b3]) (lenOf pd_1 rfl) rfl (by show 2 * 0 + _ ≤ _; exact Nat.le_of_eq rfl) (hb hby at_80) (fun _ _ => ⟨rfl, e3, (by decide : 1 + 0 ≤ _), (by decide : 5 + 0 ≤ _)⟩)
  dsimp only [Pt.U, Pt.locs, Pt.cells, Pt.slots] at X11 l11 y11 z11 st11 hQ11
  subst l11 y11 z11
  obtain ⟨h11, e11⟩ : ∃ z, T11.heap = z := ⟨_, rfl⟩
  rw [e11] at hQ11
  obtain ⟨rfl, N11q, p11_0⟩ := hQ11
  have N11 := Fr.app N0 N11q
  rw [p11_0] at e11
  obtain ⟨cq12, kq12, q12a, q12b, q12c⟩ := isOf hZ e11 (E_w_OFFER.ext O4.2)
  obtain ⟨_, _, ⟨T12, L12, k12, n12⟩, -, X12, ⟨Lc12, hQ12, l12, y12, z12⟩, st12⟩ := X11.virtualBack hx (y := y_1) (z := y_1) hown (mvT hZ (W 16 rfl)) (mvT hZ (W 17 rfl)) (notFace_of_selects (args := #[]) (mvT hZ (W 19 rfl))) (mvT hZ (W 19 rfl)) (mvT hZ (W 18 rfl)) (by decide) (backOf (W := 4) (getofferedAt l Z a0 hw [] w_OFFER w_OFFER_offeredBy h3 n0 O4 (F_w_OFFER_offeredAt.ext O4.2)) hZ (W 20 rfl) (W 5 rfl) (by decide) (by decide)) q12a q12c (g := (mkF m 85 #[iv p1, iv 3, rv w_TAKEN, iv 1, rv w_OFFER, .unset] [.ref w_OFFER, .ref w_OFFER_offeredBy, .ref w_TAKEN, .ref b3, .ref b3])) rfl (by rw [hml]; rfl) (Steps.refl _) (argsL := []) (rest := [.ref w_OFFER_offeredBy, .ref w_TAKEN, .ref b3, .ref b3]) (lenOf pd_1 rfl) rfl (by show 2 * 0 + _ ≤ _; exact Nat.le_of_eq rfl) (hb hby at_85) (fun _ _ => ⟨rfl, e11, (by decide : 1 + 0 ≤ _), (by decide : 5 + 0 ≤ _)⟩)
  dsimp only [Pt.U, Pt.locs, Pt.cells, Pt.slots] at X12 l12 y12 z12 st12 hQ12
  subst l12 y12 z12
  obtain ⟨h12, e12⟩ : ∃ z, T12.heap = z := ⟨_, rfl⟩
  rw [e12] at hQ12
  obtain ⟨rfl, N12q, p12_0⟩ := hQ12
  have N12 := Fr.app N11 N12q
  rw [p12_0] at e12
  obtain ⟨cq13, kq13, q13a, q13b, q13c⟩ := isOf hZ e12 (E_w_OFFER.ext O4.2)
  obtain ⟨_, _, ⟨T13, L13, k13, n13⟩, -, X13, ⟨Lc13, hQ13, l13, y13, z13⟩, st13⟩ := X12.virtualBack hx (y := y_2) (z := y_2) hown (mvT hZ (W 23 rfl)) (mvT hZ (W 24 rfl)) (notFace_of_selects (args := #[]) (mvT hZ (W 26 rfl))) (mvT hZ (W 26 rfl)) (mvT hZ (W 25 rfl)) (by decide) (backOf (W := 5) (getansweredAt l Z a0 hw [] w_OFFER w_OFFER_offeredBy h3 n0 O4 (F_w_OFFER_answeredAt.ext O4.2)) hZ (W 27 rfl) (W 5 rfl) (by decide) (by decide)) q13a q13c (g := (mkF m 90 #[iv p1, iv 3, rv w_TAKEN, iv 1, rv w_OFFER, .unset] [.ref w_OFFER, .ref w_OFFER_offeredBy, .ref w_OFFER_offeredBy, .ref w_TAKEN, .ref b3, .ref b3])) rfl (by rw [hml]; rfl) (Steps.refl _) (argsL := []) (rest := [.ref w_OFFER_offeredBy, .ref w_OFFER_offeredBy, .ref w_TAKEN, .ref b3, .ref b3]) (lenOf pd_1 rfl) rfl (by show 2 * 0 + _ ≤ _; exact Nat.le_of_eq rfl) (hb hby at_90) (fun _ _ => ⟨rfl, e12, (by decide : 1 + 0 ≤ _), (by decide : 5 + 0 ≤ _)⟩)
  dsimp only [Pt.U, Pt.locs, Pt.cells, Pt.slots] at X13 l13 y13 z13 st13 hQ13
  subst l13 y13 z13
  obtain ⟨h13, e13⟩ : ∃ z, T13.heap = z := ⟨_, rfl⟩
  rw [e13] at hQ13
  obtain ⟨rfl, N13q, p13_0⟩ := hQ13
  have N13 := Fr.app N12 N13q
  rw [p13_0] at e13
  obtain ⟨T14, h14, X14, e14, E14, A14, D14, -, st14⟩ := newO X13 hx hZ hown (W 30 rfl) (W 31 rfl) (W 32 rfl) e13 (g := (mkF m 93 #[iv p1, iv 3, rv w_TAKEN, iv 1, rv w_OFFER, .unset] [.ref w_OFFER_offeredBy, .ref w_OFFER_offeredBy, .ref w_OFFER_offeredBy, .ref w_TAKEN, .ref b3, .ref b3])) rfl (hb hby at_93) (by decide) (by decide)
  obtain ⟨b14, g14⟩ : ∃ z, z = h3.size := ⟨_, rfl⟩
  rw [← g14] at A14 D14 st14
  have g_b14 : n0 ≤ b14 := Nat.le_trans (own_sz O4) (Nat.le_of_eq g14.symm)
  have ne_b3_b14 : b3 ≠ b14 := Nat.ne_of_lt (Nat.lt_of_lt_of_le A3.lt (Nat.le_of_eq g14.symm))
  have A3 := A3.ext E14
  have Fz6 := Fz6.ext E14
  have Fz7 := Fz7.ext E14
  have Fz8 := Fz8.ext E14
  have Fz9 := Fz9.ext E14
  have Fz10 := Fz10.ext E14
  have O15 := O4.ext E14
  have Fz17 : Fld Z h14 b14 "java/util/AbstractList" "modCount" "I" (.int (0 : Int32)) := D14 (Or.inl (W 52 rfl)) (ty := .int) (by decide)
  have Fz18 : Fld Z h14 b14 "java/util/ArrayList" "elementData" "[Ljava/lang/Object;" .null := D14 (Or.inl (W 55 rfl)) (ty := (.array (.object "java/lang/Object"))) (by decide)
  obtain ⟨_, _, ⟨T19, L19, k19, n19⟩, -, X19, ⟨Lc19, hQ19, l19, y19, z19⟩, st19⟩ := X14.specialBack hx (y := y_5) rfl hown (mvT hZ (W 33 rfl)) (mvT hZ (W 34 rfl)) (mvT hZ (W 35 rfl)) (by decide) (backOf (W := 7) (alinit l Z a0 hw [] b14 w_DEF h14 n0 O15 A14 Fz17 Fz18 g_b14 S_w_DEF) hZ (W 35 rfl) (W 32 rfl) (by decide) (by decide)) (g := (mkF m 97 #[iv p1, iv 3, rv w_TAKEN, iv 1, rv w_OFFER, .unset] [.ref b14, .ref b14, .ref w_OFFER_offeredBy, .ref w_OFFER_offeredBy, .ref w_OFFER_offeredBy, .ref w_TAKEN, .ref b3, .ref b3])) rfl (by rw [hml]; rfl) (Steps.refl _) (a := b14) (argsL := []) (rest := [.ref b14, .ref w_OFFER_offeredBy, .ref w_OFFER_offeredBy, .ref w_OFFER_offeredBy, .ref w_TAKEN, .ref b3, .ref b3]) (lenOf pd_0 rfl) rfl (by show 2 * 0 + _ ≤ _; exact Nat.le_of_eq rfl) (hb hby at_97) (fun _ _ => ⟨rfl, e14, (by decide : 2 + 0 ≤ _), (by decide : 8 + 0 ≤ _)⟩)
  dsimp only [Pt.U, Pt.locs, Pt.cells, Pt.slots] at X19 l19 y19 z19 st19 hQ19
  subst l19 y19 z19
  obtain ⟨h19, e19⟩ : ∃ z, T19.heap = z := ⟨_, rfl⟩
  rw [e19] at hQ19
  obtain ⟨rfl, N19q, p19_0⟩ := hQ19
  have N19 := Fr.app N13 N19q
  have A3 := A3.keep p19_0
  have Fz6 := Fz6.keep p19_0 (ninS ne_b3_b14 nin0)
  have Fz7 := Fz7.keep p19_0 (ninS ne_b3_b14 nin0)
  have Fz8 := Fz8.keep p19_0 (ninS ne_b3_b14 nin0)
  have Fz9 := Fz9.keep p19_0 (ninS ne_b3_b14 nin0)
  have Fz10 := Fz10.keep p19_0 (ninS ne_b3_b14 nin0)
  have O20 := O15.keep p19_0 (allS g_b14 all0)
  obtain ⟨_, _, ⟨T22, L22, k22, n22⟩, -, X22, ⟨Lc22, hQ22, l22, y22, z22⟩, st22⟩ := X19.specialBack hx (y := y_7) rfl hown (mvT hZ (W 56 rfl)) (mvT hZ (W 57 rfl)) (mvT hZ (W 58 rfl)) (by decide) (backOf (W := 1) (soinit l Z a0 hw [] b3 w_TAKEN w_OFFER_offeredBy w_OFFER_offeredBy w_OFFER_offeredBy b14 h19 n0 O20 A3 Fz9 Fz6 Fz7 Fz8 Fz10 g_b3) hZ (W 58 rfl) (W 5 rfl) (by decide) (by decide)) (g := (mkF m 100 #[iv p1, iv 3, rv w_TAKEN, iv 1, rv w_OFFER, .unset] [.ref b14, .ref w_OFFER_offeredBy, .ref w_OFFER_offeredBy, .ref w_OFFER_offeredBy, .ref w_TAKEN, .ref b3, .ref b3])) rfl (by rw [hml]; rfl) (Steps.refl _) (a := b3) (argsL := [.ref w_TAKEN, .ref w_OFFER_offeredBy, .ref w_OFFER_offeredBy, .ref w_OFFER_offeredBy, .ref b14]) (rest := [.ref b3]) (lenOf pd_2 rfl) rfl (by show 2 * 0 + _ ≤ _; exact Nat.le_of_eq rfl) (hb hby at_100) (fun _ _ => ⟨rfl, e19, (by decide : 2 + 0 ≤ _), (by decide : 8 + 0 ≤ _)⟩)
  dsimp only [Pt.U, Pt.locs, Pt.cells, Pt.slots] at X22 l22 y22 z22 st22 hQ22
  subst l22 y22 z22
  obtain ⟨h22, e22⟩ : ∃ z, T22.heap = z := ⟨_, rfl⟩
  rw [e22] at hQ22
  obtain ⟨rfl, N22q, p22_0, p22_1⟩ := hQ22
  have N22 := Fr.app N19 N22q
  have A3 := A3.keep p22_0
  have O23 := O20.keep p22_0 (allS g_b3 all0)
  obtain ⟨cq25, kq25, q25a, q25b, q25c⟩ := isOf hZ e22 A3
  obtain ⟨_, _, ⟨T25, L25, k25, n25⟩, -, X25, ⟨Lc25, hQ25, l25, y25, z25⟩, st25⟩ := X22.virtualBack hx (y := y_8) (z := y_8) hown (mvT hZ (W 69 rfl)) (mvT hZ (W 70 rfl)) (notFace_of_selects (args := #[]) (mvT hZ (W 72 rfl))) (mvT hZ (W 72 rfl)) (mvT hZ (W 71 rfl)) (by decide) (backOf (W := 0) (dec1 l Z a0 hw [] b3 w_TAKEN w_NONE h22 n0 O23 p22_1 S_w_NONE ne_3) hZ (W 73 rfl) (W 5 rfl) (by decide) (by decide)) q25a q25c (g := (mkF m 107 #[iv p1, iv 3, rv w_TAKEN, iv 1, rv w_OFFER, rv b3] [.ref b3])) rfl (by rw [hml]; rfl) (Steps.refl _) (argsL := []) (rest := []) (lenOf pd_3 rfl) rfl (by show 2 * 0 + _ ≤ _; exact Nat.le_of_eq rfl) (hb hby at_107) (fun _ _ => ⟨rfl, e22, (by decide : 2 + 0 ≤ _), (by decide : 8 + 0 ≤ _)⟩)
  dsimp only [Pt.U, Pt.locs, Pt.cells, Pt.slots] at X25 l25 y25 z25 st25 hQ25
  subst l25 y25 z25
  obtain ⟨h25, e25⟩ : ∃ z, T25.heap = z := ⟨_, rfl⟩
  rw [e25] at hQ25
  obtain ⟨rfl, N25q, p25_0⟩ := hQ25
  have N25 := Fr.app N22 N25q
  rw [p25_0] at e25
  obtain ⟨fs, hr, hrun, hended, hW, hsame⟩ := X25.leave (v := some (.int (1 : Int32))) (fun h => by rw [Bd.returns] at h; cases h)
  refine ⟨_, _, pre0 _ ?_, hrun, hended, _, _, rfl, ?_, ⟨_, rfl⟩, hW, hsame.mono (by decide) (by decide)⟩
  · show Sq p e below m s₁ 0 #[iv p1, .unset, .unset, .unset, .unset, .unset] [] _
    refine XS.iloadN X0.here hx rfl (hb hby at_0) rfl ?_
    show Sq p e below m s₁ 1 #[iv p1, .unset, .unset, .unset, .unset, .unset] [.int p1] _
    refine X0.ldcInt hx hown (mvT hZ (W 0 rfl)) (g := (mkF m 1 #[iv p1, .unset, .unset, .unset, .unset, .unset] [.int p1])) rfl (hb hby at_1) _ ?_
    show Sq p e below m s₁ 3 #[iv p1, .unset, .unset, .unset, .unset, .unset] [.int 2147483647, .int p1] _
    refine XS.iand X0.here hx rfl (hb hby at_3) rfl ?_
    refine XS.iconst X0.here hx rfl (hb hby at_4) ?_
    show Sq p e below m s₁ 5 #[iv p1, .unset, .unset, .unset, .unset, .unset] [.int 5, .int (p1 &&& (2147483647 : Int32))] _
    refine iremM X0 hx rfl (hb hby at_5) rfl (by decide : (5 : Int32) ≠ (0 : Int32)) ?_
    show Sq p e below m s₁ 6 #[iv p1, .unset, .unset, .unset, .unset, .unset] [.int ((p1 &&& (2147483647 : Int32)) % (5 : Int32))] _
    rw [hk]
    show Sq p e below m s₁ 6 #[iv p1, .unset, .unset, .unset, .unset, .unset] [.int 3] _
    refine XS.istoreN X0.here hx rfl (hb hby at_6) rfl rfl ?_
    refine XS.iloadN X0.here hx rfl (hb hby at_7) rfl ?_
    show Sq p e below m s₁ 8 #[iv p1, iv 3, .unset, .unset, .unset, .unset] [.int 3] _
    refine XS.ifYes X0.here hx rfl (pc0 := 8) (pc' := 20) rfl (hb hby at_8) rfl ((if0 _ _).trans (feq (by decide)).2) (by decide) (by decide) ?_
    refine XS.iloadN X0.here hx rfl (hb hby at_20) rfl ?_
    show Sq p e below m s₁ 21 #[iv p1, iv 3, .unset, .unset, .unset, .unset] [.int 3] _
    refine XS.iconst X0.here hx rfl (hb hby at_21) ?_
    refine XS.icmpYes X0.here hx rfl (pc0 := 22) (pc' := 34) rfl (hb hby at_22) rfl (feq (by decide)).2 (by decide) (by decide) ?_
    show Sq p e below m s₁ 34 #[iv p1, iv 3, .unset, .unset, .unset, .unset] [] _
    refine XS.iloadN X0.here hx rfl (hb hby at_34) rfl ?_
    refine XS.iconst X0.here hx rfl (hb hby at_35) ?_
    show Sq p e below m s₁ 36 #[iv p1, iv 3, .unset, .unset, .unset, .unset] [.int 2, .int 3] _
    refine XS.icmpYes X0.here hx rfl (pc0 := 36) (pc' := 48) rfl (hb hby at_36) rfl (feq (by decide)).2 (by decide) (by decide) ?_
    refine XS.iloadN X0.here hx rfl (hb hby at_48) rfl ?_
    show Sq p e below m s₁ 49 #[iv p1, iv 3, .unset, .unset, .unset, .unset] [.int 3] _
    refine XS.iconst X0.here hx rfl (hb hby at_49) ?_
    refine XS.icmpNo X0.here hx rfl (hb hby at_50) rfl (teq (rfl : (3 : Int32) = (3 : Int32))).2 ?_
    show Sq p e below m s₁ 53 #[iv p1, iv 3, .unset, .unset, .unset, .unset] [] _
    refine st1 _ ?_
    show Sq p e below m T1 56 #[iv p1, iv 3, .unset, .unset, .unset, .unset] [.ref w_TAKEN] _
    refine XS.astoreN X1.here hx rfl (hb hby at_56) rfl rfl rfl ?_
    refine XS.iconst X1.here hx rfl (hb hby at_57) ?_
    show Sq p e below m T1 58 #[iv p1, iv 3, rv w_TAKEN, .unset, .unset, .unset] [.int 1] _
    refine XS.istoreN X1.here hx rfl (hb hby at_58) rfl rfl ?_
    refine XS.goto X1.here hx rfl (pc0 := 59) (pc' := 68) rfl (hb hby at_59) (by decide) (by decide) ?_
    show Sq p e below m T1 68 #[iv p1, iv 3, rv w_TAKEN, iv 1, .unset, .unset] [] _
    refine st2 _ ?_
    show Sq p e below m T2 71 #[iv p1, iv 3, rv w_TAKEN, iv 1, .unset, .unset] [.ref w_OFFER] _
    refine XS.astore X2.here hx rfl (hb hby at_71) rfl rfl rfl ?_
    show Sq p e below m T2 73 #[iv p1, iv 3, rv w_TAKEN, iv 1, rv w_OFFER, .unset] [] _
    refine st3 _ ?_
    show Sq p e below m T3 76 #[iv p1, iv 3, rv w_TAKEN, iv 1, rv w_OFFER, .unset] [.ref b3] _
    refine XS.dup X3.here hx rfl (hb hby at_76) rfl rfl ?_
    refine XS.aloadN X3.here hx rfl (hb hby at_77) rfl rfl ?_
    show Sq p e below m T3 78 #[iv p1, iv 3, rv w_TAKEN, iv 1, rv w_OFFER, .unset] [.ref w_TAKEN, .ref b3, .ref b3] _
    refine XS.aload X3.here hx rfl (hb hby at_78) rfl rfl ?_
    show Sq p e below m T3 80 #[iv p1, iv 3, rv w_TAKEN, iv 1, rv w_OFFER, .unset] [.ref w_OFFER, .ref w_TAKEN, .ref b3, .ref b3] _
    refine st11.trans ?_
    show Sq p e below m T11 83 #[iv p1, iv 3, rv w_TAKEN, iv 1, rv w_OFFER, .unset] [.ref w_OFFER_offeredBy, .ref w_TAKEN, .ref b3, .ref b3] _
    refine XS.aload X11.here hx rfl (hb hby at_83) rfl rfl ?_
    show Sq p e below m T11 85 #[iv p1, iv 3, rv w_TAKEN, iv 1, rv w_OFFER, .unset] [.ref w_OFFER, .ref w_OFFER_offeredBy, .ref w_TAKEN, .ref b3, .ref b3] _
    refine st12.trans ?_
    show Sq p e below m T12 88 #[iv p1, iv 3, rv w_TAKEN, iv 1, rv w_OFFER, .unset] [.ref w_OFFER_offeredBy, .ref w_OFFER_offeredBy, .ref w_TAKEN, .ref b3, .ref b3] _
    refine XS.aload X12.here hx rfl (hb hby at_88) rfl rfl ?_
    show Sq p e below m T12 90 #[iv p1, iv 3, rv w_TAKEN, iv 1, rv w_OFFER, .unset] [.ref w_OFFER, .ref w_OFFER_offeredBy, .ref w_OFFER_offeredBy, .ref w_TAKEN, .ref b3, .ref b3] _
    refine st13.trans ?_
    show Sq p e below m T13 93 #[iv p1, iv 3, rv w_TAKEN, iv 1, rv w_OFFER, .unset] [.ref w_OFFER_offeredBy, .ref w_OFFER_offeredBy, .ref w_OFFER_offeredBy, .ref w_TAKEN, .ref b3, .ref b3] _
    refine st14 _ ?_
    show Sq p e below m T14 96 #[iv p1, iv 3, rv w_TAKEN, iv 1, rv w_OFFER, .unset] [.ref b14, .ref w_OFFER_offeredBy, .ref w_OFFER_offeredBy, .ref w_OFFER_offeredBy, .ref w_TAKEN, .ref b3, .ref b3] _
    refine XS.dup X14.here hx rfl (hb hby at_96) rfl rfl ?_
    show Sq p e below m T14 97 #[iv p1, iv 3, rv w_TAKEN, iv 1, rv w_OFFER, .unset] [.ref b14, .ref b14, .ref w_OFFER_offeredBy, .ref w_OFFER_offeredBy, .ref w_OFFER_offeredBy, .ref w_TAKEN, .ref b3, .ref b3] _
    refine st19.trans ?_
    show Sq p e below m T19 100 #[iv p1, iv 3, rv w_TAKEN, iv 1, rv w_OFFER, .unset] [.ref b14, .ref w_OFFER_offeredBy, .ref w_OFFER_offeredBy, .ref w_OFFER_offeredBy, .ref w_TAKEN, .ref b3, .ref b3] _
    refine st22.trans ?_
    show Sq p e below m T22 103 #[iv p1, iv 3, rv w_TAKEN, iv 1, rv w_OFFER, .unset] [.ref b3] _
    refine XS.astore X22.here hx rfl (hb hby at_103) rfl rfl rfl ?_
    refine XS.aload X22.here hx rfl (hb hby at_105) rfl rfl ?_
    show Sq p e below m T22 107 #[iv p1, iv 3, rv w_TAKEN, iv 1, rv w_OFFER, rv b3] [.ref b3] _
    refine st25.trans ?_
    show Sq p e below m T25 110 #[iv p1, iv 3, rv w_TAKEN, iv 1, rv w_OFFER, rv b3] [.int 1] _
    refine XS.iloadN X25.here hx rfl (hb hby at_110) rfl ?_
    refine XS.icmpNo X25.here hx rfl (hb hby at_111) rfl (teq (rfl : (1 : Int32) = (1 : Int32))).2 ?_
    show Sq p e below m T25 114 #[iv p1, iv 3, rv w_TAKEN, iv 1, rv w_OFFER, rv b3] [] _
    refine XS.iconst X25.here hx rfl (hb hby at_114) ?_
    refine XS.goto X25.here hx rfl (pc0 := 115) (pc' := 119) rfl (hb hby at_115) (by decide) (by decide) ?_
    show Sq p e below m T25 119 #[iv p1, iv 3, rv w_TAKEN, iv 1, rv w_OFFER, rv b3] [.int 1] _
    exact retN X25 hx (t := .boolean) Bd.returns (by simp) (hb hby at_119) hr
  · show Q_rm0 Z p1 w_NONE w_OFFER w_OFFER_offeredBy w_TAKEN w_DECLINED w_SKIPPED w_OFFERED w_DEF h0 n0 _ T25.heap _
    rw [e25]
    exact ⟨rfl, N25⟩
set_option maxRecDepth 65536 in
set_option maxHeartbeats 40000000 in
theorem rm0_4 (l : Launch) (Z : State) (a0 : Array Value) (hw : ∀ d ∈ tables_1, d.before a0 Z = true) (ws : List Jvm.Cond) (p1 : Int32) (w_NONE : Addr) (w_OFFER : Addr) (w_OFFER_offeredBy : Addr) (w_TAKEN : Addr) (w_DECLINED : Addr) (w_SKIPPED : Addr) (w_OFFERED : Addr) (w_DEF : Addr) (h0 : Heap) (n0 : Nat) (O : Old Z n0 h0) (S_w_NONE : Sta Z Z.heap "com/example/latchkey/latchkey/ScaffoldOffer$Status" "NONE" "Lcom/example/latchkey/latchkey/ScaffoldOffer$Status;" (.ref w_NONE)) (E_w_NONE : Exa Z Z.heap w_NONE "com/example/latchkey/latchkey/ScaffoldOffer$Status") (S_w_OFFER : Sta Z Z.heap "com/example/latchkey/latchkey/ScaffoldOffer" "NONE" "Lcom/example/latchkey/latchkey/ScaffoldOffer;" (.ref w_OFFER)) (E_w_OFFER : Exa Z Z.heap w_OFFER "com/example/latchkey/latchkey/ScaffoldOffer") (F_w_OFFER_offeredBy : Fld Z Z.heap w_OFFER "com/example/latchkey/latchkey/ScaffoldOffer" "offeredBy" "Ljava/util/Optional;" (.ref w_OFFER_offeredBy)) (E_w_OFFER_offeredBy : Exa Z Z.heap w_OFFER_offeredBy "java/util/Optional") (F_w_OFFER_offeredAt : Fld Z Z.heap w_OFFER "com/example/latchkey/latchkey/ScaffoldOffer" "offeredAt" "Ljava/util/Optional;" (.ref w_OFFER_offeredBy)) (F_w_OFFER_answeredAt : Fld Z Z.heap w_OFFER "com/example/latchkey/latchkey/ScaffoldOffer" "answeredAt" "Ljava/util/Optional;" (.ref w_OFFER_offeredBy)) (S_w_TAKEN : Sta Z Z.heap "com/example/latchkey/latchkey/ScaffoldOffer$Status" "TAKEN" "Lcom/example/latchkey/latchkey/ScaffoldOffer$Status;" (.ref w_TAKEN)) (E_w_TAKEN : Exa Z Z.heap w_TAKEN "com/example/latchkey/latchkey/ScaffoldOffer$Status") (S_w_DECLINED : Sta Z Z.heap "com/example/latchkey/latchkey/ScaffoldOffer$Status" "DECLINED" "Lcom/example/latchkey/latchkey/ScaffoldOffer$Status;" (.ref w_DECLINED)) (E_w_DECLINED : Exa Z Z.heap w_DECLINED "com/example/latchkey/latchkey/ScaffoldOffer$Status") (S_w_SKIPPED : Sta Z Z.heap "com/example/latchkey/latchkey/ScaffoldOffer$Status" "SKIPPED" "Lcom/example/latchkey/latchkey/ScaffoldOffer$Status;" (.ref w_SKIPPED)) (E_w_SKIPPED : Exa Z Z.heap w_SKIPPED "com/example/latchkey/latchkey/ScaffoldOffer$Status") (S_w_OFFERED : Sta Z Z.heap "com/example/latchkey/latchkey/ScaffoldOffer$Status" "OFFERED" "Lcom/example/latchkey/latchkey/ScaffoldOffer$Status;" (.ref w_OFFERED)) (E_w_OFFERED : Exa Z Z.heap w_OFFERED "com/example/latchkey/latchkey/ScaffoldOffer$Status") (S_w_DEF : Sta Z Z.heap "java/util/ArrayList" "DEFAULTCAPACITY_EMPTY_ELEMENTDATA" "[Ljava/lang/Object;" (.ref w_DEF)) (E_w_DEF : Exa Z Z.heap w_DEF "[Ljava/lang/Object;") (ne_1 : w_DECLINED ≠ w_NONE) (ne_2 : w_OFFERED ≠ w_NONE) (ne_3 : w_TAKEN ≠ w_NONE) (ne_4 : w_SKIPPED ≠ w_NONE) (hk : ((p1 &&& (2147483647 : Int32)) % (5 : Int32)) = (4 : Int32)) :
    Ctr l Z x code maxLocals ret ws room_1 #[(.int p1)] h0 (Q_rm0 Z p1 w_NONE w_OFFER w_OFFER_offeredBy w_TAKEN w_DECLINED w_SKIPPED w_OFFERED w_DEF h0 n0) := by
  refine MetFree.of_bodySF (plainFor_of_name pn_5) hisR ?_
  intro p e s m args below meth c s₁ Bd hml0 hP hK
  obtain ⟨rfl, hZ, hh⟩ := hP
  have W := fun (i : Nat) {d : Jvm.Cond} (h : tables_1[i]? = some d) => hw d (List.mem_of_getElem? h)
  have hx := Bd.exec
  have hby := Bd.bytes
  have hml : c.maxLocals = 6 := hml0
  have hown : s.vm.findClass "com/example/latchkey/latchkey/ScaffoldOfferIsDecidedPinLaw" = some m.cls := findClass_of_methodNamed Bd.named
  have hnm := (name_of_methodNamed Bd.named Bd.method).1
  have X0 : Stand p l e room_1 s m #[(.int p1)] below meth c s₁ [] 0 0 := Stand.of_body Bd
  have e0 : s₁.heap = h0 := by rw [← hh, Bd.state]; rfl
  have N0 := Fr.nil n0
  have pre0 : ∀ t, Steps p.tables e below (s₁.setTop (mkF m 0 #[.val (.int p1), .unset, .unset, .unset, .unset, .unset] [])) t → Steps p.tables e below (s₁.setTop (entryFrame m #[(.int p1)] maxLocals)) t := fun t kk_ => castTop (ef_9 m p1) kk_
  obtain ⟨T1, X1, e1, st1⟩ := getS2 X0 hx hZ hown (host := "") (Or.inl (W 79 rfl)) Via.refl e0 (S_w_SKIPPED.ext O.2) (g := (mkF m 62 #[iv p1, iv 4, .unset, .unset, .unset, .unset] [])) rfl (hb hby at_62)
  obtain ⟨T2, X2, e2, st2⟩ := getS2 X1 hx hZ hown (host := "") (Or.inl (W 4 rfl)) Via.refl e1 (S_w_OFFER.ext O.2) (g := (mkF m 68 #[iv p1, iv 4, rv w_SKIPPED, iv 1, .unset, .unset] [])) rfl (hb hby at_68)
  obtain ⟨T3, h3, X3, e3, E3, A3, D3, -, st3⟩ := newO X2 hx hZ hown (W 7 rfl) (W 8 rfl) (W 5 rfl) e2 (g := (mkF m 73 #[iv p1, iv 4, rv w_SKIPPED, iv 1, rv w_OFFER, .unset] [])) rfl (hb hby at_73) (by decide) (by decide)
  obtain ⟨b3, g3⟩ : ∃ z, z = h0.size := ⟨_, rfl⟩
  rw [← g3] at A3 D3 st3
  have g_b3 : n0 ≤ b3 := Nat.le_trans (own_sz O) (Nat.le_of_eq g3.symm)
  have O4 := O.ext E3
  have Fz6 : Fld Z h3 b3 "com/example/latchkey/latchkey/ScaffoldOffer" "offeredBy" "Ljava/util/Optional;" .null := D3 (Or.inr (W 15 rfl)) (ty := (.object "java/util/Optional")) (by decide)
  have Fz7 : Fld Z h3 b3 "com/example/latchkey/latchkey/ScaffoldOffer" "offeredAt" "Ljava/util/Optional;" .null := D3 (Or.inr (W 22 rfl)) (ty := (.object "java/util/Optional")) (by decide)
  have Fz8 : Fld Z h3 b3 "com/example/latchkey/latchkey/ScaffoldOffer" "answeredAt" "Ljava/util/Optional;" .null := D3 (Or.inr (W 29 rfl)) (ty := (.object "java/util/Optional")) (by decide)
  have Fz9 : Fld Z h3 b3 "com/example/latchkey/latchkey/ScaffoldOffer" "status" "Lcom/example/latchkey/latchkey/ScaffoldOffer$Status;" .null := D3 (Or.inr (W 66 rfl)) (ty := (.object "com/example/latchkey/latchkey/ScaffoldOffer$Status")) (by decide)
  have Fz10 : Fld Z h3 b3 "com/example/latchkey/latchkey/ScaffoldOffer" "kinds" "Ljava/util/List;" .null := D3 (Or.inr (W 68 rfl)) (ty := (.object "java/util/List")) (by decide)
  obtain ⟨cq11, kq11, q11a, q11b, q11c⟩ := isOf hZ e3 (E_w_OFFER.ext O4.2)
  obtain ⟨_, _, ⟨T11, L11, k11, n11⟩, -, X11, ⟨Lc11, hQ11, l11, y11, z11⟩, st11⟩ := X3.virtualBack hx (y := y_0) (z := y_0) hown (mvT hZ (W 9 rfl)) (mvT hZ (W 10 rfl)) (notFace_of_selects (args := #[]) (mvT hZ (W 12 rfl))) (mvT hZ (W 12 rfl)) (mvT hZ (W 11 rfl)) (by decide) (backOf (W := 3) (getofferedBy l Z a0 hw [] w_OFFER w_OFFER_offeredBy h3 n0 O4 (F_w_OFFER_offeredBy.ext O4.2)) hZ (W 13 rfl) (W 5 rfl) (by decide) (by decide)) q11a q11c (g := (mkF m 80 #[iv p1, iv 4, rv w_SKIPPED, iv 1, rv w_OFFER, .unset] [.ref w_OFFER, .ref w_SKIPPED, .ref b3, .ref b3])) rfl (by rw [hml]; rfl) (Steps.refl _) (argsL := []) (rest := [.ref w_SKIPPED, .ref b3, .ref b3]) (lenOf pd_1 rfl) rfl (by show 2 * 0 + _ ≤ _; exact Nat.le_of_eq rfl) (hb hby at_80) (fun _ _ => ⟨rfl, e3, (by decide : 1 + 0 ≤ _), (by decide : 5 + 0 ≤ _)⟩)
  dsimp only [Pt.U, Pt.locs, Pt.cells, Pt.slots] at X11 l11 y11 z11 st11 hQ11
  subst l11 y11 z11
  obtain ⟨h11, e11⟩ : ∃ z, T11.heap = z := ⟨_, rfl⟩
  rw [e11] at hQ11
  obtain ⟨rfl, N11q, p11_0⟩ := hQ11
  have N11 := Fr.app N0 N11q
  rw [p11_0] at e11
  obtain ⟨cq12, kq12, q12a, q12b, q12c⟩ := isOf hZ e11 (E_w_OFFER.ext O4.2)
  obtain ⟨_, _, ⟨T12, L12, k12, n12⟩, -, X12, ⟨Lc12, hQ12, l12, y12, z12⟩, st12⟩ := X11.virtualBack hx (y := y_1) (z := y_1) hown (mvT hZ (W 16 rfl)) (mvT hZ (W 17 rfl)) (notFace_of_selects (args := #[]) (mvT hZ (W 19 rfl))) (mvT hZ (W 19 rfl)) (mvT hZ (W 18 rfl)) (by decide) (backOf (W := 4) (getofferedAt l Z a0 hw [] w_OFFER w_OFFER_offeredBy h3 n0 O4 (F_w_OFFER_offeredAt.ext O4.2)) hZ (W 20 rfl) (W 5 rfl) (by decide) (by decide)) q12a q12c (g := (mkF m 85 #[iv p1, iv 4, rv w_SKIPPED, iv 1, rv w_OFFER, .unset] [.ref w_OFFER, .ref w_OFFER_offeredBy, .ref w_SKIPPED, .ref b3, .ref b3])) rfl (by rw [hml]; rfl) (Steps.refl _) (argsL := []) (rest := [.ref w_OFFER_offeredBy, .ref w_SKIPPED, .ref b3, .ref b3]) (lenOf pd_1 rfl) rfl (by show 2 * 0 + _ ≤ _; exact Nat.le_of_eq rfl) (hb hby at_85) (fun _ _ => ⟨rfl, e11, (by decide : 1 + 0 ≤ _), (by decide : 5 + 0 ≤ _)⟩)
  dsimp only [Pt.U, Pt.locs, Pt.cells, Pt.slots] at X12 l12 y12 z12 st12 hQ12
  subst l12 y12 z12
  obtain ⟨h12, e12⟩ : ∃ z, T12.heap = z := ⟨_, rfl⟩
  rw [e12] at hQ12
  obtain ⟨rfl, N12q, p12_0⟩ := hQ12
  have N12 := Fr.app N11 N12q
  rw [p12_0] at e12
  obtain ⟨cq13, kq13, q13a, q13b, q13c⟩ := isOf hZ e12 (E_w_OFFER.ext O4.2)
  obtain ⟨_, _, ⟨T13, L13, k13, n13⟩, -, X13, ⟨Lc13, hQ13, l13, y13, z13⟩, st13⟩ := X12.virtualBack hx (y := y_2) (z := y_2) hown (mvT hZ (W 23 rfl)) (mvT hZ (W 24 rfl)) (notFace_of_selects (args := #[]) (mvT hZ (W 26 rfl))) (mvT hZ (W 26 rfl)) (mvT hZ (W 25 rfl)) (by decide) (backOf (W := 5) (getansweredAt l Z a0 hw [] w_OFFER w_OFFER_offeredBy h3 n0 O4 (F_w_OFFER_answeredAt.ext O4.2)) hZ (W 27 rfl) (W 5 rfl) (by decide) (by decide)) q13a q13c (g := (mkF m 90 #[iv p1, iv 4, rv w_SKIPPED, iv 1, rv w_OFFER, .unset] [.ref w_OFFER, .ref w_OFFER_offeredBy, .ref w_OFFER_offeredBy, .ref w_SKIPPED, .ref b3, .ref b3])) rfl (by rw [hml]; rfl) (Steps.refl _) (argsL := []) (rest := [.ref w_OFFER_offeredBy, .ref w_OFFER_offeredBy, .ref w_SKIPPED, .ref b3, .ref b3]) (lenOf pd_1 rfl) rfl (by show 2 * 0 + _ ≤ _; exact Nat.le_of_eq rfl) (hb hby at_90) (fun _ _ => ⟨rfl, e12, (by decide : 1 + 0 ≤ _), (by decide : 5 + 0 ≤ _)⟩)
  dsimp only [Pt.U, Pt.locs, Pt.cells, Pt.slots] at X13 l13 y13 z13 st13 hQ13
  subst l13 y13 z13
  obtain ⟨h13, e13⟩ : ∃ z, T13.heap = z := ⟨_, rfl⟩
  rw [e13] at hQ13
  obtain ⟨rfl, N13q, p13_0⟩ := hQ13
  have N13 := Fr.app N12 N13q
  rw [p13_0] at e13
  obtain ⟨T14, h14, X14, e14, E14, A14, D14, -, st14⟩ := newO X13 hx hZ hown (W 30 rfl) (W 31 rfl) (W 32 rfl) e13 (g := (mkF m 93 #[iv p1, iv 4, rv w_SKIPPED, iv 1, rv w_OFFER, .unset] [.ref w_OFFER_offeredBy, .ref w_OFFER_offeredBy, .ref w_OFFER_offeredBy, .ref w_SKIPPED, .ref b3, .ref b3])) rfl (hb hby at_93) (by decide) (by decide)
  obtain ⟨b14, g14⟩ : ∃ z, z = h3.size := ⟨_, rfl⟩
  rw [← g14] at A14 D14 st14
  have g_b14 : n0 ≤ b14 := Nat.le_trans (own_sz O4) (Nat.le_of_eq g14.symm)
  have ne_b3_b14 : b3 ≠ b14 := Nat.ne_of_lt (Nat.lt_of_lt_of_le A3.lt (Nat.le_of_eq g14.symm))
  have A3 := A3.ext E14
  have Fz6 := Fz6.ext E14
  have Fz7 := Fz7.ext E14
  have Fz8 := Fz8.ext E14
  have Fz9 := Fz9.ext E14
  have Fz10 := Fz10.ext E14
  have O15 := O4.ext E14
  have Fz17 : Fld Z h14 b14 "java/util/AbstractList" "modCount" "I" (.int (0 : Int32)) := D14 (Or.inl (W 52 rfl)) (ty := .int) (by decide)
  have Fz18 : Fld Z h14 b14 "java/util/ArrayList" "elementData" "[Ljava/lang/Object;" .null := D14 (Or.inl (W 55 rfl)) (ty := (.array (.object "java/lang/Object"))) (by decide)
  obtain ⟨_, _, ⟨T19, L19, k19, n19⟩, -, X19, ⟨Lc19, hQ19, l19, y19, z19⟩, st19⟩ := X14.specialBack hx (y := y_5) rfl hown (mvT hZ (W 33 rfl)) (mvT hZ (W 34 rfl)) (mvT hZ (W 35 rfl)) (by decide) (backOf (W := 7) (alinit l Z a0 hw [] b14 w_DEF h14 n0 O15 A14 Fz17 Fz18 g_b14 S_w_DEF) hZ (W 35 rfl) (W 32 rfl) (by decide) (by decide)) (g := (mkF m 97 #[iv p1, iv 4, rv w_SKIPPED, iv 1, rv w_OFFER, .unset] [.ref b14, .ref b14, .ref w_OFFER_offeredBy, .ref w_OFFER_offeredBy, .ref w_OFFER_offeredBy, .ref w_SKIPPED, .ref b3, .ref b3])) rfl (by rw [hml]; rfl) (Steps.refl _) (a := b14) (argsL := []) (rest := [.ref b14, .ref w_OFFER_offeredBy, .ref w_OFFER_offeredBy, .ref w_OFFER_offeredBy, .ref w_SKIPPED, .ref b3, .ref b3]) (lenOf pd_0 rfl) rfl (by show 2 * 0 + _ ≤ _; exact Nat.le_of_eq rfl) (hb hby at_97) (fun _ _ => ⟨rfl, e14, (by decide : 2 + 0 ≤ _), (by decide : 8 + 0 ≤ _)⟩)
  dsimp only [Pt.U, Pt.locs, Pt.cells, Pt.slots] at X19 l19 y19 z19 st19 hQ19
  subst l19 y19 z19
  obtain ⟨h19, e19⟩ : ∃ z, T19.heap = z := ⟨_, rfl⟩
  rw [e19] at hQ19
  obtain ⟨rfl, N19q, p19_0⟩ := hQ19
  have N19 := Fr.app N13 N19q
  have A3 := A3.keep p19_0
  have Fz6 := Fz6.keep p19_0 (ninS ne_b3_b14 nin0)
  have Fz7 := Fz7.keep p19_0 (ninS ne_b3_b14 nin0)
  have Fz8 := Fz8.keep p19_0 (ninS ne_b3_b14 nin0)
  have Fz9 := Fz9.keep p19_0 (ninS ne_b3_b14 nin0)
  have Fz10 := Fz10.keep p19_0 (ninS ne_b3_b14 nin0)
  have O20 := O15.keep p19_0 (allS g_b14 all0)
  obtain ⟨_, _, ⟨T22, L22, k22, n22⟩, -, X22, ⟨Lc22, hQ22, l22, y22, z22⟩, st22⟩ := X19.specialBack hx (y := y_7) rfl hown (mvT hZ (W 56 rfl)) (mvT hZ (W 57 rfl)) (mvT hZ (W 58 rfl)) (by decide) (backOf (W := 1) (soinit l Z a0 hw [] b3 w_SKIPPED w_OFFER_offeredBy w_OFFER_offeredBy w_OFFER_offeredBy b14 h19 n0 O20 A3 Fz9 Fz6 Fz7 Fz8 Fz10 g_b3) hZ (W 58 rfl) (W 5 rfl) (by decide) (by decide)) (g := (mkF m 100 #[iv p1, iv 4, rv w_SKIPPED, iv 1, rv w_OFFER, .unset] [.ref b14, .ref w_OFFER_offeredBy, .ref w_OFFER_offeredBy, .ref w_OFFER_offeredBy, .ref w_SKIPPED, .ref b3, .ref b3])) rfl (by rw [hml]; rfl) (Steps.refl _) (a := b3) (argsL := [.ref w_SKIPPED, .ref w_OFFER_offeredBy, .ref w_OFFER_offeredBy, .ref w_OFFER_offeredBy, .ref b14]) (rest := [.ref b3]) (lenOf pd_2 rfl) rfl (by show 2 * 0 + _ ≤ _; exact Nat.le_of_eq rfl) (hb hby at_100) (fun _ _ => ⟨rfl, e19, (by decide : 2 + 0 ≤ _), (by decide : 8 + 0 ≤ _)⟩)
  dsimp only [Pt.U, Pt.locs, Pt.cells, Pt.slots] at X22 l22 y22 z22 st22 hQ22
  subst l22 y22 z22
  obtain ⟨h22, e22⟩ : ∃ z, T22.heap = z := ⟨_, rfl⟩
  rw [e22] at hQ22
  obtain ⟨rfl, N22q, p22_0, p22_1⟩ := hQ22
  have N22 := Fr.app N19 N22q
  have A3 := A3.keep p22_0
  have O23 := O20.keep p22_0 (allS g_b3 all0)
  obtain ⟨cq25, kq25, q25a, q25b, q25c⟩ := isOf hZ e22 A3
  obtain ⟨_, _, ⟨T25, L25, k25, n25⟩, -, X25, ⟨Lc25, hQ25, l25, y25, z25⟩, st25⟩ := X22.virtualBack hx (y := y_8) (z := y_8) hown (mvT hZ (W 69 rfl)) (mvT hZ (W 70 rfl)) (notFace_of_selects (args := #[]) (mvT hZ (W 72 rfl))) (mvT hZ (W 72 rfl)) (mvT hZ (W 71 rfl)) (by decide) (backOf (W := 0) (dec1 l Z a0 hw [] b3 w_SKIPPED w_NONE h22 n0 O23 p22_1 S_w_NONE ne_4) hZ (W 73 rfl) (W 5 rfl) (by decide) (by decide)) q25a q25c (g := (mkF m 107 #[iv p1, iv 4, rv w_SKIPPED, iv 1, rv w_OFFER, rv b3] [.ref b3])) rfl (by rw [hml]; rfl) (Steps.refl _) (argsL := []) (rest := []) (lenOf pd_3 rfl) rfl (by show 2 * 0 + _ ≤ _; exact Nat.le_of_eq rfl) (hb hby at_107) (fun _ _ => ⟨rfl, e22, (by decide : 2 + 0 ≤ _), (by decide : 8 + 0 ≤ _)⟩)
  dsimp only [Pt.U, Pt.locs, Pt.cells, Pt.slots] at X25 l25 y25 z25 st25 hQ25
  subst l25 y25 z25
  obtain ⟨h25, e25⟩ : ∃ z, T25.heap = z := ⟨_, rfl⟩
  rw [e25] at hQ25
  obtain ⟨rfl, N25q, p25_0⟩ := hQ25
  have N25 := Fr.app N22 N25q
  rw [p25_0] at e25
  obtain ⟨fs, hr, hrun, hended, hW, hsame⟩ := X25.leave (v := some (.int (1 : Int32))) (fun h => by rw [Bd.returns] at h; cases h)
  refine ⟨_, _, pre0 _ ?_, hrun, hended, _, _, rfl, ?_, ⟨_, rfl⟩, hW, hsame.mono (by decide) (by decide)⟩
  · show Sq p e below m s₁ 0 #[iv p1, .unset, .unset, .unset, .unset, .unset] [] _
    refine XS.iloadN X0.here hx rfl (hb hby at_0) rfl ?_
    show Sq p e below m s₁ 1 #[iv p1, .unset, .unset, .unset, .unset, .unset] [.int p1] _
    refine X0.ldcInt hx hown (mvT hZ (W 0 rfl)) (g := (mkF m 1 #[iv p1, .unset, .unset, .unset, .unset, .unset] [.int p1])) rfl (hb hby at_1) _ ?_
    show Sq p e below m s₁ 3 #[iv p1, .unset, .unset, .unset, .unset, .unset] [.int 2147483647, .int p1] _
    refine XS.iand X0.here hx rfl (hb hby at_3) rfl ?_
    refine XS.iconst X0.here hx rfl (hb hby at_4) ?_
    show Sq p e below m s₁ 5 #[iv p1, .unset, .unset, .unset, .unset, .unset] [.int 5, .int (p1 &&& (2147483647 : Int32))] _
    refine iremM X0 hx rfl (hb hby at_5) rfl (by decide : (5 : Int32) ≠ (0 : Int32)) ?_
    show Sq p e below m s₁ 6 #[iv p1, .unset, .unset, .unset, .unset, .unset] [.int ((p1 &&& (2147483647 : Int32)) % (5 : Int32))] _
    rw [hk]
    show Sq p e below m s₁ 6 #[iv p1, .unset, .unset, .unset, .unset, .unset] [.int 4] _
    refine XS.istoreN X0.here hx rfl (hb hby at_6) rfl rfl ?_
    refine XS.iloadN X0.here hx rfl (hb hby at_7) rfl ?_
    show Sq p e below m s₁ 8 #[iv p1, iv 4, .unset, .unset, .unset, .unset] [.int 4] _
    refine XS.ifYes X0.here hx rfl (pc0 := 8) (pc' := 20) rfl (hb hby at_8) rfl ((if0 _ _).trans (feq (by decide)).2) (by decide) (by decide) ?_
    refine XS.iloadN X0.here hx rfl (hb hby at_20) rfl ?_
    show Sq p e below m s₁ 21 #[iv p1, iv 4, .unset, .unset, .unset, .unset] [.int 4] _
    refine XS.iconst X0.here hx rfl (hb hby at_21) ?_
    refine XS.icmpYes X0.here hx rfl (pc0 := 22) (pc' := 34) rfl (hb hby at_22) rfl (feq (by decide)).2 (by decide) (by decide) ?_
    show Sq p e below m s₁ 34 #[iv p1, iv 4, .unset, .unset, .unset, .unset] [] _
    refine XS.iloadN X0.here hx rfl (hb hby at_34) rfl ?_
    refine XS.iconst X0.here hx rfl (hb hby at_35) ?_
    show Sq p e below m s₁ 36 #[iv p1, iv 4, .unset, .unset, .unset, .unset] [.int 2, .int 4] _
    refine XS.icmpYes X0.here hx rfl (pc0 := 36) (pc' := 48) rfl (hb hby at_36) rfl (feq (by decide)).2 (by decide) (by decide) ?_
    refine XS.iloadN X0.here hx rfl (hb hby at_48) rfl ?_
    show Sq p e below m s₁ 49 #[iv p1, iv 4, .unset, .unset, .unset, .unset] [.int 4] _
    refine XS.iconst X0.here hx rfl (hb hby at_49) ?_
    refine XS.icmpYes X0.here hx rfl (pc0 := 50) (pc' := 62) rfl (hb hby at_50) rfl (feq (by decide)).2 (by decide) (by decide) ?_
    show Sq p e below m s₁ 62 #[iv p1, iv 4, .unset, .unset, .unset, .unset] [] _
    refine st1 _ ?_
    show Sq p e below m T1 65 #[iv p1, iv 4, .unset, .unset, .unset, .unset] [.ref w_SKIPPED] _
    refine XS.astoreN X1.here hx rfl (hb hby at_65) rfl rfl rfl ?_
    refine XS.iconst X1.here hx rfl (hb hby at_66) ?_
    show Sq p e below m T1 67 #[iv p1, iv 4, rv w_SKIPPED, .unset, .unset, .unset] [.int 1] _
    refine XS.istoreN X1.here hx rfl (hb hby at_67) rfl rfl ?_
    show Sq p e below m T1 68 #[iv p1, iv 4, rv w_SKIPPED, iv 1, .unset, .unset] [] _
    refine st2 _ ?_
    show Sq p e below m T2 71 #[iv p1, iv 4, rv w_SKIPPED, iv 1, .unset, .unset] [.ref w_OFFER] _
    refine XS.astore X2.here hx rfl (hb hby at_71) rfl rfl rfl ?_
    show Sq p e below m T2 73 #[iv p1, iv 4, rv w_SKIPPED, iv 1, rv w_OFFER, .unset] [] _
    refine st3 _ ?_
    show Sq p e below m T3 76 #[iv p1, iv 4, rv w_SKIPPED, iv 1, rv w_OFFER, .unset] [.ref b3] _
    refine XS.dup X3.here hx rfl (hb hby at_76) rfl rfl ?_
    refine XS.aloadN X3.here hx rfl (hb hby at_77) rfl rfl ?_
    show Sq p e below m T3 78 #[iv p1, iv 4, rv w_SKIPPED, iv 1, rv w_OFFER, .unset] [.ref w_SKIPPED, .ref b3, .ref b3] _
    refine XS.aload X3.here hx rfl (hb hby at_78) rfl rfl ?_
    show Sq p e below m T3 80 #[iv p1, iv 4, rv w_SKIPPED, iv 1, rv w_OFFER, .unset] [.ref w_OFFER, .ref w_SKIPPED, .ref b3, .ref b3] _
    refine st11.trans ?_
    show Sq p e below m T11 83 #[iv p1, iv 4, rv w_SKIPPED, iv 1, rv w_OFFER, .unset] [.ref w_OFFER_offeredBy, .ref w_SKIPPED, .ref b3, .ref b3] _
    refine XS.aload X11.here hx rfl (hb hby at_83) rfl rfl ?_
    show Sq p e below m T11 85 #[iv p1, iv 4, rv w_SKIPPED, iv 1, rv w_OFFER, .unset] [.ref w_OFFER, .ref w_OFFER_offeredBy, .ref w_SKIPPED, .ref b3, .ref b3] _
    refine st12.trans ?_
    show Sq p e below m T12 88 #[iv p1, iv 4, rv w_SKIPPED, iv 1, rv w_OFFER, .unset] [.ref w_OFFER_offeredBy, .ref w_OFFER_offeredBy, .ref w_SKIPPED, .ref b3, .ref b3] _
    refine XS.aload X12.here hx rfl (hb hby at_88) rfl rfl ?_
    show Sq p e below m T12 90 #[iv p1, iv 4, rv w_SKIPPED, iv 1, rv w_OFFER, .unset] [.ref w_OFFER, .ref w_OFFER_offeredBy, .ref w_OFFER_offeredBy, .ref w_SKIPPED, .ref b3, .ref b3] _
    refine st13.trans ?_
    show Sq p e below m T13 93 #[iv p1, iv 4, rv w_SKIPPED, iv 1, rv w_OFFER, .unset] [.ref w_OFFER_offeredBy, .ref w_OFFER_offeredBy, .ref w_OFFER_offeredBy, .ref w_SKIPPED, .ref b3, .ref b3] _
    refine st14 _ ?_
    show Sq p e below m T14 96 #[iv p1, iv 4, rv w_SKIPPED, iv 1, rv w_OFFER, .unset] [.ref b14, .ref w_OFFER_offeredBy, .ref w_OFFER_offeredBy, .ref w_OFFER_offeredBy, .ref w_SKIPPED, .ref b3, .ref b3] _
    refine XS.dup X14.here hx rfl (hb hby at_96) rfl rfl ?_
    show Sq p e below m T14 97 #[iv p1, iv 4, rv w_SKIPPED, iv 1, rv w_OFFER, .unset] [.ref b14, .ref b14, .ref w_OFFER_offeredBy, .ref w_OFFER_offeredBy, .ref w_OFFER_offeredBy, .ref w_SKIPPED, .ref b3, .ref b3] _
    refine st19.trans ?_
    show Sq p e below m T19 100 #[iv p1, iv 4, rv w_SKIPPED, iv 1, rv w_OFFER, .unset] [.ref b14, .ref w_OFFER_offeredBy, .ref w_OFFER_offeredBy, .ref w_OFFER_offeredBy, .ref w_SKIPPED, .ref b3, .ref b3] _
    refine st22.trans ?_
    show Sq p e below m T22 103 #[iv p1, iv 4, rv w_SKIPPED, iv 1, rv w_OFFER, .unset] [.ref b3] _
    refine XS.astore X22.here hx rfl (hb hby at_103) rfl rfl rfl ?_
    refine XS.aload X22.here hx rfl (hb hby at_105) rfl rfl ?_
    show Sq p e below m T22 107 #[iv p1, iv 4, rv w_SKIPPED, iv 1, rv w_OFFER, rv b3] [.ref b3] _
    refine st25.trans ?_
    show Sq p e below m T25 110 #[iv p1, iv 4, rv w_SKIPPED, iv 1, rv w_OFFER, rv b3] [.int 1] _
    refine XS.iloadN X25.here hx rfl (hb hby at_110) rfl ?_
    refine XS.icmpNo X25.here hx rfl (hb hby at_111) rfl (teq (rfl : (1 : Int32) = (1 : Int32))).2 ?_
    show Sq p e below m T25 114 #[iv p1, iv 4, rv w_SKIPPED, iv 1, rv w_OFFER, rv b3] [] _
    refine XS.iconst X25.here hx rfl (hb hby at_114) ?_
    refine XS.goto X25.here hx rfl (pc0 := 115) (pc' := 119) rfl (hb hby at_115) (by decide) (by decide) ?_
    show Sq p e below m T25 119 #[iv p1, iv 4, rv w_SKIPPED, iv 1, rv w_OFFER, rv b3] [.int 1] _
    exact retN X25 hx (t := .boolean) Bd.returns (by simp) (hb hby at_119) hr
  · show Q_rm0 Z p1 w_NONE w_OFFER w_OFFER_offeredBy w_TAKEN w_DECLINED w_SKIPPED w_OFFERED w_DEF h0 n0 _ T25.heap _
    rw [e25]
    exact ⟨rfl, N25⟩
set_option maxRecDepth 65536 in
theorem rm0 (l : Launch) (Z : State) (a0 : Array Value) (hw : ∀ d ∈ tables_1, d.before a0 Z = true) (ws : List Jvm.Cond) (p1 : Int32) (w_NONE : Addr) (w_OFFER : Addr) (w_OFFER_offeredBy : Addr) (w_TAKEN : Addr) (w_DECLINED : Addr) (w_SKIPPED : Addr) (w_OFFERED : Addr) (w_DEF : Addr) (h0 : Heap) (n0 : Nat) (O : Old Z n0 h0) (S_w_NONE : Sta Z Z.heap "com/example/latchkey/latchkey/ScaffoldOffer$Status" "NONE" "Lcom/example/latchkey/latchkey/ScaffoldOffer$Status;" (.ref w_NONE)) (E_w_NONE : Exa Z Z.heap w_NONE "com/example/latchkey/latchkey/ScaffoldOffer$Status") (S_w_OFFER : Sta Z Z.heap "com/example/latchkey/latchkey/ScaffoldOffer" "NONE" "Lcom/example/latchkey/latchkey/ScaffoldOffer;" (.ref w_OFFER)) (E_w_OFFER : Exa Z Z.heap w_OFFER "com/example/latchkey/latchkey/ScaffoldOffer") (F_w_OFFER_offeredBy : Fld Z Z.heap w_OFFER "com/example/latchkey/latchkey/ScaffoldOffer" "offeredBy" "Ljava/util/Optional;" (.ref w_OFFER_offeredBy)) (E_w_OFFER_offeredBy : Exa Z Z.heap w_OFFER_offeredBy "java/util/Optional") (F_w_OFFER_offeredAt : Fld Z Z.heap w_OFFER "com/example/latchkey/latchkey/ScaffoldOffer" "offeredAt" "Ljava/util/Optional;" (.ref w_OFFER_offeredBy)) (F_w_OFFER_answeredAt : Fld Z Z.heap w_OFFER "com/example/latchkey/latchkey/ScaffoldOffer" "answeredAt" "Ljava/util/Optional;" (.ref w_OFFER_offeredBy)) (S_w_TAKEN : Sta Z Z.heap "com/example/latchkey/latchkey/ScaffoldOffer$Status" "TAKEN" "Lcom/example/latchkey/latchkey/ScaffoldOffer$Status;" (.ref w_TAKEN)) (E_w_TAKEN : Exa Z Z.heap w_TAKEN "com/example/latchkey/latchkey/ScaffoldOffer$Status") (S_w_DECLINED : Sta Z Z.heap "com/example/latchkey/latchkey/ScaffoldOffer$Status" "DECLINED" "Lcom/example/latchkey/latchkey/ScaffoldOffer$Status;" (.ref w_DECLINED)) (E_w_DECLINED : Exa Z Z.heap w_DECLINED "com/example/latchkey/latchkey/ScaffoldOffer$Status") (S_w_SKIPPED : Sta Z Z.heap "com/example/latchkey/latchkey/ScaffoldOffer$Status" "SKIPPED" "Lcom/example/latchkey/latchkey/ScaffoldOffer$Status;" (.ref w_SKIPPED)) (E_w_SKIPPED : Exa Z Z.heap w_SKIPPED "com/example/latchkey/latchkey/ScaffoldOffer$Status") (S_w_OFFERED : Sta Z Z.heap "com/example/latchkey/latchkey/ScaffoldOffer$Status" "OFFERED" "Lcom/example/latchkey/latchkey/ScaffoldOffer$Status;" (.ref w_OFFERED)) (E_w_OFFERED : Exa Z Z.heap w_OFFERED "com/example/latchkey/latchkey/ScaffoldOffer$Status") (S_w_DEF : Sta Z Z.heap "java/util/ArrayList" "DEFAULTCAPACITY_EMPTY_ELEMENTDATA" "[Ljava/lang/Object;" (.ref w_DEF)) (E_w_DEF : Exa Z Z.heap w_DEF "[Ljava/lang/Object;") (ne_1 : w_DECLINED ≠ w_NONE) (ne_2 : w_OFFERED ≠ w_NONE) (ne_3 : w_TAKEN ≠ w_NONE) (ne_4 : w_SKIPPED ≠ w_NONE) :
    Ctr l Z x code maxLocals ret ws room_1 #[(.int p1)] h0 (Q_rm0 Z p1 w_NONE w_OFFER w_OFFER_offeredBy w_TAKEN w_DECLINED w_SKIPPED w_OFFERED w_DEF h0 n0) := by
  rcases own_rem5 p1 with hk | hk | hk | hk | hk
  · exact rm0_0 l Z a0 hw ws p1 w_NONE w_OFFER w_OFFER_offeredBy w_TAKEN w_DECLINED w_SKIPPED w_OFFERED w_DEF h0 n0 O S_w_NONE E_w_NONE S_w_OFFER E_w_OFFER F_w_OFFER_offeredBy E_w_OFFER_offeredBy F_w_OFFER_offeredAt F_w_OFFER_answeredAt S_w_TAKEN E_w_TAKEN S_w_DECLINED E_w_DECLINED S_w_SKIPPED E_w_SKIPPED S_w_OFFERED E_w_OFFERED S_w_DEF E_w_DEF ne_1 ne_2 ne_3 ne_4 hk
  · exact rm0_1 l Z a0 hw ws p1 w_NONE w_OFFER w_OFFER_offeredBy w_TAKEN w_DECLINED w_SKIPPED w_OFFERED w_DEF h0 n0 O S_w_NONE E_w_NONE S_w_OFFER E_w_OFFER F_w_OFFER_offeredBy E_w_OFFER_offeredBy F_w_OFFER_offeredAt F_w_OFFER_answeredAt S_w_TAKEN E_w_TAKEN S_w_DECLINED E_w_DECLINED S_w_SKIPPED E_w_SKIPPED S_w_OFFERED E_w_OFFERED S_w_DEF E_w_DEF ne_1 ne_2 ne_3 ne_4 hk
  · exact rm0_2 l Z a0 hw ws p1 w_NONE w_OFFER w_OFFER_offeredBy w_TAKEN w_DECLINED w_SKIPPED w_OFFERED w_DEF h0 n0 O S_w_NONE E_w_NONE S_w_OFFER E_w_OFFER F_w_OFFER_offeredBy E_w_OFFER_offeredBy F_w_OFFER_offeredAt F_w_OFFER_answeredAt S_w_TAKEN E_w_TAKEN S_w_DECLINED E_w_DECLINED S_w_SKIPPED E_w_SKIPPED S_w_OFFERED E_w_OFFERED S_w_DEF E_w_DEF ne_1 ne_2 ne_3 ne_4 hk
  · exact rm0_3 l Z a0 hw ws p1 w_NONE w_OFFER w_OFFER_offeredBy w_TAKEN w_DECLINED w_SKIPPED w_OFFERED w_DEF h0 n0 O S_w_NONE E_w_NONE S_w_OFFER E_w_OFFER F_w_OFFER_offeredBy E_w_OFFER_offeredBy F_w_OFFER_offeredAt F_w_OFFER_answeredAt S_w_TAKEN E_w_TAKEN S_w_DECLINED E_w_DECLINED S_w_SKIPPED E_w_SKIPPED S_w_OFFERED E_w_OFFERED S_w_DEF E_w_DEF ne_1 ne_2 ne_3 ne_4 hk
  · exact rm0_4 l Z a0 hw ws p1 w_NONE w_OFFER w_OFFER_offeredBy w_TAKEN w_DECLINED w_SKIPPED w_OFFERED w_DEF h0 n0 O S_w_NONE E_w_NONE S_w_OFFER E_w_OFFER F_w_OFFER_offeredBy E_w_OFFER_offeredBy F_w_OFFER_offeredAt F_w_OFFER_answeredAt S_w_TAKEN E_w_TAKEN S_w_DECLINED E_w_DECLINED S_w_SKIPPED E_w_SKIPPED S_w_OFFERED E_w_OFFERED S_w_DEF E_w_DEF ne_1 ne_2 ne_3 ne_4 hk
set_option maxRecDepth 65536 in
set_option maxHeartbeats 40000000 in
theorem comes_1 {Post : Tables → Env → Array Value → State → Outcome → State → Prop} (hpost : ∀ tb e args s v u, (limb_1_1.after args s (.returned v) u = true ∧ limb_1_2.after args s (.returned v) u = true ∧ True) → FrameEnd s (.returned v) u (Jvm.fieldLocs frame_1_writes args s ++ Jvm.arrayLocs frame_1_arrays args s ++ Jvm.staticLocs frame_1_statics s) 16 128 → Post tb e args s (.returned v) u) :
    ArmFor flags0 classFile x code maxLocals ret World_1 tables_1 room_1 Calls_1 rest_1 Pre_1 Post := by
  intro l hfl _ _ p e ha hc hk s m args below hf hA hF happ hP
  obtain ⟨hcalls, hrest, hpre⟩ := hP
  obtain ⟨-, -, -, hnamed, -, -, -, hat⟩ := (Spec.applies_iff hf).mp happ
  obtain ⟨hg, hn⟩ := and_e (Cond.before_iff.mp (show (Jvm.Cond.and given_1 narrow_1).before args s = true from hpre))
  obtain ⟨gc, gr0⟩ := and_e hg
  obtain ⟨w0, rfl⟩ : ∃ w0 : Value, args = #[w0] := by
    have hs : args.size = 1 := by simpa [Cond.value, given_1] using gc
    obtain ⟨L⟩ := args
    match L, hs with
    | [w0], _ => exact ⟨w0, rfl⟩
  have hw := fun d (hd : d ∈ tables_1) => atoms_spec (ws := Jvm.Cond.code x code maxLocals ret :: tables_1) hat d (List.mem_cons_of_mem _ hd)
  have W := fun (i : Nat) {d : Jvm.Cond} (h : tables_1[i]? = some d) => hw d (List.mem_of_getElem? h)
  obtain ⟨hsets, hown0⟩ := atoms_of _ (rest_1_c_eq ▸ (show rest_1_c.before _ s = true from hrest))
  obtain ⟨i0, ei0⟩ := is_v gr0
  obtain rfl : w0 = (.int i0) := Option.some.inj ei0
  obtain ⟨c0, cr0⟩ := and_e hn
  obtain ⟨c1, cr1⟩ := and_e cr0
  obtain ⟨c2, cr2⟩ := and_e cr1
  obtain ⟨c3, cr3⟩ := and_e cr2
  obtain ⟨c4, cr4⟩ := and_e cr3
  obtain ⟨c5, cr5⟩ := and_e cr4
  obtain ⟨c6, cr6⟩ := and_e cr5
  obtain ⟨c7, cr7⟩ := and_e cr6
  obtain ⟨c8, cr8⟩ := and_e cr7
  obtain ⟨c9, cr9⟩ := and_e cr8
  obtain ⟨c10, cr10⟩ := and_e cr9
  obtain ⟨c11, cr11⟩ := and_e cr10
  obtain ⟨c12, cr12⟩ := and_e cr11
  have c13 := cr12
  obtain ⟨w_NONE, ev_w_NONE⟩ := exa_v c0
  have S_w_NONE := Sta.start ev_w_NONE (Or.inr ⟨(W 2 rfl), (W 3 rfl)⟩)
  have E_w_NONE := Exa.start ev_w_NONE c0
  obtain ⟨w_OFFER, ev_w_OFFER⟩ := exa_v c1
  have S_w_OFFER := Sta.start ev_w_OFFER (Or.inr ⟨(W 5 rfl), (W 6 rfl)⟩)
  have E_w_OFFER := Exa.start ev_w_OFFER c1
  obtain ⟨w_OFFER_offeredBy, ev_w_OFFER_offeredBy⟩ := exa_v c2
  have F_w_OFFER_offeredBy := own_fldR ev_w_OFFER ev_w_OFFER_offeredBy
  have E_w_OFFER_offeredBy := Exa.start ev_w_OFFER_offeredBy c2
  have ev_w_OFFER_offeredAt := own_eqR ev_w_OFFER_offeredBy c3
  have F_w_OFFER_offeredAt := own_fldR ev_w_OFFER ev_w_OFFER_offeredAt
  have ev_w_OFFER_answeredAt := own_eqR ev_w_OFFER_offeredBy c4
  have F_w_OFFER_answeredAt := own_fldR ev_w_OFFER ev_w_OFFER_answeredAt
  obtain ⟨w_TAKEN, ev_w_TAKEN⟩ := exa_v c5
  have S_w_TAKEN := Sta.start ev_w_TAKEN (Or.inr ⟨(W 2 rfl), (W 76 rfl)⟩)
  have E_w_TAKEN := Exa.start ev_w_TAKEN c5
  have ev_w_TAKEN_ordinal := eqv_i (Term.int_eval (3 : Int32)) c6
  have F_w_TAKEN_ordinal := own_fldR ev_w_TAKEN ev_w_TAKEN_ordinal
  have ev_w_NONE_ordinal := eqv_i (Term.int_eval (0 : Int32)) c7
  have F_w_NONE_ordinal := own_fldR ev_w_NONE ev_w_NONE_ordinal
  obtain ⟨w_DECLINED, ev_w_DECLINED⟩ := exa_v c8
  have S_w_DECLINED := Sta.start ev_w_DECLINED (Or.inr ⟨(W 2 rfl), (W 78 rfl)⟩)
  have E_w_DECLINED := Exa.start ev_w_DECLINED c8
  have ev_w_DECLINED_ordinal := eqv_i (Term.int_eval (1 : Int32)) c9
  have F_w_DECLINED_ordinal := own_fldR ev_w_DECLINED ev_w_DECLINED_ordinal
  obtain ⟨w_SKIPPED, ev_w_SKIPPED⟩ := exa_v c10
  have S_w_SKIPPED := Sta.start ev_w_SKIPPED (Or.inr ⟨(W 2 rfl), (W 80 rfl)⟩)
  have E_w_SKIPPED := Exa.start ev_w_SKIPPED c10
  have ev_w_SKIPPED_ordinal := eqv_i (Term.int_eval (4 : Int32)) c11
  have F_w_SKIPPED_ordinal := own_fldR ev_w_SKIPPED ev_w_SKIPPED_ordinal
  obtain ⟨w_OFFERED, ev_w_OFFERED⟩ := exa_v c12
  have S_w_OFFERED := Sta.start ev_w_OFFERED (Or.inr ⟨(W 2 rfl), (W 82 rfl)⟩)
  have E_w_OFFERED := Exa.start ev_w_OFFERED c12
  have ev_w_OFFERED_ordinal := eqv_i (Term.int_eval (2 : Int32)) c13
  have F_w_OFFERED_ordinal := own_fldR ev_w_OFFERED ev_w_OFFERED_ordinal
  obtain ⟨w_DEF, ev_w_DEF⟩ := arr_v (Cond.before_iff.mp (hsets _ (List.mem_of_getElem? (i := 6) rfl)))
  have S_w_DEF := Sta.start ev_w_DEF (Or.inr ⟨(W 32 rfl), (hsets _ (List.mem_of_getElem? (i := 2) rfl))⟩)
  obtain ⟨cl_w_DEF, Ar_w_DEF⟩ := Arr.start ev_w_DEF (Cond.before_iff.mp (hsets _ (List.mem_of_getElem? (i := 6) rfl)))
  have E_w_DEF := Exa.start ev_w_DEF (Cond.before_iff.mp (hsets _ (List.mem_of_getElem? (i := 7) rfl)))
  have ne_1 := own_ne F_w_DECLINED_ordinal F_w_NONE_ordinal (by decide)
  have ne_2 := own_ne F_w_OFFERED_ordinal F_w_NONE_ordinal (by decide)
  have ne_3 := own_ne F_w_TAKEN_ordinal F_w_NONE_ordinal (by decide)
  have ne_4 := own_ne F_w_SKIPPED_ordinal F_w_NONE_ordinal (by decide)
  obtain ⟨n, o, h1, h2, h3, _, L, rfl, ⟨rfl, N⟩, hq⟩ := rm0 l s _ hw tables_1 i0 w_NONE w_OFFER w_OFFER_offeredBy w_TAKEN w_DECLINED w_SKIPPED w_OFFERED w_DEF s.heap s.heap.size (Old.start s) S_w_NONE E_w_NONE S_w_OFFER E_w_OFFER F_w_OFFER_offeredBy E_w_OFFER_offeredBy F_w_OFFER_offeredAt F_w_OFFER_answeredAt S_w_TAKEN E_w_TAKEN S_w_DECLINED E_w_DECLINED S_w_SKIPPED E_w_SKIPPED S_w_OFFERED E_w_OFFERED S_w_DEF E_w_DEF ne_1 ne_2 ne_3 ne_4 p e ha hc hk s m _ below hf ((Spec.applies_iff_loose hf).mp happ).1 ⟨rfl, State.Warmed39.refl s, rfl⟩ trivial
  refine ⟨n, _, h1, h2, h3, hpost _ _ _ _ _ _ ⟨Cond.after_iff.mpr rfl, Cond.after_iff.mpr (eq_i res_at (Term.int_eval (1)) rfl), trivial⟩ ⟨hq.1, hq.2.1, (hq.2.2.sift fun y hy => Or.inr (N y hy)).mono (by decide) (by decide)⟩⟩
theorem main_1_1 : Claimed_1_1 := comes_1 fun _ _ _ _ _ _ h hF => ⟨h.1, hF⟩
theorem main_1_2 : Claimed_1_2 := comes_1 fun _ _ _ _ _ _ h hF => ⟨h.2.1, hF⟩
end Jvm.Pilot.@@N@@
namespace Jvm.Pilot.@@N@@
open Jvm Jvm.ClassFile Sem Op Lib Jvm.Free Jvm.Stand Jvm.Pilot.@@N@@.Jvm.D
/-! MADE BY PROGRAM (witnessworld.py) out of the Statement's table words and the real class files: 24 classes; the members and pool entries that the words name. The judged class is class 1, her method 1. -/
namespace start1
open Jvm.ClassFile
def u (s : String) : CpInfo := .utf8 (stringToUtf16 s)
/-- a pool by its gaps: so many unusable entries, then the entry; so many at the end -/
def gap : Nat → List CpInfo → List CpInfo
  | 0, r => r
  | n + 1, r => .unusable :: gap n r
def poolList (es : List (Nat × CpInfo)) (last : Nat) : List CpInfo := es.foldr (fun e r => gap e.1 (e.2 :: r)) (gap last [])
def pool (es : List (Nat × CpInfo)) (last : Nat) : Array CpInfo := ⟨poolList es last⟩
def fileOf (pool : Array CpInfo) (this : Nat) (attrs : Array Attribute := #[]) (ms : Array MethodInfo := #[]) (fl : Nat := 33) (sup : Nat := 0) (ifs : Array Nat := #[]) (fds : Array FieldInfo := #[]) : ClassFile where
  minorVersion := 0
  majorVersion := 65
  constantPool := pool
  accessFlags := fl
  thisClass := this
  superClass := sup
  interfaces := ifs
  fields := fds
  methods := ms
  attributes := attrs
def plain (name : String) (sup : Option ClassId) : Class where
  name := name
  kind := .ordinary
  loader := none
  accessFlags := 33
  super := sup
  interfaces := #[]
  cf := none
  fields := #[]
  methods := #[]
  instanceTypes := #[]
  staticTypes := #[]
  resolved := #[]
  callSites := []
  init := .initialized
  statics := none
  mirror := none

def pool0 : Array CpInfo := pool [(5, u "<init>"), (0, u "()V"), (1, .class_ 10), (1, u "java/lang/Object")] 113

def k0c0 : Code := { maxStack := 0, maxLocals := 1, code := object_method_1_code, exceptionTable := #[], attributes := #[] }
def k0m0 : Method := { name := "<init>", desc := "()V", sig := { parameters := [], returnType := none }, accessFlags := 1, code := some k0c0 }
/-- java/lang/Object -/
def k0 : Class := { plain "java/lang/Object" none with
  accessFlags := 33
  interfaces := #[]
  cf := some (fileOf pool0 8 #[] #[{ accessFlags := 1, nameIndex := 5, descriptorIndex := 6, attributes := #[] }] 33 0 #[] #[])
  fields := #[]
  methods := #[k0m0]
  instanceTypes := #[]
  staticTypes := #[]
  resolved := Array.replicate 124 none
  statics := none }

def pool1 : Array CpInfo := pool [(2, .class_ 4), (0, .nameAndType 5 6), (0, u "java/lang/Object"), (0, u "<init>"), (0, u "()V"), (0, .integer 2147483647), (0, .fieldref 9 10), (0, .class_ 11), (0, .nameAndType 12 13), (0, u "com/example/latchkey/latchkey/ScaffoldOffer$Status"), (0, u "NONE"), (0, u "Lcom/example/latchkey/latchkey/ScaffoldOffer$Status;"), (0, .fieldref 9 15), (0, .nameAndType 16 13), (0, u "DECLINED"), (0, .fieldref 9 18), (0, .nameAndType 19 13), (0, u "OFFERED"), (0, .fieldref 9 21), (0, .nameAndType 22 13), (0, u "TAKEN"), (0, .fieldref 9 24), (0, .nameAndType 25 13), (0, u "SKIPPED"), (0, .fieldref 27 28), (0, .class_ 29), (0, .nameAndType 12 30), (0, u "com/example/latchkey/latchkey/ScaffoldOffer"), (0, u "Lcom/example/latchkey/latchkey/ScaffoldOffer;"), (0, .methodref 27 32), (0, .nameAndType 33 34), (0, u "offeredBy"), (0, u "()Ljava/util/Optional;"), (0, .methodref 27 36), (0, .nameAndType 37 34), (0, u "offeredAt"), (0, .methodref 27 39), (0, .nameAndType 40 34), (0, u "answeredAt"), (0, .class_ 42), (0, u "java/util/ArrayList"), (0, .methodref 41 3), (0, .methodref 27 45), (0, .nameAndType 5 46), (0, u "(Lcom/example/latchkey/latchkey/ScaffoldOffer$Status;Ljava/util/Optional;Ljava/util/Optional;Ljava/util/Optional;Ljava/util/List;)V"), (0, .methodref 27 48), (0, .nameAndType 49 50), (0, u "isDecided"), (0, u "()Z"), (0, .class_ 52), (0, u "com/example/latchkey/latchkey/ScaffoldOfferIsDecidedPinLaw"), (2, u "law"), (0, u "(I)Z")] 5

def k1m0 : Method := { name := "<init>", desc := "()V", sig := { parameters := [], returnType := none }, accessFlags := 1, code := none }
def k1c1 : Code := { maxStack := 8, maxLocals := 6, code := code, exceptionTable := #[], attributes := #[] }
def k1m1 : Method := { name := "law", desc := "(I)Z", sig := { parameters := [.int], returnType := some .boolean }, accessFlags := 9, code := some k1c1 }
/-- com/example/latchkey/latchkey/ScaffoldOfferIsDecidedPinLaw -/
def k1 : Class := { plain "com/example/latchkey/latchkey/ScaffoldOfferIsDecidedPinLaw" (some 0) with
  accessFlags := 49
  interfaces := #[]
  cf := some (fileOf pool1 51 #[] #[{ accessFlags := 1, nameIndex := 5, descriptorIndex := 6, attributes := #[] }, { accessFlags := 9, nameIndex := 55, descriptorIndex := 56, attributes := #[] }] 49 2 #[] #[])
  fields := #[]
  methods := #[k1m0, k1m1]
  instanceTypes := #[]
  staticTypes := #[]
  resolved := Array.replicate 62 none
  statics := none }

def pool2 : Array CpInfo := pool [(1, .class_ 2), (0, u "java/lang/constant/Constable"), (0, .class_ 4), (0, u "java/lang/Object")] 6

/-- java/lang/constant/Constable -/
def k2 : Class := { plain "java/lang/constant/Constable" (some 0) with
  accessFlags := 1537
  interfaces := #[]
  cf := some (fileOf pool2 1 #[] #[] 1537 3 #[] #[])
  fields := #[]
  methods := #[]
  instanceTypes := #[]
  staticTypes := #[]
  resolved := Array.replicate 11 none
  statics := none }

def pool3 : Array CpInfo := pool [(1, .class_ 2), (0, u "java/lang/Comparable"), (0, .class_ 4), (0, u "java/lang/Object")] 7

/-- java/lang/Comparable -/
def k3 : Class := { plain "java/lang/Comparable" (some 0) with
  accessFlags := 1537
  interfaces := #[]
  cf := some (fileOf pool3 1 #[] #[] 1537 3 #[] #[])
  fields := #[]
  methods := #[]
  instanceTypes := #[]
  staticTypes := #[]
  resolved := Array.replicate 12 none
  statics := none }

def pool4 : Array CpInfo := pool [(1, .class_ 2), (0, u "java/io/Serializable"), (0, .class_ 4), (0, u "java/lang/Object")] 2

/-- java/io/Serializable -/
def k4 : Class := { plain "java/io/Serializable" (some 0) with
  accessFlags := 1537
  interfaces := #[]
  cf := some (fileOf pool4 1 #[] #[] 1537 3 #[] #[])
  fields := #[]
  methods := #[]
  instanceTypes := #[]
  staticTypes := #[]
  resolved := Array.replicate 7 none
  statics := none }

def pool5 : Array CpInfo := pool [(2, .class_ 4), (1, u "java/lang/Enum"), (0, u "name"), (0, u "Ljava/lang/String;"), (2, u "ordinal"), (0, u "I"), (1, .class_ 14), (1, u "java/lang/Object"), (4, u "hash"), (86, .class_ 108), (1, u "java/lang/Enum$EnumDesc"), (2, .class_ 112), (0, u "java/lang/constant/Constable"), (0, .class_ 114), (0, u "java/lang/Comparable"), (0, .class_ 116), (0, u "java/io/Serializable")] 87

/-- java/lang/Enum -/
def k5 : Class := { plain "java/lang/Enum" (some 0) with
  accessFlags := 1057
  interfaces := #[2, 3, 4]
  cf := some (fileOf pool5 2 #[.nestMembers #[106]] #[] 1057 12 #[111, 113, 115] #[{ accessFlags := 18, nameIndex := 5, descriptorIndex := 6, attributes := #[] }, { accessFlags := 18, nameIndex := 9, descriptorIndex := 10, attributes := #[] }, { accessFlags := 2, nameIndex := 19, descriptorIndex := 10, attributes := #[] }])
  fields := #[{ name := "name", type := (.object "java/lang/String"), accessFlags := 18, slot := 0, constantValue := 0 }, { name := "ordinal", type := .int, accessFlags := 18, slot := 1, constantValue := 0 }, { name := "hash", type := .int, accessFlags := 2, slot := 2, constantValue := 0 }]
  methods := #[]
  instanceTypes := #[(.object "java/lang/String"), .int, .int]
  staticTypes := #[]
  resolved := Array.replicate 204 none
  statics := none }

def pool6 : Array CpInfo := pool [(1, .class_ 2), (0, u "com/example/latchkey/latchkey/ScaffoldOffer$Status"), (2, u "NONE"), (0, u "Lcom/example/latchkey/latchkey/ScaffoldOffer$Status;"), (2, u "DECLINED"), (2, u "OFFERED"), (2, u "TAKEN"), (2, u "SKIPPED"), (2, u "$VALUES"), (0, u "[Lcom/example/latchkey/latchkey/ScaffoldOffer$Status;"), (6, .class_ 31), (1, u "java/lang/Enum"), (45, .class_ 78), (0, u "com/example/latchkey/latchkey/ScaffoldOffer")] 2

/-- com/example/latchkey/latchkey/ScaffoldOffer$Status -/
def k6 : Class := { plain "com/example/latchkey/latchkey/ScaffoldOffer$Status" (some 5) with
  accessFlags := 16432
  interfaces := #[]
  cf := some (fileOf pool6 1 #[.nestHost 77] #[] 16432 29 #[] #[{ accessFlags := 16409, nameIndex := 5, descriptorIndex := 6, attributes := #[] }, { accessFlags := 16409, nameIndex := 9, descriptorIndex := 6, attributes := #[] }, { accessFlags := 16409, nameIndex := 12, descriptorIndex := 6, attributes := #[] }, { accessFlags := 16409, nameIndex := 15, descriptorIndex := 6, attributes := #[] }, { accessFlags := 16409, nameIndex := 18, descriptorIndex := 6, attributes := #[] }, { accessFlags := 4122, nameIndex := 21, descriptorIndex := 22, attributes := #[] }])
  fields := #[{ name := "NONE", type := (.object "com/example/latchkey/latchkey/ScaffoldOffer$Status"), accessFlags := 16409, slot := 0, constantValue := 0 }, { name := "DECLINED", type := (.object "com/example/latchkey/latchkey/ScaffoldOffer$Status"), accessFlags := 16409, slot := 1, constantValue := 0 }, { name := "OFFERED", type := (.object "com/example/latchkey/latchkey/ScaffoldOffer$Status"), accessFlags := 16409, slot := 2, constantValue := 0 }, { name := "TAKEN", type := (.object "com/example/latchkey/latchkey/ScaffoldOffer$Status"), accessFlags := 16409, slot := 3, constantValue := 0 }, { name := "SKIPPED", type := (.object "com/example/latchkey/latchkey/ScaffoldOffer$Status"), accessFlags := 16409, slot := 4, constantValue := 0 }, { name := "$VALUES", type := (.array (.object "com/example/latchkey/latchkey/ScaffoldOffer$Status")), accessFlags := 4122, slot := 5, constantValue := 0 }]
  methods := #[]
  instanceTypes := #[(.object "java/lang/String"), .int, .int]
  staticTypes := #[(.object "com/example/latchkey/latchkey/ScaffoldOffer$Status"), (.object "com/example/latchkey/latchkey/ScaffoldOffer$Status"), (.object "com/example/latchkey/latchkey/ScaffoldOffer$Status"), (.object "com/example/latchkey/latchkey/ScaffoldOffer$Status"), (.object "com/example/latchkey/latchkey/ScaffoldOffer$Status"), (.array (.object "com/example/latchkey/latchkey/ScaffoldOffer$Status"))]
  resolved := Array.replicate 81 none
  statics := some 0 }

def pool7 : Array CpInfo := pool [(1, .methodref 2 3), (0, .class_ 4), (0, .nameAndType 5 6), (0, u "java/lang/Object"), (0, u "<init>"), (0, u "()V"), (0, .class_ 8), (0, u "java/lang/Record")] 13

def k7c0 : Code := { maxStack := 1, maxLocals := 1, code := jdk_30_method_1_code, exceptionTable := #[], attributes := #[] }
def k7m0 : Method := { name := "<init>", desc := "()V", sig := { parameters := [], returnType := none }, accessFlags := 4, code := some k7c0 }
/-- java/lang/Record -/
def k7 : Class := { plain "java/lang/Record" (some 0) with
  accessFlags := 1057
  interfaces := #[]
  cf := some (fileOf pool7 7 #[] #[{ accessFlags := 4, nameIndex := 5, descriptorIndex := 6, attributes := #[] }] 1057 2 #[] #[])
  fields := #[]
  methods := #[k7m0]
  instanceTypes := #[]
  staticTypes := #[]
  resolved := Array.replicate 22 none
  statics := none }

def pool8 : Array CpInfo := pool [(1, .methodref 2 3), (0, .class_ 4), (0, .nameAndType 5 6), (0, u "java/lang/Record"), (0, u "<init>"), (0, u "()V"), (0, .fieldref 8 9), (0, .class_ 10), (0, .nameAndType 11 12), (0, u "com/example/latchkey/latchkey/ScaffoldOffer"), (0, u "status"), (0, u "Lcom/example/latchkey/latchkey/ScaffoldOffer$Status;"), (0, .fieldref 8 14), (0, .nameAndType 15 16), (0, u "offeredBy"), (0, u "Ljava/util/Optional;"), (0, .fieldref 8 18), (0, .nameAndType 19 16), (0, u "offeredAt"), (0, .fieldref 8 21), (0, .nameAndType 22 16), (0, u "answeredAt"), (0, .fieldref 8 24), (0, .nameAndType 25 26), (0, u "kinds"), (0, u "Ljava/util/List;"), (0, .fieldref 28 29), (0, .class_ 30), (0, .nameAndType 31 12), (0, u "com/example/latchkey/latchkey/ScaffoldOffer$Status"), (0, u "NONE"), (17, u "()Z"), (4, .class_ 55), (0, u "com/example/latchkey/latchkey/ScaffoldOffer$Kind"), (44, u "NUMBER"), (0, u "Ljava/util/regex/Pattern;"), (62, u "()Ljava/util/Optional;"), (2, u "(Lcom/example/latchkey/latchkey/ScaffoldOffer$Status;Ljava/util/Optional;Ljava/util/Optional;Ljava/util/Optional;Ljava/util/List;)V"), (2, u "Lcom/example/latchkey/latchkey/ScaffoldOffer;"), (14, u "isDecided")] 50

def k8c0 : Code := { maxStack := 2, maxLocals := 6, code := prog_61_method_1_code, exceptionTable := #[], attributes := #[] }
def k8m0 : Method := { name := "<init>", desc := "(Lcom/example/latchkey/latchkey/ScaffoldOffer$Status;Ljava/util/Optional;Ljava/util/Optional;Ljava/util/Optional;Ljava/util/List;)V", sig := { parameters := [(.object "com/example/latchkey/latchkey/ScaffoldOffer$Status"), (.object "java/util/Optional"), (.object "java/util/Optional"), (.object "java/util/Optional"), (.object "java/util/List")], returnType := none }, accessFlags := 0, code := some k8c0 }
def k8c1 : Code := { maxStack := 2, maxLocals := 1, code := prog_61_method_2_code, exceptionTable := #[], attributes := #[] }
def k8m1 : Method := { name := "isDecided", desc := "()Z", sig := { parameters := [], returnType := some .boolean }, accessFlags := 0, code := some k8c1 }
def k8c2 : Code := { maxStack := 1, maxLocals := 1, code := prog_61_method_9_code, exceptionTable := #[], attributes := #[] }
def k8m2 : Method := { name := "offeredBy", desc := "()Ljava/util/Optional;", sig := { parameters := [], returnType := some (.object "java/util/Optional") }, accessFlags := 1, code := some k8c2 }
def k8c3 : Code := { maxStack := 1, maxLocals := 1, code := prog_61_method_10_code, exceptionTable := #[], attributes := #[] }
def k8m3 : Method := { name := "offeredAt", desc := "()Ljava/util/Optional;", sig := { parameters := [], returnType := some (.object "java/util/Optional") }, accessFlags := 1, code := some k8c3 }
def k8c4 : Code := { maxStack := 1, maxLocals := 1, code := prog_61_method_11_code, exceptionTable := #[], attributes := #[] }
def k8m4 : Method := { name := "answeredAt", desc := "()Ljava/util/Optional;", sig := { parameters := [], returnType := some (.object "java/util/Optional") }, accessFlags := 1, code := some k8c4 }
/-- com/example/latchkey/latchkey/ScaffoldOffer -/
def k8 : Class := { plain "com/example/latchkey/latchkey/ScaffoldOffer" (some 7) with
  accessFlags := 48
  interfaces := #[]
  cf := some (fileOf pool8 8 #[.nestMembers #[28, 54]] #[{ accessFlags := 0, nameIndex := 5, descriptorIndex := 167, attributes := #[] }, { accessFlags := 0, nameIndex := 185, descriptorIndex := 49, attributes := #[] }, { accessFlags := 1, nameIndex := 15, descriptorIndex := 164, attributes := #[] }, { accessFlags := 1, nameIndex := 19, descriptorIndex := 164, attributes := #[] }, { accessFlags := 1, nameIndex := 22, descriptorIndex := 164, attributes := #[] }] 48 2 #[] #[{ accessFlags := 18, nameIndex := 11, descriptorIndex := 12, attributes := #[] }, { accessFlags := 18, nameIndex := 15, descriptorIndex := 16, attributes := #[] }, { accessFlags := 18, nameIndex := 19, descriptorIndex := 16, attributes := #[] }, { accessFlags := 18, nameIndex := 22, descriptorIndex := 16, attributes := #[] }, { accessFlags := 18, nameIndex := 25, descriptorIndex := 26, attributes := #[] }, { accessFlags := 24, nameIndex := 31, descriptorIndex := 170, attributes := #[] }, { accessFlags := 26, nameIndex := 100, descriptorIndex := 101, attributes := #[] }])
  fields := #[{ name := "status", type := (.object "com/example/latchkey/latchkey/ScaffoldOffer$Status"), accessFlags := 18, slot := 0, constantValue := 0 }, { name := "offeredBy", type := (.object "java/util/Optional"), accessFlags := 18, slot := 1, constantValue := 0 }, { name := "offeredAt", type := (.object "java/util/Optional"), accessFlags := 18, slot := 2, constantValue := 0 }, { name := "answeredAt", type := (.object "java/util/Optional"), accessFlags := 18, slot := 3, constantValue := 0 }, { name := "kinds", type := (.object "java/util/List"), accessFlags := 18, slot := 4, constantValue := 0 }, { name := "NONE", type := (.object "com/example/latchkey/latchkey/ScaffoldOffer"), accessFlags := 24, slot := 0, constantValue := 0 }, { name := "NUMBER", type := (.object "java/util/regex/Pattern"), accessFlags := 26, slot := 1, constantValue := 0 }]
  methods := #[k8m0, k8m1, k8m2, k8m3, k8m4]
  instanceTypes := #[(.object "com/example/latchkey/latchkey/ScaffoldOffer$Status"), (.object "java/util/Optional"), (.object "java/util/Optional"), (.object "java/util/Optional"), (.object "java/util/List")]
  staticTypes := #[(.object "com/example/latchkey/latchkey/ScaffoldOffer"), (.object "java/util/regex/Pattern")]
  resolved := Array.replicate 236 none
  statics := some 1 }

def pool9 : Array CpInfo := pool [(8, .class_ 10), (1, u "java/lang/Iterable"), (24, .class_ 36), (0, u "java/lang/Object")] 25

/-- java/lang/Iterable -/
def k9 : Class := { plain "java/lang/Iterable" (some 0) with
  accessFlags := 1537
  interfaces := #[]
  cf := some (fileOf pool9 8 #[] #[] 1537 35 #[] #[])
  fields := #[]
  methods := #[]
  instanceTypes := #[]
  staticTypes := #[]
  resolved := Array.replicate 62 none
  statics := none }

def pool10 : Array CpInfo := pool [(10, .class_ 12), (1, u "java/util/Collection"), (47, .class_ 61), (0, u "java/lang/Object"), (0, .class_ 63), (0, u "java/lang/Iterable")] 51

/-- java/util/Collection -/
def k10 : Class := { plain "java/util/Collection" (some 0) with
  accessFlags := 1537
  interfaces := #[9]
  cf := some (fileOf pool10 10 #[] #[] 1537 60 #[62] #[])
  fields := #[]
  methods := #[]
  instanceTypes := #[]
  staticTypes := #[]
  resolved := Array.replicate 115 none
  statics := none }

def pool11 : Array CpInfo := pool [(1, .methodref 2 3), (0, .class_ 4), (0, .nameAndType 5 6), (0, u "java/lang/Object"), (0, u "<init>"), (0, u "()V"), (1, .class_ 10), (1, u "java/util/AbstractCollection"), (66, .class_ 78), (0, u "java/util/Collection")] 81

def k11c0 : Code := { maxStack := 1, maxLocals := 1, code := jdk_22_method_1_code, exceptionTable := #[], attributes := #[] }
def k11m0 : Method := { name := "<init>", desc := "()V", sig := { parameters := [], returnType := none }, accessFlags := 4, code := some k11c0 }
/-- java/util/AbstractCollection -/
def k11 : Class := { plain "java/util/AbstractCollection" (some 0) with
  accessFlags := 1057
  interfaces := #[10]
  cf := some (fileOf pool11 8 #[] #[{ accessFlags := 4, nameIndex := 5, descriptorIndex := 6, attributes := #[] }] 1057 2 #[77] #[])
  fields := #[]
  methods := #[k11m0]
  instanceTypes := #[]
  staticTypes := #[]
  resolved := Array.replicate 160 none
  statics := none }

def pool12 : Array CpInfo := pool [(8, .class_ 10), (1, u "java/util/SequencedCollection"), (15, .class_ 27), (0, u "java/lang/Object"), (0, .class_ 29), (0, u "java/util/Collection")] 27

/-- java/util/SequencedCollection -/
def k12 : Class := { plain "java/util/SequencedCollection" (some 0) with
  accessFlags := 1537
  interfaces := #[10]
  cf := some (fileOf pool12 8 #[] #[] 1537 26 #[28] #[])
  fields := #[]
  methods := #[]
  instanceTypes := #[]
  staticTypes := #[]
  resolved := Array.replicate 57 none
  statics := none }

def pool13 : Array CpInfo := pool [(8, .class_ 10), (1, u "java/util/List"), (92, .class_ 104), (0, u "java/lang/Object"), (15, .class_ 121), (0, u "java/util/SequencedCollection")] 129

/-- java/util/List -/
def k13 : Class := { plain "java/util/List" (some 0) with
  accessFlags := 1537
  interfaces := #[12]
  cf := some (fileOf pool13 8 #[] #[] 1537 103 #[120] #[])
  fields := #[]
  methods := #[]
  instanceTypes := #[]
  staticTypes := #[]
  resolved := Array.replicate 251 none
  statics := none }

def pool14 : Array CpInfo := pool [(1, .methodref 2 3), (0, .class_ 4), (0, .nameAndType 5 6), (0, u "java/util/AbstractCollection"), (0, u "<init>"), (0, u "()V"), (0, .fieldref 8 9), (0, .class_ 10), (0, .nameAndType 11 12), (0, u "java/util/AbstractList"), (0, u "modCount"), (0, u "I"), (64, .class_ 78), (0, u "java/util/AbstractList$Itr"), (3, .class_ 83), (0, u "java/util/AbstractList$ListItr"), (9, .class_ 94), (0, u "java/util/AbstractList$RandomAccessSubList"), (3, .class_ 99), (0, u "java/util/AbstractList$SubList"), (33, .class_ 134), (0, u "java/util/List"), (73, .class_ 209), (0, u "java/util/AbstractList$SubList$1"), (0, .class_ 211), (0, u "java/util/AbstractList$RandomAccessSpliterator")] 6

def k14c0 : Code := { maxStack := 2, maxLocals := 1, code := jdk_39_method_1_code, exceptionTable := #[], attributes := #[] }
def k14m0 : Method := { name := "<init>", desc := "()V", sig := { parameters := [], returnType := none }, accessFlags := 4, code := some k14c0 }
/-- java/util/AbstractList -/
def k14 : Class := { plain "java/util/AbstractList" (some 11) with
  accessFlags := 1057
  interfaces := #[13]
  cf := some (fileOf pool14 8 #[.nestMembers #[93, 98, 208, 210, 82, 77]] #[{ accessFlags := 4, nameIndex := 5, descriptorIndex := 6, attributes := #[] }] 1057 2 #[133] #[{ accessFlags := 132, nameIndex := 11, descriptorIndex := 12, attributes := #[] }])
  fields := #[{ name := "modCount", type := .int, accessFlags := 132, slot := 0, constantValue := 0 }]
  methods := #[k14m0]
  instanceTypes := #[.int]
  staticTypes := #[]
  resolved := Array.replicate 218 none
  statics := none }

def pool15 : Array CpInfo := pool [(1, .class_ 2), (0, u "java/util/RandomAccess"), (0, .class_ 4), (0, u "java/lang/Object")] 2

/-- java/util/RandomAccess -/
def k15 : Class := { plain "java/util/RandomAccess" (some 0) with
  accessFlags := 1537
  interfaces := #[]
  cf := some (fileOf pool15 1 #[] #[] 1537 3 #[] #[])
  fields := #[]
  methods := #[]
  instanceTypes := #[]
  staticTypes := #[]
  resolved := Array.replicate 7 none
  statics := none }

def pool16 : Array CpInfo := pool [(1, .class_ 2), (0, u "java/lang/Cloneable"), (0, .class_ 4), (0, u "java/lang/Object")] 2

/-- java/lang/Cloneable -/
def k16 : Class := { plain "java/lang/Cloneable" (some 0) with
  accessFlags := 1537
  interfaces := #[]
  cf := some (fileOf pool16 1 #[] #[] 1537 3 #[] #[])
  fields := #[]
  methods := #[]
  instanceTypes := #[]
  staticTypes := #[]
  resolved := Array.replicate 7 none
  statics := none }

def pool17 : Array CpInfo := pool [(1, .methodref 2 3), (0, .class_ 4), (0, .nameAndType 5 6), (0, u "java/util/AbstractList"), (0, u "<init>"), (0, u "()V"), (2, .fieldref 10 11), (0, .class_ 12), (0, .nameAndType 13 14), (0, u "java/util/ArrayList"), (0, u "elementData"), (0, u "[Ljava/lang/Object;"), (2, u "EMPTY_ELEMENTDATA"), (21, .fieldref 10 40), (0, .nameAndType 41 14), (0, u "DEFAULTCAPACITY_EMPTY_ELEMENTDATA"), (8, u "size"), (0, u "I"), (96, .class_ 149), (0, u "java/util/List"), (112, .class_ 263), (0, u "java/util/ArrayList$ListItr"), (3, .class_ 268), (0, u "java/util/ArrayList$Itr"), (7, .class_ 277), (0, u "java/util/ArrayList$SubList"), (12, .class_ 291), (0, u "java/util/ArrayList$ArrayListSpliterator"), (37, .class_ 330), (0, u "java/util/RandomAccess"), (0, .class_ 332), (0, u "java/lang/Cloneable"), (0, .class_ 334), (0, u "java/io/Serializable"), (0, u "serialVersionUID"), (0, u "J"), (3, u "DEFAULT_CAPACITY"), (159, .class_ 501), (0, u "java/util/ArrayList$SubList$2"), (0, .class_ 503), (0, u "java/util/ArrayList$SubList$1")] 5

def k17c0 : Code := { maxStack := 2, maxLocals := 1, code := jdk_38_method_2_code, exceptionTable := #[], attributes := #[] }
def k17m0 : Method := { name := "<init>", desc := "()V", sig := { parameters := [], returnType := none }, accessFlags := 1, code := some k17c0 }
/-- java/util/ArrayList -/
def k17 : Class := { plain "java/util/ArrayList" (some 14) with
  accessFlags := 33
  interfaces := #[13, 15, 16, 4]
  cf := some (fileOf pool17 10 #[.nestMembers #[290, 276, 500, 502, 262, 267]] #[{ accessFlags := 1, nameIndex := 5, descriptorIndex := 6, attributes := #[] }] 33 2 #[148, 329, 331, 333] #[{ accessFlags := 26, nameIndex := 335, descriptorIndex := 336, attributes := #[] }, { accessFlags := 26, nameIndex := 340, descriptorIndex := 51, attributes := #[] }, { accessFlags := 26, nameIndex := 17, descriptorIndex := 14, attributes := #[] }, { accessFlags := 26, nameIndex := 41, descriptorIndex := 14, attributes := #[] }, { accessFlags := 128, nameIndex := 13, descriptorIndex := 14, attributes := #[] }, { accessFlags := 2, nameIndex := 50, descriptorIndex := 51, attributes := #[] }])
  fields := #[{ name := "serialVersionUID", type := .long, accessFlags := 26, slot := 0, constantValue := 0 }, { name := "DEFAULT_CAPACITY", type := .int, accessFlags := 26, slot := 1, constantValue := 0 }, { name := "EMPTY_ELEMENTDATA", type := (.array (.object "java/lang/Object")), accessFlags := 26, slot := 2, constantValue := 0 }, { name := "DEFAULTCAPACITY_EMPTY_ELEMENTDATA", type := (.array (.object "java/lang/Object")), accessFlags := 26, slot := 3, constantValue := 0 }, { name := "elementData", type := (.array (.object "java/lang/Object")), accessFlags := 128, slot := 1, constantValue := 0 }, { name := "size", type := .int, accessFlags := 2, slot := 2, constantValue := 0 }]
  methods := #[k17m0]
  instanceTypes := #[.int, (.array (.object "java/lang/Object")), .int]
  staticTypes := #[.long, .int, (.array (.object "java/lang/Object")), (.array (.object "java/lang/Object"))]
  resolved := Array.replicate 509 none
  statics := some 2 }

def pool18 : Array CpInfo := pool [(2, .class_ 4), (1, u "java/util/Optional"), (0, u "EMPTY"), (0, u "Ljava/util/Optional;"), (1, .class_ 10), (1, u "java/lang/Object"), (4, u "value"), (0, u "Ljava/lang/Object;")] 170

/-- java/util/Optional -/
def k18 : Class := { plain "java/util/Optional" (some 0) with
  accessFlags := 49
  interfaces := #[]
  cf := some (fileOf pool18 2 #[] #[] 49 8 #[] #[{ accessFlags := 26, nameIndex := 5, descriptorIndex := 6, attributes := #[] }, { accessFlags := 18, nameIndex := 15, descriptorIndex := 16, attributes := #[] }])
  fields := #[{ name := "EMPTY", type := (.object "java/util/Optional"), accessFlags := 26, slot := 0, constantValue := 0 }, { name := "value", type := (.object "java/lang/Object"), accessFlags := 18, slot := 0, constantValue := 0 }]
  methods := #[]
  instanceTypes := #[(.object "java/lang/Object")]
  staticTypes := #[(.object "java/util/Optional")]
  resolved := Array.replicate 187 none
  statics := none }

/-- the primitive byte -/
def k19 : Class := { plain "byte" none with kind := .primitive 'B', accessFlags := 0x411 }
/-- [B -/
def k20 : Class := { plain "[B" (some 0) with kind := .array 19 .byte, interfaces := #[16, 4], accessFlags := 1041 }

/-- the primitive int -/
def k21 : Class := { plain "int" none with kind := .primitive 'I', accessFlags := 0x411 }
/-- [I -/
def k22 : Class := { plain "[I" (some 0) with kind := .array 21 .int, interfaces := #[16, 4], accessFlags := 1041 }

/-- [Ljava/lang/Object; -/
def k23 : Class := { plain "[Ljava/lang/Object;" (some 0) with kind := .array 0 (.object "java/lang/Object"), interfaces := #[16, 4], accessFlags := 1041 }

def heap : Heap := #[{ cls := 6, slots := #[.ref 3, .ref 4, .ref 5, .ref 6, .ref 7, .null], vm := .statics 6 },
  { cls := 8, slots := #[.ref 9, .null], vm := .statics 8 },
  { cls := 17, slots := #[.long 0, .int 0, .ref 10, .ref 11], vm := .statics 17 },
  { cls := 6, slots := #[.null, .int 0, .int 0], vm := .none },
  { cls := 6, slots := #[.null, .int 1, .int 0], vm := .none },
  { cls := 6, slots := #[.null, .int 2, .int 0], vm := .none },
  { cls := 6, slots := #[.null, .int 3, .int 0], vm := .none },
  { cls := 6, slots := #[.null, .int 4, .int 0], vm := .none },
  { cls := 18, slots := #[.null], vm := .none },
  { cls := 8, slots := #[.ref 3, .ref 8, .ref 8, .ref 8, .null], vm := .none },
  { cls := 23, slots := #[], vm := .none },
  { cls := 23, slots := #[], vm := .none }]
def classes : Array Class := #[k0, k1, k2, k3, k4, k5, k6, k7, k8, k9, k10, k11, k12, k13, k14, k15, k16, k17, k18, k19, k20, k21, k22, k23]
def interned : List (Array UInt16 × Addr) := []
def slotsUsed : Nat := 33
def theMethod : MethodId := ⟨1, 1⟩
def args0 : Array Value := #[.int 5]
def aboutOver (below : List Frame) : State where
  vm := { classes := classes, interned := interned.toArray }
  heap := heap
  slotsUsed := slotsUsed
  threads := #[{ frames := .invoking theMethod args0 :: below }]
def below0 : List Frame := [.native { method := ⟨0, 0⟩, args := #[] }]
def about1 : State := aboutOver below0
def p0 : Program := .bare "" "" ""
def e0 : Env := launch0.env 0 0 0
theorem w_frames : about1.frames = Frame.invoking theMethod args0 :: below0 := rfl
set_option maxRecDepth 65536 in
theorem w_args : argsFit about1.vm theMethod args0 = true := by decide +kernel
set_option maxRecDepth 65536 in
theorem w_heap : heapFits about1 = true := by decide +kernel
set_option maxRecDepth 65536 in
theorem w_runnable : about1.curStatus? = some .runnable := by decide +kernel
set_option maxRecDepth 65536 in
theorem w_alone : about1.alone = true := by decide +kernel
set_option maxRecDepth 65536 in
theorem w_named : about1.methodNamed? x = some theMethod := by decide +kernel
set_option maxRecDepth 65536 in
theorem w_hears : about1.hears theMethod below0 = true := by decide +kernel
set_option maxRecDepth 65536 in
theorem w_ripe : about1.ripe theMethod args0 below0 = true := by decide +kernel
theorem w_running : about1.status = .running := rfl
set_option maxRecDepth 65536 in
theorem w_room : about1.hasRoom e0.platform room_1 = true :=
  launch0.hasRoom_least _ room_1 (by decide +kernel) (by decide +kernel) (by decide +kernel) (by decide +kernel) (by decide +kernel) (by decide +kernel)
theorem allAtoms_all (ts : List Jvm.Cond) (a : Array Jvm.Value) (st : Jvm.State) : (allAtoms ts).before a st = ts.all (fun c => c.before a st) := by
  induction ts with
  | nil => rfl
  | cons c t ih =>
    show (Jvm.Cond.and c (allAtoms t)).before a st = _
    rw [Jvm.Cond.before_and, ih, List.all_cons]
def words1 : List Jvm.Cond := Jvm.Cond.code x code maxLocals ret :: tables_1
/-- a 'code' word, met by the world's own term for the bytes: nothing is compared byte by byte -/
theorem code_word {y : MethodName} {bytes : ByteArray} {mx : Nat} {rt : Option FieldType} {a : Array Value} {s : State} {m : MethodId} {meth : Method} {c : Code} (h1 : s.methodNamed? y = some m) (h2 : s.vm.method? m = some meth) (h3 : meth.code = some c) (h4 : c.code = bytes)
    (h5 : (c.maxLocals == mx && c.exceptionTable.isEmpty && decide (c.maxStack ≤ mostOperands) && decide (meth.sig.returnType = rt) && !meth.locks && decide (parseMethodDescriptor y.desc = some meth.sig)) = true) : (Jvm.Cond.code y bytes mx rt).before a s = true := by
  simp only [Bool.and_eq_true, beq_iff_eq, Bool.not_eq_true', decide_eq_true_eq] at h5
  obtain ⟨⟨⟨⟨⟨g1, g2⟩, g3⟩, g4⟩, g5⟩, g6⟩ := h5
  simp [Cond.before, Cond.holds, Cond.value, h1, h2, h3, h4, g1, g2, g3, g4, g5, g6]
def isCode : Jvm.Cond → Bool
  | .code _ _ _ _ => true
  | _ => false
theorem all_split {L : List Jvm.Cond} {P : Jvm.Cond → Bool} (h1 : L.all (fun c => isCode c || P c) = true) (h2 : ∀ c ∈ L.filter isCode, P c = true) : L.all P = true := by
  refine List.all_eq_true.mpr fun c hc => ?_
  have h := List.all_eq_true.mp h1 c hc
  rcases Bool.eq_false_or_eq_true (isCode c) with hi | hi
  · exact h2 c (List.mem_filter.mpr ⟨hc, hi⟩)
  · simpa [hi] using h
set_option maxRecDepth 65536 in
theorem w_c0 : (Jvm.Cond.code x code maxLocals ret).before args0 about1 = true := code_word (m := ⟨1, 1⟩) (meth := k1m1) (c := k1c1) (by decide +kernel) rfl rfl rfl (by decide +kernel)
set_option maxRecDepth 65536 in
theorem w_c1 : (Jvm.Cond.code ({ cls := "com/example/latchkey/latchkey/ScaffoldOffer", name := "offeredBy", desc := "()Ljava/util/Optional;" } : Jvm.MethodName) prog_61_method_9_code (1 : Nat) (Option.some (Jvm.ClassFile.FieldType.object "java/util/Optional"))).before args0 about1 = true := code_word (m := ⟨8, 2⟩) (meth := k8m2) (c := k8c2) (by decide +kernel) rfl rfl rfl (by decide +kernel)
set_option maxRecDepth 65536 in
theorem w_c2 : (Jvm.Cond.code ({ cls := "com/example/latchkey/latchkey/ScaffoldOffer", name := "offeredAt", desc := "()Ljava/util/Optional;" } : Jvm.MethodName) prog_61_method_10_code (1 : Nat) (Option.some (Jvm.ClassFile.FieldType.object "java/util/Optional"))).before args0 about1 = true := code_word (m := ⟨8, 3⟩) (meth := k8m3) (c := k8c3) (by decide +kernel) rfl rfl rfl (by decide +kernel)
set_option maxRecDepth 65536 in
theorem w_c3 : (Jvm.Cond.code ({ cls := "com/example/latchkey/latchkey/ScaffoldOffer", name := "answeredAt", desc := "()Ljava/util/Optional;" } : Jvm.MethodName) prog_61_method_11_code (1 : Nat) (Option.some (Jvm.ClassFile.FieldType.object "java/util/Optional"))).before args0 about1 = true := code_word (m := ⟨8, 4⟩) (meth := k8m4) (c := k8c4) (by decide +kernel) rfl rfl rfl (by decide +kernel)
set_option maxRecDepth 65536 in
theorem w_c4 : (Jvm.Cond.code ({ cls := "java/util/ArrayList", name := "<init>", desc := "()V" } : Jvm.MethodName) jdk_38_method_2_code (1 : Nat) (Option.none : Option Jvm.ClassFile.FieldType)).before args0 about1 = true := code_word (m := ⟨17, 0⟩) (meth := k17m0) (c := k17c0) (by decide +kernel) rfl rfl rfl (by decide +kernel)
set_option maxRecDepth 65536 in
theorem w_c5 : (Jvm.Cond.code ({ cls := "java/util/AbstractList", name := "<init>", desc := "()V" } : Jvm.MethodName) jdk_39_method_1_code (1 : Nat) (Option.none : Option Jvm.ClassFile.FieldType)).before args0 about1 = true := code_word (m := ⟨14, 0⟩) (meth := k14m0) (c := k14c0) (by decide +kernel) rfl rfl rfl (by decide +kernel)
set_option maxRecDepth 65536 in
theorem w_c6 : (Jvm.Cond.code ({ cls := "java/util/AbstractCollection", name := "<init>", desc := "()V" } : Jvm.MethodName) jdk_22_method_1_code (1 : Nat) (Option.none : Option Jvm.ClassFile.FieldType)).before args0 about1 = true := code_word (m := ⟨11, 0⟩) (meth := k11m0) (c := k11c0) (by decide +kernel) rfl rfl rfl (by decide +kernel)
set_option maxRecDepth 65536 in
theorem w_c7 : (Jvm.Cond.code ({ cls := "java/lang/Object", name := "<init>", desc := "()V" } : Jvm.MethodName) object_method_1_code (1 : Nat) (Option.none : Option Jvm.ClassFile.FieldType)).before args0 about1 = true := code_word (m := ⟨0, 0⟩) (meth := k0m0) (c := k0c0) (by decide +kernel) rfl rfl rfl (by decide +kernel)
set_option maxRecDepth 65536 in
theorem w_c8 : (Jvm.Cond.code ({ cls := "com/example/latchkey/latchkey/ScaffoldOffer", name := "<init>", desc := "(Lcom/example/latchkey/latchkey/ScaffoldOffer$Status;Ljava/util/Optional;Ljava/util/Optional;Ljava/util/Optional;Ljava/util/List;)V" } : Jvm.MethodName) prog_61_method_1_code (6 : Nat) (Option.none : Option Jvm.ClassFile.FieldType)).before args0 about1 = true := code_word (m := ⟨8, 0⟩) (meth := k8m0) (c := k8c0) (by decide +kernel) rfl rfl rfl (by decide +kernel)
set_option maxRecDepth 65536 in
theorem w_c9 : (Jvm.Cond.code ({ cls := "java/lang/Record", name := "<init>", desc := "()V" } : Jvm.MethodName) jdk_30_method_1_code (1 : Nat) (Option.none : Option Jvm.ClassFile.FieldType)).before args0 about1 = true := code_word (m := ⟨7, 0⟩) (meth := k7m0) (c := k7c0) (by decide +kernel) rfl rfl rfl (by decide +kernel)
set_option maxRecDepth 65536 in
theorem w_c10 : (Jvm.Cond.code ({ cls := "com/example/latchkey/latchkey/ScaffoldOffer", name := "isDecided", desc := "()Z" } : Jvm.MethodName) prog_61_method_2_code (1 : Nat) (Option.some Jvm.ClassFile.FieldType.boolean)).before args0 about1 = true := code_word (m := ⟨8, 1⟩) (meth := k8m1) (c := k8c1) (by decide +kernel) rfl rfl rfl (by decide +kernel)
def codes1 : List Jvm.Cond := [Jvm.Cond.code x code maxLocals ret, Jvm.Cond.code ({ cls := "com/example/latchkey/latchkey/ScaffoldOffer", name := "offeredBy", desc := "()Ljava/util/Optional;" } : Jvm.MethodName) prog_61_method_9_code (1 : Nat) (Option.some (Jvm.ClassFile.FieldType.object "java/util/Optional")), Jvm.Cond.code ({ cls := "com/example/latchkey/latchkey/ScaffoldOffer", name := "offeredAt", desc := "()Ljava/util/Optional;" } : Jvm.MethodName) prog_61_method_10_code (1 : Nat) (Option.some (Jvm.ClassFile.FieldType.object "java/util/Optional")), Jvm.Cond.code ({ cls := "com/example/latchkey/latchkey/ScaffoldOffer", name := "answeredAt", desc := "()Ljava/util/Optional;" } : Jvm.MethodName) prog_61_method_11_code (1 : Nat) (Option.some (Jvm.ClassFile.FieldType.object "java/util/Optional")), Jvm.Cond.code ({ cls := "java/util/ArrayList", name := "<init>", desc := "()V" } : Jvm.MethodName) jdk_38_method_2_code (1 : Nat) (Option.none : Option Jvm.ClassFile.FieldType), Jvm.Cond.code ({ cls := "java/util/AbstractList", name := "<init>", desc := "()V" } : Jvm.MethodName) jdk_39_method_1_code (1 : Nat) (Option.none : Option Jvm.ClassFile.FieldType), Jvm.Cond.code ({ cls := "java/util/AbstractCollection", name := "<init>", desc := "()V" } : Jvm.MethodName) jdk_22_method_1_code (1 : Nat) (Option.none : Option Jvm.ClassFile.FieldType), Jvm.Cond.code ({ cls := "java/lang/Object", name := "<init>", desc := "()V" } : Jvm.MethodName) object_method_1_code (1 : Nat) (Option.none : Option Jvm.ClassFile.FieldType), Jvm.Cond.code ({ cls := "com/example/latchkey/latchkey/ScaffoldOffer", name := "<init>", desc := "(Lcom/example/latchkey/latchkey/ScaffoldOffer$Status;Ljava/util/Optional;Ljava/util/Optional;Ljava/util/Optional;Ljava/util/List;)V" } : Jvm.MethodName) prog_61_method_1_code (6 : Nat) (Option.none : Option Jvm.ClassFile.FieldType), Jvm.Cond.code ({ cls := "java/lang/Record", name := "<init>", desc := "()V" } : Jvm.MethodName) jdk_30_method_1_code (1 : Nat) (Option.none : Option Jvm.ClassFile.FieldType), Jvm.Cond.code ({ cls := "com/example/latchkey/latchkey/ScaffoldOffer", name := "isDecided", desc := "()Z" } : Jvm.MethodName) prog_61_method_2_code (1 : Nat) (Option.some Jvm.ClassFile.FieldType.boolean)]
set_option maxRecDepth 65536 in
theorem codes_eq : words1.filter isCode = codes1 := rfl
theorem w_codes : ∀ c ∈ words1.filter isCode, c.before args0 about1 = true := by
  rw [codes_eq]
  intro c hc
  simp only [codes1, List.mem_cons, List.not_mem_nil, or_false] at hc
  rcases hc with rfl | rfl | rfl | rfl | rfl | rfl | rfl | rfl | rfl | rfl | rfl
  · exact w_c0
  · exact w_c1
  · exact w_c2
  · exact w_c3
  · exact w_c4
  · exact w_c5
  · exact w_c6
  · exact w_c7
  · exact w_c8
  · exact w_c9
  · exact w_c10
set_option maxRecDepth 65536 in
theorem w_t1 : (words1.take 24).all (fun c => isCode c || c.before args0 about1) = true := by decide +kernel
set_option maxRecDepth 65536 in
theorem w_t2 : ((words1.drop 24).take 24).all (fun c => isCode c || c.before args0 about1) = true := by decide +kernel
set_option maxRecDepth 65536 in
theorem w_t3 : (((words1.drop 24).drop 24).take 24).all (fun c => isCode c || c.before args0 about1) = true := by decide +kernel
set_option maxRecDepth 65536 in
theorem w_t4 : (((words1.drop 24).drop 24).drop 24).all (fun c => isCode c || c.before args0 about1) = true := by decide +kernel
theorem w_tables : (allAtoms (Jvm.Cond.code x code maxLocals ret :: tables_1)).before args0 about1 = true := by
  rw [allAtoms_all]
  show words1.all (fun c => c.before args0 about1) = true
  refine all_split ?_ w_codes
  rw [← List.take_append_drop 24 words1, List.all_append, w_t1, ← List.take_append_drop 24 (words1.drop 24), List.all_append, w_t2, ← List.take_append_drop 24 ((words1.drop 24).drop 24), List.all_append, w_t3, w_t4]
  rfl
set_option maxRecDepth 65536 in
theorem w_rest : rest_1_c.before args0 about1 = true := by decide +kernel
set_option maxRecDepth 65536 in
theorem w_case : (Jvm.Cond.and given_1 narrow_1).before args0 about1 = true := by decide +kernel
theorem w_applies : (headSpec (Jvm.Cond.code x code maxLocals ret :: tables_1) room_1).applies x e0.platform about1 = true :=
  (Spec.applies_iff w_frames).mpr ⟨w_running, w_runnable, w_alone, w_named, w_hears, w_ripe, w_room, w_tables⟩
theorem atStart : AtStart classFile x code maxLocals ret World_1 tables_1 room_1 Calls_1 rest_1 Pre_1 launch0 p0 e0 about1 theMethod args0 below0 :=
  ⟨lists_1, trivial, launch0.admits_env _ _ _, launch0.least_env, fairChoices_fair.cas, fairChoices_fair.clock, w_frames, w_args, w_heap, w_applies, trivial, w_rest, w_case⟩
end start1
theorem witness_1 : WitnessClaimed_1 := ⟨start1.p0, start1.e0, start1.about1, start1.theMethod, start1.args0, start1.below0, start1.atStart⟩
end Jvm.Pilot.@@N@@
